import PyProof.Rows.All
import Wide.All
import OpenK.AllK
import Wide.FinOn
import PyProof.P3Eq
import PyProof.Rows.SortWalk
import PySem.Challenge.RW_kl0057_01
set_option Elab.async false
section
namespace Mine
theorem bndL0 {a m c : Nat} (h : a ≤ m) (e : m < c) : a < c := Nat.lt_of_le_of_lt h e
theorem bndL1 {a m k c : Nat} (h : a ≤ m) (e : m + k < c) : a + k < c := Nat.lt_of_le_of_lt (Nat.add_le_add_right h k) e
theorem bndE0 {a m c : Nat} (h : a ≤ m) (e : m ≤ c) : a ≤ c := Nat.le_trans h e
theorem bndE1 {a m k c : Nat} (h : a ≤ m) (e : m + k ≤ c) : a + k ≤ c := Nat.le_trans (Nat.add_le_add_right h k) e
theorem bndE2 {a m j k c : Nat} (h : a ≤ m) (e : m + (j + k) ≤ c) : a + j + k ≤ c := by rw [Nat.add_assoc]; exact bndE1 h e
theorem bndL2 {a m j k c : Nat} (h : a ≤ m) (e : m + (j + k) < c) : a + j + k < c := by rw [Nat.add_assoc]; exact bndL1 h e
theorem bndP0 {a i m c : Nat} (h : a + i < m) (e : m ≤ c + i) : a < c := Nat.lt_of_add_lt_add_right (Nat.lt_of_lt_of_le h e)
theorem bndP1 {a i m k c : Nat} (h : a + i < m) (e : m + k ≤ c + i) : a + k < c := Nat.lt_of_add_lt_add_right (n := i) (by rw [Nat.add_right_comm]; exact Nat.lt_of_lt_of_le (Nat.add_lt_add_right h k) e)
theorem bndQ1 {a i m k c : Nat} (h : a + i ≤ m) (e : m + k ≤ c + i) : a + k ≤ c := Nat.le_of_add_le_add_right (b := i) (by rw [Nat.add_right_comm]; exact Nat.le_trans (Nat.add_le_add_right h k) e)
theorem bndQ2 {a i m j k c : Nat} (h : a + i ≤ m) (e : m + (j + k) ≤ c + i) : a + j + k ≤ c := by rw [Nat.add_assoc]; exact bndQ1 h e
theorem adU1 {P L : Nat} (h : P < L) : L + 1 ≠ P := Nat.ne_of_gt (Nat.lt_of_lt_of_le h (Nat.le_add_right L 1))
theorem adU2 {P L : Nat} (h : P < L) : L + 1 + 1 ≠ P := Nat.ne_of_gt (Nat.lt_of_lt_of_le h (Nat.le_add_right L 2))
theorem adU3 {P L : Nat} (h : P < L) : L + 1 + 1 + 1 ≠ P := Nat.ne_of_gt (Nat.lt_of_lt_of_le h (Nat.le_add_right L 3))
theorem adU4 {P L : Nat} (h : P < L) : L + 1 + 1 + 1 + 1 ≠ P := Nat.ne_of_gt (Nat.lt_of_lt_of_le h (Nat.le_add_right L 4))
theorem adU5 {P L : Nat} (h : P < L) : L + 1 + 1 + 1 + 1 + 1 ≠ P := Nat.ne_of_gt (Nat.lt_of_lt_of_le h (Nat.le_add_right L 5))
theorem adU6 {P L : Nat} (h : P < L) : L + 1 + 1 + 1 + 1 + 1 + 1 ≠ P := Nat.ne_of_gt (Nat.lt_of_lt_of_le h (Nat.le_add_right L 6))
theorem adD {a i j : Nat} (h : i ≠ j) : a + i ≠ a + j := fun e => h (Nat.add_left_cancel e)
theorem stp1 {n i : Nat} (h : n - i = 0) (g : i ≤ n) : i = n := Nat.le_antisymm g (Nat.sub_eq_zero_iff_le.mp h)
theorem stp2 {n i k : Nat} (h : n - i = k + 1) : i < n := Nat.lt_of_sub_eq_succ h
theorem stp3 {n i k : Nat} (h : n - i = k + 1) : n - (i + 1) = k := congrArg Nat.pred h
theorem stp4 {n i : Nat} (h : i < n) : n - (i + 1) < n - i := Nat.sub_succ_lt_self _ _ h
theorem stp5 {n i : Nat} (h : i < n) : n - i = n - (i + 1) + 1 := (Nat.succ_pred_eq_of_pos (Nat.sub_pos_of_lt h)).symm
theorem fm2 (z : Int) : (z.fmod 2).toNat ≤ 1 := Nat.le_of_lt_succ ((Int.toNat_lt (Int.fmod_nonneg_of_pos z (by decide))).mpr (Int.fmod_lt_of_pos z (by decide)))
theorem fm3 (z : Int) : (z.fmod 3).toNat ≤ 2 := Nat.le_of_lt_succ ((Int.toNat_lt (Int.fmod_nonneg_of_pos z (by decide))).mpr (Int.fmod_lt_of_pos z (by decide)))
theorem posCast {n : Nat} (h : 2 ≤ n) : (0 : Int) < (n : Int) := Int.natCast_pos.mpr (Nat.lt_of_lt_of_le (by decide) h)
theorem posSucc (n : Nat) : (0 : Int) < ((n + 1 : Nat) : Int) := Int.natCast_pos.mpr (Nat.succ_pos n)
theorem predCast {n : Nat} (h : 2 ≤ n) : (n : Int) - 1 = ((n - 1 : Nat) : Int) := (Int.natCast_sub (Nat.le_trans (by decide) h)).symm
theorem mid_lt {lo hi n : Nat} (h : lo < hi) (g : hi ≤ n) : (lo + hi) / 2 < n := by omega
theorem mid_le {lo hi f : Nat} (h : hi ≤ lo + (f + 1)) (g : lo < hi) : hi ≤ (lo + hi) / 2 + 1 + f ∧ (lo + hi) / 2 + 1 ≤ hi ∧ (lo + hi) / 2 ≤ lo + f ∧ lo ≤ (lo + hi) / 2 := by omega
theorem nsE {α : Type} {a : α} {P : Prop} (h : none = some a) : P := nomatch h
theorem snE {α : Type} {a : α} {P : Prop} (h : some a = none) : P := nomatch h
theorem ixE {a b : Nat} {P : Prop} (h : a = b) (d : Nat.beq a b = false) : P := absurd h (Nat.ne_of_beq_eq_false d)
end Mine
end
section
open PySem PySem.W PyProof.Rows
set_option maxRecDepth 100000
set_option maxHeartbeats 8000000
namespace Mine1
theorem PySem.W.holds_open {r : OpenRow} {q : Program} {loose : List Str} {Xt : Shared → Bool} {XP : (Str → Option Value) → Heap → Prop} {α : Type} {Yf : Shared → α} {Ya : World → α} {YP : World → Heap → Prop} {d : DefRec} {kwd : List (Str × PySem.Expr)} {N : Nat}
    (left : ∀ w, (openEnds treeTable r.prog w N).map (fun s => (openSeen q loose (importedModules r.prog.main.body) Xt true s, Yf s)) = some (openGood q loose, Ya w))
    (hY : ∀ w s, Yf s = Ya w → YP w s.heap) (hYk : ∀ w h h', YP w h → (∀ b o, h.get? b = some o → h'.get? b = some o) → YP w h')
    (hX : ∀ s, Xt s = true → XP (s.heap.nsMap mainGlobals) s.heap) (hXk : ∀ mg h h', XP mg h → (∀ b o, h.get? b = some o → h'.get? b = some o) → XP mg h')
    (hdef : defOf q r.name = some (d, kwd)) (hp : r.prog.theDef r.name = some (d.params, d.body, d.scope)) (hk : kwWritten? d.params.kwonlyargs d.params.kw_defaults = some kwd) (hRf : ∀ s, Xt s = true → RecFacts r.records s.heap)
    (hwr : (!r.writes || r.records.isEmpty) = true) (k1 : r.wellSaid = true) (ok : (chainsOk q && opensWell r.prog && (frees r.toRowW && r.within.isEmpty)) = true) (hb : r.prog.bare) (hw : r.toRowW.promised)
    (call : WalkO q loose XP YP r.toRowW d kwd fun f vs => PySem.call f vs) : r.Holds :=
  _root_.PySem.W.holds_open left hY hYk hX hXk hdef hp hk hRf hwr k1 ok hb hw call
open_top hd for PySem.Challenge.rw_kl0057_01
end Mine1
end
section
open PySem PySem.W PyProof.Rows
set_option maxRecDepth 100000
set_option maxHeartbeats 8000000
namespace Mine
abbrev Ar (dp un : Nat) (fr : Option (List Env)) (gd : Option (List Code)) : Around := { handled := none, depth := dp, frames := fr, guards := gd, units := un }
abbrev KeepAll (h h' : Heap) : Prop := ∀ b o, h.get? b = some o → h'.get? b = some o
theorem KeepAll.trans {a b c : Heap} (x : KeepAll a b) (y : KeepAll b c) : KeepAll a c := fun d o e => y d o (x d o e)
theorem KeepAll.none_of {a b : Heap} (x : KeepAll a b) {d : Addr} (e : b.get? d = none) : a.get? d = none := by
  cases q : a.get? d with
  | none => rfl
  | some o => rw [x d o q] at e; cases e
theorem Fr.keepAll {h₀ h h' : Heap} {L : Addr} {m : Str → Option Value} (F : Fr h₀ L h m) (k : KeepAll h h') : Fr h₀ L h' m :=
  ⟨F.ns.keeps k, fun b o e => k b o (F.keep b o e), F.above⟩
theorem News.keepAll {h₀ h h' : Heap} {L : Addr} {news : List (Addr × Obj)} (N : News h₀ L h news) (k : KeepAll h h') : News h₀ L h' news :=
  fun q hq => ⟨k _ _ (N q hq).1, (N q hq).2⟩
def Led (base h : Heap) (news : List (Addr × Obj)) : Prop := ∀ q ∈ news, h.get? q.1 = some q.2 ∧ base.get? q.1 = none
theorem Led.nil {base h : Heap} : Led base h [] := fun _ hq => nomatch hq
theorem Led.cons {base h : Heap} {a : Addr} {o : Obj} {news : List (Addr × Obj)} (h1 : h.get? a = some o) (h2 : base.get? a = none) (N : Led base h news) : Led base h ((a, o) :: news) := by
  intro q hq
  rcases List.mem_cons.mp hq with rfl | hq
  · exact ⟨h1, h2⟩
  · exact N q hq
theorem Led.keepAll {base h h' : Heap} {news : List (Addr × Obj)} (N : Led base h news) (k : KeepAll h h') : Led base h' news := fun q hq => ⟨k _ _ (N q hq).1, (N q hq).2⟩
theorem get?_size_none (h : Heap) {a : Addr} (ha : h.objs.size ≤ a) : h.get? a = none := Heap.get?_none_of_le ha
abbrev fnRec (name qual : Str) (params : Arguments) (body : List Stmt) (scope : Scope) (pm code doc : Value) : FuncData :=
  { name, qualname := qual, params, body := .stmts body, scope, globals := mainGlobals, closure := [], defaults := .none, kwdefaults := .none,
    doc, pyModule := pm, code, builtins := builtinsNs }
theorem enter {prog : Program} {w : World} {A : Around} {R : Result → Shared → Prop} {s : Shared} {base : Heap} {news : List (Addr × Obj)} {name qual : Str} {params : Arguments} {body : List Stmt} {scope : Scope}
    {pm cd doc : Value} {a : Addr} {o : Obj} {args : List Value} {binds : List (Str × Value)}
    (hk : KeepAll base s.heap) (hsz : base.objs.size ≤ s.heap.objs.size) (hN : Led base s.heap news)
    (hroom : A.depth < recursionLimit) (ho : s.heap.get? a = some o) (hdata : o.data = .func (fnRec name qual params body scope pm cd doc)) (hlim : s.heap.NoLimit) (hcd : s.heap.CodeRec cd qual)
    (hbind : bindArgs (fnRec name qual params body scope pm cd doc) ⟨args, []⟩ = pure binds)
    (hloc : ∀ x ∈ binds, scope.names.lookup x.1 = some .local)
    (h : ∀ L h₁ tk, Fr base L h₁ (fun x => binds.reverse.lookup x) → News base L h₁ news → (∀ q ∈ news, q.1 < L) → KeepAll s.heap h₁ → s.heap.get? L = none →
      wpAny (model prog w) (A.deeper (envOf qual scope L a cd)) (execs body (envOf qual scope L a cd))
        (fun f s' => R (.ok (.ret (match f with | .ret v => v | _ => .none))) s')
        (fun e s' => wpAny (model prog w) (A.deeper (envOf qual scope L a cd)) (leaving (envOf qual scope L a cd) e)
          (fun _ s'' => R (.error e) s'') (fun e' s'' => R (.error e') s'') s')
        { s with heap := h₁, toks := tk })
    (hco : scope.isCoroutine = false := by rfl) (hgen : scope.isGenerator = false := by rfl) (hk' : scope.kind = .function := by rfl)
    (hcell : ∀ x ∈ scope.names, x.2 ≠ .cell := by decide) :
    codeAny (model prog w) A (.call (.ref a) ⟨args, []⟩) R s := by
  refine codeAny_call_function hroom ho hdata hco hgen rfl hcd ?_
  rw [hbind]
  refine wpAny_pure (wpAny_newFunctionEnv hcell hloc (fun h₁ hns hsb => ?_) hk')
  have kf : KeepAll s.heap h₁ := fun b o e => hsb.extBut b o (Nat.ne_of_lt (Heap.lt_size e)) (Heap.get?_push_of_some _ e)
  refine ⟨hlim.keeps kf, ?_⟩
  show codeAny _ _ (.func body (envOf qual scope _ a cd)) _ _
  have F : Fr base s.heap.objs.size h₁ _ := ⟨hns, fun b o e => kf _ _ (hk b o e), hsz⟩
  exact codeAny_func (h _ h₁ _ F (fun q hq => ⟨kf _ _ (hN q hq).1, Nat.ne_of_lt (Heap.lt_size (hN q hq).1), (hN q hq).2⟩) (fun q hq => Heap.lt_size (hN q hq).1) kf (get?_size_none _ (Nat.le_refl _)))
theorem enterV {prog : Program} {w : World} {A : Around} {R : Result → Shared → Prop} {s : Shared} {base : Heap} {news : List (Addr × Obj)} {name qual : Str} {params : Arguments} {body : List Stmt} {scope : Scope}
    {pm cd doc : Value} {a : Addr} {o : Obj} {args vs : List Value} {binds : Value → List (Str × Value)}
    (hk : KeepAll base s.heap) (hsz : base.objs.size ≤ s.heap.objs.size) (hN : Led base s.heap news)
    (hroom : A.depth < recursionLimit) (ho : s.heap.get? a = some o) (hdata : o.data = .func (fnRec name qual params body scope pm cd doc)) (hlim : s.heap.NoLimit) (hcd : s.heap.CodeRec cd qual)
    (hbind : bindArgs (fnRec name qual params body scope pm cd doc) ⟨args, []⟩ = (newTuple vs >>= fun t => pure (binds t)))
    (hloc : ∀ t, ∀ x ∈ binds t, scope.names.lookup x.1 = some .local) (hv : vs.length ≤ sizeLine)
    (h : ∀ L T h₁ tk, Fr base L h₁ (fun x => (binds (.ref T)).reverse.lookup x) → News base L h₁ ((T, { cls := .type "tuple", data := .seq vs.toArray }) :: news) → (∀ q ∈ news, q.1 < T) → T < L → KeepAll s.heap h₁ → s.heap.get? L = none →
      wpAny (model prog w) (A.deeper (envOf qual scope L a cd)) (execs body (envOf qual scope L a cd))
        (fun f s' => R (.ok (.ret (match f with | .ret v => v | _ => .none))) s')
        (fun e s' => wpAny (model prog w) (A.deeper (envOf qual scope L a cd)) (leaving (envOf qual scope L a cd) e)
          (fun _ s'' => R (.error e) s'') (fun e' s'' => R (.error e') s'') s')
        { s with heap := h₁, toks := tk })
    (hco : scope.isCoroutine = false := by rfl) (hgen : scope.isGenerator = false := by rfl) (hk' : scope.kind = .function := by rfl)
    (hcell : ∀ x ∈ scope.names, x.2 ≠ .cell := by decide) :
    codeAny (model prog w) A (.call (.ref a) ⟨args, []⟩) R s := by
  refine codeAny_call_function hroom ho hdata hco hgen rfl hcd ?_
  rw [hbind]
  refine wpAny_bind (wpAny_newTuple (wpAny_pure (wpAny_newFunctionEnv hcell (hloc _) (fun h₁ hns hsb => ?_) hk')) hv)
  have kp : KeepAll s.heap (s.heap.push { cls := .type "tuple", data := .seq vs.toArray }) := fun b o e => Heap.get?_push_of_some _ e
  have hsz1 : (s.heap.push { cls := .type "tuple", data := .seq vs.toArray }).objs.size = s.heap.objs.size + 1 := Heap.size_push ..
  have kf : KeepAll (s.heap.push { cls := .type "tuple", data := .seq vs.toArray }) h₁ := fun b o e => hsb.extBut b o (Nat.ne_of_lt (Heap.lt_size e)) (Heap.get?_push_of_some _ e)
  refine ⟨hlim.keeps (kp.trans kf), ?_⟩
  show codeAny _ _ (.func body (envOf qual scope _ a cd)) _ _
  have F : Fr base (s.heap.push { cls := .type "tuple", data := .seq vs.toArray }).objs.size h₁ _ := ⟨hns, fun b o e => kf _ _ (kp _ _ (hk b o e)), by rw [hsz1]; exact Nat.le_succ_of_le hsz⟩
  refine codeAny_func (h _ s.heap.objs.size h₁ _ F (fun q hq => ?_) (fun q hq => Heap.lt_size (hN q hq).1) (by rw [hsz1]; exact Nat.lt_succ_self _) (kp.trans kf) (get?_size_none _ (by rw [hsz1]; exact Nat.le_succ _)))
  rcases List.mem_cons.mp hq with rfl | hq
  · exact ⟨kf _ _ (Heap.get?_push_size _ rfl), by rw [hsz1]; exact Nat.ne_of_lt (Nat.lt_succ_self _), get?_size_none _ hsz⟩
  · exact ⟨kf _ _ (kp _ _ (hN q hq).1), by rw [hsz1]; exact Nat.ne_of_lt (Nat.lt_succ_of_lt (Heap.lt_size (hN q hq).1)), (hN q hq).2⟩
theorem Ctx_In_mono {Γ : Ctx} {dp un dp' un' : Nat} {fr : Option (List Env)} {gd : Option (List Code)} (h : Γ.In (Ar dp un fr gd)) (hd : dp ≤ dp') (hu : un ≤ un') : Γ.In (Ar dp' un' none none) :=
  ⟨h.1, Nat.le_trans h.2.1 hd, fun _ e => (nomatch e), fun _ e => (nomatch e), Nat.le_trans h.2.2.2.2 hu⟩
theorem wpAny_up {α : Type} {M : Model} {dp un dp' un' : Nat} {fr : Option (List Env)} {gd : Option (List Code)} {t : Sem α} {Q : α → Shared → Prop} {E : Value → Shared → Prop} {s : Shared}
    (hd : dp ≤ dp') (hu : un ≤ un') (h : wpAny M (Ar dp' un' none none) t Q E s) : wpAny M (Ar dp un fr gd) t Q E s :=
  fun Γ p hΓ => h Γ p (Ctx_In_mono hΓ hd hu)
section
variable {prog : Program} {w : World} {A : Around} {E : Value → Shared → Prop} {s : Shared}
theorem call_iter {v : Value} {Q : Value → Shared → Prop} (h : wpAny (model prog w) A.in1 (pyIter v) Q E s) : wpAny (model prog w) A (PySem.call (.builtin "iter") [v]) Q E s := by
  refine Calls.call_function_entry (by decide +kernel) (by decide +kernel) kdk_entry_iter (kdk_args_iter _) ?_
  unfold Builtin.«iter»
  refine wpAny_bind (m := someArgs "iter" 1 2 _) (wpAny_of_eq (a := [v]) (by first | rfl | kernel_rfl!) ?_)
  show wpAny _ _ (pyIter v >>= _) _ _ _
  exact wpAny_bind (wpAny_mono h (fun r s' hr => wpAny_pure ⟨_, rfl, hr⟩) fun _ _ x => x)
theorem call_next {a : Addr} {f : Value} {Q : Value → Shared → Prop} (hf : wpAny (model prog w) A.in1 (specialOf (.ref a) "__next__") (fun r s' => r = some f ∧ s' = s) E s)
    (h : wpAny (model prog w) A.in1 (callSpecial? (.ref a) "__next__") (fun r s' => ∃ v, r = some v ∧ Q v s') E s) : wpAny (model prog w) A (PySem.call (.builtin "next") [.ref a]) Q E s := by
  refine Calls.call_function_entry (by decide +kernel) (by decide +kernel) kdk_entry_next (kdk_args_next _) ?_
  unfold Builtin.«next»
  refine wpAny_bind (m := someArgs "next" 1 2 _) (wpAny_of_eq (a := [Value.ref a]) (by first | rfl | kernel_rfl!) ?_)
  dsimp only
  refine wpAny_bind (wpAny_mono hf (fun r s' hr => ?_) fun _ _ x => x)
  obtain ⟨rfl, rfl⟩ := hr
  refine wpAny_ite_split (fun hab => absurd hab (by simp)) (fun _ => ?_)
  refine wpAny_bind (wpAny_mono h (fun r s' hr => ?_) fun _ _ x => x)
  obtain ⟨v, rfl, hq⟩ := hr
  exact wpAny_pure ⟨_, rfl, hq⟩
end
structure Ext (S : List Addr) (W : Addr → Prop) (V : Nat → Prop) (s s' : Shared) : Prop where
  heap : ∀ b o, b ∉ S → ¬ W b → s.heap.get? b = some o → s'.heap.get? b = some o
  slots : ∀ b o, b ∈ S → ¬ W b → s.heap.get? b = some o → ∃ sl, s'.heap.get? b = some { o with slots := sl }
  gens : ∀ g, ¬ V g → ∀ x, s.gens[g]? = some x → s'.gens[g]? = some x
  gsize : s.gens.size ≤ s'.gens.size
  bare : AllBare s.gens → AllBare s'.gens
  os : s'.os = s.os
abbrev NoA : Addr → Prop := fun _ => False
abbrev NoG : Nat → Prop := fun _ => False
theorem Ext.refl (S : List Addr) (W : Addr → Prop) (V : Nat → Prop) (s : Shared) : Ext S W V s s :=
  ⟨fun _ _ _ _ e => e, fun _ o _ _ e => ⟨o.slots, e⟩, fun _ _ _ e => e, Nat.le_refl _, fun h => h, rfl⟩
theorem Ext.trans {S : List Addr} {W : Addr → Prop} {V : Nat → Prop} {a b c : Shared} (x : Ext S W V a b) (y : Ext S W V b c) : Ext S W V a c :=
  ⟨fun d o h1 h2 e => y.heap d o h1 h2 (x.heap d o h1 h2 e),
   fun d o h1 h2 e => let ⟨_, e1⟩ := x.slots d o h1 h2 e; let ⟨sl, e2⟩ := y.slots d _ h1 h2 e1; ⟨sl, e2⟩,
   fun g hg z e => y.gens g hg z (x.gens g hg z e), Nat.le_trans x.gsize y.gsize, fun h => y.bare (x.bare h), y.os.trans x.os⟩
theorem Ext.mono {S S' : List Addr} {W W' : Addr → Prop} {V V' : Nat → Prop} {a b : Shared} (x : Ext S W V a b) (hS : ∀ b, b ∈ S → b ∈ S') (hW : ∀ b, W b → W' b) (hV : ∀ g, V g → V' g) : Ext S' W' V' a b :=
  ⟨fun d o h1 h2 e => x.heap d o (fun q => h1 (hS d q)) (fun q => h2 (hW d q)) e,
   fun d o _ h2 e => by
    by_cases q : d ∈ S
    · exact x.slots d o q (fun q => h2 (hW d q)) e
    · exact ⟨o.slots, x.heap d o q (fun q => h2 (hW d q)) e⟩,
   fun g hg z e => x.gens g (fun q => hg (hV g q)) z e, x.gsize, x.bare, x.os⟩
theorem Ext.of_heap {S : List Addr} {W : Addr → Prop} {V : Nat → Prop} {s : Shared} {h' : Heap} {tk : Nat} (hk : ∀ b o, ¬ W b → s.heap.get? b = some o → h'.get? b = some o) : Ext S W V s { s with heap := h', toks := tk } :=
  ⟨fun b o _ hw e => hk b o hw e, fun b o _ hw e => ⟨o.slots, hk b o hw e⟩, fun _ _ _ e => e, Nat.le_refl _, fun h => h, rfl⟩
theorem Ext.of_keep {S : List Addr} {W : Addr → Prop} {V : Nat → Prop} {s : Shared} {h' : Heap} {tk : Nat} (hk : KeepAll s.heap h') : Ext S W V s { s with heap := h', toks := tk } :=
  .of_heap fun b o _ e => hk b o e
theorem Ext.keepAll {V : Nat → Prop} {s s' : Shared} (x : Ext [] NoA V s s') : KeepAll s.heap s'.heap := fun b o e => x.heap b o (by simp) (fun h => h) e
theorem Ext.fresh {S : List Addr} {W W' : Addr → Prop} {V : Nat → Prop} {s s₁ s' : Shared} (x : Ext S W V s s₁) (y : Ext S W' V s₁ s') (hW : ∀ b, W' b → s.heap.get? b = none ∨ W b) : Ext S W V s s' :=
  ⟨fun d o h1 h2 e => y.heap d o h1 (fun q => (hW d q).elim (fun q => by rw [q] at e; cases e) h2) (x.heap d o h1 h2 e),
   fun d o h1 h2 e => let ⟨_, e1⟩ := x.slots d o h1 h2 e; let ⟨sl, e2⟩ := y.slots d _ h1 (fun q => (hW d q).elim (fun q => by rw [q] at e; cases e) h2) e1; ⟨sl, e2⟩,
   fun g hg z e => y.gens g hg z (x.gens g hg z e), Nat.le_trans x.gsize y.gsize, fun h => y.bare (x.bare h), y.os.trans x.os⟩
theorem Ext.ns {S : List Addr} {W : Addr → Prop} {V : Nat → Prop} {s s' : Shared} {L : Addr} {m : Str → Option Value} (x : Ext S W V s s') (hL : ¬ W L) (n : s.heap.Ns L m) : s'.heap.Ns L m := by
  obtain ⟨o, es, ep, ho, hd, r⟩ := n
  by_cases q : L ∈ S
  · obtain ⟨sl, hs⟩ := x.slots L o q hL ho
    exact ⟨_, es, ep, hs, hd, r⟩
  · exact ⟨o, es, ep, x.heap L o q hL ho, hd, r⟩
theorem Ext.fr {S : List Addr} {W : Addr → Prop} {V : Nat → Prop} {s s' : Shared} {h₀ : Heap} {L : Addr} {m : Str → Option Value} (x : Ext S W V s s') (F : Fr h₀ L s.heap m) (hL : ¬ W L) (hS : ∀ b ∈ S, h₀.get? b = none) (hW : ∀ b, W b → h₀.get? b = none) : Fr h₀ L s'.heap m :=
  ⟨x.ns hL F.ns, fun b o e => x.heap b o (fun q => by rw [hS b q] at e; cases e) (fun q => by rw [hW b q] at e; cases e) (F.keep b o e), F.above⟩
theorem Ext.news {S : List Addr} {W : Addr → Prop} {V : Nat → Prop} {s s' : Shared} {h₀ : Heap} {L : Addr} {news : List (Addr × Obj)} (x : Ext S W V s s') (N : News h₀ L s.heap news) (hS : ∀ q ∈ news, q.1 ∉ S) (hW : ∀ q ∈ news, ¬ W q.1) : News h₀ L s'.heap news :=
  fun q hq => ⟨x.heap _ _ (hS q hq) (hW q hq) (N q hq).1, (N q hq).2⟩
def hide (S : List Addr) (h : Heap) : Heap := S.foldr (fun a h => h.update a fun o => { o with data := .freed }) h
theorem hide1_get (h : Heap) (a b : Addr) : (h.update a fun o => { o with data := .freed }).get? b = if b = a then none else h.get? b := by
  by_cases q : b = a
  · subst q
    rw [if_pos rfl]
    cases e : (h.update b fun o => { o with data := .freed }).get? b with
    | none => rfl
    | some o =>
      exfalso
      obtain ⟨objs, l⟩ := h
      have e' : (match (objs.modify b fun o => { o with data := .freed })[b]? with | some ⟨_, _, .freed, _⟩ => none | o => o) = some o := e
      rw [Array.getElem?_modify] at e'
      simp only [if_true] at e'
      cases q : objs[b]? with
      | none => rw [q] at e'; simp at e'
      | some x => rw [q] at e'; simp at e'
  · rw [if_neg q]
    exact Heap.get?_update_other _ _ (Ne.symm q)
theorem hide_get (S : List Addr) (h : Heap) (b : Addr) : (hide S h).get? b = if b ∈ S then none else h.get? b := by
  induction S with
  | nil => simp [hide]
  | cons a S ih =>
    show ((hide S h).update a _).get? b = _
    rw [hide1_get, ih]
    by_cases q : b = a
    · simp [q]
    · simp [q]
theorem hide_size (S : List Addr) (h : Heap) : (hide S h).objs.size = h.objs.size := by
  induction S with
  | nil => rfl
  | cons a S ih =>
    show ((hide S h).update a _).objs.size = _
    rw [Heap.size_after_update]; exact ih
theorem hide_keep (S : List Addr) (h : Heap) : KeepAll (hide S h) h := fun b o e => by
  rw [hide_get] at e
  split at e
  · cases e
  · exact e
theorem hide_some {S : List Addr} {h : Heap} {b : Addr} {o : Obj} (hb : b ∉ S) (e : h.get? b = some o) : (hide S h).get? b = some o := by rw [hide_get, if_neg hb]; exact e
theorem hide_none {S : List Addr} {h : Heap} {b : Addr} (hb : b ∈ S) : (hide S h).get? b = none := by rw [hide_get, if_pos hb]
theorem keep_hide {S : List Addr} {b h : Heap} (k : KeepAll b h) (hS : ∀ a ∈ S, b.get? a = none) : KeepAll b (hide S h) := fun a o e =>
  hide_some (fun q => by rw [hS a q] at e; cases e) (k a o e)
def restOf (base h : Heap) (L : Addr) : List (Addr × Obj) :=
  (List.range h.objs.size).filterMap fun b => if b = L then none else match base.get? b with | some _ => none | none => (h.get? b).map fun o => (b, o)
theorem restOf_news (base h : Heap) (L : Addr) : News base L h (restOf base h L) := by
  rintro ⟨b, o⟩ hq
  obtain ⟨c, _, hc⟩ := List.mem_filterMap.mp hq
  by_cases q : c = L
  · rw [if_pos q] at hc; cases hc
  · rw [if_neg q] at hc
    cases e : base.get? c with
    | some o' => rw [e] at hc; cases hc
    | none =>
      rw [e] at hc
      cases e2 : h.get? c with
      | none => rw [e2] at hc; cases hc
      | some o2 => rw [e2] at hc; cases hc; exact ⟨e2, q, e⟩
theorem restOf_mem {base h : Heap} {L b : Addr} {o : Obj} (e : h.get? b = some o) (hL : b ≠ L) (hb : base.get? b = none) : (b, o) ∈ restOf base h L := by
  refine List.mem_filterMap.mpr ⟨b, List.mem_range.mpr (Heap.lt_size e), ?_⟩
  rw [if_neg hL, hb, e]; rfl
theorem keep_rest {base h h' : Heap} {L : Addr} {m m' : Str → Option Value} {news : List (Addr × Obj)} (F : Fr base L h m) (F' : Fr base L h' m') (N' : News base L h' news) (hs : ∀ q ∈ restOf base h L, q ∈ news) :
    ∀ b o, b ≠ L → h.get? b = some o → h'.get? b = some o := fun b o hL e => by
  cases q : base.get? b with
  | some o' =>
    have := F.keep b o' q
    rw [e] at this
    cases this
    exact F'.keep b o q
  | none => exact (N' _ (hs _ (restOf_mem e hL q))).1
end Mine
end
section
open PySem PySem.W PyProof.Rows Mine
set_option maxRecDepth 100000
set_option maxHeartbeats 8000000
namespace Mine1
theorem kfill_ : (PySem.Challenge.rw_kl0057_01 = PySem.Challenge.rw_kl0057_01) ∧ (hd.heap_39 = hd.heap_39) := by
  k_fill
  exact ⟨rfl, rfl⟩
noncomputable abbrev prog := PySem.Challenge.rw_kl0057_01.row.prog
noncomputable abbrev p := hd.view_39
abbrev loose : List Str := [Str.ofString "islice", Str.ofString "filterfalse", Str.ofString "_dedupe"]
structure PW (w : World) (mg mb : Str → Option Value) (h : Heap) : Prop where
  K : (hd.heap_39 w.params).In h
  T : TopRead p loose mg mb h
theorem PW.keepAll {w : World} {mg mb : Str → Option Value} {h h' : Heap} (P : PW w mg mb h) (k : KeepAll h h') : PW w mg mb h' := ⟨P.K.keeps k, P.T.keeps k⟩
end Mine1
end
section
open PySem PySem.W PyProof.Rows
namespace Mine
def nthO {α : Type} : Nat → List α → Option α
  | _, [] => none
  | 0, a :: _ => some a
  | n + 1, _ :: l => nthO n l
def picks {α : Type} (l : List α) : List Nat → List α → List α
  | [], R => R
  | i :: is, R => match nthO i l with
    | some a => a :: picks l is R
    | none => picks l is R
theorem nthO_mem {α : Type} {a : α} : ∀ {l : List α} {i : Nat}, nthO i l = some a → a ∈ l
  | [], i, h => by cases i <;> cases h
  | b :: l, 0, h => by cases h; exact .head _
  | b :: l, i + 1, h => .tail _ (nthO_mem (l := l) (i := i) h)
theorem picks_all {α : Type} {P : α → Prop} {l R : List α} (h : ∀ p ∈ l ++ R, P p) : ∀ is, ∀ p ∈ picks l is R, P p
  | [], p, hp => h p (List.mem_append_right _ hp)
  | i :: is, p, hp => by
    unfold picks at hp
    split at hp
    · next a e =>
      rcases List.mem_cons.mp hp with rfl | hp
      · exact h _ (List.mem_append_left _ (nthO_mem e))
      · exact picks_all h is p hp
    · exact picks_all h is p hp
theorem newsPick {base h : Heap} {L : Addr} (l R : List (Addr × Obj)) (is : List Nat) (N : News base L h (l ++ R)) : News base L h (picks l is R) := picks_all N is
theorem allC {α : Type} {P : α → Prop} {a : α} {l : List α} (h : P a) (t : ∀ p ∈ l, P p) : ∀ p ∈ a :: l, P p := List.forall_mem_cons.mpr ⟨h, t⟩
theorem allN {α : Type} {P : α → Prop} : ∀ p ∈ ([] : List α), P p := fun _ hp => nomatch hp
theorem allD {α : Type} {P : α → Prop} {a : α} {l : List α} (t : ∀ p ∈ a :: l, P p) : ∀ p ∈ l, P p := fun p hp => t p (.tail _ hp)
theorem allH {α : Type} {P : α → Prop} {a : α} {l : List α} (t : ∀ p ∈ a :: l, P p) : P a := t a (.head _)
theorem some_at {α : Type} {x y : Option α} {a b : α} (h : x = some a) (e : x = some b) (g : y = some a) : y = some b := g.trans (h.symm.trans e)
theorem genQE {prog : Program} {w : World} {A : Around} {α : Type} {m : Sem α} {Q : α → Shared → Prop} {E : Value → Shared → Prop} {s : Shared}
    (h : ∀ (Q' : α → Shared → Prop) (E' : Value → Shared → Prop), (∀ a s', Q a s' → Q' a s') → (∀ e s', E e s' → E' e s') → wpAny (model prog w) A m Q' E' s) : wpAny (model prog w) A m Q E s := h Q E (fun _ _ x => x) fun _ _ x => x
theorem genQ {prog : Program} {w : World} {A : Around} {α : Type} {m : Sem α} {Q : α → Shared → Prop} {E : Value → Shared → Prop} {s : Shared}
    (h : ∀ (Q' : α → Shared → Prop), (∀ a s', Q a s' → Q' a s') → wpAny (model prog w) A m Q' E s) : wpAny (model prog w) A m Q E s := h Q fun _ _ x => x
theorem genE {prog : Program} {w : World} {A : Around} {α : Type} {m : Sem α} {Q : α → Shared → Prop} {E : Value → Shared → Prop} {s : Shared}
    (h : ∀ (E' : Value → Shared → Prop), (∀ e s', E e s' → E' e s') → wpAny (model prog w) A m Q E' s) : wpAny (model prog w) A m Q E s := h E fun _ _ x => x
end Mine
end
section
open PySem PySem.W PyProof.Rows
open Sem (wp)
set_option maxRecDepth 100000
set_option maxHeartbeats 8000000
namespace Mine
section
variable {prog : Program} {w : World}
def Since (L : Addr) (s₀ s : Shared) : Prop := ∃ h' tk, s = { s₀ with heap := h', toks := tk } ∧ ∀ b o, b ≠ L → s₀.heap.get? b = some o → h'.get? b = some o
theorem Since.refl (L : Addr) (s : Shared) : Since L s s := ⟨s.heap, s.toks, rfl, fun _ _ _ e => e⟩
theorem Since.step {L : Addr} {s₀ s : Shared} (x : Since L s₀ s) {h' : Heap} {tk : Nat} (hk : ∀ b o, b ≠ L → s.heap.get? b = some o → h'.get? b = some o) : Since L s₀ { s with heap := h', toks := tk } := by
  obtain ⟨h₁, t₁, rfl, k⟩ := x
  exact ⟨h', tk, rfl, fun b o hb e => hk b o hb (k b o hb e)⟩
def TextProto (St : Heap → Prop) (L : Addr) (xs0 : List Str) : Protocol := fun m s₀ v s kap =>
  (∃ x t, v = .str x t ∧ xs0[xs0.length - 1 - m]? = some x) ∧ Since L s₀ s ∧ (∃ o, s.heap.get? L = some o) ∧
    ∀ s'' : Shared, St s''.heap → (∀ o, s.heap.get? L = some o → s''.heap.get? L = some o) → kap (.send .none) s''
def TextEnd (L : Addr) : GenEnd := fun n s₀ r s₁ => r = .ok (.ret .none) ∧ (n = 0 ∧ Since L s₀ s₁)
theorem seg_bw {M : Model} {A : Around} {R : GenEnd} {Y : Protocol} {n : Nat} {s₀ : Shared} {c : Code} {fs : List Frame} {s : Shared} {α β : Type} {m : Sem α} {K : α → Sem β} {K' : β → Sem Fin} {H' : Value → Sem Fin} {gd lv}
    (h : wpAny M (A.over c fs) m (fun a s' => Seg M A R Y n s₀ c ((K a).wrap K' H' gd lv) fs s') (fun x s' => Seg M A R Y n s₀ c (H' x) fs s') s) : Seg M A R Y n s₀ c ((m >>= K).wrap K' H' gd lv) fs s := by
  rw [Sem.bind_eq_wrap', Sem.wrap_wrap]; exact seg_wrap h
structure YieldLoop (prog : Program) (w : World) (D U : Nat) (env : Env) (test e : Expr) (st1 : Stmt) (St : Heap → Prop) (I : Str → Heap → Prop) (more : Str → Bool) (next : Str → Str) : Prop where
  test : ∀ dp un fr gd x (s : Shared) (Q : Bool → Shared → Prop) E, dp ≤ D → un ≤ U → St s.heap → I x s.heap →
    (∀ h' tk, (∀ b o, b ≠ env.locals → s.heap.get? b = some o → h'.get? b = some o) → St h' → I x h' → Q (more x) { s with heap := h', toks := tk }) → wpAny (model prog w) (Ar dp un fr gd) (isTrue test env (eval test env)) Q E s
  val : ∀ dp un fr gd x (s : Shared) (Q : Value → Shared → Prop) E, dp ≤ D → un ≤ U → St s.heap → I x s.heap →
    (∀ h' tk t, (∀ b o, b ≠ env.locals → s.heap.get? b = some o → h'.get? b = some o) → St h' → I x h' → Q (.str x t) { s with heap := h', toks := tk }) → wpAny (model prog w) (Ar dp un fr gd) (eval e env) Q E s
  step : ∀ dp un fr gd x (s : Shared) (Q : Flow → Shared → Prop) E, dp ≤ D → un ≤ U → more x = true → St s.heap → I x s.heap →
    (∀ h' tk, (∀ b o, b ≠ env.locals → s.heap.get? b = some o → h'.get? b = some o) → St h' → I (next x) h' → Q .next { s with heap := h', toks := tk }) → wpAny (model prog w) (Ar dp un fr gd) (exec st1 env) Q E s
  frame : ∀ x h h', St h' → I x h → (∀ o, h.get? env.locals = some o → h'.get? env.locals = some o) → I x h'
  there : ∀ x h, I x h → ∃ o, h.get? env.locals = some o
  plain : env.scope.isCoroutine = false
  quiet : interactive env = false
inductive Comes (more : Str → Bool) (next : Str → Str) : Str → List Str → Prop where
  | nil {x} : more x = false → Comes more next x []
  | cons {x xs} : more x = true → Comes more next (next x) xs → Comes more next x (x :: xs)
theorem tree_turn {e : Expr} {st1 : Stmt} {env : Env} {py pe : Pos} (hco : env.scope.isCoroutine = false) (hi : interactive env = false) {K : Flow → Sem Fin} :
    (execs [.Expr (.Yield (some e) py) pe, st1] env >>= K) = (standAt pe >>= fun _ => eval e env >>= fun v => standAt py >>= fun _ => suspend v >>= fun r =>
      (match r with | .send x => pure x | .throw e => raiseThrown e) >>= fun x => dropValue (.Yield (some e) py) pe x >>= fun f => (match f with | .next => execs [st1] env | f => pure f) >>= K) := by
  have h1 : execs [.Expr (.Yield (some e) py) pe, st1] env = (exec (.Expr (.Yield (some e) py) pe) env >>= fun f => match f with | .next => execs [st1] env | f => pure f) := rfl
  have h2 : exec (.Expr (.Yield (some e) py) pe) env = (do standAt pe; let v ← eval (.Yield (some e) py) env; dropValue (.Yield (some e) py) pe v) := exec_Expr env _ _ hi rfl
  have h3 : eval (.Yield (some e) py) env = (do let v ← eval e env; standAt py; yieldOut env v) := rfl
  have h4 : ∀ v, yieldOut env v = (suspend v >>= fun r => match r with | .send x => pure x | .throw e => raiseThrown e) := fun v => by
    unfold yieldOut
    rw [hco]
    rfl
  rw [h1, h2, h3]
  simp only [h4, bind_assoc]
theorem suffix_get {xs0 xs : List Str} {x : Str} {pre : List Str} (e : xs0 = pre ++ x :: xs) : xs0[xs0.length - 1 - xs.length]? = some x := by
  subst e
  simp
theorem seg_loop {D U : Nat} {env : Env} {test e : Expr} {st1 : Stmt} {py pe : Pos} {St : Heap → Prop} {I : Str → Heap → Prop} {more : Str → Bool} {next : Str → Str}
    (Y : YieldLoop prog w (D + 1) (U + 3) env test e st1 St I more next) {xs0 : List Str} {kW : Result → Sem Fin} {hd : Option Value} {g : Bool} {l : List Value} {bodyF : List Stmt} {pW : Pos} {gdA : Option (List Code)} {frA : Option (List Env)}
    (hhd : hd = none) (hg : g = false)
    (hend : ∀ s₀ s, Since env.locals s₀ s → Seg (model prog w) (Ar D U frA gdA) (TextEnd env.locals) (TextProto St env.locals xs0) 0 s₀ (.func bodyF env) (kW (.ok .next)) [] s) :
    ∀ (xs : List Str) (x : Str) (pre : List Str) (s₀ s : Shared), Comes more next x xs → xs0 = pre ++ xs → Since env.locals s₀ s → St s.heap → I x s.heap →
      Seg (model prog w) (Ar D U frA gdA) (TextEnd env.locals) (TextProto St env.locals xs0) xs.length s₀ (.whileLoop test [.Expr (.Yield (some e) py) pe, st1] [] env)
        ((model prog w).den (.whileLoop test [.Expr (.Yield (some e) py) pe, st1] [] env)) [.ret kW hd g l (.func bodyF env) pW []] s := by
  subst hhd hg
  intro xs
  induction xs with
  | nil =>
    intro x pre s₀ s hc hx hs hst hi
    obtain hm : more x = false := by cases hc; assumption
    show Seg _ _ _ _ _ s₀ _ ((whileTurn test _ [] env).onRaise (fun x => do noteFrame x env; theTreesLotGoes x)) _ s
    unfold whileTurn
    rw [Sem.onRaise_eq_wrap]
    refine seg_bw (Y.test _ _ _ _ x s _ _ (Nat.le_refl _) (by first | exact Nat.le_refl _ | omega) hst hi fun h' tk hk hst' hi' => ?_)
    rw [hm]
    exact seg_leaf (.ok .next) (hend s₀ _ (hs.step hk))
  | cons y ys ih =>
    intro x pre s₀ s hc hx hs hst hi
    obtain ⟨rfl, hm, hc⟩ : y = x ∧ more x = true ∧ Comes more next (next x) ys := by cases hc; exact ⟨rfl, by assumption, by assumption⟩
    show Seg _ _ _ _ _ s₀ _ ((whileTurn test _ [] env).onRaise (fun x => do noteFrame x env; theTreesLotGoes x)) _ s
    unfold whileTurn
    rw [Sem.onRaise_eq_wrap]
    refine seg_bw (Y.test _ _ _ _ y s _ _ (Nat.le_refl _) (by first | exact Nat.le_refl _ | omega) hst hi fun h' tk hk hst' hi' => ?_)
    rw [hm]
    simp only [if_true]
    rw [tree_turn Y.plain Y.quiet]
    refine seg_bw (wpAny_standAt ?_)
    refine seg_bw (Y.val _ _ _ _ y _ _ _ (Nat.le_refl _) (by first | exact Nat.le_refl _ | omega) hst' hi' fun h2 tk2 t hk2 hst2 hi2 => ?_)
    refine seg_bw (wpAny_standAt ?_)
    refine seg_yield rfl rfl rfl ⟨⟨y, t, rfl, suffix_get hx⟩, (hs.step hk).step hk2, Y.there _ _ hi2, fun s'' hst3 hL => ?_⟩
    have hi3 := Y.frame _ _ _ hst3 hi2 hL
    show Seg _ _ _ _ _ s'' _ (((pure Value.none : Sem Value) >>= fun x => dropValue (.Yield (some e) py) pe x >>= fun f => (match f with | .next => execs [st1] env | f => pure f) >>= _).wrap _ _ _ _) _ s''
    refine seg_bw (wpAny_pure ?_)
    rw [dropValue_plain (fun a h => by cases h)]
    refine seg_bw (wpAny_pure ?_)
    have one : execs [st1] env = (exec st1 env >>= fun f => match f with | .next => execs [] env | f => pure f) := rfl
    show Seg _ _ _ _ _ s'' _ ((execs [st1] env >>= _).wrap _ _ _ _) _ s''
    rw [one, bind_assoc]
    refine seg_bw (Y.step _ _ _ _ y _ _ _ (Nat.le_refl _) (by first | exact Nat.le_refl _ | omega) hm hst3 hi3 fun h4 tk4 hk4 hst4 hi4 => ?_)
    show Seg _ _ _ _ _ s'' _ (((pure Flow.next : Sem Flow) >>= _).wrap _ _ _ _) _ _
    refine seg_bw (wpAny_pure ?_)
    exact seg_again rfl (ih (next y) (pre ++ [y]) s'' _ hc (by rw [hx]; simp) ((Since.refl _ _).step hk4) hst4 hi4)
theorem seg_func {D U : Nat} {env : Env} {test e : Expr} {st0 st1 : Stmt} {py pe pw : Pos} {St : Heap → Prop} {I : Str → Heap → Prop} {more : Str → Bool} {next : Str → Str}
    (Y : YieldLoop prog w (D + 1) (U + 3) env test e st1 St I more next) {xs : List Str} {x : Str} {gdA : Option (List Code)} {frA : Option (List Env)} {s₀ s : Shared}
    (hc : Comes more next x xs)
    (h0 : ∀ dp un fr gd (Q : Flow → Shared → Prop) E, dp ≤ D + 1 → un ≤ U + 3 → (∀ h' tk, (∀ b o, b ≠ env.locals → s.heap.get? b = some o → h'.get? b = some o) → St h' → I x h' → Q .next { s with heap := h', toks := tk }) → wpAny (model prog w) (Ar dp un fr gd) (exec st0 env) Q E s)
    (hs : Since env.locals s₀ s) :
    Seg (model prog w) (Ar D U frA gdA) (TextEnd env.locals) (TextProto St env.locals xs) xs.length s₀ (.func [st0, .While test [.Expr (.Yield (some e) py) pe, st1] [] pw] env)
      ((model prog w).den (.func [st0, .While test [.Expr (.Yield (some e) py) pe, st1] [] pw] env)) [] s := by
  show Seg _ _ _ _ _ s₀ _ (do point; match ← (execs [st0, .While test [.Expr (.Yield (some e) py) pe, st1] [] pw] env).onRaise (leaving env) with | .ret v => ret v | _ => ret .none) _ s
  refine seg_bind (wpAny_point ?_)
  have e1 : execs [st0, .While test [.Expr (.Yield (some e) py) pe, st1] [] pw] env = (exec st0 env >>= fun f => match f with | .next => execs [.While test [.Expr (.Yield (some e) py) pe, st1] [] pw] env | f => pure f) := rfl
  have e2 : execs [.While test [.Expr (.Yield (some e) py) pe, st1] [] pw] env = (standAt pw >>= fun _ => runOwn (.whileLoop test [.Expr (.Yield (some e) py) pe, st1] [] env) env >>= fun f => match f with | .next => execs [] env | f => pure f) := by
    have : execs [.While test [.Expr (.Yield (some e) py) pe, st1] [] pw] env = ((standAt pw >>= fun _ => runOwn (.whileLoop test [.Expr (.Yield (some e) py) pe, st1] [] env) env) >>= fun f => match f with | .next => execs [] env | f => pure f) := rfl
    rw [this, bind_assoc]
  rw [e1, Sem.onRaise_eq_wrap, Sem.bind_eq_wrap' (exec st0 env), Sem.wrap_wrap, Sem.bind_eq_wrap', Sem.wrap_wrap]
  refine seg_wrap (h0 _ _ _ _ _ _ (Nat.le_refl _) (by first | exact Nat.le_refl _ | omega) fun h' tk hk hst hi => ?_)
  dsimp only
  rw [e2, Sem.wrap_wrap]
  refine seg_bw (wpAny_standAt ?_)
  refine seg_call (h := none) (g := false) (k := _) fun pp => ?_
  refine seg_loop Y rfl rfl (fun s₁ s₂ hss => ?_) xs x [] s₀ _ hc rfl (hs.step hk) hst hi
  exact seg_end (.ok (.ret .none)) ⟨rfl, rfl, hss⟩
theorem seg_funcL {D U : Nat} {env : Env} {L : Addr} {test e : Expr} {st0 st1 : Stmt} {py pe pw : Pos} {St : Heap → Prop} {I : Str → Heap → Prop} {more : Str → Bool} {next : Str → Str}
    {xs : List Str} {x : Str} {gdA : Option (List Code)} {frA : Option (List Env)} {s₀ s : Shared}
    (hL : L = env.locals) (Y : YieldLoop prog w (D + 1) (U + 3) env test e st1 St I more next)
    (hc : Comes more next x xs)
    (h0 : ∀ dp un fr gd (Q : Flow → Shared → Prop) E, dp ≤ D + 1 → un ≤ U + 3 → (∀ h' tk, (∀ b o, b ≠ L → s.heap.get? b = some o → h'.get? b = some o) → St h' → I x h' → Q .next { s with heap := h', toks := tk }) → wpAny (model prog w) (Ar dp un fr gd) (exec st0 env) Q E s)
    (hs : Since L s₀ s) :
    Seg (model prog w) (Ar D U frA gdA) (TextEnd L) (TextProto St L xs) xs.length s₀ (.func [st0, .While test [.Expr (.Yield (some e) py) pe, st1] [] pw] env)
      ((model prog w).den (.func [st0, .While test [.Expr (.Yield (some e) py) pe, st1] [] pw] env)) [] s := by
  subst hL
  exact seg_func Y hc h0 hs
def GenText (prog : Program) (w : World) (D U : Nat) (St : Heap → Prop) (a : Addr) (g : Nat) (L : Addr) (xs0 xs : List Str) (s : Shared) : Prop :=
  s.heap.IsGen a g ∧ a ≠ L ∧ (∃ pre, xs0 = pre ++ xs) ∧ ∃ gs oL, s.gens[g]? = some gs ∧ s.heap.get? L = some oL ∧
    ∀ s'' : Shared, St s''.heap → s''.heap.get? L = some oL → gs.Goes (model prog w) (Ar D U none none).in1 (TextEnd L) (TextProto St L xs0) xs.length (.send .none) s''
theorem GenText.keeps {D U : Nat} {St : Heap → Prop} {a : Addr} {g : Nat} {L : Addr} {xs0 xs : List Str} {s s' : Shared} (G : GenText prog w D U St a g L xs0 xs s)
    (ha : ∀ o, s.heap.get? a = some o → s'.heap.get? a = some o) (hL : ∀ o, s.heap.get? L = some o → s'.heap.get? L = some o) (hg : ∀ x, s.gens[g]? = some x → s'.gens[g]? = some x) : GenText prog w D U St a g L xs0 xs s' := by
  obtain ⟨⟨o, nm, qn, ho, r⟩, h1, h2, gs, oL, h3, h4, h5⟩ := G
  exact ⟨⟨o, nm, qn, ha _ ho, r⟩, h1, h2, gs, oL, hg _ h3, hL _ h4, h5⟩
theorem setGen_other {s : Shared} {g k : Nat} {x : GenState} (h : k ≠ g) : (s.setGen g x).gens[k]? = s.gens[k]? := by simp [Shared.setGen, Ne.symm h]
theorem setGen_size {s : Shared} {g : Nat} {x : GenState} : (s.setGen g x).gens.size = s.gens.size := by simp [Shared.setGen]
theorem setGen_bare {s : Shared} {g : Nat} {x : GenState} (hx : x.bare = true) (h : AllBare s.gens) : AllBare (s.setGen g x).gens := fun y hy => by
  obtain ⟨i, hi, e⟩ := Array.mem_iff_getElem.mp hy
  have q : (s.setGen g x).gens[i]? = some y := by rw [Array.getElem?_eq_getElem hi, e]
  by_cases c : i = g
  · subst c
    have : (s.setGen i x).gens[i]? = some x := by
      rw [setGen_size] at hi
      simp [Shared.setGen, hi]
    rw [this] at q
    cases q; exact hx
  · rw [setGen_other c] at q
    exact h y (Array.mem_of_getElem? q)
theorem ext_of_since {s s₁ : Shared} {g : Nat} {L : Addr} {gs : GenState} (hb : gs.bare = true) (hs : Since L (s.setGen g .running) s₁) : Ext [] (· = L) (· = g) s (s₁.setGen g gs) := by
  obtain ⟨h', tk, rfl, hk⟩ := hs
  refine ⟨fun b o _ hw e => hk b o hw e, fun b _ hm _ _ => absurd hm (by simp), fun k hk z e => ?_, ?_, fun h => setGen_bare hb ?_, rfl⟩
  · rw [setGen_other hk]
    show (s.setGen g .running).gens[k]? = _
    rw [setGen_other hk]; exact e
  · rw [setGen_size]; show _ ≤ (s.setGen g .running).gens.size; rw [setGen_size]; exact Nat.le_refl _
  · show AllBare (s.setGen g .running).gens
    exact setGen_bare rfl h
section
variable {D U dp un : Nat} {fr : Option (List Env)} {gd : Option (List Code)} {St : Heap → Prop} {a : Addr} {g : Nat} {L : Addr} {xs0 xs : List Str} {x : Str} {s : Shared} {Q : Option Value → Shared → Prop} {E : Value → Shared → Prop}
theorem gen_wake {n : Nat} {gs : GenState} {Q : Fin → Shared → Prop} (_hst : St (s.heap)) (hlim : s.heap.NoLimit) (hD : D < recursionLimit) (hg : s.heap.IsGen a g) (hgs : s.gens[g]? = some gs)
    (hgo : gs.Goes (model prog w) (Ar D U none none).in1 (TextEnd L) (TextProto St L xs0) n (.send .none) (s.setGen g .running))
    (hY : ∀ v s₁ gs', gs'.bare = true → TextProto St L xs0 (n - 1) (s.setGen g .running) v s₁ (fun r' s'' => match n with | 0 => False | m + 1 => gs'.Goes (model prog w) (Ar D U none none).in1 (TextEnd L) (TextProto St L xs0) m r' s'') → Q (.done (.ret v)) (s₁.setGen g gs'))
    (hR : ∀ s₁, n = 0 → Since L (s.setGen g .running) s₁ → ∀ e h', Heap.NewExc s₁.heap h' e "StopIteration" → E (.ref e) { s₁.setGen g .finished with heap := h' }) :
    wpAny (model prog w) (Ar D U none none).in1 (Builtin.Generator.genWake (.ref a) (.send .none)) Q E s := by
  unfold Builtin.Generator.genWake
  refine wpAny_bind (wpAny_holding (wpAny_genNumber hg (wpAny_bind (wpAny_genState hgs ?_))))
  cases gs with
  | running => exact hgo.elim
  | finished => exact hgo.elim
  | _ =>
    refine wpAny_bind (wpAny_roomToWake hlim hD ?_)
    show wpAny _ _ (.resume g (.send .none) [] _) _ _ s
    refine wpAny_resumeQ hgs hgo (fun x s₁ hx => ?_) (fun v s₁ gs' hb hv => ?_)
    · obtain ⟨rfl, hn, hp⟩ := hx
      show wpAny _ _ (newExc (.type "StopIteration") [] >>= _) _ _ _
      refine wpAny_bind ?_
      simp only [newExc, newTuple]
      refine wpAny_bind (wpAny_newObj_type ?_ (by size_fits))
      refine wpAny_bind (m := firstArgMember _ _) (wpAny_of_eq (a := Value.none) (by first | rfl | (simp only [firstArgMember]; rfl)) ?_)
      refine wpAny_newObj_type ?_ (by size_fits)
      simp only [raiseNew]
      refine wpAny_bind (wpAny_bind (wpAny_handled ?_))
      refine wpAny_throw ?_
      refine hR s₁ hn hp _ _ ⟨fun b o e => Heap.get?_push_of_some _ (Heap.get?_push_of_some _ e), get?_size_none _ ?_, _, _, Heap.get?_push_size _ rfl, rfl, rfl⟩
      show s₁.heap.objs.size ≤ (Heap.push _ _).objs.size
      rw [Heap.size_push]; exact Nat.le_succ _
    · exact wpAny_pure (hY v s₁ gs' hb hv)
theorem gen_special (hg : s.heap.IsGen a g) {Q : Option Value → Shared → Prop}
    (h : wpAny (model prog w) (Ar D U none none).in1 (Builtin.Generator.genWake (.ref a) (.send .none)) (fun fin s' => ∃ v, fin = .done (.ret v) ∧ Q (some v) s') E s) :
    wpAny (model prog w) (Ar D U none none) (callSpecial? (.ref a) (Str.ofString "__next__")) Q E s :=
  wpAny_callSpecial?_slot (name := Str.ofString "__next__") hg.typeIs slot_gen_next (wpAny_call_entry slot_gen_next hg.typeIs entry_gen_next h (args_gen_next _))
theorem gen_next_cons (hG : GenText prog w D U St a g L xs0 (x :: xs) s) (hst : ∀ h', (∀ b o, b ≠ L → s.heap.get? b = some o → h'.get? b = some o) → St h') (hlim : s.heap.NoLimit) (hD : D < recursionLimit) (hd : dp ≤ D) (hu : un ≤ U)
    (hQ : ∀ t s', Ext [] (· = L) (· = g) s s' → GenText prog w D U St a g L xs0 xs s' → Q (some (.str x t)) s') :
    wpAny (model prog w) (Ar dp un fr gd) (callSpecial? (.ref a) (Str.ofString "__next__")) Q E s := by
  obtain ⟨hg, haL, ⟨pre, hpre⟩, gs, oL, hgs, hL, hgo⟩ := hG
  refine wpAny_up hd hu (gen_special hg (gen_wake (n := (x :: xs).length) (hst _ fun _ _ _ e => e) hlim hD hg hgs (hgo _ (hst _ fun _ _ _ e => e) hL) (fun v s₁ gs' hb hv => ?_) fun s₁ hn => absurd hn (by simp)))
  obtain ⟨⟨y, t, rfl, hy⟩, hs, ⟨oL', hoL⟩, hk⟩ := hv
  have hxy : y = x := by
    have e := suffix_get hpre
    rw [show (x :: xs).length - 1 = xs.length from rfl, e] at hy
    exact (Option.some.inj hy).symm
  subst hxy
  have hE := ext_of_since hb hs
  refine ⟨_, rfl, hQ t _ hE ?_⟩
  obtain ⟨h', tk, rfl, hkk⟩ := hs
  have hlt : g < s.gens.size := by
    rcases Nat.lt_or_ge g s.gens.size with h' | h'
    · exact h'
    · rw [Array.getElem?_eq_none h'] at hgs; cases hgs
  obtain ⟨o, nm, qn, ho, r⟩ := hg
  have hg' : h'.IsGen a g := ⟨o, nm, qn, hkk a o haL ho, r⟩
  have hoL : h'.get? L = some oL' := hoL
  refine ⟨hg', haL, ⟨pre ++ [y], by rw [hpre]; simp⟩, gs', oL', ?_, hoL, fun s'' hst'' hL'' => hk s'' hst'' fun o ho => ?_⟩
  · simp [Shared.setGen, hlt]
  · have ho' : h'.get? L = some o := ho
    rw [hoL] at ho'
    rw [← Option.some.inj ho']; exact hL''
theorem gen_next_nil (hG : GenText prog w D U St a g L xs0 [] s) (hst : ∀ h', (∀ b o, b ≠ L → s.heap.get? b = some o → h'.get? b = some o) → St h') (hlim : s.heap.NoLimit) (hD : D < recursionLimit) (hd : dp ≤ D) (hu : un ≤ U)
    (hQ : ∀ e s' h', Ext [] (· = L) (· = g) s s' → Heap.NewExc s'.heap h' e "StopIteration" → E (.ref e) { s' with heap := h' }) :
    wpAny (model prog w) (Ar dp un fr gd) (callSpecial? (.ref a) (Str.ofString "__next__")) Q E s := by
  obtain ⟨hg, haL, _, gs, oL, hgs, hL, hgo⟩ := hG
  refine wpAny_up hd hu (gen_special hg (gen_wake (n := 0) (hst _ fun _ _ _ e => e) hlim hD hg hgs (hgo _ (hst _ fun _ _ _ e => e) hL) (fun v s₁ gs' hb hv => ?_) fun s₁ _ hs e h' hx => ?_))
  · obtain ⟨⟨y, t, rfl, hy⟩, hs, ⟨oL', hoL⟩, hk⟩ := hv
    obtain ⟨h', tk, rfl, hkk⟩ := hs
    exact (hk { s.setGen g .running with heap := h', toks := tk } (hst h' hkk) fun _ e => e : False).elim
  · exact hQ e (s₁.setGen g .finished) h' (ext_of_since rfl hs) hx
end
theorem enterGen {A : Around} {R : Result → Shared → Prop} {s : Shared} {base : Heap} {name qual : Str} {params : Arguments} {body : List Stmt} {scope : Scope}
    {pm cd doc : Value} {f : Addr} {o : Obj} {args : List Value} {binds : List (Str × Value)}
    (hk : KeepAll base s.heap) (hsz : base.objs.size ≤ s.heap.objs.size)
    (hroom : A.depth < recursionLimit) (ho : s.heap.get? f = some o) (hdata : o.data = .func (fnRec name qual params body scope pm cd doc)) (hlim : s.heap.NoLimit) (hcd : s.heap.CodeRec cd qual)
    (hbind : bindArgs (fnRec name qual params body scope pm cd doc) ⟨args, []⟩ = pure binds)
    (hloc : ∀ x ∈ binds, scope.names.lookup x.1 = some .local)
    (h : ∀ L a h₁ tk, Fr base L h₁ (fun x => binds.reverse.lookup x) → KeepAll s.heap h₁ → s.heap.get? L = none → s.heap.get? a = none → a ≠ L → h₁.IsGen a s.gens.size →
      R (.ok (.ret (.ref a))) { s with heap := h₁, toks := tk, gens := s.gens.push (.fresh (.func body (envOf qual scope L f cd))) })
    (hco : scope.isCoroutine = false := by rfl) (hgen : scope.isGenerator = true := by rfl) (hk' : scope.kind = .function := by rfl)
    (hcell : ∀ x ∈ scope.names, x.2 ≠ .cell := by decide) :
    codeAny (model prog w) A (.call (.ref f) ⟨args, []⟩) R s := by
  refine codeAny_call_generator hroom ho hdata hco hgen rfl hcd ?_
  rw [hbind]
  refine wpAny_pure (wpAny_newFunctionEnv hcell hloc (fun h₁ hns hsb => ?_) hk')
  have kf : KeepAll s.heap h₁ := fun b o e => hsb.extBut b o (Nat.ne_of_lt (Heap.lt_size e)) (Heap.get?_push_of_some _ e)
  refine ⟨hlim.keeps kf, ?_⟩
  have hL := hns.lt
  have kp : KeepAll h₁ (h₁.push { cls := .type "generator", data := .fields #[.int s.gens.size 0, .str name (s.toks + binds.length), .str qual (s.toks + binds.length + 1)] }) := fun b o e => Heap.get?_push_of_some _ e
  have F : Fr base s.heap.objs.size h₁ _ := ⟨hns, fun b o e => kf _ _ (hk b o e), hsz⟩
  refine h s.heap.objs.size h₁.objs.size _ _ (Fr.keepAll F kp) (kf.trans kp) (get?_size_none _ (Nat.le_refl _)) (get?_size_none _ (Nat.le_of_lt hL)) (Nat.ne_of_gt hL) ?_
  exact ⟨_, _, _, Heap.get?_push_size _ rfl, rfl, rfl, rfl⟩
end
end Mine
end
section
open PySem PySem.W PyProof.Rows
set_option maxRecDepth 100000
set_option maxHeartbeats 8000000
namespace Mine
section
variable {M : Model} {A : Around} {E : Value → Shared → Prop} {s : Shared}
theorem note_firstW {base : Heap} {env : Env} {outer : List Env} {L e : Addr} {oe : Obj} {vs : Array Value} {a0 : Value} {Q : Unit → Shared → Prop}
    (hfr : A.frames = some (env :: outer)) (hl : s.heap.FunFrames base (env :: outer)) (hf : env.frame = some L)
    (he : s.heap.get? e = some oe) (hkb : base.StaysIn s.heap) (hen : base.get? e = none) (hd : oe.data = .fields vs) (h1 : vs[1]? = some .none) (h0 : vs[0]? = some a0)
    (h : ∀ h', Heap.NotedW base (env :: outer) e oe.cls a0 (rawInt L) s.heap h' → Q () { s with heap := h' }) : wpAny M A (noteFrame (.ref e) env) Q E s := by
  unfold noteFrame
  simp only [hf]
  refine wpAny_bind (wpAny_field he hd h1 ?_)
  rw [if_neg (by decide)]
  exact wpAny_entryW hfr hl hf he hkb hen hd (Array.getElem?_eq_some_iff.mp h1).1 h0 h
theorem raise_bare {base : Heap} {env : Env} {l : List Env} {L e : Addr} {cls a0 : Value} {pos : Pos} {Q : Flow → Shared → Prop} (hh : A.handled = some (.ref e)) (hf : env.frame = some L)
    (R : Heap.FlyingW base l e cls a0 s.heap) (h : ∀ h', Heap.HeldW base l e cls a0 L h' → s.heap.UpToSlots h' → E (.ref e) { s with heap := h' }) :
    wpAny M A (exec (.Raise none none pos) env) Q E s := by
  obtain ⟨_, _, _, oe, vs, T, oT, ts, he, hc, hd, h1, _⟩ := id R
  rw [arm_exec_Raise]
  refine wpAny_bind (wpAny_standAt ?_)
  show wpAny M A (raiseStmt env none none) Q E s
  unfold raiseStmt
  refine wpAny_bind (wpAny_handled ?_)
  rw [hh]
  dsimp only
  refine wpAny_bind (wpAny_rule ?_)
  refine wpAny_bind (wpAny_field he hd h1 ?_)
  rw [if_neg (show ¬ ((Value.ref T == Value.none) = true) from by simp)]
  rw [hf]
  refine wpAny_bind (setFlight_onW R fun h' hh hs => wpAny_throw (h h' hh hs))
theorem leaves_heldU {base : Heap} {env : Env} {outer : List Env} {L e : Addr} {cls a0 : Value} {Q : Unit → Shared → Prop} (hf : env.frame = some L)
    (hh : Heap.HeldW base (env :: outer) e cls a0 L s.heap) (hQ : ∀ h', Heap.FlyingW base outer e cls a0 h' → s.heap.UpToSlots h' → Q () { s with heap := h' }) : wpAny M A (leaving env (.ref e)) Q E s := by
  unfold leaving
  refine wpAny_bind (wpAny_noteFrame_againW hf hh.2.2.2 ?_)
  refine wpAny_landsW hh fun h' hfl hs => ?_
  obtain ⟨k1, k2, ⟨_, _, k3⟩, k4⟩ := hfl
  exact hQ h' ⟨k1, k2, k3, k4⟩ hs
theorem leaves_newU {base h : Heap} {env : Env} {outer : List Env} {L e : Addr} {cls : String} {Q : Unit → Shared → Prop}
    (hfr : A.frames = some (env :: outer)) (hf : env.frame = some L) (hkb : base.StaysIn h) (hl : h.FunFrames base (env :: outer)) (hx : Heap.NewExc h s.heap e cls)
    (hQ : ∀ a0 h', Heap.FlyingW base outer e (.type cls) a0 h' → s.heap.UpToSlots h' → Q () { s with heap := h' }) : wpAny M A (leaving env (.ref e)) Q E s := by
  obtain ⟨ob, tp, he, hcls, hd⟩ := hx.there
  have hen : base.get? e = none := by
    cases hq : base.get? e with
    | none => rfl
    | some o' => have := hkb e o' hq; rw [hx.new] at this; cases this
  refine wpAny_leaving_firstW (a0 := tp) hfr (hl.of_keeps fun b o hb _ => ⟨o, hx.keeps b o hb, rfl⟩) hf he (fun b o hb => hx.keeps b o (hkb b o hb)) hen hd rfl rfl fun h' hL => ?_
  obtain ⟨k1, ⟨_, _, k2⟩, k3, k4⟩ := hL
  exact hQ tp h' ⟨k1, hen, k2, by rw [← hcls]; exact k3⟩ k4
end
section
variable {prog : Program} {w : World} {A : Around} {E : Value → Shared → Prop} {s' : Shared}
theorem try_caught {outer : List Env} {env : Env} {L e : Addr} {B h : Heap} {t : Expr} {b₀ : Stmt} {suite : List Stmt} {pos : Pos} {rest : List ExceptHandler} {Q : Flow → Shared → Prop}
    (hfr : A.frames = some (env :: outer)) (hf : env.frame = some L) (hB : B.StaysIn h) (hl : h.FunFrames B (env :: outer)) (hx : Heap.NewExc h s'.heap e "StopIteration")
    (hname : ∀ h' (Q' : Value → Shared → Prop), B.StaysIn h' → s'.heap.UpToSlots h' → Q' (.type "BaseException") { s' with heap := h' } → wpAny (model prog w) (A.mark (some (.ref e))) (eval t env) Q' E { s' with heap := h' })
    (k : ∀ a0 h', Heap.FlyingW B (env :: outer) e (.type "StopIteration") a0 h' → s'.heap.UpToSlots h' → wpAny (model prog w) (A.mark (some (.ref e))) (execs (b₀ :: suite) env) Q E { s' with heap := h' })
    (hE : PassesOwnAt (model prog w) (A.mark (some (.ref e))) A env E := by passes_own) :
    wpAny (model prog w) A (noteFrame (.ref e) env) (fun _ s₂ => wpAny (model prog w) A (setFlight (.ref e) none) (fun _ s₃ => wpAny (model prog w) A (handleBy (.ref e) env (.ExceptHandler (some t) none (b₀ :: suite) pos :: rest)) Q E s₃) E s₂) E s' := by
  obtain ⟨ob, tp, he, hcls, hd⟩ := hx.there
  have hen : B.get? e = none := by
    cases hq : B.get? e with
    | none => rfl
    | some o' => have := hB e o' hq; rw [hx.new] at this; cases this
  refine note_firstW (a0 := tp) hfr (hl.of_keeps fun b o hb _ => ⟨o, hx.keeps b o hb, rfl⟩) hf he (fun b o hb => hx.keeps b o (hB b o hb)) hen hd rfl rfl fun h₁ hN => ?_
  obtain ⟨n1, n2, n3, n4⟩ := hN
  have H1 : Heap.HeldW B (env :: outer) e (.type "StopIteration") tp L h₁ := ⟨n1, hen, n2, by rw [← hcls]; exact n3⟩
  refine wpAny_landsW H1 fun h₂ hfl hs₂ => ?_
  have hs₂' : s'.heap.UpToSlots h₂ := Heap.UpToSlots.trans n4 hs₂
  have hT : ({ s' with heap := h₂ } : Shared).TypeIs (.ref e) "StopIteration" := hfl.there
  refine wpAny_handleBy_builtin (X := "StopIteration") (T := "BaseException") (b := true) (by rw [isSubtype_type]; kernel_rfl) (by kernel_rfl) (by rw [isSubtype_type]; kernel_rfl) (wpAny_passesOwnAt hE (hname _ _ hfl.1 hs₂' ⟨rfl, hT, ?_⟩))
  refine lands_againW hfl fun h₃ hfl₃ hs₃ => ?_
  exact wpAny_passesOwnAt hE (k _ _ hfl₃ (hs₂'.trans hs₃))
end
structure InIt (prog : Program) (w : World) (it : Addr) (base : Heap) (W : Addr → Prop) (V : Nat → Prop) (own : List Addr) (R : List Str → Shared → Prop) : Prop where
  look : ∀ xs (s : Shared), R xs s → ∃ T id, s.TypeIs (.ref it) T ∧ typeLookup (.type T) "__next__" = pure (some (.builtin id))
  cons : ∀ dp un fr gd y ys (s : Shared) (Q : Option Value → Shared → Prop) E, dp ≤ 500 → un ≤ 5000 → KeepAll base s.heap → s.heap.NoLimit → R (y :: ys) s →
    (∀ t s', Ext [] W V s s' → R ys s' → Q (some (.str y t)) s') → wpAny (model prog w) (Ar dp un fr gd) (callSpecial? (.ref it) (Str.ofString "__next__")) Q E s
  nil : ∀ dp un fr gd (s : Shared) (Q : Option Value → Shared → Prop) E, dp ≤ 500 → un ≤ 5000 → KeepAll base s.heap → s.heap.NoLimit → R [] s →
    (∀ e s' h', Ext [] W V s s' → Heap.NewExc s'.heap h' e "StopIteration" → E (.ref e) { s' with heap := h' }) → wpAny (model prog w) (Ar dp un fr gd) (callSpecial? (.ref it) (Str.ofString "__next__")) Q E s
  keeps : ∀ xs (s s' : Shared), R xs s → (∀ b ∈ own, ∀ o, s.heap.get? b = some o → s'.heap.get? b = some o) → (∀ g, V g → ∀ x, s.gens[g]? = some x → s'.gens[g]? = some x) → R xs s'
  there : ∀ xs (s : Shared), R xs s → ∀ b ∈ own, ∃ o, s.heap.get? b = some o
  sub : ∀ b, W b → b ∈ own
  itn : it ∈ own
  off : ∀ b ∈ own, base.get? b = none
structure OwnIt (prog : Program) (w : World) (x : Addr) (base : Heap) (W : Addr → Prop) (V : Nat → Prop) (own : List Addr) (R : List Str → Shared → Prop) : Prop where
  cons : ∀ dp un l gd y ys (s : Shared) (Q : Option Value → Shared → Prop) E, dp ≤ 400 → un ≤ 4000 → KeepAll base s.heap → s.heap.NoLimit → s.heap.FunFrames base l → R (y :: ys) s →
    (∀ t s', Ext [] W V s s' → R ys s' → Q (some (.str y t)) s') → wpAny (model prog w) (Ar dp un (some l) gd) (pyNext (.ref x)) Q E s
  nil : ∀ dp un l gd (s : Shared) (Q : Option Value → Shared → Prop) E, dp ≤ 400 → un ≤ 4000 → KeepAll base s.heap → s.heap.NoLimit → s.heap.FunFrames base l → (∀ f ∈ l.filterMap (·.frame), f ∉ own) → R [] s →
    (∀ s', Ext (l.filterMap (·.frame)) W V s s' → Q none s') → wpAny (model prog w) (Ar dp un (some l) gd) (pyNext (.ref x)) Q E s
  iter : ∀ dp un l gd xs (s : Shared) (Q : Value → Shared → Prop) E, dp ≤ 400 → un ≤ 4000 → KeepAll base s.heap → s.heap.NoLimit → R xs s →
    (∀ s', Ext [] NoA NoG s s' → R xs s' → Q (.ref x) s') → wpAny (model prog w) (Ar dp un (some l) gd) (pyIter (.ref x)) Q E s
  typ : ∀ xs (s : Shared) (A : Around) (Q : Value → Shared → Prop) E, KeepAll base s.heap → R xs s → (∀ T, (T == Value.type "list") = false → (T == Value.type "tuple") = false → Q T s) → wpAny (model prog w) A (typeOf (.ref x)) Q E s
  nolen : ∀ xs (s : Shared) (A : Around) (Q : Option Value → Shared → Prop) E, KeepAll base s.heap → R xs s → Q none s → wpAny (model prog w) A (specialOf (.ref x) "__len__") Q E s
  nohint : ∀ xs (s : Shared) (A : Around) (Q : Option Value → Shared → Prop) E, KeepAll base s.heap → R xs s → Q none s → wpAny (model prog w) A (specialOf (.ref x) "__length_hint__") Q E s
  keeps : ∀ xs (s s' : Shared), R xs s → (∀ b ∈ own, ∀ o, s.heap.get? b = some o → s'.heap.get? b = some o) → (∀ g, V g → ∀ x, s.gens[g]? = some x → s'.gens[g]? = some x) → R xs s'
  there : ∀ xs (s : Shared), R xs s → ∀ b ∈ own, ∃ o, s.heap.get? b = some o
  sub : ∀ b, W b → b ∈ own
  itn : x ∈ own
  off : ∀ b ∈ own, base.get? b = none
section
variable {prog : Program} {w : World} {dp un : Nat} {fr : Option (List Env)} {gd : Option (List Code)} {E : Value → Shared → Prop} {s : Shared}
  {it : Addr} {base : Heap} {W : Addr → Prop} {V : Nat → Prop} {own : List Addr} {R : List Str → Shared → Prop} {Q : Value → Shared → Prop}
theorem InIt.next_cons (I : InIt prog w it base W V own R) {y : Str} {ys : List Str} (hd : dp ≤ 500) (hu : un + 1 ≤ 5000) (hk : KeepAll base s.heap) (hl : s.heap.NoLimit) (hR : R (y :: ys) s)
    (h : ∀ t s', Ext [] W V s s' → R ys s' → Q (.str y t) s') : wpAny (model prog w) (Ar dp un fr gd) (PySem.call (.builtin "next") [.ref it]) Q E s := by
  obtain ⟨T, id, hT, hlk⟩ := I.look _ _ hR
  exact call_next (f := .builtin id) (wpAny_specialOf hT hlk ⟨rfl, rfl⟩) (I.cons dp (un + 1) fr gd y ys s _ _ hd hu hk hl hR fun t s' x r => ⟨_, rfl, h t s' x r⟩)
theorem InIt.next_nil (I : InIt prog w it base W V own R) (hd : dp ≤ 500) (hu : un + 1 ≤ 5000) (hk : KeepAll base s.heap) (hl : s.heap.NoLimit) (hR : R [] s)
    (h : ∀ e s' h', Ext [] W V s s' → Heap.NewExc s'.heap h' e "StopIteration" → E (.ref e) { s' with heap := h' }) : wpAny (model prog w) (Ar dp un fr gd) (PySem.call (.builtin "next") [.ref it]) Q E s := by
  obtain ⟨T, id, hT, hlk⟩ := I.look _ _ hR
  exact call_next (f := .builtin id) (wpAny_specialOf hT hlk ⟨rfl, rfl⟩) (I.nil dp (un + 1) fr gd s _ _ hd hu hk hl hR h)
theorem InIt.next (I : InIt prog w it base W V own R) {xs : List Str} (hd : dp ≤ 500) (hu : un + 1 ≤ 5000) (hk : KeepAll base s.heap) (hl : s.heap.NoLimit) (hR : R xs s)
    (hc : ∀ y ys, xs = y :: ys → ∀ t s', Ext [] W V s s' → R ys s' → Q (.str y t) s') (hn : xs = [] → ∀ e s' h', Ext [] W V s s' → Heap.NewExc s'.heap h' e "StopIteration" → E (.ref e) { s' with heap := h' }) :
    wpAny (model prog w) (Ar dp un fr gd) (PySem.call (.builtin "next") [.ref it]) Q E s := by
  cases xs with
  | nil => exact I.next_nil hd hu hk hl hR (hn rfl)
  | cons y ys => exact I.next_cons hd hu hk hl hR (hc y ys rfl)
theorem inIt_gen {a Lg : Addr} {g : Nat} {xs0 : List Str} {St : Heap → Prop} (hSt : ∀ h, KeepAll base h → St h) (ha : base.get? a = none) (hL : base.get? Lg = none) :
    InIt prog w a base (· = Lg) (· = g) [a, Lg] (fun xs s => GenText prog w 500 5000 St a g Lg xs0 xs s) where
  look := fun xs s G => ⟨"generator", "generator.__next__", G.1.typeIs, slot_gen_next.lookup⟩
  cons := fun dp un fr gd y ys s Q E hd hu hk hl hR hQ => gen_next_cons hR (fun h' hh => hSt _ fun b o e => hh b o (fun q => by rw [q, hL] at e; cases e) (hk b o e)) hl (by decide) hd hu hQ
  nil := fun dp un fr gd s Q E hd hu hk hl hR hQ => gen_next_nil hR (fun h' hh => hSt _ fun b o e => hh b o (fun q => by rw [q, hL] at e; cases e) (hk b o e)) hl (by decide) hd hu hQ
  keeps := fun xs s s' hR hk hg => hR.keeps (hk a (.head _)) (hk Lg (.tail _ (.head _))) (hg g rfl)
  there := fun xs s hR b hb => by
    obtain ⟨⟨o, nm, qn, ho, r⟩, h1, h2, gs, oL, h3, h4, h5⟩ := hR
    rcases List.mem_cons.mp hb with rfl | hb
    · exact ⟨_, ho⟩
    · rcases List.mem_cons.mp hb with rfl | hb
      · exact ⟨_, h4⟩
      · cases hb
  sub := fun b hb => by rw [hb]; exact .tail _ (.head _)
  itn := .head _
  off := fun b hb => by
    rcases List.mem_cons.mp hb with rfl | hb
    · exact ha
    · rcases List.mem_cons.mp hb with rfl | hb
      · exact hL
      · cases hb
end
section
variable {M : Model} {A : Around} {E : Value → Shared → Prop} {s : Shared} {K : Frag} {x C f : Addr} {ox : Obj} {od : Option Obj}
theorem own_next {Q : Option Value → Shared → Prop} (X : K.In s.heap) (I : InstAt s.heap x ox C od) (hs : findIn K (.ref C) "__next__" = some (some (.ref f))) (hf : isFn K (.ref f) = true)
    (h : wpAny M A (PySem.call (.ref f) [.ref x]) (fun v s' => Q (some v) s') (fun e s' => s'.TypeIs e "StopIteration" ∧ Q none s') s) : wpAny M A (pyNext (.ref x)) Q E s := by
  unfold pyNext
  refine wpAny_bind (wpAny_attempt (special_fn (name := "__next__") (args := []) X I hs (beq_iff_eq.mp hf) (wpAny_mono h (fun v s' hq => ?_) (fun e s' he => ?_))))
  · exact wpAny_pure hq
  · refine wpAny_bind (wpAny_isInstance (b := true) he.1 isSubtype_stop ?_)
    exact wpAny_pure he.2
theorem own_iter {g : Value} {Q : Value → Shared → Prop} (X : K.In s.heap) (I : InstAt s.heap x ox C od) (hs : findIn K (.ref C) "__iter__" = some (some (.ref f))) (hf : isFn K (.ref f) = true) (hn : findIn K (.ref C) "__next__" = some (some g))
    (h : wpAny M A (PySem.call (.ref f) [.ref x]) (fun v s' => v = .ref x ∧ K.In s'.heap ∧ (∃ ox' od', InstAt s'.heap x ox' C od') ∧ Q (.ref x) s') E s) : wpAny M A (pyIter (.ref x)) Q E s := by
  have fin : wpAny M A (PySem.call (.ref f) [.ref x] >>= fun v => pure (some v)) (fun r s' => ∃ v, r = some v ∧ OwitIt M A Q E v s') E s :=
    wpAny_bind (wpAny_mono h (fun v s' h' => wpAny_pure ⟨v, rfl, by
      obtain ⟨rfl, X', ⟨ox', od', I'⟩, hq⟩ := h'
      unfold OwitIt
      exact wpAny_bind (I'.type.here ((looks_findIn X' hn).here hq))⟩) fun _ _ z => z)
  have one : ∀ refuse : Sem Value, wpAny M A (callSpecialIfBoundUnlessNone? (.ref x) "__iter__" refuse) (fun r s' => ∃ v, r = some v ∧ OwitIt M A Q E v s') E s := by
    intro refuse
    simp only [callSpecialIfBoundUnlessNone?, bindSpecialIfBound?]
    refine wpAny_holding (wpAny_bind (wpAny_bind (wpAny_bind (I.type.here ((looks_findIn X hs).here ?_)))))
    refine wpAny_bind (wpAny_askSetting (wpAny_ite ?_))
    have fin2 : wpAny M A (if (Value.ref f == Value.none) = true then (refuse >>= fun v => pure (some v)) else (PySem.call (.ref f) [.ref x] >>= fun v => pure (some v))) (fun r s' => ∃ v, r = some v ∧ OwitIt M A Q E v s') E s := by
      rw [if_neg (show ¬ ((Value.ref f == Value.none) = true) from Bool.false_ne_true)]
      exact fin
    split
    · exact wpAny_bind ((bind_fn X _ (beq_iff_eq.mp hf)).here (wpAny_pure (by exact fin2)))
    · exact wpAny_tryCatch (wpAny_bind ((bind_fn X _ (beq_iff_eq.mp hf)).here (wpAny_pure (by exact fin2))))
  unfold pyIter
  refine wpAny_bind (wpAny_bind (I.type.here ((looks_findIn X hs).here ?_)))
  show wpAny M A (callSpecialIfBoundUnlessNone? (.ref x) "__iter__" _ >>= _) Q E s
  refine wpAny_bind (wpAny_mono (one _) (fun r s' hr => ?_) fun _ _ z => z)
  obtain ⟨v, rfl, hv⟩ := hr
  refine wpAny_bind (wpAny_mono hv (fun r s₂ hr => ?_) fun _ _ z => z)
  cases r with
  | none => exact hr.elim
  | some g => exact wpAny_pure hr
end
section
variable {prog : Program} {w : World} {base : Heap}
theorem ownIt_gen {a Lg : Addr} {g : Nat} {xs0 : List Str} {St : Heap → Prop} (hSt : ∀ h, KeepAll base h → St h) (ha : base.get? a = none) (hL : base.get? Lg = none) :
    OwnIt prog w a base (· = Lg) (· = g) [a, Lg] (fun xs s => GenText prog w 500 5000 St a g Lg xs0 xs s) where
  cons := fun dp un l gd y ys s Q E hd hu hk hl _ hR hQ => by
    unfold pyNext
    refine wpAny_bind (wpAny_attempt ((inIt_gen (w := w) hSt ha hL).cons dp un _ gd y ys s _ _ (by omega) (by omega) hk hl hR fun t s' x r => ?_))
    exact wpAny_pure (hQ t s' x r)
  nil := fun dp un l gd s Q E hd hu hk hl _ _ hR hQ => by
    unfold pyNext
    refine wpAny_bind (wpAny_attempt ((inIt_gen (w := w) hSt ha hL).nil dp un _ gd s _ _ (by omega) (by omega) hk hl hR fun e s' h' x hx => ?_))
    obtain ⟨ob, t, he, hc, _⟩ := hx.there
    refine wpAny_bind (wpAny_isInstance (T := "StopIteration") (b := true) ⟨ob, he, hc⟩ isSubtype_stop ?_)
    refine wpAny_pure (hQ _ ((x.trans (c := { s' with heap := h' }) ⟨fun b o _ _ e => hx.keeps b o e, fun b o _ _ e => ⟨o.slots, hx.keeps b o e⟩, fun _ _ _ e => e, Nat.le_refl _, fun h => h, rfl⟩).mono (fun _ h => nomatch h) (fun _ h => h) fun _ h => h))
  iter := fun dp un l gd xs s Q E hd hu hk hl hR hQ => wpAny_pyIter_gen hR.1 (hQ _ (.refl ..) hR)
  typ := fun xs s A Q E hk hR hQ => wpAny_typeOf hR.1.typeIs (hQ _ (by decide) (by decide))
  nolen := fun xs s A Q E hk hR hQ => wpAny_specialOf hR.1.typeIs F.gen_no_len hQ
  nohint := fun xs s A Q E hk hR hQ => wpAny_specialOf hR.1.typeIs F.gen_no_hint hQ
  keeps := (inIt_gen (prog := prog) (w := w) hSt ha hL).keeps
  there := (inIt_gen (prog := prog) (w := w) hSt ha hL).there
  sub := (inIt_gen (prog := prog) (w := w) (xs0 := xs0) (g := g) hSt ha hL).sub
  itn := (inIt_gen (prog := prog) (w := w) (xs0 := xs0) (g := g) hSt ha hL).itn
  off := (inIt_gen (prog := prog) (w := w) (xs0 := xs0) (g := g) hSt ha hL).off
end
end Mine
end
section
open PySem PySem.W PyProof.Rows
set_option maxRecDepth 100000
set_option maxHeartbeats 8000000
namespace Mine
def patch (S : List Addr) (b h : Heap) : Heap := { b with objs := b.objs.mapIdx fun i o => if i ∈ S then (h.objs[i]?).getD o else o }
theorem patch_size (S : List Addr) (b h : Heap) : (patch S b h).objs.size = b.objs.size := by simp [patch]
def unFreed (x : Option Obj) : Option Obj := match x with | some ⟨_, _, .freed, _⟩ => none | o => o
theorem get?_unFreed (h : Heap) (a : Addr) : h.get? a = unFreed h.objs[a]? := rfl
theorem patch_objs (S : List Addr) (b h : Heap) (a : Addr) : (patch S b h).objs[a]? = b.objs[a]?.map fun o => if a ∈ S then (h.objs[a]?).getD o else o := by
  show (b.objs.mapIdx _)[a]? = _
  rw [Array.getElem?_mapIdx]
theorem patch_off {S : List Addr} {b h : Heap} {a : Addr} (ha : a ∉ S) : (patch S b h).get? a = b.get? a := by
  rw [get?_unFreed, get?_unFreed, patch_objs]
  cases b.objs[a]? with
  | none => rfl
  | some o => simp only [Option.map_some, if_neg ha]
theorem patch_on {S : List Addr} {b h : Heap} {a : Addr} (ha : a ∈ S) (hb : a < b.objs.size) (hh : a < h.objs.size) : (patch S b h).get? a = h.get? a := by
  rw [get?_unFreed, get?_unFreed, patch_objs, Array.getElem?_eq_getElem hb, Array.getElem?_eq_getElem hh]
  simp only [Option.map_some, if_pos ha, Option.getD_some]
theorem KeepAll.patch {S : List Addr} {c b h : Heap} (k : KeepAll c b) (hS : ∀ a ∈ S, c.get? a = none) : KeepAll c (patch S b h) := fun a o e => by
  rw [patch_off fun q => by rw [hS a q] at e; cases e]
  exact k a o e
theorem Fr.patch {S : List Addr} {V : Nat → Prop} {W : Addr → Prop} {b : Heap} {L : Addr} {m : Str → Option Value} {s s' : Shared} (F : Fr b L s.heap m) (x : Ext [] W V s s') (hW : ∀ a, W a → a ∈ S) (hS : ∀ a ∈ S, ∃ o, b.get? a = some o) (hS' : ∀ a ∈ S, ∃ o, s'.heap.get? a = some o)
    : Fr (patch S b s'.heap) L s'.heap m := by
  have hL : L ∉ S := fun q => by
    obtain ⟨o, ho⟩ := hS L q
    exact Nat.lt_irrefl _ (Nat.lt_of_lt_of_le (Heap.lt_size ho) F.above)
  refine ⟨x.ns (fun q => hL (hW _ q)) F.ns, fun a o e => ?_, by rw [patch_size]; exact F.above⟩
  by_cases q : a ∈ S
  · obtain ⟨o', ho'⟩ := hS a q
    obtain ⟨o2, ho2⟩ := hS' a q
    rw [patch_on q (Heap.lt_size ho') (Heap.lt_size ho2)] at e
    exact e
  · rw [patch_off q] at e
    exact x.heap a o (by simp) (fun z => q (hW a z)) (F.keep a o e)
theorem News.patch {S : List Addr} {V : Nat → Prop} {W : Addr → Prop} {b : Heap} {L : Addr} {news : List (Addr × Obj)} {s s' : Shared} (N : News b L s.heap news) (x : Ext [] W V s s') (hW : ∀ a, W a → a ∈ S) (hS : ∀ a ∈ S, ∃ o, b.get? a = some o)
    : News (patch S b s'.heap) L s'.heap news := fun q hq => by
  obtain ⟨n1, n2, n3⟩ := N q hq
  have hqS : q.1 ∉ S := fun z => by
    obtain ⟨o', ho'⟩ := hS _ z
    rw [n3] at ho'; cases ho'
  exact ⟨x.heap _ _ (by simp) (fun z => hqS (hW _ z)) n1, n2, by rw [patch_off hqS]; exact n3⟩
def Holds (X : List Addr) (W : Addr → Prop) (h b : Heap) : Prop := ∀ a o, a ∉ X → ¬ W a → h.get? a = some o → b.get? a = some o
theorem Holds.hide {X : List Addr} {W : Addr → Prop} {h : Heap} : Holds X W h (hide X h) := fun _ _ h1 _ e => hide_some h1 e
theorem Holds.keep {X : List Addr} {W : Addr → Prop} {h b c : Heap} (x : Holds X W h b) (k : KeepAll b c) : Holds X W h c := fun a o h1 h2 e => k a o (x a o h1 h2 e)
theorem Holds.ext {X : List Addr} {W : Addr → Prop} {V : Nat → Prop} {h b : Heap} {s s' : Shared} (x : Holds X W h b) (k : KeepAll b s.heap) (y : Ext [] W V s s') : Holds X W h s'.heap := fun a o h1 h2 e => y.heap a o (by simp) h2 (k a o (x a o h1 h2 e))
theorem Holds.turn {X own : List Addr} {W : Addr → Prop} {V : Nat → Prop} {h b : Heap} {s s' : Shared} (x : Holds X W h b) (k : KeepAll b s.heap) (y : Ext [] W V s s') : Holds X W h (patch own b s'.heap) := fun a o h1 h2 e => by
  have e1 := x a o h1 h2 e
  have e2 := y.heap a o (by simp) h2 (k a o e1)
  by_cases q : a ∈ own
  · rw [patch_on q (Heap.lt_size e1) (Heap.lt_size e2)]; exact e2
  · rw [patch_off q]; exact e1
structure GExt (V : Nat → Prop) (a b : Array GenState) (oa ob : OsState) : Prop where
  gens : ∀ g, ¬ V g → ∀ x, a[g]? = some x → b[g]? = some x
  gsize : a.size ≤ b.size
  bare : AllBare a → AllBare b
  os : ob = oa
theorem GExt.refl (V : Nat → Prop) (a : Array GenState) (o : OsState) : GExt V a a o o := ⟨fun _ _ _ e => e, Nat.le_refl _, fun h => h, rfl⟩
theorem GExt.trans {V : Nat → Prop} {a b c : Array GenState} {oa ob oc : OsState} (x : GExt V a b oa ob) (y : GExt V b c ob oc) : GExt V a c oa oc := ⟨fun g hg z e => y.gens g hg z (x.gens g hg z e), Nat.le_trans x.gsize y.gsize, fun h => y.bare (x.bare h), y.os.trans x.os⟩
theorem Ext.g {S : List Addr} {W : Addr → Prop} {V : Nat → Prop} {s s' : Shared} (x : Ext S W V s s') : GExt V s.gens s'.gens s.os s'.os := ⟨x.gens, x.gsize, x.bare, x.os⟩
theorem Holds.fin {X : List Addr} {W : Addr → Prop} {V : Nat → Prop} {s s' : Shared} (x : Holds X W s.heap s'.heap) (g : GExt V s.gens s'.gens s.os s'.os) : Ext [] (fun b => b ∈ X ∨ W b) V s s' :=
  ⟨fun b o _ hw e => x b o (fun q => hw (.inl q)) (fun q => hw (.inr q)) e, fun b o hb => absurd hb (by simp), g.gens, g.gsize, g.bare, g.os⟩
theorem patch_own {own : List Addr} {b h h2 : Heap} (hk2 : KeepAll (patch own b h) h2) (hown : ∀ a ∈ own, ∃ o, b.get? a = some o) : ∀ a ∈ own, ∀ o, h.get? a = some o → h2.get? a = some o := fun a ha o e => by
  obtain ⟨o', ho'⟩ := hown a ha
  exact hk2 a o (by rw [patch_on ha (Heap.lt_size ho') (Heap.lt_size e)]; exact e)
end Mine
end
section
open PySem PySem.W PyProof.Rows
set_option maxRecDepth 100000
set_option maxHeartbeats 8000000
namespace Mine
def trunc (L : Addr) (h : Heap) : Heap := { h with objs := h.objs.extract 0 L }
theorem trunc_size (L : Addr) (h : Heap) : (trunc L h).objs.size ≤ L := by
  show (h.objs.extract 0 L).size ≤ L
  rw [Array.size_extract]; omega
theorem trunc_get {L : Addr} {h : Heap} {a : Addr} (ha : a < L) : (trunc L h).get? a = h.get? a := by
  rw [get?_unFreed, get?_unFreed]
  show unFreed (h.objs.extract 0 L)[a]? = _
  rw [Array.getElem?_extract]
  by_cases q : a < h.objs.size
  · rw [if_pos (by simp only [Nat.sub_zero]; exact Nat.lt_min.mpr ⟨ha, q⟩), Nat.zero_add]
  · rw [if_neg (by simp only [Nat.sub_zero]; exact fun z => q (Nat.lt_min.mp z).2), Array.getElem?_eq_none (Nat.le_of_not_lt q)]
theorem trunc_keep {L : Addr} {h : Heap} : KeepAll (trunc L h) h := fun b o e => by
  by_cases q : b < L
  · rw [trunc_get q] at e; exact e
  · have : (trunc L h).objs.size ≤ b := Nat.le_trans (trunc_size L h) (Nat.le_of_not_lt q)
    rw [get?_size_none _ this] at e; cases e
theorem ff_of {h B h' B' : Heap} : ∀ {l : List Env}, h.FunFrames B l → (∀ b ∈ l.filterMap (·.frame), ∀ o, h.get? b = some o → (∀ vs, o.data ≠ .fields vs) → ∃ o', h'.get? b = some o' ∧ o'.data = o.data) →
    (∀ b ∈ l.filterMap (·.frame), B'.get? b = none) → h'.FunFrames B' l
  | [], _, _, _ => trivial
  | env :: l, ⟨hk, ⟨L, o, hf, hn, ho, hd⟩, hr⟩, k, n => by
    have m : ∀ b ∈ l.filterMap (·.frame), b ∈ (env :: l).filterMap (·.frame) := fun b hb => by
      rw [List.filterMap_cons, hf]; exact .tail _ hb
    have m0 : L ∈ (env :: l).filterMap (·.frame) := by rw [List.filterMap_cons, hf]; exact .head _
    obtain ⟨o', ho', hd'⟩ := k L m0 o ho hd
    exact ⟨hk, ⟨L, o', hf, n L m0, ho', fun vs => hd' ▸ hd vs⟩, ff_of hr (fun b hb => k b (m b hb)) fun b hb => n b (m b hb)⟩
abbrev frs (l : List Env) : List Addr := l.filterMap (·.frame)
structure Exc (e T : Addr) (oe oT : Obj) : Prop where
  ne : T ≠ e
  cls : oe.cls = .type "StopIteration"
  dat : ∃ vs ts, oe.data = .fields vs ∧ vs[1]? = some (.ref T) ∧ oT.data = .fields ts ∧ ts[3]? = some .none ∧ ∃ a0, vs[0]? = some a0
theorem Exc.fly {e T L : Addr} {oe oT : Obj} {b B h : Heap} {env : Env} {l : List Env} {news : List (Addr × Obj)} {m : Str → Option Value} (x : Exc e T oe oT) (F : Fr b L h m) (N : News b L h news) (h1 : (e, oe) ∈ news) (h2 : (T, oT) ∈ news)
    (hBb : KeepAll B b) (hL : B.get? L = none) (hf : env.frame = some L) (hk : env.scope.kind ≠ .module) (hl : h.FunFrames B l) :
    ∃ a0, Heap.FlyingW B (env :: l) e (.type "StopIteration") a0 h := by
  obtain ⟨ne, hc, vs, ts, hd, hv1, hdT, h3, a0, hv0⟩ := x
  have he := N _ h1
  have hT := N _ h2
  exact ⟨a0, fun b o z => F.keep b o (hBb b o z), hBb.none_of he.2.2, Heap.FunFrames.cons hk hf F.ns hL hl, oe, vs, T, oT, ts, he.1, ⟨hc, hv0⟩, hd, hv1, hBb.none_of hT.2.2, ne, hT.1, hdT, h3⟩
section
variable {prog : Program} {w : World} {A : Around} {E : Value → Shared → Prop} {s' : Shared}
theorem catch_here {env : Env} {l : List Env} {L e : Addr} {b2 Bl : Heap} {h' : Heap} {m : Str → Option Value} {news : List (Addr × Obj)} {t : Expr} {b₀ : Stmt} {suite : List Stmt} {pos : Pos} {rest : List ExceptHandler} {Q : Flow → Shared → Prop}
    (hfr : A.frames = some (env :: l)) (hf : env.frame = some L) (hkind : env.scope.kind ≠ .module) (F : Fr b2 L s'.heap m) (hl : s'.heap.FunFrames Bl l) (hll : ∀ f ∈ frs l, f < L)
    (hN : ∀ q ∈ news, s'.heap.get? q.1 = some q.2 ∧ q.1 < L ∧ q.1 ∉ frs l) (hx : Heap.NewExc s'.heap h' e "StopIteration")
    (hname : ∀ h'' (Q' : Value → Shared → Prop), (hide (L :: frs l) s'.heap).StaysIn h'' → s'.heap.UpToSlots h'' → Q' (.type "BaseException") { s' with heap := h'' } → wpAny (model prog w) (A.mark (some (.ref e))) (eval t env) Q' E { s' with heap := h'' })
    (k : ∀ T oe oT b3 h'', Fr b3 L h'' m → News b3 L h'' (news ++ [(e, oe), (T, oT)]) → Exc e T oe oT → (∀ b o, b < L → b ∉ frs l → b ∉ news.map (·.1) → s'.heap.get? b = some o → b3.get? b = some o) →
      (∀ b ∈ frs l, ∀ o, s'.heap.get? b = some o → ∃ sl, b3.get? b = some { o with slots := sl }) → (∀ q ∈ news, q.1 ≠ e ∧ q.1 ≠ T) →
      wpAny (model prog w) (A.mark (some (.ref e))) (execs (b₀ :: suite) env) Q E { s' with heap := h'' })
    (hE : PassesOwnAt (model prog w) (A.mark (some (.ref e))) A env E := by passes_own) :
    wpAny (model prog w) A (noteFrame (.ref e) env) (fun _ s₂ => wpAny (model prog w) A (setFlight (.ref e) none) (fun _ s₃ => wpAny (model prog w) A (handleBy (.ref e) env (.ExceptHandler (some t) none (b₀ :: suite) pos :: rest)) Q E s₃) E s₂) E { s' with heap := h' } := by
  have hL : ∀ b ∈ frs l, b ∈ L :: frs l := fun b hb => .tail _ hb
  have up0 : s'.heap.UpToSlots h' := Heap.UpToSlots.of_keeps hx.keeps
  refine try_caught (B := hide (L :: frs l) s'.heap) (h := s'.heap) hfr hf (hide_keep _ _) (Heap.FunFrames.cons hkind hf F.ns (hide_none (.head _)) (ff_of hl (fun b _ o e _ => ⟨o, e, rfl⟩) fun b hb => hide_none (hL b hb))) hx
    (fun h'' Q' hs hu hq => hname h'' Q' hs (up0.trans hu) hq) (fun a0 h'' hfly hup => ?_) hE
  obtain ⟨f1, f2, f3, oe, vs, T, oT, ts, he, ⟨hc, h0⟩, hd, h1, hnT, hTe, hT, hdT, h3⟩ := hfly
  have up : s'.heap.UpToSlots h'' := up0.trans hup
  have ns : h''.Ns L m := up.ns F.ns
  have TL : T ≠ L := by
    rintro rfl
    obtain ⟨o, es, ep, ho, hd', _⟩ := ns
    rw [hT] at ho; cases ho; rw [hdT] at hd'; cases hd'
  have eL : e ≠ L := by
    rintro rfl
    obtain ⟨o, es, ep, ho, hd', _⟩ := F.ns
    rw [hx.new] at ho; cases ho
  have fe : ∀ b ∈ frs l, b ≠ e := fun b hb q => by
    obtain ⟨_, o, ho, _⟩ := hl.mem hb
    rw [q, hx.new] at ho; cases ho
  have fT : ∀ b ∈ frs l, b ≠ T := fun b hb q => by
    obtain ⟨_, o, ho, hdo⟩ := hl.mem hb
    obtain ⟨sl, hs⟩ := up b o ho hdo
    rw [q, hT] at hs
    have := Option.some.inj hs
    rw [this] at hdT
    exact hdo _ hdT
  have ne : ∀ q ∈ news, q.1 ≠ e := fun q hq z => by
    have := (hN q hq).1
    rw [z, hx.new] at this; cases this
  have nT : ∀ q ∈ news, q.1 ≠ T := fun q hq z => by
    obtain ⟨n1, n2, n3⟩ := hN q hq
    have : (hide (L :: frs l) s'.heap).get? q.1 = some q.2 := hide_some (by
      simp only [List.mem_cons, not_or]; exact ⟨Nat.ne_of_lt n2, n3⟩) n1
    rw [z, hnT] at this; cases this
  have keep : ∀ b o, b < L → b ∉ frs l → s'.heap.get? b = some o → h''.get? b = some o := fun b o h1 h2 e0 =>
    f1 b o (hide_some (by simp only [List.mem_cons, not_or]; exact ⟨Nat.ne_of_lt h1, h2⟩) e0)
  have notin : ∀ b o, b < L → b ∉ frs l → b ∉ news.map (·.1) → s'.heap.get? b = some o → b ∉ e :: T :: news.map (·.1) := fun b o h1 h2 h3 e0 => by
    simp only [List.mem_cons, not_or]
    refine ⟨fun q => ?_, fun q => ?_, h3⟩
    · rw [q, hx.new] at e0; cases e0
    · have : (hide (L :: frs l) s'.heap).get? b = some o := hide_some (by simp only [List.mem_cons, not_or]; exact ⟨Nat.ne_of_lt h1, h2⟩) e0
      rw [q, hnT] at this; cases this
  refine k T oe oT (trunc L (hide (e :: T :: news.map (·.1)) h'')) h'' ⟨ns, fun b o z => hide_keep _ _ b o (trunc_keep b o z), trunc_size _ _⟩ ?_ ⟨hTe, hc, vs, ts, hd, h1, hdT, h3, a0, h0⟩ ?_ ?_ fun q hq => ⟨ne q hq, nT q hq⟩
  · have nn : ∀ b ∈ e :: T :: news.map (·.1), (trunc L (hide (e :: T :: news.map (·.1)) h'')).get? b = none := fun b hb => trunc_keep.none_of (hide_none hb)
    intro q hq
    rcases List.mem_append.mp hq with hq | hq
    · obtain ⟨n1, n2, n3⟩ := hN q hq
      exact ⟨keep _ _ n2 n3 n1, Nat.ne_of_lt n2, nn _ (.tail _ (.tail _ (List.mem_map_of_mem hq)))⟩
    · rcases List.mem_cons.mp hq with rfl | hq
      · exact ⟨he, eL, nn _ (.head _)⟩
      · rcases List.mem_cons.mp hq with rfl | hq
        · exact ⟨hT, TL, nn _ (.tail _ (.head _))⟩
        · cases hq
  · intro b o hb hbf hbn e0
    rw [trunc_get hb]
    exact hide_some (notin b o hb hbf hbn e0) (keep b o hb hbf e0)
  · intro b hb o e0
    obtain ⟨_, o', ho', hdo⟩ := hl.mem hb
    rw [e0] at ho'; cases ho'
    obtain ⟨sl, hs⟩ := up b o e0 hdo
    refine ⟨sl, ?_⟩
    rw [trunc_get (hll b hb)]
    refine hide_some ?_ hs
    simp only [List.mem_cons, not_or]
    refine ⟨fe b hb, fT b hb, fun q => ?_⟩
    obtain ⟨q', hq', e'⟩ := List.mem_map.mp q
    exact (hN q' hq').2.2 (e' ▸ hb)
theorem raise_out {A' : Around} {env : Env} {l : List Env} {L e T : Addr} {oe oT : Obj} {b3 : Heap} {m : Str → Option Value} {news : List (Addr × Obj)} {pos : Pos} {Q : Flow → Shared → Prop} {R : Value → Shared → Prop} {E' : Value → Shared → Prop}
    (hh : A.handled = some (.ref e)) (hf : env.frame = some L) (hkind : env.scope.kind ≠ .module) (F : Fr b3 L s'.heap m) (N : News b3 L s'.heap news) (h1 : (e, oe) ∈ news) (h2 : (T, oT) ∈ news) (x : Exc e T oe oT)
    (hl : s'.heap.FunFrames (hide (frs l) b3) l)
    (hR : ∀ h', (hide (frs l) b3).StaysIn h' → s'.heap.UpToSlots h' → ({ s' with heap := h' } : Shared).TypeIs (.ref e) "StopIteration" → R (.ref e) { s' with heap := h' }) :
    wpAny (model prog w) A (exec (.Raise none none pos) env) Q (fun e s' => wpAny (model prog w) A' (leaving env e) (fun _ s'' => R e s'') E' s') s' := by
  obtain ⟨a0, fly⟩ := x.fly (B := hide (frs l) b3) (env := env) (l := l) F N h1 h2 (hide_keep _ _) ((hide_keep _ _).none_of (by
    cases q : b3.get? L with
    | none => rfl
    | some o => exact absurd (Heap.lt_size q) (Nat.not_lt_of_le F.above))) hf hkind hl
  exact raise_bare hh hf fly fun h1 H1 u1 => leaves_heldU hf H1 fun h2 f2 u2 => hR h2 f2.1 (u1.trans u2) f2.there
end
theorem ext_raise {l : List Env} {X : List Addr} {W : Addr → Prop} {V : Nat → Prop} {s s' : Shared} {base h4 h5 b3 : Heap} {L : Addr} {tk : Nat} (H : Holds X W s.heap s'.heap) (hsL : s.heap.objs.size ≤ L) (hl : s.heap.FunFrames base l)
    (hfX : ∀ f ∈ frs l, f ∉ X ∧ ¬ W f) (hb : ∀ b o, b < L → b ∉ frs l → b ∉ X → s'.heap.get? b = some o → b3.get? b = some o)
    (hf3 : ∀ b ∈ frs l, ∀ o, s'.heap.get? b = some o → ∃ sl, b3.get? b = some { o with slots := sl }) (k4 : KeepAll b3 h4) (hst : (hide (frs l) b3).StaysIn h5) (hu : h4.UpToSlots h5)
    (g : GExt V s.gens s'.gens s.os s'.os) : Ext (frs l) (fun b => b ∈ X ∨ W b) V s { s' with heap := h5, toks := tk } := by
  refine ⟨fun b o hbf hw e => ?_, fun b o hbf hw e => ?_, g.gens, g.gsize, g.bare, g.os⟩
  · exact hst b o (hide_some hbf (hb b o (Nat.lt_of_lt_of_le (Heap.lt_size e) hsL) hbf (fun q => hw (.inl q)) (H b o (fun q => hw (.inl q)) (fun q => hw (.inr q)) e)))
  · obtain ⟨_, o', ho', hdo⟩ := hl.mem hbf
    rw [e] at ho'; cases ho'
    obtain ⟨sl, h3⟩ := hf3 b hbf o (H b o (hfX b hbf).1 (hfX b hbf).2 e)
    obtain ⟨sl', h5'⟩ := hu b _ (k4 _ _ h3) hdo
    exact ⟨sl', h5'⟩
theorem ff_keep {l : List Env} {X : List Addr} {W : Addr → Prop} {base h h' : Heap} (H : Holds X W h h') (hl : h.FunFrames base l) (hfX : ∀ f ∈ frs l, f ∉ X ∧ ¬ W f) : h'.FunFrames base l :=
  ff_of hl (fun b hb o e _ => ⟨o, H b o (hfX b hb).1 (hfX b hb).2 e, rfl⟩) fun _ hb => (hl.mem hb).1
theorem ff_lt {l : List Env} {base h : Heap} {L : Addr} (hl : h.FunFrames base l) (hL : h.objs.size ≤ L) : ∀ f ∈ frs l, f < L := fun f hf => by
  obtain ⟨_, o, ho, _⟩ := hl.mem hf
  exact Nat.lt_of_lt_of_le (Heap.lt_size ho) hL
theorem fr_zero {b : Heap} {L : Addr} {m : Str → Option Value} {s s' : Shared} {own : List Addr} {W : Addr → Prop} {V : Nat → Prop} (F : Fr b L s.heap m) (x : Ext [] W V s s') (hW : ∀ a, W a → a ∈ own) (hown : ∀ a ∈ own, ∃ o, b.get? a = some o) : Fr (trunc 0 s'.heap) L s'.heap m :=
  ⟨x.ns (fun q => by
    obtain ⟨o, ho⟩ := hown L (hW L q)
    exact Nat.lt_irrefl _ (Nat.lt_of_lt_of_le (Heap.lt_size ho) F.above)) F.ns, trunc_keep, Nat.le_trans (trunc_size 0 _) (Nat.zero_le _)⟩
end Mine
end
section
open PySem PySem.W PyProof.Rows PySem.Builtin PySem.Builtin.ObjectAttr
set_option maxRecDepth 100000
set_option maxHeartbeats 8000000
namespace Mine
theorem entry_set_ga : entryFor table "set.__getattribute__" = some Builtin.«object.__getattribute__» :=
  entryFor_alias (id' := "object.__getattribute__") (by kernel_rfl) rfl (by decide +kernel) (by kernel_rfl)
theorem slot_md_get : Slot "method_descriptor" "__get__" "method_descriptor.__get__" :=
  .of (owner := "method_descriptor") (n := "__get__") (by rw [typeLookup_type, builtinLookup_eq_fast]; kernel_rfl) (by decide +kernel) (by decide +kernel) (by decide +kernel)
    (by first | exact .inl (by decide +kernel) | exact .inr (by decide +kernel)) (by rw [isSubtype_type]; kernel_rfl)
theorem entry_md_get : entryFor table "method_descriptor.__get__" = some Builtin.«method_descriptor.__get__» := entryFor_of_tree (by kernel_rfl)
theorem args_md_get (a b c : Value) : argsOk "method_descriptor.__get__" ⟨[a, b, c], []⟩ := by unfold argsOk; kernel_rfl
theorem lk_md_set : typeLookup (.type "method_descriptor") "__set__" = pure none := by rw [typeLookup_type, builtinLookup_eq_fast]; kernel_rfl
theorem lk_md_delete : typeLookup (.type "method_descriptor") "__delete__" = pure none := by rw [typeLookup_type, builtinLookup_eq_fast]; kernel_rfl
section
variable {prog : Program} {w : World} {A : Around} {E : Value → Shared → Prop} {s : Shared}
theorem getAttr_contains {S : Addr} {o : Obj} {es : Array (Int × Value)} {ep : Nat} {tb : SetTable} {Q : Value → Shared → Prop} (hS : s.heap.get? S = some o) (hex : o.ExactSet) (hd : o.data = .set es ep tb)
    (h : Q (.ref s.heap.objs.size) { s with heap := s.heap.push { cls := .type "builtin_function_or_method", data := .fields #[.builtin "set.__contains__", .ref S] }, toks := s.toks + 1 }) :
    wpAny (model prog w) A (getAttr (.ref S) "__contains__" true) Q E s := by
  obtain ⟨hc, hdi, hsl⟩ := hex
  obtain ⟨hp, g, d, tk, os⟩ := s
  have hT : ∀ k, ({ heap := hp, gens := g, drawn := d, toks := k, os := os } : Shared).TypeIs (.ref S) "set" := fun k => ⟨o, hS, hc⟩
  have h1 := F.slot_set_getattribute.lookup
  have h2 := F.slot_set_contains.lookup
  have h3 := F.slot_set_getattribute.bind (.ref S)
  have h4 := F.type_set_contains
  have h5 := slot_md_get.lookup
  have h6 := lk_md_set
  have h7 := lk_md_delete
  unfold getAttr getAttrBy getAttrByItsOwn hookBefore callGetattribute boundAndCalled
  repeat (first | (with_reducible refine wpAny_loadPart_at hS ?_; rw [hc]) | (rw [h1]) | wp_step)
  refine codeAny_call_builtin F.slot_set_getattribute.plain entry_set_ga (F.slot_set_getattribute.check _ _ _ _ _ _ _ _ (hT _) (F.args_set_getattribute_2 _ _) ?_)
  unfold Builtin.«object.__getattribute__» slotArgs
  repeat (first | (with_reducible refine wpAny_loadPart_at hS ?_; rw [hc]) | (rw [h2]) | (rw [h4]) | (rw [h5]) | (rw [h6]) | (rw [h7]) | wp_step)
  rw [hd]
  dsimp only
  unfold instanceDict
  repeat (first | (with_reducible refine wpAny_loadPart_at hS ?_; rw [hc]) | (rw [hdi]) | wp_step)
  refine codeAny_call_builtin slot_md_get.plain entry_md_get (slot_md_get.check _ _ _ _ _ _ _ _ F.type_set_contains (args_md_get _ _ _) ?_)
  unfold Builtin.«method_descriptor.__get__»
  refine wpAny_bind (wpAny_of_eq (a := (.builtin "set.__contains__", some (.ref S), some (.type "set"))) (by first | rfl | kernel_rfl) ?_)
  dsimp only
  rw [if_neg (by decide +kernel)]
  refine wpAny_bind (wpAny_bind (wpAny_of_eq (a := ((Str.ofString "__contains__"), Value.type "set")) (by first | rfl | kernel_rfl) ?_))
  dsimp only
  refine wpAny_bind (wpAny_isInstance (hT _) (b := true) sub_set_self ?_)
  rw [if_neg (by decide)]
  refine wpAny_pure ?_
  refine wpAny_bind (wpAny_newObj_type ?_)
  refine wpAny_pure ?_
  dsimp only
  refine wpAny_pure ?_
  dsimp only
  exact wpAny_pure h
end
end Mine
end
section
open PySem PySem.W PyProof.Rows PySem.Builtin PySem.Builtin.ObjectAttr
set_option maxRecDepth 100000
set_option maxHeartbeats 8000000
namespace Mine
theorem sub_set_module : isSubtype (.type "set") (.type "module") = pure false := by rw [isSubtype_type]; kernel_rfl
theorem sig_sc : Manifest.signature? "set.__contains__" = some ⟨.oneArg, "set.__contains__", "__contains__", .self, [⟨"object", .posOnly, true⟩]⟩ := by kernel_rfl
theorem kind_sc : builtinKind "set.__contains__" = some .method := by decide +kernel
abbrev boundSet (S : Addr) : Obj := { cls := .type "builtin_function_or_method", data := .fields #[.builtin "set.__contains__", .ref S] }
section
variable {prog : Program} {w : World} {A : Around} {E : Value → Shared → Prop} {s : Shared}
theorem check_bound_contains {M : Model} {S : Addr} {v : Value} {Q : Unit → Shared → Prop} {o : Obj} {es : Array (Int × Value)} {ep : Nat} {tb : SetTable} (hS : s.heap.get? S = some o) (hex : o.ExactSet) (hd : o.data = .set es ep tb) (hQ : Q () s) :
    wpAny M A (checkBoundCall "set.__contains__" ⟨[.ref S, v], []⟩) Q E s := by
  obtain ⟨hc, hdi, hsl⟩ := hex
  obtain ⟨hp, g, d, tk, os⟩ := s
  have hT : ({ heap := hp, gens := g, drawn := d, toks := tk, os := os } : Shared).TypeIs (.ref S) "set" := ⟨o, hS, hc⟩
  simp only [checkBoundCall, sig_sc, kind_sc]
  rw [if_neg (by decide)]
  refine wpAny_bind (wpAny_isInstance hT (b := false) sub_set_module ?_)
  rw [if_neg (by decide +kernel)]
  refine wpAny_bind ?_
  simp only [isType]
  repeat (first | (with_reducible refine wpAny_loadPart_at hS ?_; rw [hc]) | wp_step)
  exact hQ
theorem call_boundSet {q S : Addr} {y : Str} {t : Tok} {Sm : Str → Bool} {n : Nat} {Q : Value → Shared → Prop} (hq : s.heap.get? q = some (boundSet S)) (hS : s.heap.SetOf (strKind prog w) S Sm n)
    (h : Q (.bool (Sm y)) { s with toks := s.toks + 1 }) : wpAny (model prog w) A (PySem.call (.ref q) [.str y t]) Q E s := by
  obtain ⟨o, es, ep, tb, ho, hex, hd, _⟩ := id hS
  obtain ⟨hh, g, dr, tk, os⟩ := s
  refine wpAny_call (codeAny_of_tree ?_)
  show wpAny _ _ (callAny (.ref q) _) _ _ _
  dsimp only at hq
  refine nd_load hq ?_
  refine wpAny_bind (wpAny_pure ?_)
  dsimp only
  rw [if_pos (by decide +kernel)]
  simp only [List.getElem?_toArray, List.getElem?_cons_zero, List.getElem?_cons_succ]
  rw [if_pos (by decide +kernel)]
  refine wpAny_bind (check_bound_contains ho hex hd ?_)
  refine wpAny_pure ⟨plainId_quiet (by decide +kernel) _, codeAny_builtin entry_set_contains ?_⟩
  rw [Around.under_plainId (by decide +kernel) _]
  unfold Builtin.«frozenset.__contains__» Builtin.Frozenset.oneOther
  simp only [List.isEmpty_nil, bind_assoc]
  unfold Builtin.Frozenset.addrOf Builtin.Frozenset.withSetAsKey setContains
  refine wpAny_bind (wpAny_pure ?_)
  try dsimp only
  refine wpAny_bind (wpAny_pure ?_)
  try dsimp only
  refine wpAny_bind (wpAny_tryCatch ?_)
  refine wpAny_holding ?_
  refine wpAny_bind ((strKind prog w).pyHash (strKind_is _ _ _ _) ?_)
  refine wpAny_bind (wpAny_setFind_of (knd := strKind prog w) (strKind_is _ _ _ _) rfl hS fun r hr => ?_)
  refine wpAny_pure ?_
  show wpAny _ _ (ret (Value.bool r.isSome)) _ _ _
  rw [hr]
  exact wpAny_pure h
def metSet (xs : List Str) : List Str := xs.foldl (fun σ x => if σ.any (· == x) then σ else σ ++ [x]) []
end
end Mine
end
section
open PySem PySem.W PyProof.Rows PySem.Builtin PySem.Builtin.ObjectAttr
set_option maxRecDepth 100000
set_option maxHeartbeats 8000000
namespace Mine
structure Both (P T : Prop) : Prop where
  one : P
  two : T
structure Box (P : Prop) : Prop where
  out : P
abbrev boundOf (vs : Array Value) : Obj := { cls := .type "builtin_function_or_method", data := .fields vs }
section
variable {M : Model} {A : Around} {E : Value → Shared → Prop} {s : Shared}
theorem callWith_boundB {pos : Pos} {u : Addr} {vs : Array Value} {first : List Value} {env : Env} {e : Expr} {rest : List Expr} {Q : Value → Shared → Prop}
    (h : wpAny M A (spliced (backTo pos (starEach (e :: rest) env))) (fun xs s₁ => Both (s₁.heap.get? u = some (boundOf vs)) (wpAny M A (PySem.call (.ref u) (first ++ xs)) Q E s₁)) E s)
    (he : starEach (e :: rest) env = (false, eval e env) :: starEach rest env := by rfl) (hplain : (backTo pos (starEach rest env)).any (·.1) = false := by rfl) :
    wpAny M A (callWith pos (.ref u) first (backTo pos (starEach (e :: rest) env)) []) Q E s := by
  rw [he] at h ⊢
  have hp : (backTo pos ((false, eval e env) :: starEach rest env)).any (·.1) = false := by show (false || (backTo pos (starEach rest env)).any (·.1)) = false; rw [hplain]; rfl
  unfold callWith
  refine wpAny_bind (wpAny_holding (wpAny_mono (Calls.evalArgs_plain h : wpAny M A (evalArgs (.ref u) true _ []) (fun x s₁ => Both (s₁.heap.get? u = some (boundOf vs)) (wpAny M A (PySem.call (.ref u) (first ++ x.pos) x.kw) Q E s₁)) E s) (fun x s₁ h₁ => wpAny_bind (wpAny_standAt ?_)) fun _ _ x => x))
  obtain ⟨ho, hcall⟩ := h₁
  simp only [hp, List.any_nil, Bool.or_false]
  refine wpAny_bind (m := keeperOf (.ref u)) ?_
  unfold keeperOf
  refine wpAny_bind (wpAny_load ho ?_)
  simp only [show (Value.type "builtin_function_or_method" != Value.type "method") = true by decide, show (Value.type "builtin_function_or_method" == Value.type "builtin_function_or_method" || Value.type "builtin_function_or_method" == Value.type "method-wrapper") = true by decide, if_true]
  refine wpAny_pure ?_
  exact wpAny_bind (wpAny_mono hcall (fun r s₂ hr => wpAny_bind (wpAny_holding (wpAny_point (wpAny_pure hr)))) fun _ _ x => x)
end
theorem setOf_keep {prog : Program} {w : World} {K : Type} [DecidableEq K] {knd : KeyKind prog w K} {h h' : Heap} {a : Addr} {S : K → Bool} {n : Nat} (x : h.SetOf knd a S n) (k : KeepAll h h') : h'.SetOf knd a S n :=
  let ⟨o, es, ep, t, ho, rest⟩ := x; ⟨o, es, ep, t, k _ _ ho, rest⟩
theorem dictOf_keep {prog : Program} {w : World} {K : Type} [DecidableEq K] {knd : KeyKind prog w K} {h h' : Heap} {a : Addr} {kvs : List (K × Value)} (x : h.DictOf knd a kvs) (k : KeepAll h h') : h'.DictOf knd a kvs :=
  let ⟨o, es, ep, ho, rest⟩ := x; ⟨o, es, ep, k _ _ ho, rest⟩
end Mine
end
section
open PySem PySem.W PyProof.Rows
set_option maxRecDepth 100000
set_option maxHeartbeats 8000000
namespace Mine
def overlay (C : List Addr) (b h : Heap) : Heap := { h with objs := h.objs.mapIdx fun i o => if i ∈ C then o else (b.get? i).getD { o with data := .freed } }
theorem overlay_size (C : List Addr) (b h : Heap) : (overlay C b h).objs.size = h.objs.size := by simp [overlay]
theorem overlay_objs (C : List Addr) (b h : Heap) (a : Addr) : (overlay C b h).objs[a]? = h.objs[a]?.map fun o => if a ∈ C then o else (b.get? a).getD { o with data := .freed } := by
  show (h.objs.mapIdx _)[a]? = _
  rw [Array.getElem?_mapIdx]
theorem overlay_on {C : List Addr} {b h : Heap} {a : Addr} (ha : a ∈ C) : (overlay C b h).get? a = h.get? a := by
  rw [get?_unFreed, get?_unFreed, overlay_objs]
  cases h.objs[a]? with
  | none => rfl
  | some o => simp only [Option.map_some, if_pos ha]
theorem unFreed_get (h : Heap) (a : Addr) (o : Obj) (e : h.get? a = some o) : unFreed (some o) = some o := by
  have e2 := e
  rw [get?_unFreed] at e2
  cases q : h.objs[a]? with
  | none => rw [q] at e2; cases e2
  | some o' =>
    rw [q] at e2
    have : o' = o := by
      obtain ⟨c, d, dt, sl⟩ := o'
      cases dt <;> first | exact Option.some.inj e2 | cases e2
    rw [this] at e2; exact e2
theorem overlay_off {C : List Addr} {b h : Heap} {a : Addr} (ha : a ∉ C) (k : KeepAll b h) : (overlay C b h).get? a = b.get? a := by
  rw [get?_unFreed, overlay_objs]
  by_cases q : a < h.objs.size
  · rw [Array.getElem?_eq_getElem q]
    simp only [Option.map_some, if_neg ha]
    cases e : b.get? a with
    | none => rfl
    | some o => exact unFreed_get b a o e
  · rw [Array.getElem?_eq_none (Nat.le_of_not_lt q)]
    cases e : b.get? a with
    | none => rfl
    | some o => exact absurd (Heap.lt_size (k a o e)) q
theorem overlay_keep {C : List Addr} {b h : Heap} (k : KeepAll b h) : KeepAll (overlay C b h) h := fun a o e => by
  by_cases q : a ∈ C
  · rw [overlay_on q] at e; exact e
  · rw [overlay_off q k] at e; exact k a o e
theorem keep_overlay {C : List Addr} {b h : Heap} (hC : ∀ a ∈ C, b.get? a = none) (k : KeepAll b h) : KeepAll b (overlay C b h) := fun a o e => by
  rw [overlay_off (fun q => by rw [hC a q] at e; cases e) k]; exact e
section
variable {prog : Program} {w : World}
theorem InIt.up {it : Addr} {base be : Heap} {W : Addr → Prop} {V : Nat → Prop} {own : List Addr} {R : List Str → Shared → Prop} (I : InIt prog w it base W V own R) (k : KeepAll base be) (ho : ∀ b ∈ own, be.get? b = none) : InIt prog w it be W V own R where
  look := I.look
  cons := fun dp un fr gd y ys s Q E hd hu hk => I.cons dp un fr gd y ys s Q E hd hu (k.trans hk)
  nil := fun dp un fr gd s Q E hd hu hk => I.nil dp un fr gd s Q E hd hu (k.trans hk)
  keeps := I.keeps
  there := I.there
  sub := I.sub
  itn := I.itn
  off := ho
theorem OwnIt.up {x : Addr} {base be : Heap} {W : Addr → Prop} {V : Nat → Prop} {own : List Addr} {R : List Str → Shared → Prop} (I : OwnIt prog w x base W V own R) (k : KeepAll base be) (ho : ∀ b ∈ own, be.get? b = none) : OwnIt prog w x be W V own R where
  cons := fun dp un l gd y ys s Q E hd hu hk hl hf => I.cons dp un l gd y ys s Q E hd hu (k.trans hk) hl (ff_of hf (fun b _ o e _ => ⟨o, e, rfl⟩) fun b hb => k.none_of (hf.mem hb).1)
  nil := fun dp un l gd s Q E hd hu hk hl hf => I.nil dp un l gd s Q E hd hu (k.trans hk) hl (ff_of hf (fun b _ o e _ => ⟨o, e, rfl⟩) fun b hb => k.none_of (hf.mem hb).1)
  iter := fun dp un l gd xs s Q E hd hu hk => I.iter dp un l gd xs s Q E hd hu (k.trans hk)
  typ := fun xs s A Q E hk => I.typ xs s A Q E (k.trans hk)
  nolen := fun xs s A Q E hk => I.nolen xs s A Q E (k.trans hk)
  nohint := fun xs s A Q E hk => I.nohint xs s A Q E (k.trans hk)
  keeps := I.keeps
  there := I.there
  sub := I.sub
  itn := I.itn
  off := ho
end
end Mine
end
section
open PySem PySem.W PyProof.Rows
set_option maxRecDepth 100000
set_option maxHeartbeats 8000000
namespace Mine
section
variable {prog : Program} {w : World} {A : Around} {E : Value → Shared → Prop} {env : Env}
def CompTurn (prog : Program) (w : World) (A : Around) (cenv : Env) (x : Str) (px : Pos) (elt : Expr) (D : Addr) (J : Nat → Shared → Prop) (End : Shared → Prop) (n : Nat) (r : Option Value) (s₁ : Shared) : Prop :=
  match r with
  | none => End s₁
  | some v => wpAny (model prog w) A (assign (.Name x px) cenv v) (fun _ s₂ => wpAny (model prog w) A (eval elt cenv) (fun y s₃ =>
      wpAny (model prog w) A (PySem.call (.builtin "list.append") [.ref D, y]) (fun _ s₄ => ∃ k, k < n ∧ J k s₄) (fun _ _ => False) s₃) (fun _ _ => False) s₂) (fun _ _ => False) s₁
theorem comp_loop {elt iter : Expr} {x : Str} {px : Pos} {scope : Scope} {pos : Pos} {it : Value} {D : Addr} {cenv : Env} {s : Shared} {R : Result → Shared → Prop} (J : Nat → Shared → Prop)
    (turn : ∀ n s, J n s → wpAny (model prog w) A (pyNext it) (CompTurn prog w A cenv x px elt D J (R (.ok .next)) n) (fun _ _ => False) s) (n : Nat) (h : J n s) :
    codeAny (model prog w) A (.compLoop (.ListComp elt [⟨.Name x px, iter, [], 0⟩] scope pos) 0 it (.ref D) cenv) R s := by
  refine codeAny_compLoop_list J (fun n s hJ => ?_) n h
  refine wpAny_mono (turn n s hJ) (fun r s₁ h₁ => ?_) fun _ _ f => f.elim
  cases r with
  | none => exact h₁
  | some v => exact wpAny_mono h₁ (fun _ s₂ h₂ => wpAny_mono h₂ (fun y s₃ h₃ => wpAny_mono h₃ (fun _ _ h => h) fun _ _ f => f.elim) fun _ _ f => f.elim) fun _ _ f => f.elim
abbrev emptyList : Obj := { cls := .type "list", dict := none, data := .seq #[] }
theorem comp_list {elt iter : Expr} {x : Str} {px : Pos} {scope : Scope} {cl : List (Str × Addr)} {pos : Pos} {use : Option (Value → Sem Unit)} {Q : Value → Shared → Prop} {s : Shared} {p2 : Pos}
    (hclos : closureFor scope env = pure cl) (hcell : ∀ y ∈ scope.names, y.2 ≠ .cell) (hkind : scope.kind = .function) (hnames : ∀ y ∈ scope.names, y.2 = .local → scope.names.lookup y.1 = some .local)
    (hs : ∀ x, foldedSetIterable iter env x = pure x)
    (h : wpAny (model prog w) A (eval iter env) (fun xv s₁ => wpAny (model prog w) A (pyIter xv) (fun it s₂ =>
      ∀ D C h₃ tk oC, s₂.heap.get? D = none → s₂.heap.get? C = none → D < C → (∀ b o, s₂.heap.get? b = some o → b < D) → KeepAll s₂.heap h₃ → h₃.get? D = some emptyList → h₃.get? C = some oC → h₃.Ns C (fun _ => none) →
        ∃ J : Nat → Shared → Prop, ∃ n, J n { s₂ with heap := h₃, toks := tk } ∧
          (∀ n s', J n s' → wpAny (model prog w) A (pyIter it) (fun it' s'' => it' = it ∧ J n s'') (fun _ _ => False) s') ∧
          ∀ n s', J n s' → wpAny (model prog w) A (pyNext it) (CompTurn prog w A (compEnvC scope cl C env) x px elt D J (compPost (model prog w) A E use Q (.ref D) C (.ok .next)) n) (fun _ _ => False) s') E s₁) E s) :
    wpAny (model prog w) A (comprehension (.ListComp elt [⟨.Name x px, iter, [], 0⟩] scope pos) scope env p2 (newList []) false (eval iter env) use) Q E s := by
  refine wpAny_comprehension_free rfl hs hclos hkind hnames (wpAny_mono h (fun xv s₁ h₁ => wpAny_mono h₁ (fun it s₂ h₂ => ?_) fun _ _ e => e) fun _ _ e => e)
  refine wpAny_newObj_type (wpAny_newFunctionEnv hcell (by intro y hy; simp at hy) (fun h₁ hns₁ hsb₁ => ?_) hkind)
  have kp : KeepAll s₂.heap (s₂.heap.push { cls := .type "list", dict := none, data := .seq ([] : List Value).toArray }) := fun b o e => Heap.get?_push_of_some _ e
  have kh : KeepAll (s₂.heap.push { cls := .type "list", dict := none, data := .seq ([] : List Value).toArray }) h₁ := fun b o e => hsb₁.extBut b o (Nat.ne_of_lt (Heap.lt_size e)) (Heap.get?_push_of_some _ e)
  have hC : (s₂.heap.push { cls := .type "list", dict := none, data := .seq ([] : List Value).toArray }).objs.size = s₂.heap.objs.size + 1 := Heap.size_push ..
  obtain ⟨oC, es, ep, hoC, hrest⟩ := id hns₁
  obtain ⟨J, n, h0, hit, turn⟩ := h₂ s₂.heap.objs.size _ h₁ _ oC (get?_size_none _ (Nat.le_refl _)) (get?_size_none _ (by rw [hC]; exact Nat.le_succ _)) (by rw [hC]; exact Nat.lt_succ_self _) (fun b o e => Heap.lt_size e) (kp.trans kh) (kh _ _ (Heap.get?_push_size _ rfl)) hoC hns₁
  refine codeAny_compStart_list (comp_loop J turn n h0) (wpAny_mono (hit n _ h0) (fun it' s' h' => ?_) fun _ _ f => f.elim)
  obtain ⟨rfl, h'⟩ := h'
  exact comp_loop J turn n h'
end
end Mine
end
section
open PySem PySem.W PyProof.Rows
set_option maxRecDepth 100000
set_option maxHeartbeats 8000000
namespace Mine
section
variable {prog : Program} {w : World} {A : Around} {E : Value → Shared → Prop} {env : Env}
def ForTurn (prog : Program) (w : World) (A : Around) (env : Env) (target : Expr) (it : Value) (body : List Stmt) (J : Nat → Shared → Prop) (Q : Flow → Shared → Prop) (n : Nat) (r : Option Value) (s₁ : Shared) : Prop :=
  match r with
  | none => Q .next s₁
  | some v => wpAny (model prog w) A (letOwnedTupleGo target it v) (fun _ s₂ => wpAny (model prog w) A (assign target env v) (fun _ s₃ => wpAny (model prog w) A (execs body env) (fun f s₄ => match f with
      | .next => ∃ k, k < n ∧ J k s₄
      | .cont => ∃ k, k < n ∧ J k s₄
      | .brk => Q .next s₄
      | .ret v => Q (.ret v) s₄) (fun _ _ => False) s₃) (fun _ _ => False) s₂) (fun _ _ => False) s₁
theorem for_loop {target : Expr} {it : Value} {body : List Stmt} {s : Shared} {Q : Flow → Shared → Prop} {Ee : Value → Shared → Prop} (J : Nat → Shared → Prop)
    (turn : ∀ n s, J n s → wpAny (model prog w) A (pyNext it) (ForTurn prog w A env target it body J Q n) (fun _ _ => False) s) (n : Nat) (h : J n s) :
    codeAny (model prog w) A (.forLoop target it body [] env) (fun r s' => match r with | .ok f => Q f s' | .error e => Ee e s') s := by
  refine codeAny_loop' rfl J (fun n s hJ => ?_) n h
  show wpAny _ _ ((forTurn target it body [] env).onRaise (fun x => do noteFrame x env; theTreesLotGoes x)) _ _ s
  refine wpAny_noted ?_
  simp only [forTurn]
  refine wpAny_bind (wpAny_standAt (wpAny_bind (wpAny_onRaise (wpAny_mono (turn n s hJ) (fun r s₁ h₁ => ?_) fun _ _ f => f.elim))))
  cases r with
  | none => exact wpAny_pure (.inr ⟨rfl, codeAny_block (wpAny_execs_nil h₁)⟩)
  | some v =>
    refine wpAny_bind (wpAny_mono h₁ (fun _ s₂ h₂ => wpAny_bind (wpAny_mono h₂ (fun _ s₃ h₃ => wpAny_bind (wpAny_mono h₃ (fun f s₄ h₄ => ?_) fun _ _ f => f.elim)) fun _ _ f => f.elim)) fun _ _ f => f.elim)
    cases f with
    | next => exact wpAny_pure (.inl ⟨rfl, h₄⟩)
    | cont => exact wpAny_pure (.inl ⟨rfl, h₄⟩)
    | brk => exact wpAny_pure h₄
    | ret v => exact wpAny_pure h₄
theorem for_stmt {target iter : Expr} {body : List Stmt} {pos : Pos} {Q : Flow → Shared → Prop} {s : Shared}
    (h : wpAny (model prog w) A (eval iter env) (fun xv s₁ => wpAny (model prog w) A (pyIter xv) (fun it s₂ =>
      ∃ J : Nat → Shared → Prop, ∃ n, J n s₂ ∧ ∀ n s', J n s' → wpAny (model prog w) A (pyNext it) (ForTurn prog w A env target it body J Q n) (fun _ _ => False) s') E s₁) E s)
    (hs : ∀ x, foldedSetIterable iter env x = pure x := by intro _; rfl) :
    wpAny (model prog w) A (exec (.For target iter body [] pos) env) Q E s := by
  refine wpAny_For (wpAny_mono h (fun xv s₁ h₁ => wpAny_mono h₁ (fun it s₂ h₂ => ?_) fun _ _ e => e) fun _ _ e => e) hs
  obtain ⟨J, n, h0, turn⟩ := h₂
  exact for_loop J turn n h0
end
end Mine
end
section
open PySem PySem.W PyProof.Rows PySem.Builtin PySem.Builtin.Str
set_option maxRecDepth 100000
set_option maxHeartbeats 8000000
namespace Mine
abbrev S (l : List Nat) : Str := ⟨l.toArray⟩
theorem S_of (x : Str) : x = S x.cps.toList := by cases x; simp [S]
theorem S_len (l : List Nat) : (S l).length = l.length := by simp [Str.length]
theorem S_app (a b : List Nat) : S a ++ S b = S (a ++ b) := by
  show Str.append _ _ = _
  simp [S, Str.append]
theorem S_inj {a b : List Nat} (h : S a = S b) : a = b := by
  have : a.toArray = b.toArray := congrArg Str.cps h
  simpa using this
def cutR (p : Nat → Bool) (l : List Nat) : List Nat := l.take (l.length - (l.reverse.takeWhile p).length)
theorem rstrip_S (l : List Nat) (y : Str) : Txt.rstripChars (S l) y = S (cutR y.cps.contains l) := by
  have h1 : stripLo y.cps.contains false (S l) = 0 := rfl
  have h2 : stripHi y.cps.contains true (S l) 0 = l.length - (l.reverse.takeWhile y.cps.contains).length := by
    simp only [stripHi, if_true, S_len, List.drop_zero]
  unfold Txt.rstripChars Txt.stripBy
  split
  · rename_i h
    unfold stripSame at h
    rw [h1, h2, Bool.and_eq_true] at h
    have h3 := h.2
    rw [beq_iff_eq, S_len] at h3
    unfold cutR
    rw [h3, List.take_length]
  · unfold PySem.stripped
    rw [h1, h2, strSub_mk]
    simp [cutR, S]
theorem cutR_app_all {p : Nat → Bool} {a b : List Nat} (hb : ∀ c ∈ b, p c = true) : cutR p (a ++ b) = cutR p a := by
  unfold cutR
  have : ((a ++ b).reverse.takeWhile p) = b.reverse ++ a.reverse.takeWhile p := by
    rw [List.reverse_append, List.takeWhile_append_of_pos (by simpa using hb)]
  rw [this, List.length_append, List.length_append, List.length_reverse]
  have e : a.length + b.length - (b.length + (a.reverse.takeWhile p).length) = a.length - (a.reverse.takeWhile p).length := by rw [Nat.add_comm, Nat.add_sub_add_left]
  rw [e, List.take_append_of_le_length (Nat.sub_le _ _)]
theorem cutR_last {p : Nat → Bool} {a : List Nat} {c : Nat} (hc : p c = false) : cutR p (a ++ [c]) = a ++ [c] := by
  unfold cutR
  rw [List.reverse_append]
  have e : (([c] : List Nat).reverse ++ a.reverse).takeWhile p = [] := by simp [hc]
  rw [e, List.length_nil, Nat.sub_zero, List.take_length]
theorem cutR_nil {p : Nat → Bool} : cutR p [] = [] := rfl
theorem cutR_all {p : Nat → Bool} {b : List Nat} (hb : ∀ c ∈ b, p c = true) : cutR p b = [] := by
  have := cutR_app_all (p := p) (a := []) hb
  rw [List.nil_append, cutR_nil] at this
  exact this
theorem of_slash : (Str.ofString "/") = S [47] := by decide
theorem of_dot : (Str.ofString ".") = S [46] := by decide
theorem slice_to (l : List Nat) {i : Nat} (hi : i ≤ l.length) : Txt.slice (S l) none (some (i : Int)) = S (l.take i) := by
  have e : strSliceIndices none (some (i : Int)) 1 (S l).length = strSliceIndices (some ((0 : Nat) : Int)) (some (i : Int)) 1 (S l).length := by
    have e1 : max (0 : Int) (min ((0 : Nat) : Int) ((S l).length : Int)) = 0 := by omega
    simp only [strSliceIndices, show ((1 : Int) > 0) = True from by simp, if_true, show ¬ (((0 : Nat) : Int) < 0) from by omega, if_false, e1]
  have hl : i ≤ (S l).length := by rw [S_len]; exact hi
  have h2 := StrLaws.sliced_plain (S l) (Nat.zero_le i) hl
  unfold Txt.slice
  rw [e]
  split
  · rename_i h
    have h3 := StrLaws.strSliceIndices_plain (Nat.zero_le i) hl
    rw [h3] at h
    simp only [List.length_map, List.length_range, Nat.sub_zero, Bool.and_eq_true, beq_iff_eq] at h
    rw [S_len] at h
    rw [h.2, List.take_length]
  · rw [h2]
    simp [S]
theorem subAt_slash {l : List Nat} {i : Nat} : StrLaws.At (S l) (S [47]) (S l).length i ↔ l[i]? = some 47 := by
  unfold StrLaws.At subAt
  rw [S_len, S_len]
  simp only [List.length_singleton]
  constructor
  · rintro ⟨h1, h2⟩
    rw [beq_iff_eq] at h2
    have := congrArg Array.toList h2
    simp only [Array.toList_extract, List.extract_eq_take_drop] at this
    have e : i + 1 - i = 1 := by omega
    rw [e] at this
    have hlt : i < l.length := by omega
    rw [List.drop_eq_getElem_cons hlt, List.take_succ_cons, List.take_zero] at this
    have this' : [l[i]] = [47] := this
    injection this' with h _
    rw [List.getElem?_eq_getElem hlt, h]
  · intro h
    obtain ⟨hlt, he⟩ := List.getElem?_eq_some_iff.mp h
    refine ⟨by omega, ?_⟩
    rw [beq_iff_eq]
    apply Array.ext'
    simp only [Array.toList_extract, List.extract_eq_take_drop]
    have e : i + 1 - i = 1 := by omega
    rw [e, List.drop_eq_getElem_cons hlt, he]
    simp
theorem rfind_none {l : List Nat} (h : 47 ∉ l) : Txt.rfind (S l) (S [47]) = -1 := by
  rcases rfind_whole (S l) (S [47]) with ⟨h0, _⟩ | ⟨i, _, hi, _⟩
  · exact h0
  · rw [subAt_slash] at hi
    exact absurd (List.mem_of_getElem? hi) h
theorem rfind_at {u d : List Nat} (h : 47 ∉ d) : Txt.rfind (S (u ++ 47 :: d)) (S [47]) = (u.length : Int) := by
  have hat : StrLaws.At (S (u ++ 47 :: d)) (S [47]) (S (u ++ 47 :: d)).length u.length := by
    rw [subAt_slash]; simp
  rcases rfind_whole (S (u ++ 47 :: d)) (S [47]) with ⟨_, hn⟩ | ⟨i, h0, hi, hn⟩
  · exact absurd hat (hn _)
  · rw [h0]
    rw [subAt_slash] at hi
    have : i = u.length := by
      rcases Nat.lt_trichotomy i u.length with q | q | q
      · exact absurd hat (hn _ q)
      · exact q
      · rw [List.getElem?_append_right (by omega), List.getElem?_cons] at hi
        rw [if_neg (by omega)] at hi
        exact absurd (List.mem_of_getElem? hi) h
    rw [this]
theorem mul_S (c : Nat) (n : Nat) : Txt.mul (S [c]) (n : Int) = S (List.replicate n c) := by
  unfold Txt.mul
  by_cases h0 : (n : Int) < 1
  · rw [if_pos h0]
    have : n = 0 := by omega
    subst this; rfl
  · rw [if_neg h0]
    by_cases h1 : (n : Int) = 1
    · have : n = 1 := by omega
      subst this
      rw [if_pos (by simp)]; rfl
    · rw [if_neg (by simp [Str.length, h1])]
      have : ∀ (k : Nat) (acc : Array Nat), ((List.replicate k (#[c] : Array Nat)).foldl (· ++ ·) acc).toList = acc.toList ++ List.replicate k c := by
        intro k
        induction k with
        | zero => intro acc; simp
        | succ k ih => intro acc; rw [List.replicate_succ, List.foldl_cons, ih]; simp [List.replicate_succ]
      have e := this n #[]
      simp only [Int.toNat_natCast]
      show (⟨(List.replicate n (S [c]).cps).foldl (· ++ ·) #[]⟩ : Str) = _
      have e2 : (List.replicate n (S [c]).cps).foldl (· ++ ·) #[] = (List.replicate n c).toArray := by
        apply Array.ext'
        rw [e]; simp
      rw [e2]
def splitHead (x : Str) : Str :=
  let h := Txt.slice x none (some (Txt.rfind x (Str.ofString "/") + 1))
  if (h.length : Int) ≠ 0 ∧ (h != Txt.mul (Str.ofString "/") h.length) = true then Txt.rstripChars h (Str.ofString "/") else h
theorem splitHead_len (x : Str) : (splitHead x).length ≤ x.length := by
  have h1 := Txt.slice_le x none (some (Txt.rfind x (Str.ofString "/") + 1))
  have h2 := len_rstripChars (Txt.slice x none (some (Txt.rfind x (Str.ofString "/") + 1))) (Str.ofString "/")
  unfold splitHead
  dsimp only
  split <;> omega
def bare (x : Str) : Str := Txt.rstripChars x (Str.ofString "/")
def moreOf (x : Str) : Bool := decide (((bare x).length : Int) ≠ 0)
abbrev AncComes := Comes moreOf splitHead
theorem bare_S (l : List Nat) : bare (S l) = S (cutR (· == 47) l) := by
  unfold bare
  rw [rstrip_S, of_slash]
  congr 2
  funext c
  show ([47] : List Nat).toArray.contains c = (c == 47)
  simp
  rw [Bool.eq_iff_iff]
  simp
theorem moreOf_S (l : List Nat) : moreOf (S l) = !(cutR (· == 47) l).isEmpty := by
  unfold moreOf
  rw [bare_S, S_len]
  cases cutR (· == 47) l with
  | nil => simp
  | cons a r => simp; omega
def sl (n : Nat) : List Nat := List.replicate n 47
def dt (n : Nat) : List Nat := List.replicate n 46
theorem mem_sl {n c : Nat} (h : c ∈ sl n) : (c == 47) = true := by simp [sl] at h; simp [h.2]
theorem nmem_dt {n : Nat} : 47 ∉ dt n := by simp [dt]
theorem dt_succ (n : Nat) : dt (n + 1) = dt n ++ [46] := by simp [dt, List.replicate_succ']
theorem sl_succ (n : Nat) : sl (n + 1) = sl n ++ [47] := by simp [sl, List.replicate_succ']
theorem cut_dots (u : List Nat) (n : Nat) : cutR (· == 47) (u ++ dt (n + 1)) = u ++ dt (n + 1) := by
  rw [dt_succ, ← List.append_assoc]
  exact cutR_last (by decide)
theorem cut_slashes (u : List Nat) (n : Nat) : cutR (· == 47) (u ++ sl n) = cutR (· == 47) u := cutR_app_all fun c h => mem_sl h
theorem splitHead_below (u : List Nat) (k a n : Nat) : splitHead (S (u ++ dt (k + 1) ++ sl (a + 1) ++ dt n)) = S (u ++ dt (k + 1)) := by
  have e : u ++ dt (k + 1) ++ sl (a + 1) ++ dt n = (u ++ dt (k + 1) ++ sl a) ++ 47 :: dt n := by rw [sl_succ]; simp
  have hr : Txt.rfind (S (u ++ dt (k + 1) ++ sl (a + 1) ++ dt n)) (Str.ofString "/") + 1 = (((u ++ dt (k + 1) ++ sl a).length + 1 : Nat) : Int) := by
    rw [of_slash, e, rfind_at nmem_dt]; omega
  have ht : (u ++ dt (k + 1) ++ sl (a + 1) ++ dt n).take ((u ++ dt (k + 1) ++ sl a).length + 1) = u ++ dt (k + 1) ++ sl (a + 1) := by
    have e1 : (u ++ dt (k + 1) ++ sl a).length + 1 = (u ++ dt (k + 1) ++ sl (a + 1)).length := by simp [sl]; omega
    rw [e1, List.take_left']
    rfl
  have hs : Txt.slice (S (u ++ dt (k + 1) ++ sl (a + 1) ++ dt n)) none (some (Txt.rfind (S (u ++ dt (k + 1) ++ sl (a + 1) ++ dt n)) (Str.ofString "/") + 1)) = S (u ++ dt (k + 1) ++ sl (a + 1)) := by
    rw [hr, slice_to _ (by simp [sl]; omega), ht]
  unfold splitHead
  dsimp only
  rw [hs, if_pos]
  · rw [show Txt.rstripChars (S (u ++ dt (k + 1) ++ sl (a + 1))) (Str.ofString "/") = bare (S (u ++ dt (k + 1) ++ sl (a + 1))) from rfl, bare_S, cut_slashes, cut_dots]
  · refine ⟨by rw [S_len]; simp [sl]; omega, ?_⟩
    rw [of_slash, mul_S, bne_iff_ne]
    intro h
    have h2 := S_inj h
    have : (46 : Nat) ∈ u ++ dt (k + 1) ++ sl (a + 1) := by simp [dt]
    rw [h2] at this
    simp at this
theorem splitHead_top (b n : Nat) : splitHead (S (sl b ++ dt n)) = S (sl b) := by
  have hs : Txt.slice (S (sl b ++ dt n)) none (some (Txt.rfind (S (sl b ++ dt n)) (Str.ofString "/") + 1)) = S (sl b) := by
    cases b with
    | zero =>
      have : Txt.rfind (S (sl 0 ++ dt n)) (Str.ofString "/") + 1 = ((0 : Nat) : Int) := by
        rw [of_slash, rfind_none (by simp [sl, dt])]; omega
      rw [this, slice_to _ (Nat.zero_le _)]; simp [sl]
    | succ b =>
      have e : sl (b + 1) ++ dt n = sl b ++ 47 :: dt n := by rw [sl_succ]; simp
      have : Txt.rfind (S (sl (b + 1) ++ dt n)) (Str.ofString "/") + 1 = ((b + 1 : Nat) : Int) := by
        rw [of_slash, e, rfind_at nmem_dt]; simp [sl]
      rw [this, slice_to _ (by simp [sl])]
      congr 1
      rw [List.take_append_of_le_length (by simp [sl])]
      simp [sl]
  unfold splitHead
  dsimp only
  rw [hs, if_neg]
  rintro ⟨_, h⟩
  rw [of_slash, S_len, mul_S] at h
  simp [sl] at h
theorem number_S (u : List Nat) (n : Nat) (hu : u = [] ∨ ∃ v, u = v ++ [47]) : ((S (u ++ dt n)).length : Int) - ((Txt.rstripChars (S (u ++ dt n)) (Str.ofString ".")).length : Int) - 1 = (n : Int) - 1 := by
  have h : Txt.rstripChars (S (u ++ dt n)) (Str.ofString ".") = S u := by
    rw [rstrip_S, of_dot]
    congr 1
    rw [cutR_app_all (fun c h => by simp [dt] at h; simp [h.2])]
    rcases hu with rfl | ⟨v, rfl⟩
    · rfl
    · exact cutR_last (by simp)
  rw [h, S_len, S_len]
  simp [dt]
  omega
end Mine
end
section
open PySem PySem.W PyProof.Rows
set_option maxRecDepth 100000
set_option maxHeartbeats 8000000
namespace Mine
def leastOf (many : Nat) (used rest : List Nat) : Nat := ((List.range many).filter fun p => !used.contains p && !rest.contains p).headD 0
def treeOf (many : Nat) : List Nat → List Nat → List (Nat × Nat)
  | _, [] => []
  | used, u :: rest => (leastOf many used (u :: rest), u) :: treeOf many (leastOf many used (u :: rest) :: used) rest
def ancT : List (Nat × Nat) → Nat → List Nat
  | [], _ => []
  | (l, u) :: T, p => if p = l then u :: ancT T u else ancT T p
def Res (many : Nat) : List (Nat × Nat) → Nat → Prop
  | [], p => p + 1 = many
  | (l, u) :: T, p => if p = l then Res many T u else Res many T p
structure Inv (many : Nat) (used rest : List Nat) : Prop where
  len : rest.length + used.length + 1 = many
  lt : ∀ p ∈ used, p < many
  rlt : ∀ p ∈ rest, p < many
  dis : ∀ p ∈ used, p ∉ rest
  last : rest = [] ∨ rest.getLast? = some (many - 1)
  root : many - 1 ∉ used
  nd : used.Nodup
theorem pigeon : ∀ (n : Nat) (l : List Nat), (∀ p, p < n → p ∈ l) → n ≤ l.length
  | 0, _, _ => Nat.zero_le _
  | n + 1, l, h => by
    have hn := h n (Nat.lt_succ_self n)
    have ih := pigeon n (l.erase n) fun p hp => (List.mem_erase_of_ne (by omega)).mpr (h p (by omega))
    rw [List.length_erase_of_mem hn] at ih
    have := List.length_pos_of_mem hn
    omega
theorem nodup_len : ∀ (n : Nat) (l : List Nat), l.Nodup → (∀ x ∈ l, x < n) → l.length ≤ n
  | 0, l, _, h => by
    cases l with
    | nil => exact Nat.le_refl _
    | cons a r => exact absurd (h a (.head _)) (Nat.not_lt_zero _)
  | n + 1, l, hd, h => by
    by_cases hn : n ∈ l
    · have ih := nodup_len n (l.erase n) (hd.erase n) fun x hx => by
        have h1 := h x (List.mem_of_mem_erase hx)
        have h2 : x ≠ n := fun e => hd.not_mem_erase (e ▸ hx)
        omega
      rw [List.length_erase_of_mem hn] at ih
      omega
    · have ih := nodup_len n l hd fun x hx => by
        have h1 := h x hx
        have h2 : x ≠ n := fun e => hn (e ▸ hx)
        omega
      omega
theorem least_spec {many : Nat} {used rest : List Nat} (hlen : rest.length + used.length < many) :
    leastOf many used rest < many ∧ leastOf many used rest ∉ used ∧ leastOf many used rest ∉ rest ∧ ∀ p, p < many → p ∉ used → p ∉ rest → leastOf many used rest ≤ p := by
  unfold leastOf
  cases hf : (List.range many).filter fun p => !used.contains p && !rest.contains p with
  | nil =>
    exfalso
    have : many ≤ (used ++ rest).length := pigeon many _ fun p hp => by
      have h := List.filter_eq_nil_iff.mp hf p (List.mem_range.mpr hp)
      rw [List.mem_append]
      by_cases h1 : p ∈ used
      · exact .inl h1
      · refine .inr ?_
        by_cases h2 : p ∈ rest
        · exact h2
        · exact absurd (by simp [h1, h2]) h
    rw [List.length_append] at this; omega
  | cons a r =>
    have ha : a ∈ (List.range many).filter fun p => !used.contains p && !rest.contains p := by rw [hf]; exact .head _
    rw [List.mem_filter] at ha
    obtain ⟨h1, h2⟩ := ha
    have h1' := List.mem_range.mp h1
    have h2' : a ∉ used ∧ a ∉ rest := by simpa using h2
    refine ⟨h1', h2'.1, h2'.2, fun p hp h3 h4 => ?_⟩
    show a ≤ p
    have hs : ((List.range many).filter fun p => !used.contains p && !rest.contains p).Pairwise (· < ·) := List.Pairwise.filter _ List.pairwise_lt_range
    have hm : p ∈ a :: r := by
      rw [← hf, List.mem_filter]
      exact ⟨List.mem_range.mpr hp, by simp [h3, h4]⟩
    rw [hf, List.pairwise_cons] at hs
    rcases List.mem_cons.mp hm with rfl | hm
    · exact Nat.le_refl _
    · exact Nat.le_of_lt (hs.1 p hm)
theorem Inv.next {many u : Nat} {used rest : List Nat} (I : Inv many used (u :: rest)) : Inv many (leastOf many used (u :: rest) :: used) rest := by
  have hlen := I.len
  rw [List.length_cons] at hlen
  obtain ⟨h1, h2, h3, _⟩ := least_spec (many := many) (used := used) (rest := u :: rest) (by rw [List.length_cons]; omega)
  have hroot : many - 1 ∈ u :: rest := by
    rcases I.last with h | h
    · cases h
    · exact List.mem_of_getLast? h
  refine ⟨by rw [List.length_cons]; omega, ?_, fun p hp => I.rlt p (.tail _ hp), ?_, ?_, ?_, ?_⟩
  · intro p hp
    rcases List.mem_cons.mp hp with rfl | hp
    · exact h1
    · exact I.lt p hp
  · intro p hp hr
    rcases List.mem_cons.mp hp with rfl | hp
    · exact h3 (.tail _ hr)
    · exact I.dis p hp (.tail _ hr)
  · rcases I.last with h | h
    · cases h
    · cases rest with
      | nil => exact .inl rfl
      | cons v r => exact .inr (by rw [List.getLast?_cons_cons] at h; exact h)
  · intro hm
    rcases List.mem_cons.mp hm with h | h
    · exact h3 (h ▸ hroot)
    · exact I.root h
  · rw [List.nodup_cons]; exact ⟨h2, I.nd⟩
theorem tree_res : ∀ {many : Nat} {used rest : List Nat}, Inv many used rest → ∀ p, p < many → p ∉ used → Res many (treeOf many used rest) p
  | many, used, [], I, p, hp, hu => by
    show p + 1 = many
    have hlen := I.len
    rw [List.length_nil, Nat.zero_add] at hlen
    by_cases h : p = many - 1
    · omega
    · exfalso
      have hd : (p :: (many - 1) :: used).Nodup := by
        rw [List.nodup_cons, List.nodup_cons]
        refine ⟨fun hm => ?_, I.root, I.nd⟩
        rcases List.mem_cons.mp hm with e | e
        · exact h e
        · exact hu e
      have := nodup_len many _ hd fun x hx => by
        rcases List.mem_cons.mp hx with rfl | hx
        · exact hp
        · rcases List.mem_cons.mp hx with rfl | hx
          · omega
          · exact I.lt x hx
      simp only [List.length_cons] at this
      omega
  | many, used, u :: rest, I, p, hp, hu => by
    have hlen := I.len
    rw [List.length_cons] at hlen
    obtain ⟨h1, h2, h3, _⟩ := least_spec (many := many) (used := used) (rest := u :: rest) (by rw [List.length_cons]; omega)
    show (if p = leastOf many used (u :: rest) then _ else _)
    have hul : u ∉ leastOf many used (u :: rest) :: used := fun h => by
      rcases List.mem_cons.mp h with h | h
      · exact h3 (h ▸ .head _)
      · exact I.dis u h (.head _)
    split
    · exact tree_res I.next u (I.rlt u (.head _)) hul
    · rename_i hne
      exact tree_res I.next p hp fun h => by
        rcases List.mem_cons.mp h with h | h
        · exact hne h
        · exact hu h
theorem anc_sub : ∀ {many : Nat} {used rest : List Nat}, Inv many used rest → ∀ p, p < many → p ∉ used → ∀ q ∈ ancT (treeOf many used rest) p, q ∈ rest
  | many, used, [], I, p, hp, hu, q, hq => nomatch hq
  | many, used, u :: rest, I, p, hp, hu, q, hq => by
    have hlen := I.len
    rw [List.length_cons] at hlen
    obtain ⟨h1, h2, h3, _⟩ := least_spec (many := many) (used := used) (rest := u :: rest) (by rw [List.length_cons]; omega)
    have hul : u ∉ leastOf many used (u :: rest) :: used := fun h => by
      rcases List.mem_cons.mp h with h | h
      · exact h3 (h ▸ .head _)
      · exact I.dis u h (.head _)
    have hq' : q ∈ (if p = leastOf many used (u :: rest) then u :: ancT (treeOf many (leastOf many used (u :: rest) :: used) rest) u else ancT (treeOf many (leastOf many used (u :: rest) :: used) rest) p) := hq
    split at hq'
    · rcases List.mem_cons.mp hq' with rfl | hq'
      · exact .head _
      · exact .tail _ (anc_sub I.next u (I.rlt u (.head _)) hul q hq')
    · rename_i hne
      exact .tail _ (anc_sub I.next p hp (fun h => by
        rcases List.mem_cons.mp h with h | h
        · exact hne h
        · exact hu h) q hq')
theorem anc_all : ∀ {many : Nat} {used rest : List Nat}, Inv many used rest → ∀ q ∈ rest, ∃ p, p < many ∧ p ∉ used ∧ q ∈ ancT (treeOf many used rest) p
  | many, used, u :: rest, I, q, hq => by
    have hlen := I.len
    rw [List.length_cons] at hlen
    obtain ⟨h1, h2, h3, _⟩ := least_spec (many := many) (used := used) (rest := u :: rest) (by rw [List.length_cons]; omega)
    rcases List.mem_cons.mp hq with rfl | hq
    · refine ⟨_, h1, h2, ?_⟩
      show _ ∈ (if leastOf many used (q :: rest) = leastOf many used (q :: rest) then _ else _)
      rw [if_pos rfl]; exact .head _
    · obtain ⟨p, hp, hu, hm⟩ := anc_all I.next q hq
      refine ⟨p, hp, fun h => hu (.tail _ h), ?_⟩
      have e : p ≠ leastOf many used (u :: rest) := fun e => hu (by rw [e]; exact .head _)
      simp only [treeOf, ancT, if_neg e]; exact hm
theorem anc_least {many u : Nat} {used rest : List Nat} : ∃ r, ancT (treeOf many used (u :: rest)) (leastOf many used (u :: rest)) = u :: r := by
  refine ⟨ancT (treeOf many (leastOf many used (u :: rest) :: used) rest) u, ?_⟩
  show (if leastOf many used (u :: rest) = leastOf many used (u :: rest) then _ else _) = _
  rw [if_pos rfl]
theorem anc_skip {many u p : Nat} {used rest : List Nat} (h : p ∉ leastOf many used (u :: rest) :: used) : ancT (treeOf many used (u :: rest)) p = ancT (treeOf many (leastOf many used (u :: rest) :: used) rest) p := by
  have e : p ≠ leastOf many used (u :: rest) := fun e => h (by rw [e]; exact .head _)
  simp only [treeOf, ancT, if_neg e]
def pathT (root : List Nat) (a : Nat → Nat) : List (Nat × Nat) → Nat → List Nat
  | [], _ => root
  | (l, u) :: T, p => if p = l then pathT root a T u ++ sl (a l + 1) ++ dt (l + 1) else pathT root a T p
def seqT (root : List Nat) (a : Nat → Nat) : List (Nat × Nat) → Nat → List Str
  | [], _ => [S root]
  | (l, u) :: T, p => if p = l then S (pathT root a T u ++ sl (a l + 1) ++ dt (l + 1)) :: seqT root a T u else seqT root a T p
theorem path_form {many b : Nat} {a : Nat → Nat} : ∀ {T : List (Nat × Nat)} {p : Nat}, Res many T p → ∃ w, pathT (sl b ++ dt many) a T p = w ++ dt (p + 1) ∧ (w = [] ∨ ∃ v, w = v ++ [47])
  | [], p, h => by
    have h' : p + 1 = many := h
    refine ⟨sl b, by rw [h']; rfl, ?_⟩
    cases b with
    | zero => exact .inl rfl
    | succ b => exact .inr ⟨sl b, sl_succ b⟩
  | (l, u) :: T, p, h => by
    have h' : (if p = l then Res many T u else Res many T p) := h
    show ∃ w, (if p = l then _ else _) = _ ∧ _
    split at h'
    · rename_i e
      rw [if_pos e]
      exact ⟨_, by rw [e], .inr ⟨pathT (sl b ++ dt many) a T u ++ sl (a l), by rw [sl_succ]; simp⟩⟩
    · rename_i e
      rw [if_neg e]; exact path_form h'
theorem path_comes {many b : Nat} {a : Nat → Nat} (hm : 0 < many) : ∀ {T : List (Nat × Nat)} {p : Nat}, Res many T p → AncComes (S (pathT (sl b ++ dt many) a T p)) (seqT (sl b ++ dt many) a T p)
  | [], p, h => by
    have h' : p + 1 = many := h
    have hc : cutR (· == 47) (sl b ++ dt many) = sl b ++ dt many := by rw [← h']; exact cut_dots _ _
    refine .cons ?_ (.nil ?_)
    · show moreOf (S (sl b ++ dt many)) = true
      rw [moreOf_S, hc, ← h', dt_succ]; simp
    · show moreOf (splitHead (S (sl b ++ dt many))) = false
      rw [splitHead_top, moreOf_S, show sl b = [] ++ sl b from rfl, cut_slashes]; rfl
  | (l, u) :: T, p, h => by
    have h' : (if p = l then Res many T u else Res many T p) := h
    show AncComes (S (if p = l then _ else _)) (if p = l then _ else _)
    split at h'
    · rename_i e
      rw [if_pos e, if_pos e]
      obtain ⟨w, hw, _⟩ := path_form (b := b) (a := a) h'
      refine .cons ?_ ?_
      · rw [moreOf_S, cut_dots]; simp [dt]
      · have ih := path_comes (b := b) (a := a) hm h'
        rw [hw] at ih ⊢
        rw [splitHead_below]
        exact ih
    · rename_i e
      rw [if_neg e, if_neg e]; exact path_comes hm h'
theorem path_bare {many b : Nat} {a : Nat → Nat} {T : List (Nat × Nat)} {p n : Nat} (h : Res many T p) : bare (S (pathT (sl b ++ dt many) a T p ++ sl n)) = S (pathT (sl b ++ dt many) a T p) := by
  obtain ⟨w, hw, _⟩ := path_form (b := b) (a := a) h
  rw [bare_S, cut_slashes, hw, cut_dots]
theorem path_number {many b : Nat} {a : Nat → Nat} {T : List (Nat × Nat)} {p : Nat} (h : Res many T p) :
    ((S (pathT (sl b ++ dt many) a T p)).length : Int) - ((Txt.rstripChars (S (pathT (sl b ++ dt many) a T p)) (Str.ofString ".")).length : Int) - 1 = (p : Int) := by
  obtain ⟨w, hw, hw2⟩ := path_form (b := b) (a := a) h
  rw [hw, number_S _ _ hw2]; omega
end Mine
end
section
open PySem PySem.W PyProof.Rows
set_option maxRecDepth 100000
set_option maxHeartbeats 8000000
namespace Mine
def enumObj (it : Addr) (i : Nat) (old : Value) : Obj := { cls := .type "enumerate", dict := none, data := .fields #[.none, .bool false, .ref it, rawInt i, .none, old], slots := #[] }
section
variable {prog : Program} {w : World} {A : Around} {E : Value → Shared → Prop} {env : Env}
theorem news_cons {b h : Heap} {L a : Addr} {o : Obj} {news : List (Addr × Obj)} (N : News b L h news) (e : h.get? a = some o) (h1 : a ≠ L) (h2 : b.get? a = none) : News b L h ((a, o) :: news) := by
  intro p hp
  rcases List.mem_cons.mp hp with rfl | hp
  · exact ⟨e, h1, h2⟩
  · exact N p hp
inductive EnumJ (base : Heap) (L l K e : Nat) (items : Array Value) (J : Nat → (Str → Option Value) → List (Addr × Obj) → Shared → Prop) (it : Nat) (n : Nat) (s' : Shared) : Prop
  | mk (i : Nat) (m : Str → Option Value) (news : List (Addr × Obj)) (old : Value) (oi : Obj) (hi : i ≤ items.size) (hn : n = items.size - i) (hJ : J i m news s') (F : Fr base L s'.heap m) (hc : oi.cls = .type "list_iterator") (hd : oi.data = .fields #[.ref l, .int i 0])
      (N : News base L s'.heap ((e, enumObj it i old) :: (it, oi) :: news)) : EnumJ base L l K e items J it n s'
theorem enum_loop {base : Heap} {L l K e : Nat} {items : Array Value} {elts : List Expr} {x1} {pt : Pos} {body : List Stmt} {Q : Flow → Shared → Prop}
    (hh : A.handled = none) (hl : base.IsList l items)
    (J : Nat → (Str → Option Value) → List (Addr × Obj) → Shared → Prop) (it : Nat) (hLK : L < K) (hKi : K ≤ it) (hie : it < e) (hb : base.objs.size ≤ K)
    (hK : ∀ i m news s', J i m news s' → ∀ p ∈ news, (p.1 : Nat) < K)
    (hJt : ∀ i m news s' h' tk, J i m news s' → J i m news { s' with heap := h', toks := tk })
    (turn : ∀ i x m news t s' oi, items[i]? = some x → J i m news s' → Fr base L s'.heap m → e < t → oi.cls = .type "list_iterator" →
      News base L s'.heap ((t, ({ cls := .type "tuple", data := .seq #[.int i (s'.toks - 1), x] } : Obj)) :: (e, enumObj it (i + 1) x) :: (it, oi) :: news) →
      wpAny (model prog w) A (assign (.Tuple elts x1 pt) env (.ref t)) (fun _ s₃ => wpAny (model prog w) A (execs body env) (fun f s₄ => f = .next ∧ ∃ m' news',
        Fr base L s₄.heap m' ∧ News base L s₄.heap ((e, enumObj it (i + 1) x) :: (it, oi) :: news') ∧ J (i + 1) m' news' s₄) (fun _ _ => False) s₃) (fun _ _ => False) s')
    (last : ∀ m news s', J items.size m news s' → Fr base L s'.heap m → News base L s'.heap news → Q .next s') :
    ∀ n s', EnumJ base L l K e items J it n s' →
      wpAny (model prog w) A (pyNext (.ref e)) (ForTurn prog w A env (.Tuple elts x1 pt) (.ref e) body (EnumJ base L l K e items J it) Q n) (fun _ _ => False) s' := by
  rintro n s' ⟨i, m, news, old, oi, hi, rfl, hJ, F, hc, hd, N⟩
  have he : IsEnum s'.heap e it (i : Int) old := (N _ (.head _)).1
  have hit : s'.heap.IsListIter it l i := ⟨oi, (N _ (.tail _ (.head _))).1, hc, hd⟩
  have hl' : s'.heap.IsList l items := F.lst hl
  have hnK := hK _ _ _ _ hJ
  have heS : (e : Nat) < s'.heap.objs.size := Heap.lt_size he
  have hLit : (L : Nat) ≠ it := by omega
  have hLe : (L : Nat) ≠ e := by omega
  have hei : (e : Nat) ≠ it := by omega
  have hsL : (s'.heap.objs.size : Nat) ≠ L := by omega
  have hse : (s'.heap.objs.size : Nat) ≠ e := by omega
  have hpit : ∀ p ∈ news, (p.1 : Nat) ≠ it := fun p hp => Nat.ne_of_lt (Nat.lt_of_lt_of_le (hnK p hp) hKi)
  have hpe : ∀ p ∈ news, (p.1 : Nat) ≠ e := fun p hp => Nat.ne_of_lt (Nat.lt_trans (Nat.lt_of_lt_of_le (hnK p hp) hKi) hie)
  cases hv : items[i]? with
  | none =>
    have hsz : i = items.size := Nat.le_antisymm hi (by simpa using hv)
    refine wpAny_pyNext_enum_end hh he hit hl' hv fun h₁ he₁ => ?_
    show Q .next _
    subst hsz
    refine last m news _ (hJt _ _ _ _ h₁ s'.toks hJ) ?_ ?_
    · exact ⟨F.ns.extBut he₁ hLit, fun b o x => he₁ b o (fun q => by
        have := (N _ (.tail _ (.head _))).2.2
        rw [q, this] at x; cases x) (F.keep b o x), F.above⟩
    · exact fun p hp => ⟨he₁ _ _ (hpit p hp) (N p (.tail _ (.tail _ hp))).1, (N p (.tail _ (.tail _ hp))).2⟩
  | some v =>
    have hlt : i < items.size := (Array.getElem?_eq_some_iff.mp hv).1
    refine wpAny_pyNext_enum_item he hit hl' hv hei fun h₁ heo hit₁ ht₁ hz₁ hk₁ => ?_
    show wpAny _ _ (letOwnedTupleGo _ _ _) _ _ _
    refine wpAny_letOwnedTupleGo_enum heo fun h₂ he₂ hs₂ => ?_
    replace hs₂ : Heap.SameBut e h₁ h₂ := hs₂
    have hb₂ : ∀ b o, b ≠ e → b ≠ it → s'.heap.get? b = some o → h₂.get? b = some o := fun b o h1 h2 x => (hs₂.2 b h1).trans (hk₁ b o h1 h2 x)
    obtain ⟨oi', ho', hc', hd'⟩ := hit₁
    have F₂ : Fr base L h₂ m := by
      obtain ⟨oL, a1, a2, hL, a3⟩ := F.ns
      refine ⟨⟨oL, a1, a2, hb₂ _ _ hLe hLit hL, a3⟩, fun b o x => hb₂ b o (fun q => ?_) (fun q => ?_) (F.keep b o x), F.above⟩
      · have := (N _ (.head _)).2.2
        rw [q, this] at x; cases x
      · have := (N _ (.tail _ (.head _))).2.2
        rw [q, this] at x; cases x
    have N₂ : News base L h₂ ((s'.heap.objs.size, ({ cls := .type "tuple", data := .seq #[.int i ((s'.toks + 1) - 1), v] } : Obj)) :: (e, enumObj it (i + 1) v) :: (it, oi') :: news) := by
      refine news_cons (news_cons (news_cons (fun p hp => ⟨?_, (N p (.tail _ (.tail _ hp))).2⟩) ((hs₂.2 it (Ne.symm hei)).trans ho') ?_ ?_) he₂ ?_ ?_) ((hs₂.2 _ hse).trans ht₁) ?_ ?_
      · exact hb₂ _ _ (hpe p hp) (hpit p hp) (N p (.tail _ (.tail _ hp))).1
      · exact Ne.symm hLit
      · exact (N _ (.tail _ (.head _))).2.2
      · exact Ne.symm hLe
      · exact (N _ (.head _)).2.2
      · exact hsL
      · exact F.fresh
    refine wpAny_mono (turn i v m news s'.heap.objs.size { s' with heap := h₂, toks := s'.toks + 1 } oi' hv (hJt _ _ _ _ h₂ (s'.toks + 1) hJ) F₂ heS hc' N₂) (fun _ s₃ h₃ => wpAny_mono h₃ (fun f s₄ h₄ => ?_) fun _ _ f => f) fun _ _ f => f
    obtain ⟨rfl, m', news', F₄, N₄, hJ₄⟩ := h₄
    exact ⟨items.size - (i + 1), by omega, i + 1, m', news', v, oi', hlt, rfl, hJ₄, F₄, hc', hd', N₄⟩
theorem enum_made {base : Heap} {L l : Nat} {items : Array Value} {m : Str → Option Value} {news : List (Addr × Obj)} {Q : Value → Shared → Prop} {E' : Value → Shared → Prop} {s : Shared}
    (F : Fr base L s.heap m) (N : News base L s.heap news) (hl : base.IsList l items)
    (h : ∀ (it e : Nat) h' oi, s.heap.objs.size ≤ it → it < e → Fr base L h' m → oi.cls = .type "list_iterator" → oi.data = .fields #[.ref l, .int 0 0] → News base L h' ((e, enumObj it 0 .none) :: (it, oi) :: news) → Q (.ref e) { s with heap := h' }) :
    wpAny (model prog w) A (PySem.call (.type "enumerate") [.ref l]) (fun xv s₁ => wpAny (model prog w) A (pyIter xv) Q E s₁) E' s := by
  refine call_enumerate_list (F.lst hl) fun h' he hit hz hk => ?_
  obtain ⟨oi, ho, hc, hd⟩ := hit
  refine wpAny_pyIter_enum he (h s.heap.objs.size (s.heap.objs.size + 1) h' oi (Nat.le_refl _) (Nat.lt_succ_self _) (F.kept hk) hc hd ?_)
  have hL : (L : Nat) < s.heap.objs.size := F.ns.lt
  have hL' : (s.heap.objs.size : Nat) ≠ L := by omega
  have hL2 : (s.heap.objs.size + 1 : Nat) ≠ L := by omega
  have hf : base.get? s.heap.objs.size = none := F.fresh
  have hf2 : base.get? (s.heap.objs.size + 1) = none := by
    cases hq : base.get? (s.heap.objs.size + 1) with
    | none => rfl
    | some o =>
      have := Heap.lt_size (F.keep _ _ hq)
      exact absurd this (Nat.not_lt.mpr (Nat.le_succ _))
  exact news_cons (news_cons (N.keepsAll hk) ho hL' hf) he hL2 hf2
end
inductive Pairs : List (Int × Value) → List (Nat × Nat) → Prop
  | nil : Pairs [] []
  | cons (l u : Nat) (t : Tok) {k T} : Pairs k T → Pairs (((l : Int), .int u t) :: k) ((l, u) :: T)
theorem Pairs.snoc (l u : Nat) (t : Tok) {k T} (h : Pairs k T) : Pairs (k ++ [((l : Int), .int u t)]) (T ++ [(l, u)]) := by
  induction h with
  | nil => exact .cons l u t .nil
  | cons l' u' t' h ih => exact .cons l' u' t' ih
theorem Pairs.has {n : Nat} {k T} (h : Pairs k T) : (((n : Int) ∈ k.map (·.1)) ↔ n ∈ T.map (·.1)) := by
  induction h with
  | nil => exact ⟨(fun h => nomatch h), (fun h => nomatch h)⟩
  | cons l' u' t' h this =>
    simp only [List.map_cons, List.mem_cons, this]
    constructor
    · rintro (e | e)
      · exact .inl (by exact_mod_cast e)
      · exact .inr e
    · rintro (e | e)
      · exact .inl (by exact_mod_cast e)
      · exact .inr e
theorem Pairs.len {k T} (h : Pairs k T) : k.length = T.length := by
  induction h with
  | nil => rfl
  | cons _ _ _ _ ih => exact congrArg Nat.succ ih
end Mine
end
section
open PySem PySem.W PyProof.Rows
set_option maxRecDepth 100000
set_option maxHeartbeats 8000000
namespace Mine
section
variable {prog : Program} {w : World} {A : Around} {E : Value → Shared → Prop} {s : Shared}
theorem genexprCode_tab {env : Env} {c P : Addr} {ps : Array Value} {pos : Pos} {qualname : Str} {scope : Scope} {Q : Value → Shared → Prop} (hc : env.code = .ref c) (hok : s.heap.IsCode c P ps) (htab : s.heap.TableAt c P ps)
    (hQ : ∀ code h' tk ps', Heap.ExtBut P s.heap h' → s.heap.objs.size ≤ h'.objs.size → h'.IsCode c P ps' → h'.TableAt c P ps' → Q code { s with heap := h', toks := tk }) :
    wpAny (model prog w) A (genexprCode env pos qualname scope) Q E s := by
  cases hnf : codeAmong pos ps.toList with
  | some cv => exact wpAny_genexprCode_hit hc hok hnf (hQ cv s.heap s.toks ps (Heap.ExtBut.refl _ _) (Nat.le_refl _) hok htab)
  | none =>
    exact wpAny_genexprCodeX hc hok htab hnf fun c' h' tk hx hge hlt hcode _ ht _ => hQ _ h' tk _ hx (Nat.le_trans hge (Nat.le_of_lt hlt)) hcode ht
def MinReady (prog : Program) (w : World) (A : Around) (P : Addr) (pz : Nat → Bool) (n : Nat) (s₁ : Shared) (a : Addr) (s : Shared) : Prop :=
  ∀ (Q : Value → Shared → Prop) (E : Value → Shared → Prop), (∀ (j : Nat) t s', j < n → pz j = true → (∀ i, i < n → pz i = true → j ≤ i) → GExt NoG s₁.gens s'.gens s₁.os s'.os → (∀ b o, b ≠ P → s₁.heap.get? b = some o → s'.heap.get? b = some o) →
    s'.heap.get? P = s.heap.get? P → Q (.int j t) s') → wpAny (model prog w) A (PySem.call (.builtin "min") [.ref a]) Q E s
inductive MinGen (prog : Program) (w : World) (A : Around) (env : Env) (scope : Scope) (cl : List (Str × Addr)) (ifs : List Expr) (x : Str) (c P : Addr) (Q : Value → Shared → Prop) (xv : Value) (s₁ : Shared) : Prop
  | mk (r : Addr) (t u v : Tok) (n : Nat) (ps : Array Value) (mg : Str → Option Value) (bm : Addr) (ob : Obj) (pz : Nat → Bool) (e : xv = .ref r) (hr : IsRange s₁.heap r 0 ((n : Nat) : Int) 1 t u v) (hsm : Builtin.Range.small 0 ((n : Nat) : Int) 1 = true)
      (hn : Builtin.Range.rangeSize 0 ((n : Nat) : Int) 1 = ((n : Nat) : Int)) (hlim : s₁.heap.NoLimit) (hok : s₁.heap.IsCode c P ps) (htab : s₁.heap.TableAt c P ps) (M : BMod s₁.heap env.globals mg bm ob) (hcP : cStatics ≠ P) (hi : ∃ i, i < n ∧ pz i = true)
      (hq : ∀ (C : Addr) code bi (A' : Around) E' i t (s₃ : Shared) m₂, A'.handled = none → i < n → s₃.heap.Ns C m₂ → m₂ x = some (.int ((i : Nat) : Int) t) → (∀ b o, b ≠ P → s₁.heap.get? b = some o → s₃.heap.get? b = some o) →
        wpAny (model prog w) A' (forIn ifs true fun c r => if r = true then do let ok ← isTrue c (genEnv scope cl C code bi env) (eval c (genEnv scope cl C code bi env)); pure (ForInStep.yield ok) else pure (ForInStep.yield r)) (fun ok s₄ => ok = pz i ∧ Keeps s₃ s₄) E' s₃)
      (hQ : ∀ a s₅, GExt NoG s₁.gens s₅.gens s₁.os s₅.os → (∀ b o, b ≠ P → s₁.heap.get? b = some o → s₅.heap.get? b = some o) → (∃ ps', s₅.heap.IsCode c P ps' ∧ s₅.heap.TableAt c P ps') → MinReady prog w A P pz n s₁ a s₅ → Q (.ref a) s₅) :
      MinGen prog w A env scope cl ifs x c P Q xv s₁
theorem genexp_min {env : Env} {iter : Expr} {x : Str} {px px' : Pos} {ifs : List Expr} {scope : Scope} {cl : List (Str × Addr)} {pos : Pos} {Q : Value → Shared → Prop} {c P : Addr}
    (hh : A.handled = none) (hcode : env.code = .ref c) (hco : scope.isCoroutine = false) (hclos : closureFor scope env = pure cl) (hcell : ∀ y ∈ scope.names, y.2 ≠ .cell) (h0 : scope.names.lookup (".0" : Str) = some NameKind.local)
    (hx : scope.names.lookup x = some .local) (hkind : scope.kind = .function) (hroom : A.depth < recursionLimit) (hdb : (x == ("__debug__" : Str)) = false)
    (h : wpAny (model prog w) A (eval iter env) (fun xv s₁ => Box (MinGen prog w A env scope cl ifs x c P Q xv s₁)) E s)
    (hs : ∀ x, genFold iter env x = pure x) :
    wpAny (model prog w) A (eval (.GeneratorExp (.Name x px) [⟨.Name x px', iter, ifs, 0⟩] scope pos) env) Q E s := by
  refine wpAny_GeneratorExp_walksQ hh hco hclos hcell h0 hx hkind hroom (wpAny_mono h (fun xv s₁ h₁ => ?_) fun _ _ e => e) hs
  obtain ⟨⟨r, t, u, v, n, ps, mg, bm, ob, pz, rfl, hr, hsm, hn, hlim, hok, htab, M, hcP, ⟨iw, hiw, hpw⟩, hq, hQ⟩⟩ := h₁
  refine wpAny_pyIter_range hr hsm ?_
  refine ⟨hlim.push _, genexprCode_tab hcode (hok.push _) (htab.push _) fun code h₃ tk₃ ps' hx₃ hsz₃ hok₃ htab₃ => ?_⟩
  have M₃ : BMod h₃ env.globals mg bm ob := (M.keeps fun _ _ e => Heap.get?_push_of_some _ e).extBut (htab.push _) hx₃
  have hl₃ : h₃.NoLimit := Heap.NoLimit.extBut (hlim.push _) hx₃ hcP
  refine wpAny_builtinsFor M₃.ns M₃.name M₃.ne M₃.obj M₃.cls M₃.dict M₃.data ?_
  have hIlt : s₁.heap.objs.size < h₃.objs.size := Nat.lt_of_lt_of_le (by rw [Heap.size_push]; exact Nat.lt_succ_self _) hsz₃
  have hIP : s₁.heap.objs.size ≠ P := Nat.ne_of_gt (Heap.lt_size htab.2)
  have hI : (s₁.heap.push { cls := .type "range_iterator", data := .fields #[rawInt 0, rawInt (Builtin.Range.rangeSize 0 ((n : Nat) : Int) 1), rawInt 1] }).get? s₁.heap.objs.size = some { cls := .type "range_iterator", data := .fields #[rawInt 0, rawInt (Builtin.Range.rangeSize 0 ((n : Nat) : Int) 1), rawInt 1] } := Heap.get?_push_size _ rfl
  have k₃ : ∀ b o, b ≠ P → s₁.heap.get? b = some o → h₃.get? b = some o := fun b o hb e => hx₃ b o hb (Heap.get?_push_of_some _ e)
  have hcI : cStatics ≠ s₁.heap.objs.size := by
    obtain ⟨_, hns, _⟩ := hlim
    exact Nat.ne_of_lt hns.lt
  refine ⟨s₁.heap.objs.size, [s₁.heap.objs.size], [s₁.heap.objs.size], n, (fun i v => i < n ∧ ∃ t, v = .int (0 + (i : Int) * 1) t), (fun i h => IsRangeIter h s₁.heap.objs.size (0 + (i : Nat) * 1) ((n : Int) - (i : Nat)) 1), pz, (fun i v => i < n ∧ ∃ t, v = .int (i : Int) t), rfl, fun A' hA => (Walks.range hA _ 0 1 n).bound, ?_, ?_, hl₃, ?_, ?_, ?_⟩
  · show h₃.get? _ = some _
    refine hx₃ _ _ hIP ?_
    rw [hI, hn]; simp
  · intro b hb
    rw [List.mem_singleton.mp hb]; exact hIlt
  · intro hm
    exact hcI (List.mem_singleton.mp hm)
  · intro href hhref
    have kk : ∀ (s₃ : Shared), (∀ b ∈ List.range h₃.objs.size, b ∉ [s₁.heap.objs.size] → ∀ o, href.get? b = some o → s₃.heap.get? b = some o) → ∀ b o, b ≠ P → s₁.heap.get? b = some o → s₃.heap.get? b = some o := fun s₃ hk b o hb e =>
      hk b (List.mem_range.mpr (Nat.lt_trans (Heap.lt_size e) hIlt)) (fun hm => Nat.ne_of_lt (Heap.lt_size e) (List.mem_singleton.mp hm)) o (hhref _ _ (k₃ b o hb e))
    refine ⟨fun A' E' i v s₃ m₂ hA' hP hns hm hk => ?_, fun A' E' i v s₃ m₂ hA' hP hpz hns hm hk => ?_⟩
    · obtain ⟨hi, t, rfl⟩ := hP
      exact hq _ _ _ A' E' i t s₃ m₂ hA' hi hns (by rw [hm]; simp) (kk s₃ hk)
    · obtain ⟨hi, t, rfl⟩ := hP
      refine wpAny_Name (wpAny_loadName_local hkind hx hns hm ?_) hdb
      exact ⟨⟨hi, t, by simp⟩, _, _, rfl, fun _ _ e => e⟩
  · intro a h₅ tk gs hb halt hsz₅ hk₅ W hat
    have hG : GExt NoG s₁.gens (s₁.gens.push gs) s₁.os s₁.os := ⟨fun g _ x e => by
      rw [Array.getElem?_push, if_neg (Nat.ne_of_lt (Array.getElem?_eq_some_iff.mp e).1)]; exact e, by simp, fun hb' => hb'.push hb, rfl⟩
    refine hQ a _ hG (fun b o hb e => hk₅ b o (k₃ b o hb e)) ⟨ps', hok₃.keeps hk₅, htab₃.keeps hk₅⟩ ?_
    intro Q' E' hQ'
    have W := W.in4_1
    refine call_min_walkS (W.self 0 _ _ _ hat ⟨a, _, _, _, _, _, _, _, rfl, W, hat, ?_, ?_, CmpOf.ints_lt (fun j => (((passing pz n 0)[j]?).getD 0 : Nat)) (fun j v hv => ?_), fun v s' hv hm => ?_⟩)
    · intro b hb
      show b < h₅.objs.size
      rw [hsz₅]
      rcases List.mem_cons.mp hb with rfl | hb
      · exact Nat.lt_succ_self _
      · rcases List.mem_cons.mp hb with rfl | hb
        · exact Nat.lt_succ_of_lt halt
        · exact Nat.lt_succ_of_lt (Nat.lt_trans (List.mem_range.mp hb) halt)
    · refine List.length_pos_of_mem (a := iw) ?_
      unfold passing
      rw [List.drop_zero, List.mem_filter]
      exact ⟨List.mem_range.mpr hiw, hpw⟩
    · obtain ⟨i, hi, _, t, rfl⟩ := hv
      exact ⟨t, by rw [hi]; rfl⟩
    · obtain ⟨i, hi, hin, t, rfl⟩ := hv
      have hmem : i ∈ passing pz n 0 := List.mem_of_getElem? hi
      have hpi : pz i = true := by
        unfold passing at hmem
        rw [List.drop_zero, List.mem_filter] at hmem
        exact hmem.2
      refine hQ' i t s' hin hpi (fun k hk hpk => ?_) ?_ (fun b o hb e => ?_) ?_
      · have hkm : k ∈ passing pz n 0 := by
          unfold passing
          rw [List.drop_zero, List.mem_filter]
          exact ⟨List.mem_range.mpr hk, hpk⟩
        obtain ⟨j, hj⟩ := List.getElem?_of_mem hkm
        have hjl := (List.getElem?_eq_some_iff.mp hj).1
        have hle := (argBest_lt (fun j => ((((passing pz n 0)[j]?).getD 0 : Nat) : Int)) ((passing pz n 0).length - 1)).2 j (by omega)
        simp only [hi, hj, Option.getD_some] at hle
        exact_mod_cast hle
      · have hg : GenOnlyQ s₁.gens.size (s₁.gens.push gs) s'.gens := hm.gens
        refine ⟨fun g _ x e => ?_, ?_, fun hb' => GenOnlyQ.bare hg (hb'.push hb), hm.os⟩
        · have hlt := (Array.getElem?_eq_some_iff.mp e).1
          have e2 : (s₁.gens.push gs)[g]? = some x := by rw [Array.getElem?_push, if_neg (Nat.ne_of_lt hlt)]; exact e
          rcases hg with hg | ⟨hg, _⟩
          · rw [hg]; exact e2
          · rw [hg.2 g (Nat.ne_of_lt hlt)]; exact e2
        · rcases hg with hg | ⟨hg, _⟩
          · rw [hg]; simp
          · rw [hg.1]; simp
      · refine hm.heap b o (fun hmem => ?_) (hk₅ b o (k₃ b o hb e))
        have hlt := Heap.lt_size e
        rcases List.mem_cons.mp hmem with q | hmem
        · exact Nat.ne_of_lt (Nat.lt_trans hlt hIlt) q
        · exact Nat.ne_of_lt hlt (List.mem_singleton.mp hmem)
      · refine (hm.heap P _ (fun hmem => ?_) (hk₅ _ _ htab₃.2)).trans (hk₅ _ _ htab₃.2).symm
        have hlt := Heap.lt_size htab.2
        rcases List.mem_cons.mp hmem with q | hmem
        · exact Nat.ne_of_lt (Nat.lt_trans hlt hIlt) q
        · exact Nat.ne_of_lt hlt (List.mem_singleton.mp hmem)
end
theorem isCode_all {h : Heap} {c P : Addr} {ps : Array Value} (x : h.IsCode c P ps) : (TriplesOk ps.toList ∧ c ≠ P) ∧ ∀ {h' : Heap} {ps' : Array Value}, (∀ o, h.get? c = some o → h'.get? c = some o) → h'.get? P = some { cls := .none, data := .fields ps' } → TriplesOk ps'.toList → h'.IsCode c P ps' := by
  obtain ⟨o, vs, file, tf, flags, tg, inF, text, tt, op, f1, f2, f3, f4, f5, f6, f7, _, _, ht, f11⟩ := x
  exact ⟨⟨ht, f11⟩, fun hc hP ht => ⟨o, vs, file, tf, flags, tg, inF, text, tt, _, hc _ f1, f2, f3, f4, f5, f6, f7, hP, rfl, ht, f11⟩⟩
theorem isCode_again {h h' : Heap} {c P : Addr} {ps ps' : Array Value} (x : h.IsCode c P ps) (hc : ∀ o, h.get? c = some o → h'.get? c = some o) (hP : h'.get? P = some { cls := .none, data := .fields ps' }) (ht : TriplesOk ps'.toList) : h'.IsCode c P ps' := (isCode_all x).2 hc hP ht
theorem tableAt_again {h h' : Heap} {c P : Addr} {ps ps' : Array Value} (x : h.TableAt c P ps) (hc : ∀ o, h.get? c = some o → h'.get? c = some o) (hP : h'.get? P = some { cls := .none, data := .fields ps' }) : h'.TableAt c P ps' := by
  obtain ⟨⟨o, vs, e, r⟩, _⟩ := x
  exact ⟨⟨o, vs, hc _ e, r⟩, hP⟩
theorem isCode_triples {h : Heap} {c P : Addr} {ps : Array Value} (x : h.IsCode c P ps) : TriplesOk ps.toList := (isCode_all x).1.1
theorem isCode_ne {h : Heap} {c P : Addr} {ps : Array Value} (x : h.IsCode c P ps) : c ≠ P := (isCode_all x).1.2
end Mine
end
section
open PySem PySem.W PyProof.Rows PyProof.V
set_option maxRecDepth 100000
set_option maxHeartbeats 8000000
namespace Mine
def datOf (T : List (Nat × Nat)) : List (PyData × PyData) := T.map fun p => (PyData.int p.1, PyData.int p.2)
theorem Pairs.flat {k T} (h : Pairs k T) : FlatPairs PyData.int k (datOf T) := by
  induction h with
  | nil => exact .nil
  | cons _ _ t h ih => exact .cons (.int _ t) ih
theorem lookup_dat (i : Nat) (T : List (Nat × Nat)) : (PySem.Spec.lookup (.int (i : Int)) (datOf T)).isSome = T.any (fun p => p.1 == i) := by
  induction T with
  | nil => rfl
  | cons p T ih =>
    show Option.isSome (if PySem.Spec.same (.int (p.1 : Int)) (.int (i : Int)) = true then some (PyData.int p.2) else PySem.Spec.lookup (.int (i : Int)) (datOf T)) = _
    rw [PyProof.V.same_int, List.any_cons, ← ih]
    by_cases e : p.1 = i
    · subst e; simp
    · have e2 : ¬ ((p.1 : Int) = (i : Int)) := by exact_mod_cast e
      simp [e, e2, datOf]
section
variable {prog : Program} {w : World} {A : Around} {E : Value → Shared → Prop} {s : Shared}
theorem tests_gen {env : Env} {x a st r : Str} {m : Str → Option Value} {ca cst cr d rl : Addr} {items : Array Value} {row : List Nat} {T : List (Nat × Nat)} {i j : Nat} {t u : Tok} {p1 p2 p3 p4 p5 p6 p7 p8 p9 p10 : Pos}
    {kvs : List (Int × Value)} {od : Obj}
    (hk : env.scope.kind = .function) (hx : env.kindOf x = some .local) (ha : env.kindOf a = some .free) (hst : env.kindOf st = some .free) (hr : env.kindOf r = some .free)
    (la : env.cells.lookup a = some ca) (lst : env.cells.lookup st = some cst) (lr : env.cells.lookup r = some cr) (hn : s.heap.Ns env.locals m) (hm : m x = some (.int (i : Int) t))
    (va : s.heap.IsCell ca (some (.ref d))) (vst : s.heap.IsCell cst (some (.int (j : Int) u))) (vr : s.heap.IsCell cr (some (.ref rl)))
    (hl : s.heap.IsList rl items) (hi : IntsAre items.toList (row.map Int.ofNat)) (hsz : items.size ≤ sizeLine) (hj : j ≤ row.length)
    (hd : s.heap.get? d = some od) (hds : (d == sysModules) = false) (hod : od.IsDictOf (intKind prog w) kvs) (hP : Pairs kvs T)
    (nx : (x == ("__debug__" : Str)) = false) (na : (a == ("__debug__" : Str)) = false) (nst : (st == ("__debug__" : Str)) = false) (nr : (r == ("__debug__" : Str)) = false)
    (ca' : (a == ("__classdict__" : Str)) = false) (cst' : (st == ("__classdict__" : Str)) = false) (cr' : (r == ("__classdict__" : Str)) = false) :
    wpAny (model prog w) A (forIn [Expr.BoolOp .And [.Compare (.Name x p1) [.NotIn] [.Name a p2] p3, .Compare (.Name x p4) [.NotIn] [.Subscript (.Name r p5) (.Slice (some (.Name st p6)) none none p7) p8] p9] p10] true fun c r => if r = true then do
                                let ok ← PySem.isTrue c env (eval c env)
                                pure (ForInStep.yield ok)
                              else pure (ForInStep.yield r))
      (fun ok s' => ok = (!(T.any fun p => p.1 == i) && !((row.drop j).contains i)) ∧ Keeps s s') E s := by
  refine wpAny_tests_one (isTrue_and (wpAny_isTrue_Compare1 (wpAny_Name (wpAny_loadName_local hk hx hn hm (wpAny_Name (wpAny_loadName_free hk ha la va ?_ ca') na)) nx)))
  refine notin_intTab (D := datOf T) ⟨hds, kvs, Heap.dictOf_iff.mpr ⟨od, hd, hod⟩, hP.flat⟩ (wpAny_truthy_bool ?_)
  rw [lookup_dat]
  cases hT : T.any fun p => p.1 == i with
  | true =>
    simp only [Bool.not_true, Bool.false_eq_true, if_false, Bool.false_and]
    exact ⟨trivial, _, _, rfl, fun _ _ e => e⟩
  | false =>
    simp only [Bool.not_false, if_true, Bool.true_and]
    refine isTrue_and (wpAny_isTrue_Compare1 (wpAny_Name (wpAny_loadName_local hk hx hn hm (Subscript_Slice (wpAny_Name (wpAny_loadName_free hk hr lr vr ?_ cr') nr))) nx))
    refine wpAny_Slice (evalPart_some_step (wpAny_Name (wpAny_loadName_free hk hst lst vst (evalPart_none_step (evalPart_none_step ?_)) cst') nst))
    have hl2 : (s.heap.push { cls := .type "slice", data := .fields #[.int (j : Int) u, .none, .none] }).IsList rl items := hl.push _
    refine ⟨"list", "list.__getitem__", list_getitem_lookup, Heap.IsList.typeIs (s := { s with heap := s.heap.push { cls := .type "slice", data := .fields #[.int (j : Int) u, .none, .none] } }) hl2, ?_⟩
    refine wpAny_getItem_list_slice hl2 (Heap.IsSliceOf.new ..) (.int _ _) .none .none (by simp) ?_ hsz
    have hs := slice_ints_from (vs := items.toList) hi (x := (j : Int)) (by omega) (by simp; omega)
    refine notin_list_ints (vs := (slicePick items (some (j : Int)) none none).toList) ⟨_, Heap.get?_push_size _ rfl, rfl, _, rfl⟩ hs (wpAny_truthy_bool ?_)
    have hc : ((List.map Int.ofNat row).drop (j : Int).toNat).any (fun x => x == (i : Int)) = (row.drop j).contains i := by
      rw [Int.toNat_natCast, ← List.map_drop, List.any_map, ← List.any_beq]
      congr 1
      funext y
      show (Int.ofNat y == (i : Int)) = _
      by_cases e : y = i
      · subst e; simp
      · have e2 : ¬ ((y : Int) = (i : Int)) := by exact_mod_cast e
        have e3 : (Int.ofNat y == (i : Int)) = false := beq_eq_false_iff_ne.mpr e2
        have e4 : (i == y) = false := beq_eq_false_iff_ne.mpr (Ne.symm e)
        simp only [e3, e4]
    rw [hc]
    cases (row.drop j).contains i with
    | true =>
      simp only [Bool.not_true, Bool.false_eq_true, if_false]
      exact ⟨trivial, _, _, rfl, fun _ _ e => Heap.get?_push_of_some _ (Heap.get?_push_of_some _ e)⟩
    | false =>
      simp only [Bool.not_false, if_true]
      refine isTrue_and_nil ?_
      exact ⟨rfl, _, _, rfl, fun _ _ e => Heap.get?_push_of_some _ (Heap.get?_push_of_some _ e)⟩
end
end Mine
end
section
open PySem PySem.W PyProof.Rows
set_option maxRecDepth 100000
set_option maxHeartbeats 8000000
namespace Mine
theorem frBut {b0 h h' : Heap} {L P : Addr} {m : Str → Option Value} (F : Fr b0 L h m) (hk : ∀ b o, b ≠ P → h.get? b = some o → h'.get? b = some o) (hb : b0.get? P = none) (hPL : L ≠ P) : Fr b0 L h' m := by
  obtain ⟨oL, a1, a2, hL, a3⟩ := F.ns
  exact ⟨⟨oL, a1, a2, hk _ _ hPL hL, a3⟩, fun b o x => hk b o (fun q => by rw [q, hb] at x; cases x) (F.keep b o x), F.above⟩
theorem newsBut {b0 h h' : Heap} {L P : Addr} {o : Obj} {o' : Obj} {news : List (Addr × Obj)} (N : News b0 L h (news ++ [(P, o)])) (hk : ∀ b o, b ≠ P → h.get? b = some o → h'.get? b = some o) (hn : ∀ p ∈ news, p.1 ≠ P) (hP : h'.get? P = some o') : News b0 L h' (news ++ [(P, o')]) := by
  intro p hp
  rcases List.mem_append.mp hp with hp | hp
  · have z := N p (List.mem_append_left _ hp)
    exact ⟨hk _ _ (hn p hp) z.1, z.2⟩
  · have z := N (P, o) (List.mem_append_right _ (.head _))
    rw [List.mem_singleton.mp hp]
    exact ⟨hP, z.2⟩
theorem small9 : ∀ n : Nat, n ≤ 9 → Builtin.Range.small 0 (n : Int) 1 = true ∧ Builtin.Range.rangeSize 0 (n : Int) 1 = (n : Int) := by decide
theorem treeOf_len (many : Nat) : ∀ (used row : List Nat), (treeOf many used row).length = row.length
  | _, [] => rfl
  | used, u :: rest => by simp [treeOf, treeOf_len many _ rest]
theorem leastOf_congr {many : Nat} {used used' rest : List Nat} (h : ∀ p, p ∈ used ↔ p ∈ used') : leastOf many used rest = leastOf many used' rest := by
  unfold leastOf
  congr 2
  funext p
  have : used.contains p = used'.contains p := by
    rw [Bool.eq_iff_iff]; simp [h p]
  rw [this]
theorem treeOf_at (many : Nat) : ∀ (row used : List Nat) (i u : Nat), row[i]? = some u →
    (treeOf many used row)[i]? = some (leastOf many ((((treeOf many used row).take i).map (·.1)).reverse ++ used) (row.drop i), u)
  | [], _, _, _, h => by simp at h
  | v :: rest, used, 0, u, h => by
    simp at h; subst h; rfl
  | v :: rest, used, i + 1, u, h => by
    have h' : rest[i]? = some u := by simpa using h
    have ih := treeOf_at many rest (leastOf many used (v :: rest) :: used) i u h'
    simp only [treeOf, List.getElem?_cons_succ, List.take_succ_cons, List.map_cons, List.drop_succ_cons, List.reverse_cons, List.append_assoc, List.singleton_append]
    exact ih
theorem tree_pick {many : Nat} {row : List Nat} {i j u : Nat} (hrow : row.length + 1 = many) (hu : row[i]? = some u)
    (hj : j < many) (hp : (!(((treeOf many [] row).take i).any fun p => p.1 == j) && !((row.drop i).contains j)) = true)
    (hmin : ∀ k, k < many → (!(((treeOf many [] row).take i).any fun p => p.1 == k) && !((row.drop i).contains k)) = true → j ≤ k) :
    (treeOf many [] row)[i]? = some (j, u) := by
  have hil : i < row.length := (List.getElem?_eq_some_iff.mp hu).1
  rw [treeOf_at many row [] i u hu, List.append_nil]
  have hlen : (row.drop i).length + ((((treeOf many [] row).take i).map (·.1)).reverse).length < many := by
    simp [treeOf_len]; omega
  obtain ⟨h1, h2, h3, h4⟩ := least_spec hlen
  have key : ∀ k, (!(((treeOf many [] row).take i).any fun p => p.1 == k) && !((row.drop i).contains k)) = true ↔ k ∉ (((treeOf many [] row).take i).map (·.1)).reverse ∧ k ∉ row.drop i := fun k => by
    simp only [Bool.and_eq_true, Bool.not_eq_true', List.any_eq_false, beq_iff_eq, List.mem_reverse, List.mem_map, not_exists, not_and, List.contains_eq_mem, decide_eq_false_iff_not]
  have hpj := (key j).mp hp
  have e : leastOf many ((((treeOf many [] row).take i).map (·.1)).reverse) (row.drop i) = j :=
    Nat.le_antisymm (h4 j hj hpj.1 hpj.2) (hmin _ h1 ((key _).mpr ⟨h2, h3⟩))
  rw [e]
theorem tree_some {many : Nat} {row : List Nat} {i : Nat} (hrow : row.length + 1 = many) (hil : i < row.length) :
    ∃ k, k < many ∧ (!(((treeOf many [] row).take i).any fun p => p.1 == k) && !((row.drop i).contains k)) = true := by
  have hlen : (row.drop i).length + ((((treeOf many [] row).take i).map (·.1)).reverse).length < many := by
    simp [treeOf_len]; omega
  obtain ⟨h1, h2, h3, h4⟩ := least_spec hlen
  refine ⟨_, h1, ?_⟩
  simp only [Bool.and_eq_true, Bool.not_eq_true', List.any_eq_false, beq_iff_eq, List.contains_eq_mem, decide_eq_false_iff_not]
  exact ⟨fun p hp e => h2 (by rw [List.mem_reverse, List.mem_map]; exact ⟨p, hp, e⟩), h3⟩
end Mine
end
section
open PySem PySem.W PyProof.Rows
set_option maxRecDepth 100000
set_option maxHeartbeats 8000000
namespace Mine
theorem enterC {prog : Program} {w : World} {A : Around} {R : Result → Shared → Prop} {s : Shared} {base : Heap} {news : List (Addr × Obj)} {name qual : Str} {params : Arguments} {body : List Stmt} {scope : Scope}
    {pm cd doc : Value} {a : Addr} {o : Obj} {args : List Value} {binds : List (Str × Value)}
    (hk : KeepAll base s.heap) (hsz : base.objs.size ≤ s.heap.objs.size) (hN : Led base s.heap news)
    (hroom : A.depth < recursionLimit) (ho : s.heap.get? a = some o) (hdata : o.data = .func (fnRec name qual params body scope pm cd doc)) (hlim : s.heap.NoLimit) (hcd : s.heap.CodeRec cd qual)
    (hbind : bindArgs (fnRec name qual params body scope pm cd doc) ⟨args, []⟩ = pure binds)
    (hkind : ∀ n, ∀ x ∈ binds, scope.names.lookup x.1 = some .local ∨ (scope.names.lookup x.1 = some .cell ∧ ((cellsFrom n scope.names []).lookup x.1).isSome = true))
    (hnd : ((cellsFrom 0 scope.names []).map (·.1)).Nodup)
    (h : ∀ L h₁ tk cells, Fr base L h₁ (bindL (envOfC qual scope L a cd).kindOf binds fun _ => none) → News base L h₁ (cells ++ news) → (∀ q ∈ news, q.1 < L) →
      CellsAre (bindC (envOfC qual scope L a cd).kindOf binds fun _ => none) (cellsFrom (L + 1) scope.names []) cells → KeepAll s.heap h₁ → s.heap.get? L = none →
      wpAny (model prog w) (A.deeper (envOfC qual scope L a cd)) (execs body (envOfC qual scope L a cd))
        (fun f s' => R (.ok (.ret (match f with | .ret v => v | _ => .none))) s')
        (fun e s' => wpAny (model prog w) (A.deeper (envOfC qual scope L a cd)) (leaving (envOfC qual scope L a cd) e)
          (fun _ s'' => R (.error e) s'') (fun e' s'' => R (.error e') s'') s')
        { s with heap := h₁, toks := tk })
    (hco : scope.isCoroutine = false := by rfl) (hgen : scope.isGenerator = false := by rfl) (hk' : scope.kind = .function := by rfl) :
    codeAny (model prog w) A (.call (.ref a) ⟨args, []⟩) R s := by
  refine codeAny_call_function hroom ho hdata hco hgen rfl hcd ?_
  rw [hbind]
  refine wpAny_pure (wpAny_newFunctionEnv_cells hk' (hkind _) fun env' he s' x => ?_)
  subst he
  obtain ⟨h₁, tk, rfl, _⟩ := x.done
  have hk₁ : KeepAll s.heap h₁ := x.toInCall.keep
  refine ⟨hlim.keeps hk₁, codeAny_func ?_⟩
  obtain ⟨cells, NC, Y⟩ := Cl.news (h₀ := s.heap) (Nat.le_refl _) fun n c hm => ⟨x.cell n c (lookup_of_mem_nodup (cellsFrom_names scope.names 0 (s.heap.objs.size + 1) [] [] rfl ▸ hnd) hm), x.above n c hm⟩
  refine h s.heap.objs.size h₁ tk cells ⟨x.toInCall.ns, fun b o e => hk₁ b o (hk b o e), hsz⟩ (fun p hp => ?_) (fun p hp => Heap.lt_size (hN p hp).1) Y hk₁ (get?_size_none _ (Nat.le_refl _))
  rcases List.mem_append.mp hp with hp | hp
  · exact ⟨(NC p hp).1, (NC p hp).2.1, hk.none_of (NC p hp).2.2⟩
  · exact ⟨hk₁ _ _ (hN p hp).1, Nat.ne_of_lt (Heap.lt_size (hN p hp).1), (hN p hp).2⟩
theorem fr_named {h₀ h : Heap} {L : Addr} {m : Str → Option Value} (F : Fr h₀ L h m) (x : Str) (v : Value) (e : m x = some v) : Fr h₀ L h (fun y => if y = x then some v else m y) := by
  have : m = fun y => if y = x then some v else m y := by
    funext y
    by_cases q : y = x
    · rw [if_pos q, q]; exact e
    · rw [if_neg q]
  exact this ▸ F
end Mine
end
section
open PySem PySem.W PyProof.Rows PyProof.V
set_option maxRecDepth 100000
set_option maxHeartbeats 8000000
namespace Mine
def defOf (name : Str) : List Stmt → Option (List Stmt × Scope)
  | [] => none
  | .FunctionDef (name := n) (body := b) (scope := sc) .. :: r => if n = name then some (b, sc) else defOf name r
  | _ :: r => defOf name r
theorem slash_mul (n : Int) (h : 0 ≤ n) : Txt.mul (Str.ofString "/") n = S (sl n.toNat) := by
  obtain ⟨k, rfl⟩ := Int.eq_ofNat_of_zero_le h
  rw [of_slash, mul_S]; rfl
theorem dot_mul (n : Nat) : Txt.mul (Str.ofString ".") (n : Int) = S (dt n) := by
  rw [of_dot, mul_S]; rfl
def TOk (many : Nat) : List (Nat × Nat) → Prop
  | [] => True
  | (l, u) :: T => l + 1 < many ∧ l ∉ T.map (·.1) ∧ (u + 1 = many ∨ u ∈ T.map (·.1)) ∧ TOk many T
theorem res_key {many : Nat} : ∀ {T : List (Nat × Nat)} {p : Nat}, Res many T p → p + 1 = many ∨ p ∈ T.map (·.1)
  | [], _, h => .inl h
  | (l, u) :: T, p, h => by
    have h' : (if p = l then Res many T u else Res many T p) := h
    split at h'
    · rename_i e; exact .inr (by rw [e]; exact .head _)
    · rcases res_key h' with h | h
      · exact .inl h
      · exact .inr (.tail _ h)
theorem tOk_of {many : Nat} : ∀ {used rest : List Nat}, Inv many used rest → TOk many (treeOf many used rest) ∧ ∀ p ∈ (treeOf many used rest).map (·.1), p ∉ used
  | used, [], I => ⟨trivial, fun p hp => nomatch hp⟩
  | used, u :: rest, I => by
    have hlen := I.len
    rw [List.length_cons] at hlen
    obtain ⟨h1, h2, h3, _⟩ := least_spec (many := many) (used := used) (rest := u :: rest) (hlen ▸ Nat.lt_succ_self _)
    obtain ⟨ih1, ih2⟩ := tOk_of I.next
    have hroot : many - 1 ∈ u :: rest := by
      rcases I.last with h | h
      · cases h
      · exact List.mem_of_getLast? h
    have hul : u ∉ leastOf many used (u :: rest) :: used := fun h => by
      rcases List.mem_cons.mp h with h | h
      · exact h3 (h ▸ .head _)
      · exact I.dis u h (.head _)
    refine ⟨⟨?_, fun h => ih2 _ h (.head _), ?_, ih1⟩, fun p hp => ?_⟩
    · have : leastOf many used (u :: rest) ≠ many - 1 := fun e => h3 (e ▸ hroot)
      omega
    · exact res_key (tree_res I.next u (I.rlt u (.head _)) hul)
    · have hp' : p ∈ leastOf many used (u :: rest) :: (treeOf many (leastOf many used (u :: rest) :: used) rest).map (·.1) := hp
      rcases List.mem_cons.mp hp' with rfl | hp'
      · exact h2
      · exact fun h => ih2 p hp' (.tail _ h)
theorem TOk.drop {many : Nat} : ∀ {T : List (Nat × Nat)} (n : Nat), TOk many T → TOk many (T.drop n)
  | [], n, _ => by simp [TOk]
  | _ :: _, 0, h => h
  | (_, _) :: T, n + 1, h => by rw [List.drop_succ_cons]; exact TOk.drop n h.2.2.2
theorem pathT_len {root : List Nat} {a : Nat → Nat} {many : Nat} (ha : ∀ p, a p ≤ 1) : ∀ {T : List (Nat × Nat)} {p : Nat}, TOk many T → (pathT root a T p).length ≤ root.length + T.length * (2 + many)
  | [], _, _ => by simp [pathT]
  | (l, u) :: T, p, h => by
    show (if p = l then _ else _ : List Nat).length ≤ _
    have i1 := pathT_len (root := root) (many := many) ha (p := u) h.2.2.2
    have i2 := pathT_len (root := root) (many := many) ha (p := p) h.2.2.2
    have h1 := ha l
    have h2 := h.1
    have e : ((l, u) :: T).length * (2 + many) = T.length * (2 + many) + (2 + many) := by rw [List.length_cons, Nat.succ_mul]
    split
    · rw [e, List.length_append, List.length_append, sl, dt, List.length_replicate, List.length_replicate]
      exact Nat.le_trans (Nat.le_of_eq (Nat.add_assoc _ _ _)) (Nat.le_trans (Nat.add_le_add i1 (Nat.add_le_add (Nat.succ_le_succ h1) (Nat.le_of_lt h2))) (Nat.le_of_eq (Nat.add_assoc _ _ _)))
    · exact Nat.le_trans i2 (by rw [e, ← Nat.add_assoc]; exact Nat.le_add_right _ _)
theorem valueAt_stored {K : Type} [DecidableEq K] (kvs : List (K × Value)) (k k' : K) (v : Value) : valueAt (stored kvs k v) k' = if k' = k then some v else valueAt kvs k' := by
  unfold stored
  split
  · rename_i h
    induction kvs with
    | nil => simp at h
    | cons kv r ih =>
      obtain ⟨k0, v0⟩ := kv
      by_cases e0 : k0 = k
      · subst e0
        by_cases e : k' = k0
        · subst e; simp [valueAt]
        · rw [if_neg e]
          have e' : ¬ k0 = k' := fun q => e q.symm
          simp only [valueAt, List.map_cons, if_true, List.find?_cons, decide_eq_true_eq]
          simp only [e', decide_false]
          congr 1
          clear ih h
          induction r with
          | nil => rfl
          | cons kv r ih =>
            obtain ⟨k1, v1⟩ := kv
            by_cases e1 : k1 = k0
            · subst e1; simp [e', ih]
            · simp only [List.map_cons, e1, if_false, List.find?_cons]
              split
              · rfl
              · exact ih
      · have hr : (r.any fun kv => decide (kv.1 = k)) = true := by simpa [e0] using h
        have ih' := ih hr
        simp only [valueAt, List.map_cons, e0, if_false, List.find?_cons] at ih' ⊢
        by_cases e : k0 = k'
        · subst e
          rw [if_neg e0]; simp
        · simp only [e, decide_false]
          exact ih'
  · rename_i h
    have hn : ∀ kv ∈ kvs, ¬ kv.1 = k := fun kv hkv e => h (List.any_eq_true.mpr ⟨kv, hkv, by simp [e]⟩)
    unfold valueAt
    rw [List.find?_append]
    by_cases e : k' = k
    · subst e
      rw [if_pos rfl, List.find?_eq_none.mpr (fun kv hkv => by simp [hn kv hkv])]
      simp
    · rw [if_neg e]
      have e' : ¬ k = k' := fun q => e q.symm
      cases hf : kvs.find? fun kv => decide (kv.1 = k') with
      | none => simp [e']
      | some x => simp
def PathsAt (many : Nat) (root : List Nat) (a : Nat → Nat) (T : List (Nat × Nat)) (kvs : List (Int × Value)) : Prop :=
  kvs.length ≤ T.length + 1 ∧ ∀ p : Nat, (p + 1 = many ∨ p ∈ T.map (·.1)) → ∃ t, valueAt kvs (p : Int) = some (.str (S (pathT root a T p)) t)
theorem PathsAt.start {many : Nat} {root : List Nat} {a : Nat → Nat} {t : Tok} (h : 2 ≤ many) : PathsAt many root a [] [(((many - 1 : Nat) : Int), .str (S root) t)] := by
  refine ⟨Nat.le_refl _, fun p hp => ?_⟩
  rcases hp with hp | hp
  · refine ⟨t, ?_⟩
    have : ((many - 1 : Nat) : Int) = (p : Int) := by omega
    simp [valueAt, this, pathT]
  · cases hp
theorem PathsAt.step {many : Nat} {root : List Nat} {a : Nat → Nat} {T : List (Nat × Nat)} {kvs : List (Int × Value)} {l u : Nat} (ok : TOk many ((l, u) :: T)) (h : PathsAt many root a T kvs) (t : Tok) :
    PathsAt many root a ((l, u) :: T) (stored kvs ((l : Nat) : Int) (.str (S (pathT root a T u ++ sl (a l + 1) ++ dt (l + 1))) t)) := by
  refine ⟨?_, fun p hp => ?_⟩
  · have := stored_length_le kvs ((l : Nat) : Int) (.str (S (pathT root a T u ++ sl (a l + 1) ++ dt (l + 1))) t)
    have := h.1
    simp only [List.length_cons]; omega
  · rw [valueAt_stored]
    by_cases e : p = l
    · subst e
      rw [if_pos rfl]
      refine ⟨t, ?_⟩
      simp only [pathT, if_true]
    · have e' : ¬ ((p : Int) = (l : Int)) := fun q => e (by exact_mod_cast q)
      rw [if_neg e']
      have hp' : p + 1 = many ∨ p ∈ T.map (·.1) := by
        rcases hp with hp | hp
        · exact .inl hp
        · have hp2 : p ∈ l :: T.map (·.1) := hp
          rcases List.mem_cons.mp hp2 with hp | hp
          · exact absurd hp e
          · exact .inr hp
      obtain ⟨t', ht'⟩ := h.2 p hp'
      exact ⟨t', by simp only [pathT, if_neg e]; exact ht'⟩
theorem TOk.nodup {many : Nat} : ∀ {T : List (Nat × Nat)}, TOk many T → (T.map (·.1)).Nodup
  | [], _ => List.nodup_nil
  | (_, _) :: _, h => List.nodup_cons.mpr ⟨h.2.1, TOk.nodup h.2.2.2⟩
theorem Pairs.at {kvs : List (Int × Value)} {T : List (Nat × Nat)} {j : Nat} {k : Int} {x : Value} (hp : Mine.Pairs kvs T) (h : kvs[j]? = some (k, x)) : ∃ l u t, T[j]? = some (l, u) ∧ k = ((l : Nat) : Int) ∧ x = .int ((u : Nat) : Int) t := by
  induction hp generalizing j with
  | nil => cases h
  | cons l u t hp ih =>
    cases j with
    | zero => cases h; exact ⟨l, u, t, rfl, rfl, rfl⟩
    | succ j => exact ih (j := j) h
theorem Pairs.keys {kvs : List (Int × Value)} {T : List (Nat × Nat)} (hp : Mine.Pairs kvs T) : kvs.map (·.1) = (T.map (·.1)).map Int.ofNat := by
  induction hp with
  | nil => rfl
  | cons l u t hp ih => exact congrArg (List.cons _) ih
theorem nodup_cast : ∀ {l : List Nat}, l.Nodup → (l.map Int.ofNat).Nodup
  | [], _ => List.nodup_nil
  | a :: l, h => by
    rw [List.nodup_cons] at h
    rw [List.map_cons, List.nodup_cons]
    refine ⟨fun hm => ?_, nodup_cast h.2⟩
    obtain ⟨b, hb, e⟩ := List.mem_map.mp hm
    exact h.1 (by have : b = a := Int.ofNat.inj e; exact this ▸ hb)
theorem Pairs.value {kvs : List (Int × Value)} {T : List (Nat × Nat)} {many j : Nat} {k : Int} {x : Value} (hp : Mine.Pairs kvs T) (ok : TOk many T) (h : kvs[j]? = some (k, x)) : valueAt kvs k = some x :=
  valueAt_of_get (by rw [hp.keys]; exact nodup_cast ok.nodup) h
section
variable {prog : Program} {w : World} {A : Around} {E : Value → Shared → Prop} {s : Shared}
theorem cut_state {α : Type} {M : Model} {t : Sem α} {Q : α → Shared → Prop} {h' : Heap} (h : ∀ s1 : Shared, s1.heap = h' → s1.gens = s.gens → s1.os = s.os → wpAny M A t Q E s1) (e : s.heap = h' := by rfl) : wpAny M A t Q E s := h s e rfl rfl
theorem item_at {K : Type} [DecidableEq K] {knd : KeyKind prog w K} {value slice : Expr} {d : Addr} {kvs : List (K × Value)} {k : K} {key v : Value} {Q : Value → Shared → Prop} (hD : s.heap.DictOf knd d kvs) (hk : knd.is k key = true) (hv : valueAt kvs k = some v)
    (h : Q v { s with toks := s.toks + 1 }) (hs : subscripted slice false (.ref d) key = operate [.ref d, key] (getItem (.ref d) key) := by with_unfolding_all rfl) :
    wpAny (model prog w) A (subscriptTail value slice (.ref d) key) Q E s :=
  tail_any hD.typeIs slot_dict_getitem.lookup (wpAny_getItem_of hk hD.mapOf hv h) hs
theorem news_head {b h h' : Heap} {L I : Addr} {o o' : Obj} {rest : List (Addr × Obj)} (N : News b L h ((I, o) :: rest)) (hs : Heap.SameBut I h h') (ho : h'.get? I = some o') (hn : ∀ p ∈ rest, p.1 ≠ I) : News b L h' ((I, o') :: rest) := by
  intro p hp
  rcases List.mem_cons.mp hp with rfl | hp
  · exact ⟨ho, (N _ (.head _)).2⟩
  · exact ⟨(hs.2 _ (hn p hp)).trans (N p (.tail _ hp)).1, (N p (.tail _ hp)).2⟩
end
end Mine
end
section
open PySem PySem.W PyProof.Rows PySem.Builtin PySem.Builtin.ObjectAttr
set_option maxRecDepth 100000
set_option maxHeartbeats 8000000
namespace Mine
def metAt (xs : List Str) (i : Nat) : List Str := (xs.take i).foldl (fun σ x => if σ.any (· == x) then σ else σ ++ [x]) []
theorem metAt_zero (xs : List Str) : metAt xs 0 = [] := by simp [metAt]
theorem metAt_succ (xs : List Str) {i : Nat} (h : i < xs.length) : metAt xs (i + 1) = if (metAt xs i).any (· == xs[i]) then metAt xs i else metAt xs i ++ [xs[i]] := by
  unfold metAt
  rw [List.take_succ_eq_append_getElem h, List.foldl_append]; rfl
theorem metAt_len (xs : List Str) : ∀ i, (metAt xs i).length ≤ i
  | 0 => by rw [metAt_zero]; exact Nat.le_refl _
  | i + 1 => by
    by_cases h : i < xs.length
    · rw [metAt_succ xs h]
      have := metAt_len xs i
      split
      · omega
      · rw [List.length_append, List.length_singleton]; omega
    · have e : xs.take (i + 1) = xs.take i := by rw [List.take_of_length_le (by omega), List.take_of_length_le (by omega)]
      have : metAt xs (i + 1) = metAt xs i := by unfold metAt; rw [e]
      rw [this]; exact Nat.le_succ_of_le (metAt_len xs i)
theorem metAt_any (xs : List Str) (k : Str) : ∀ i, (metAt xs i).any (· == k) = (xs.take i).any (· == k)
  | 0 => by simp [metAt_zero]
  | i + 1 => by
    by_cases h : i < xs.length
    · rw [metAt_succ xs h, List.take_succ_eq_append_getElem h, List.any_append, ← metAt_any xs k i]
      by_cases q : (metAt xs i).any (· == xs[i]) = true
      · rw [if_pos q]
        by_cases e : xs[i] = k
        · rw [← e, q]; simp
        · have : (xs[i] == k) = false := by simpa using e
          simp [this]
      · rw [if_neg q, List.any_append]
    · have e : xs.take (i + 1) = xs.take i := by rw [List.take_of_length_le (by omega), List.take_of_length_le (by omega)]
      have : metAt xs (i + 1) = metAt xs i := by unfold metAt; rw [e]
      rw [this, e]; exact metAt_any xs k i
theorem StrsAre.at_ {vs : List Value} {xs : List Str} (x : StrsAre vs xs) (i : Nat) (v : Value) (h : vs[i]? = some v) : ∃ t, ∃ h : i < xs.length, v = .str xs[i] t := by
  induction x generalizing i with
  | nil => cases h
  | cons n t hr ih =>
    cases i with
    | zero => cases h; exact ⟨t, Nat.succ_pos _, rfl⟩
    | succ i =>
      obtain ⟨t', hl, e⟩ := ih i h
      exact ⟨t', Nat.succ_lt_succ hl, e⟩
theorem StrsAre.len {vs : List Value} {xs : List Str} (x : StrsAre vs xs) : vs.length = xs.length := by
  induction x with
  | nil => rfl
  | cons n t hr ih => exact congrArg Nat.succ ih
section
variable {prog : Program} {w : World} {A : Around} {R : Result → Shared → Prop} {I : Addr} {fp wr : List Addr} {G : Array GenState → Array GenState → Prop} {n : Nat} {P : Nat → Value → Prop} {St : Nat → Shared → Prop}
theorem setAdd_str {S : Addr} {Sm : Str → Bool} {m : Nat} {s : Shared} {y : Str} {t : Tok} {Q : Bool → Shared → Prop} {E : Value → Shared → Prop} (hS : s.heap.SetOf (strKind prog w) S Sm m) (hb : m + 1 < scanBound)
    (h : ∀ b h', Heap.SameBut S s.heap h' → h'.SetOf (strKind prog w) S (fun k => Sm k || decide (k = y)) (if Sm y then m else m + 1) → Q b { s with heap := h', toks := s.toks + 1 }) :
    wpAny (model prog w) A (setAdd S (.str y t)) Q E s := by
  unfold setAdd
  refine wpAny_holding ?_
  refine wpAny_bind ((strKind prog w).pyHash (k := y) (strKind_is _ _ _ _) ?_)
  exact wpAny_setAddHashed_of (knd := strKind prog w) (s := { s with toks := s.toks + 1 }) (strKind_is _ _ _ _) rfl hS hb fun h' hsb hS2 => h _ h' hsb hS2
theorem set_update_strs {xs : List Str} (W : WalksS prog w A.in1 I fp wr G xs.length P St) (S : Addr) (hSf : S ∉ fp)
    (hval : ∀ i v, P i v → ∃ t, ∃ h : i < xs.length, v = .str xs[i] t) (hb : xs.length + 1 < scanBound) :
    ∀ (k i : Nat) (s : Shared), xs.length - i = k → i ≤ xs.length → St i s →
      s.heap.SetOf (strKind prog w) S (fun k' => (metAt xs i).any (· == k')) (metAt xs i).length →
      (∀ s', Moved (S :: wr) G s s' → s'.heap.SetOf (strKind prog w) S (fun k' => (metAt xs xs.length).any (· == k')) (metAt xs xs.length).length → R (.ok (.ret .none)) s') →
      codeAny (model prog w) A (.builtin "set.update.loop" ⟨[.ref S, .ref I], []⟩) R s := by
  have hSw : S ∉ wr := fun h => hSf (W.sub _ h)
  have hsub : ∀ b ∈ wr, b ∈ S :: wr := fun b hb => List.mem_cons_of_mem _ hb
  have still : ∀ {s s' : Shared} {Sm m}, Moved wr G s s' → s.heap.SetOf (strKind prog w) S Sm m → s'.heap.SetOf (strKind prog w) S Sm m := fun hm ⟨o, es, ep, t, ho, rest⟩ => ⟨o, es, ep, t, hm.heap S _ hSw ho, rest⟩
  intro k
  induction k with
  | zero =>
    intro i s hk hi hst hS hR
    obtain rfl : i = xs.length := by omega
    refine codeAny_builtin F.entry_set_update_loop ?_
    rw [Around.under_plainId F.plain_set_update_loop _]
    show wpAny _ A.in1 (pyNext (.ref I) >>= _) _ _ s
    refine wpAny_bind (W.done s _ _ hst fun s' hm => ?_)
    show wpAny _ A.in1 (ret Value.none) _ _ s'
    exact wpAny_pure (hR s' (hm.mono hsub) (still hm hS))
  | succ k ih =>
    intro i s hk hi hst hS hR
    have hlt : i < xs.length := by omega
    refine codeAny_builtin F.entry_set_update_loop ?_
    rw [Around.under_plainId F.plain_set_update_loop _]
    show wpAny _ A.in1 (pyNext (.ref I) >>= _) _ _ s
    refine wpAny_bind (W.item i s _ _ hlt hst fun v s' hP hst' hm => ?_)
    obtain ⟨t, _, rfl⟩ := hval i v hP
    show wpAny _ A.in1 (holding [Value.str xs[i] t] (setAdd S (.str xs[i] t)) >>= _) _ _ s'
    have hroom : (metAt xs i).length + 1 < scanBound := by have := metAt_len xs i; omega
    refine wpAny_bind (wpAny_holding (setAdd_str (still hm hS) hroom fun b h' hsb hS2 => ?_))
    have hSi : h'.SetOf (strKind prog w) S (fun k' => (metAt xs (i + 1)).any (· == k')) (metAt xs (i + 1)).length := by
      refine SetOf_congr hS2 (fun k' => ?_) ?_
      · rw [metAt_any, metAt_any, List.take_succ_eq_append_getElem hlt, List.any_append]
        congr 1
        rw [List.any_cons, List.any_nil, Bool.or_false]
        by_cases e : k' = xs[i]
        · rw [decide_eq_true e, e, beq_self_eq_true]
        · have e' : xs[i] ≠ k' := fun q => e q.symm
          rw [decide_eq_false e, beq_eq_false_iff_ne.mpr e']
      · rw [metAt_succ xs hlt]
        by_cases q : (metAt xs i).any (· == xs[i]) = true
        · rw [if_pos q, if_pos q]
        · rw [if_neg q, if_neg q, List.length_append]; rfl
    refine wpAny_pure ⟨plainId_quiet F.plain_set_update_loop _, ih (i + 1) _ (by omega) hlt (W.frame _ s' _ _ hst' (Nat.le_succ _) fun b hb o e => ?_) hSi fun s'' hm'' hS'' => ?_⟩
    · rw [hsb.2 b (fun h : b = S => hSf (by rw [← h]; exact hb))]; exact e
    · refine hR s'' (Moved.trans W.gtrans ((hm.mono hsub).then_heap (Nat.le_succ _) fun b o hb e => ?_) hm'') hS''
      rw [hsb.2 b (fun h : b = S => hb (by rw [h]; exact List.mem_cons_self))]; exact e
end
section
variable {prog : Program} {w : World} {A : Around} {E : Value → Shared → Prop} {s : Shared}
theorem call_set_by {a : Value} {Q : Value → Shared → Prop}
    (h0 : ∀ led s₁, s₁ = { s with heap := s.heap.push { cls := .type "set", dict := none, data := .set #[] 0 (.fresh 0 0 led) } } →
      wpAny (model prog w) A.in1.in1 (Builtin.«set.__init__» ⟨[.ref s.heap.objs.size, a], []⟩) (fun fin s₂ => fin = .done (.ret .none) ∧ Q (.ref s.heap.objs.size) s₂) E s₁) :
    wpAny (model prog w) A (PySem.call (.type "set") [a]) Q E s := by
  obtain ⟨c, tl, hmro⟩ := F.called_set.mro
  have hmade := F.called_set.made
  have hsub := F.called_set.sub
  refine wpAny_call (codeAny_of_tree ?_)
  show wpAny _ _ (callAny (.type "set") _) _ _ _
  refine wpAny_pure ⟨Code.quiet_builtin _ (by decide +kernel), codeAny_builtin F.entry_type_call ?_⟩
  rw [Around.under_plain (weight_type_call_type "set" [a] []) rfl]
  have h1 := F.called_set.notType
  have h2 := F.called_set.canCreate
  have hct := F.typeCall_set_1 a
  repeat (any_goals (first | assumption | wp_step))
  refine codeAny_mono (code_set_new_1 a (E := E) (Q₁ := fun obj s₁ => ∃ led : Bool, obj = .ref s.heap.objs.size ∧ s₁ = { s with heap := s.heap.push { cls := .type "set", dict := none, data := .set #[] 0 (.fresh 0 0 led) } }) fun led => ⟨led, rfl, rfl⟩) fun r s₁ hr => ?_
  cases r with
  | error e => exact hr
  | ok fl =>
    cases fl with
    | ret obj =>
      obtain ⟨led, rfl, hs₁⟩ := hr
      have hT : s₁.TypeIs (.ref s.heap.objs.size) "set" := by subst hs₁; exact ⟨_, Heap.get?_push_size _ rfl, rfl⟩
      have hli := F.called_set.init.lookup
      have hbi := F.called_set.init.bind (.ref s.heap.objs.size)
      have hz := h0 led s₁ hs₁
      repeat (any_goals (first | assumption | wp_step))
      refine codeAny_mono (codeAny_call_builtin (R := wants (fun r s₂ => r = .none ∧ Q (.ref s.heap.objs.size) s₂) E) F.called_set.init.plain F.entry_set_init (check_set_init_1 hT (wpAny_mono hz (fun fin s₂ h => ?_) fun _ _ e => e))) fun r₂ s₂ hr₂ => ?_
      · obtain ⟨rfl, hq⟩ := h
        exact ⟨rfl, hq⟩
      · cases r₂ with
        | error e => exact hr₂
        | ok fl₂ =>
          cases fl₂ with
          | ret r =>
            obtain ⟨rfl, hq⟩ := hr₂
            repeat (any_goals (first | assumption | wp_step))
          | _ => exact hr₂.elim
    | _ => exact hr.elim
end
end Mine
end
section
open PySem PySem.W PyProof.Rows
set_option maxRecDepth 100000
set_option maxHeartbeats 8000000
namespace Mine
abbrev listObj (vs : List Value) (c : Nat) : Obj := { cls := .type "list", dict := none, data := .seq vs.toArray c, slots := #[] }
section
variable {prog : Program} {w : World} {dp un : Nat} {l : List Env} {gd : Option (List Code)} {base : Heap} {x : Addr} {W : Addr → Prop} {V : Nat → Prop} {own : List Addr} {R : List Str → Shared → Prop}
theorem StrsAre.snoc {vs : List Value} {ys : List Str} (x : StrsAre vs ys) (y : Str) (t : Tok) : StrsAre (vs ++ [.str y t]) (ys ++ [y]) := by
  induction x with
  | nil => exact .cons y t .nil
  | cons z u hr ih => exact .cons z u ih
theorem Ext.addW {S : List Addr} {W W' : Addr → Prop} {V : Nat → Prop} {s s' : Shared} (y : Ext S W V s s') (h : ∀ b, W b → W' b) : Ext S W' V s s' := y.mono (fun _ h => h) h fun _ h => h
theorem extend_own (I : OwnIt prog w x base W V own R) {D : Addr} {res : Value} {Rr : Result → Shared → Prop} (hD : D ∉ own) (hDb : base.get? D = none) (hd : dp ≤ 400) (hu : un + 1 ≤ 4000) (hff : ∀ f ∈ l.filterMap (·.frame), f ∉ own ∧ f ≠ D) (hnl : base.NoLimit) :
    ∀ (xs : List Str) (s : Shared) (vs : List Value) (c : Nat) (ys : List Str), KeepAll base s.heap → s.heap.FunFrames base l → R xs s → s.heap.get? D = some (listObj vs c) → StrsAre vs ys → ys.length + xs.length ≤ 1000 →
      (∀ s' vs' c', Ext (l.filterMap (·.frame)) (fun b => b = D ∨ W b) V s s' → s'.heap.get? D = some (listObj vs' c') → StrsAre vs' (ys ++ xs) → Rr (.ok (.ret res)) s') →
      codeAny (model prog w) (Ar dp un (some l) gd) (.builtin "list.extend.loop" ⟨[.ref D, .ref x, res], []⟩) Rr s := by
  have hDW : ¬ W D := fun h => hD (I.sub D h)
  intro xs
  induction xs with
  | nil =>
    intro s vs c ys hk hf hR hS hv hn hQ
    refine codeAny_builtin F.entry_extend_loop ?_
    rw [Around.under_plainId F.plain_extend_loop _]
    show wpAny _ (Ar dp (un + 1) (some l) gd) (pyNext (.ref x) >>= _) _ _ s
    refine wpAny_bind (I.nil dp (un + 1) l gd s _ _ hd hu hk (hnl.keeps hk) hf (fun f h => (hff f h).1) hR fun s' hE => ?_)
    refine wpAny_pure (hQ s' vs c (hE.addW fun b h => .inr h) ?_ (by rw [List.append_nil]; exact hv))
    exact hE.heap D _ (fun h => (hff D h).2 rfl) hDW hS
  | cons y xs ih =>
    intro s vs c ys hk hf hR hS hv hn hQ
    refine codeAny_builtin F.entry_extend_loop ?_
    rw [Around.under_plainId F.plain_extend_loop _]
    show wpAny _ (Ar dp (un + 1) (some l) gd) (pyNext (.ref x) >>= _) _ _ s
    refine wpAny_bind (I.cons dp (un + 1) l gd y xs s _ _ hd hu hk (hnl.keeps hk) hf hR fun t s' hE hR' => ?_)
    have hS' := hE.heap D _ (by simp) hDW hS
    have hlen := StrsAre.len hv
    show wpAny _ _ (updateSeq D (·.push (.str y t)) >>= _) _ _ _
    refine wpAny_bind ?_
    have hEW : ∀ b o, ¬ W b → s.heap.get? b = some o → s'.heap.get? b = some o := fun b o h e => hE.heap b o (by simp) h e
    have upd : Ext [] (fun b => b = D) V s' { s' with heap := s'.heap.update D (Obj.mapSeq (·.push (.str y t))) } := Ext.of_heap (s := s') (tk := s'.toks) fun b o hw e => by
      rw [Heap.get?_update_other _ _ (Ne.symm hw)]; exact e
    have e2 : Ext [] (fun b => b = D ∨ W b) V s { s' with heap := s'.heap.update D (Obj.mapSeq (·.push (.str y t))) } := (hE.addW fun b h => .inr h).trans (upd.addW fun b h => .inl h)
    have hk2 : KeepAll base (s'.heap.update D (Obj.mapSeq (·.push (.str y t)))) := fun b o e => e2.heap b o (by simp) (fun h => by
      rcases h with h | h
      · rw [h, hDb] at e; cases e
      · rw [I.off b (I.sub b h)] at e; cases e) (hk b o e)
    have hf2 : (s'.heap.update D (Obj.mapSeq (·.push (.str y t)))).FunFrames base l := ff_of hf (fun b hb o e _ => ⟨o, e2.heap b o (by simp) (fun h => by
      rcases h with h | h
      · exact (hff b hb).2 h
      · exact (hff b hb).1 (I.sub b h)) e, rfl⟩) fun b hb => (hf.mem hb).1
    have hR2 : R xs { s' with heap := s'.heap.update D (Obj.mapSeq (·.push (.str y t))) } := I.keeps _ _ _ hR' (fun b hb o e => by
      rw [Heap.get?_update_other _ _ (fun h => hD (by rw [h]; exact hb))]; exact e) fun _ _ _ e => e
    have hD2 := Heap.get?_update_self (Obj.mapSeq (·.push (Value.str y t))) hS' rfl
    have hobj : Obj.mapSeq (·.push (Value.str y t)) (listObj vs c) = listObj (vs ++ [.str y t]) (c + 1) := by
      simp [Obj.mapSeq, listObj]
    refine wpAny_updateSeq hS' rfl (wpAny_pure ⟨plainId_quiet F.plain_extend_loop _, ih _ (vs ++ [.str y t]) _ (ys ++ [y]) hk2 hf2 hR2 (hD2.trans (congrArg some hobj)) (StrsAre.snoc hv y t) ?_ ?_⟩) ?_ ?_
    · rw [List.length_append, List.length_singleton]
      rw [List.length_cons] at hn
      omega
    · intro s2 vs' c' hE2 hD3 hv'
      refine hQ s2 vs' c' ((e2.mono (fun _ h => nomatch h) (fun _ h => h) fun _ h => h).trans hE2) hD3 ?_
      rw [List.append_assoc] at hv'
      exact hv'
    · rw [List.size_toArray, sizeLine_eq, hlen]; omega
    · rw [Array.size_push, List.size_toArray, sizeLine_eq, hlen]; omega
theorem extendWith_own (I : OwnIt prog w x base W V own R) {D : Addr} {res : Value} {Rr : Result → Shared → Prop} {xs : List Str} {s : Shared} {vs : List Value} {c : Nat} {ys : List Str} (hD : D ∉ own) (hDb : base.get? D = none) (hd : dp ≤ 400) (hu : un + 2 ≤ 4000)
    (hff : ∀ f ∈ l.filterMap (·.frame), f ∉ own ∧ f ≠ D) (hnl : base.NoLimit) (hk : KeepAll base s.heap) (hf : s.heap.FunFrames base l) (hR : R xs s) (hS : s.heap.get? D = some (listObj vs c)) (hv : StrsAre vs ys) (hn : ys.length + xs.length ≤ 1000)
    (hQ : ∀ s' vs' c', Ext (l.filterMap (·.frame)) (fun b => b = D ∨ W b) V s s' → s'.heap.get? D = some (listObj vs' c') → StrsAre vs' (ys ++ xs) → Rr (.ok (.ret res)) s') :
    wpAny (model prog w) (Ar dp (un + 1) (some l) gd) (Builtin.List.listExtendWith (.ref D) (.ref x) res)
      (fun fin s' => match fin with | .done f => Rr (.ok f) s' | .again c' => c'.quiet = true ∧ codeAny (model prog w) (Ar dp un (some l) gd) c' Rr s') (fun e s' => Rr (.error e) s') s := by
  have hDx : D ≠ x := fun e => hD (e ▸ I.itn)
  have hDW : ¬ W D := fun h => hD (I.sub D h)
  unfold Builtin.List.listExtendWith
  refine wpAny_bind (I.typ _ _ _ _ _ hk hR fun T h2 h3 => ?_)
  have h1 : Builtin.List.listSameRef (.ref D) (.ref x) = false := by simp [Builtin.List.listSameRef, hDx]
  simp only [h1, h2, h3, Bool.or_false, Bool.false_eq_true, if_false]
  refine wpAny_bind (I.iter dp (un + 1) l gd xs s _ _ hd (by omega) hk (hnl.keeps hk) hR fun s1 hE1 hR1 => ?_)
  have hk1 : KeepAll base s1.heap := hk.trans hE1.keepAll
  have hS1 := hE1.keepAll _ _ hS
  refine wpAny_bind (wpAny_holding ?_)
  unfold Builtin.List.listLengthHint
  refine wpAny_bind (I.nolen _ _ _ _ _ hk1 hR1 ?_)
  show wpAny _ _ (specialOf (Value.ref x) (Str.ofString "__length_hint__") >>= _) _ _ _
  refine wpAny_bind (I.nohint _ _ _ _ _ hk1 hR1 ?_)
  refine wpAny_pure ?_
  show wpAny _ _ (rule "list.extend.makes-room" >>= fun _ => Builtin.List.listTouch (.ref D) >>= fun _ =>
    again (.builtin "list.extend.loop" ⟨[.ref D, .ref x, res], []⟩)) _ _ _
  refine wpAny_bind (wpAny_rule ?_)
  refine wpAny_bind ?_
  have hlen := StrsAre.len hv
  show wpAny _ _ (updateSeq D (·.push .none) >>= fun _ => updateSeq D (·.pop)) _ _ _
  refine wpAny_bind (wpAny_updateSeq hS1 rfl ?_ ?_ ?_)
  rotate_left
  · rw [List.size_toArray, sizeLine_eq, hlen]; omega
  · rw [Array.size_push, List.size_toArray, sizeLine_eq, hlen]; omega
  have hS2 := Heap.get?_update_self (Obj.mapSeq (·.push Value.none)) hS1 rfl
  have ho2 : Obj.mapSeq (·.push Value.none) (listObj vs c) = listObj (vs ++ [.none]) (c + 1) := by simp [Obj.mapSeq, listObj]
  rw [ho2] at hS2
  refine wpAny_updateSeq hS2 rfl ?_ ?_ ?_
  rotate_left
  · rw [List.size_toArray, List.length_append, List.length_singleton, sizeLine_eq, hlen]; omega
  · rw [Array.size_pop, List.size_toArray, List.length_append, List.length_singleton, sizeLine_eq, hlen]; omega
  have hS3 := Heap.get?_update_self (Obj.mapSeq (·.pop)) hS2 rfl
  have ho3 : Obj.mapSeq (·.pop) (listObj (vs ++ [.none]) (c + 1)) = listObj vs (c + 2) := by simp [Obj.mapSeq, listObj]
  rw [ho3] at hS3
  have oth : ∀ b o, b ≠ D → s1.heap.get? b = some o → ((s1.heap.update D (Obj.mapSeq (·.push Value.none))).update D (Obj.mapSeq (·.pop))).get? b = some o :=
    fun b o hb e => (Heap.get?_update_other _ _ (Ne.symm hb)).trans ((Heap.get?_update_other _ _ (Ne.symm hb)).trans e)
  have upd : Ext [] (fun b => b = D) V s1 { s1 with heap := (s1.heap.update D (Obj.mapSeq (·.push Value.none))).update D (Obj.mapSeq (·.pop)) } := Ext.of_heap (s := s1) (tk := s1.toks) fun b o hw e => oth b o hw e
  have e2 : Ext [] (fun b => b = D ∨ W b) V s { s1 with heap := (s1.heap.update D (Obj.mapSeq (·.push Value.none))).update D (Obj.mapSeq (·.pop)) } := (hE1.mono (fun _ h => h) (fun _ h => h.elim) fun _ h => h.elim).trans (upd.addW fun b h => .inl h)
  refine wpAny_pure ⟨plainId_quiet F.plain_extend_loop _, extend_own I hD hDb hd (by omega) hff hnl xs _ vs _ ys ?_ ?_ ?_ hS3 hv hn ?_⟩
  · exact fun b o e => oth b o (fun h => by rw [h, hDb] at e; cases e) (hk1 b o e)
  · exact ff_of hf (fun b hb o e _ => ⟨o, oth b o (hff b hb).2 (hE1.keepAll b o e), rfl⟩) fun b hb => (hf.mem hb).1
  · exact I.keeps _ _ _ hR1 (fun b hb o e => oth b o (fun h => hD (h ▸ hb)) e) fun _ _ _ e => e
  · intro s2 vs' c' hE2 hD3 hv'
    exact hQ s2 vs' c' ((e2.mono (fun _ h => nomatch h) (fun _ h => h) fun _ h => h).trans hE2) hD3 hv'
theorem call_list_own (I : OwnIt prog w x base W V own R) {Q : Value → Shared → Prop} {E : Value → Shared → Prop} {xs : List Str} {s : Shared} (hd : dp ≤ 400) (hu : un + 4 ≤ 4000)
    (hff : ∀ f ∈ l.filterMap (·.frame), f ∉ own) (hnl : base.NoLimit) (hk : KeepAll base s.heap) (hf : s.heap.FunFrames base l) (hR : R xs s) (hn : xs.length ≤ 1000)
    (hQ : ∀ D s' vs c, Ext (l.filterMap (·.frame)) W V s s' → s.heap.get? D = none → (∀ b o, s.heap.get? b = some o → b < D) → s'.heap.get? D = some (listObj vs c) → StrsAre vs xs → Q (.ref D) s') :
    wpAny (model prog w) (Ar dp un (some l) gd) (PySem.call (.type "list") [.ref x]) Q E s := by
  refine callType_codes (Q₁ := fun obj s₁ => obj = .ref s.heap.objs.size ∧ s₁ = { s with heap := s.heap.push { cls := .type "list", data := .seq #[] } }) F.called_list (F.typeCall_list_1 _) F.entry_list_init
    (code_list_new _ ⟨rfl, rfl⟩) fun obj s₁ h₁ => ?_
  obtain ⟨rfl, rfl⟩ := h₁
  have kp : KeepAll s.heap (s.heap.push { cls := .type "list", data := .seq #[] }) := fun b o e => Heap.get?_push_of_some _ e
  have hS : (s.heap.push { cls := .type "list", data := .seq #[] }).get? s.heap.objs.size = some (listObj [] 0) := Heap.get?_push_size _ rfl
  have hDn : s.heap.get? s.heap.objs.size = none := get?_size_none _ (Nat.le_refl _)
  have hD : s.heap.objs.size ∉ own := fun h => by
    obtain ⟨o, ho⟩ := I.there _ _ hR _ h
    exact Nat.lt_irrefl _ (Heap.lt_size ho)
  refine ⟨⟨_, hS, rfl⟩, F.args_list_init_2 _ _, ?_⟩
  show wpAny _ (Ar dp (un + 1 + 1) (some l) gd) (do let old ← Builtin.List.listItems (.ref s.heap.objs.size); Builtin.List.listUpdate (.ref s.heap.objs.size) (fun _ => #[]); letGo old.toList.reverse; Builtin.List.listExtendWith (.ref s.heap.objs.size) (.ref x) .none) _ _ _
  refine wpAny_bind ?_
  unfold Builtin.List.listItems
  refine wpAny_bind (wpAny_seqItems hS rfl (wpAny_pure ?_))
  show wpAny _ _ (updateSeq s.heap.objs.size (fun _ => #[]) >>= fun _ => letGo (#[] : Array Value).toList.reverse >>= fun _ => Builtin.List.listExtendWith (.ref s.heap.objs.size) (.ref x) .none) _ _ _
  refine wpAny_bind (wpAny_updateSeq hS rfl ?_)
  have hS2 := Heap.get?_update_self (Obj.mapSeq (fun _ => (#[] : Array Value))) hS rfl
  have ho2 : Obj.mapSeq (fun _ => (#[] : Array Value)) (listObj [] 0) = listObj [] 0 := by simp [Obj.mapSeq, listObj]
  rw [ho2] at hS2
  have oth : KeepAll s.heap ((s.heap.push { cls := .type "list", data := .seq #[] }).update s.heap.objs.size (Obj.mapSeq (fun _ => (#[] : Array Value)))) := fun b o e =>
    (Heap.get?_update_other _ _ (Nat.ne_of_gt (Heap.lt_size e))).trans (kp b o e)
  refine wpAny_bind (wpAny_letGo ?_)
  have ex0 : Ext [] NoA V s { s with heap := (s.heap.push { cls := .type "list", data := .seq #[] }).update s.heap.objs.size (Obj.mapSeq (fun _ => (#[] : Array Value))) } := Ext.of_heap (s := s) (tk := s.toks) fun b o _ e => oth b o e
  refine extendWith_own I (Rr := wants (fun r s₂ => r = .none ∧ Q (.ref s.heap.objs.size) s₂) E) (ys := []) hD (hk.none_of hDn) hd (by omega) (fun f h => ⟨hff f h, fun e => ?_⟩) hnl (hk.trans oth) (ff_of hf (fun b _ o e _ => ⟨o, oth b o e, rfl⟩) fun b hb => (hf.mem hb).1) (I.keeps _ _ _ hR (fun b _ o e => oth b o e) fun _ _ _ e => e) hS2 .nil (by simpa using hn) fun s' vs' c' hE hD' hv' => ?_
  · obtain ⟨_, o, ho, _⟩ := hf.mem h
    rw [e, hDn] at ho; cases ho
  · refine ⟨rfl, hQ _ s' vs' c' ?_ hDn (fun b o e => Heap.lt_size e) hD' (by simpa using hv')⟩
    exact Ext.fresh (ex0.mono (fun _ h => nomatch h) (fun _ h => h.elim) fun _ h => h) hE fun b h => by
      rcases h with h | h
      · exact .inl (by rw [h]; exact hDn)
      · exact .inr h
end
end Mine
end
section
open PySem PySem.W PyProof.Rows
set_option maxRecDepth 100000
set_option maxHeartbeats 8000000
namespace Mine
def OkL (base : Heap) (l : List Env) (h : Heap) : Prop := KeepAll base h ∧ h.FunFrames base l
theorem OkL.ext {base : Heap} {l : List Env} {W : Addr → Prop} {V : Nat → Prop} {s s' : Shared} (o : OkL base l s.heap) (x : Ext (frs l) W V s s') (hW : ∀ b, W b → base.get? b = none ∧ b ∉ frs l) : OkL base l s'.heap := by
  refine ⟨fun b ob e => x.heap b ob (fun h => ?_) (fun h => ?_) (o.1 b ob e), ff_of o.2 (fun b hb ob e _ => ?_) fun b hb => (o.2.mem hb).1⟩
  · rw [(o.2.mem h).1] at e; cases e
  · rw [(hW b h).1] at e; cases e
  · obtain ⟨sl, h⟩ := x.slots b ob hb (fun h => (hW b h).2 hb) e
    exact ⟨_, h, rfl⟩
theorem Ext.shrink {S : List Addr} {W W' : Addr → Prop} {V V' : Nat → Prop} {s s' : Shared} (x : Ext S W' V' s s') (hW : ∀ b, W' b → s.heap.get? b = none ∨ W b) (hV : ∀ g, V' g → V g ∨ s.gens.size ≤ g) : Ext S W V s s' :=
  ⟨fun b o h1 h2 e => x.heap b o h1 (fun h => (hW b h).elim (fun q => by rw [q] at e; cases e) h2) e,
   fun b o h1 h2 e => x.slots b o h1 (fun h => (hW b h).elim (fun q => by rw [q] at e; cases e) h2) e,
   fun g hg z e => x.gens g (fun h => (hV g h).elim hg fun q => by rw [Array.getElem?_eq_none q] at e; cases e) z e, x.gsize, x.bare, x.os⟩
structure It (prog : Program) (w : World) (A : Around) {α : Type} (Val : α → Value → Prop) (it : Addr) (OK : Heap → Prop) (S : List Addr) (W : Addr → Prop) (V : Nat → Prop) (own : List Addr) (R : List α → Shared → Prop) : Prop where
  cons : ∀ y ys (s : Shared) (Q : Option Value → Shared → Prop) E, OK s.heap → R (y :: ys) s → (∀ v s', Val y v → Ext [] W V s s' → R ys s' → Q (some v) s') → wpAny (model prog w) A (pyNext (.ref it)) Q E s
  nil : ∀ (s : Shared) (Q : Option Value → Shared → Prop) E, OK s.heap → R [] s → (∀ s', Ext S W V s s' → Q none s') → wpAny (model prog w) A (pyNext (.ref it)) Q E s
  iter : ∀ xs (s : Shared) (Q : Value → Shared → Prop) E, OK s.heap → R xs s → (∀ s', Ext [] NoA NoG s s' → R xs s' → Q (.ref it) s') → wpAny (model prog w) A (pyIter (.ref it)) Q E s
  keeps : ∀ xs (s s' : Shared), R xs s → (∀ b ∈ own, ∀ o, s.heap.get? b = some o → s'.heap.get? b = some o) → (∀ g, V g → ∀ x, s.gens[g]? = some x → s'.gens[g]? = some x) → R xs s'
  sub : ∀ b, W b → b ∈ own
section
variable {prog : Program} {w : World} {A : Around} {E : Value → Shared → Prop} {s : Shared}
theorem append_obj {D : Addr} {vs : List Value} {c : Nat} {x : Value} {Q : Value → Shared → Prop} (hS : s.heap.get? D = some (listObj vs c)) (hsz : vs.length ≤ 16777216)
    (hQ : ∀ h', h'.get? D = some (listObj (vs ++ [x]) (c + 1)) → Heap.SameBut D s.heap h' → Q .none { s with heap := h' }) : wpAny (model prog w) A (PySem.call (.builtin "list.append") [.ref D, x]) Q E s := by
  have hT : s.TypeIs (.ref D) "list" := ⟨_, hS, rfl⟩
  have hz : vs.toArray.size ≤ sizeLine := by rw [sizeLine_eq]; simpa using hsz
  refine wpAny_call_entry slot_list_append hT entry_list_append ?_ (args_list_append _ _)
  show wpAny _ _ (updateSeq D (·.push x) >>= fun _ => ret .none) _ _ s
  refine wpAny_bind ?_
  refine wpAny_updateSeq hS rfl (wpAny_pure ⟨.none, rfl, hQ _ ?_ (Heap.SameBut.update ..)⟩) hz (by simp only [Array.size_push]; omega)
  have hobj : Obj.mapSeq (·.push x) (listObj vs c) = listObj (vs ++ [x]) (c + 1) := by
    simp [Obj.mapSeq, listObj]
  rw [← hobj]
  exact Heap.get?_update_self _ hS rfl
structure EltEnd {α : Type} (F : α → Value → Heap → Prop) (S : List Addr) (C : Addr) (s : Shared) (y : α) (r : Value) (s' : Shared) : Prop where
  val : F y r s'.heap
  ext : Ext S (fun b => b = C) NoG s s'
  ns : ∃ m, s'.heap.Ns C m
variable {α : Type} {Val : α → Value → Prop} {it D C : Addr} {OK : Heap → Prop} {S : List Addr} {W : Addr → Prop} {V : Nat → Prop} {own : List Addr} {R : List α → Shared → Prop} {F : α → Value → Heap → Prop}
inductive FillJ (OK : Heap → Prop) (S : List Addr) (W : Addr → Prop) (V : Nat → Prop) (D C : Addr) (R : List α → Shared → Prop) (F : α → Value → Heap → Prop) (s₀ : Shared) (vs0 : List Value) (xs : List α) (n : Nat) (s' : Shared) : Prop
  | mk (done rest : List α) (vs : List Value) (c : Nat) (m : Str → Option Value) (hx : xs = done ++ rest) (hn : n = rest.length) (ok : OK s'.heap) (hR : R rest s') (hD : s'.heap.get? D = some (listObj (vs0 ++ vs) c)) (hP : Paired (fun y v => F y v s'.heap) done vs) (hns : s'.heap.Ns C m)
      (hE : Ext S (fun b => b = D ∨ b = C ∨ W b) V s₀ s') : FillJ OK S W V D C R F s₀ vs0 xs n s'
theorem Paired.up {β : Type} {P Q : α → β → Prop} (h : ∀ a b, P a b → Q a b) {l : List α} {r : List β} (x : Paired P l r) : Paired Q l r := by
  induction x with
  | nil => exact .nil
  | cons x t ih => exact .cons (h _ _ x) ih
theorem fill_loop {elt iter : Expr} {gens : List Comprehension} {scope : Scope} {pos : Pos} {depth : Nat} {x : Str} {px : Pos} {cenv : Env} {Rr : Result → Shared → Prop} {s₀ : Shared} {vs0 : List Value} {c0 : Nat} {xs : List α} {m0 : Str → Option Value}
    (heq : compTurn (.ListComp elt gens scope pos) depth (.ref it) (.ref D) cenv = (standAt iter.pos >>= fun _ => pyNext (.ref it) >>= fun r => match r with
      | none => pure (.done .next)
      | some v => letOwnedTupleGo (.Name x px) (.ref it) v >>= fun _ => assign (.Name x px) cenv v >>= fun _ =>
        (eval elt cenv >>= fun y => PySem.call (.builtin "list.append") [.ref D, y] >>= fun _ => pure ()) >>= fun _ => again (.compLoop (.ListComp elt gens scope pos) depth (.ref it) (.ref D) cenv)))
    (I : It prog w A Val it OK S W V own R) (hx : cenv.kindOf x = some .local) (hp : (cenv.scope.kind == .class || (cenv.scope.kind == .module && cenv.locals != cenv.globals)) = false)
    (hloc : cenv.locals = C) (hD : D ∉ own) (hC : C ∉ own) (hDC : D ≠ C) (hDS : D ∉ S) (hCS : C ∉ S)
    (hOK : ∀ (s s' : Shared), OK s.heap → Ext S (fun b => b = D ∨ b = C ∨ W b) V s s' → OK s'.heap)
    (hF : ∀ y v (s s' : Shared), F y v s.heap → Ext S (fun b => b = D ∨ b = C ∨ W b) V s s' → F y v s'.heap)
    (hoS : ∀ b ∈ own, b ∉ S)
    (helt : ∀ y v (s₃ : Shared) m, y ∈ xs → OK s₃.heap → Ext S (fun b => b = D ∨ b = C ∨ W b) V s₀ s₃ → s₃.heap.Ns C m → m x = some v → Val y v → wpAny (model prog w) A (eval elt cenv) (fun r s₄ => EltEnd F S C s₃ y r s₄) (fun _ _ => False) s₃)
    (hn : vs0.length + xs.length ≤ 16777216) (hok : OK s.heap) (hR : R xs s) (hS : s.heap.get? D = some (listObj vs0 c0)) (hns : s.heap.Ns C m0) (hX : Ext S (fun b => b = D ∨ b = C ∨ W b) V s₀ s)
    (hEnd : ∀ s' vs c m, Ext S (fun b => b = D ∨ b = C ∨ W b) V s₀ s' → OK s'.heap → s'.heap.get? D = some (listObj (vs0 ++ vs) c) → Paired (fun y v => F y v s'.heap) xs vs → s'.heap.Ns C m → Rr (.ok .next) s') :
    codeAny (model prog w) A (.compLoop (.ListComp elt gens scope pos) depth (.ref it) (.ref D) cenv) Rr s := by
  subst hloc
  have hDW : ¬ W D := fun h => hD (I.sub D h)
  have hCW : ¬ W cenv.locals := fun h => hC (I.sub _ h)
  refine codeAny_loop rfl (FillJ OK S W V D cenv.locals R F s₀ vs0 xs) (fun n s hJ => ?_) xs.length ⟨[], xs, [], c0, m0, rfl, rfl, hok, hR, by rw [List.append_nil]; exact hS, .nil, hns, hX⟩
  show wpAny _ _ ((compTurn (.ListComp elt gens scope pos) depth (.ref it) (.ref D) cenv).onRaise (fun x => do noteFrame x cenv; theTreesLotGoes x)) _ _ s
  refine wpAny_noted ?_
  rw [heq]
  obtain ⟨done, rest, vs, c, m, hxs, rfl, ok1, R1, S1, P1, n1, X1⟩ := hJ
  refine wpAny_bind (wpAny_standAt (wpAny_bind ?_))
  cases rest with
  | nil =>
    refine I.nil s _ _ ok1 R1 fun s' hE => wpAny_pure ?_
    have e1 : Ext S (fun b => b = D ∨ b = cenv.locals ∨ W b) V s s' := hE.mono (fun _ h => h) (fun _ h => .inr (.inr h)) fun _ h => h
    refine hEnd s' vs c m (X1.trans e1) (hOK _ _ ok1 e1) (hE.heap _ _ hDS hDW S1) (by rw [hxs, List.append_nil]; exact Paired.up (fun a b h => hF a b s s' h e1) P1) (Ext.ns hE hCW n1)
  | cons y ys =>
    refine I.cons y ys s _ _ ok1 R1 fun v s₁ hv hE R2 => ?_
    have e1 : Ext S (fun b => b = D ∨ b = cenv.locals ∨ W b) V s s₁ := hE.mono (fun _ h => nomatch h) (fun _ h => .inr (.inr h)) fun _ h => h
    refine wpAny_bind (wpAny_of_eq (a := ()) rfl (wpAny_bind ?_))
    refine wpAny_assign_Name (wpAny_storeName_local hx (Ext.ns hE hCW n1) (fun h₂ hn₂ hs₂ => ?_) hp)
    have e2 : Ext [] (fun b => b = cenv.locals) V s₁ { s₁ with heap := h₂, toks := s₁.toks + 1 } := Ext.of_heap fun b o hb e => (hs₂.2 b hb).trans e
    have e2' : Ext S (fun b => b = D ∨ b = cenv.locals ∨ W b) V s₁ { s₁ with heap := h₂, toks := s₁.toks + 1 } := e2.mono (fun _ h => nomatch h) (fun _ h => .inr (.inl h)) fun _ h => h
    have ok2 := hOK _ _ ok1 (e1.trans e2')
    refine wpAny_bind (wpAny_bind (wpAny_mono (helt y v _ _ (by rw [hxs]; simp) ok2 (X1.trans (e1.trans e2')) hn₂ (by simp) hv) (fun r s₄ hr => ?_) fun _ _ f => f.elim))
    obtain ⟨hval, hext, m4, hn4⟩ := hr
    have e3 : Ext S (fun b => b = D ∨ b = cenv.locals ∨ W b) V { s₁ with heap := h₂, toks := s₁.toks + 1 } s₄ := hext.mono (fun _ h => h) (fun _ h => .inr (.inl h)) fun _ h => h.elim
    have S4 : s₄.heap.get? D = some (listObj (vs0 ++ vs) c) := hext.heap _ _ hDS hDC ((hs₂.2 D hDC).trans (hE.heap _ _ (by simp) hDW S1))
    have hlen : vs.length = done.length := P1.length.symm
    have hsz : (vs0 ++ vs).length ≤ 16777216 := by
      rw [List.length_append, hlen]
      rw [hxs, List.length_append] at hn
      omega
    refine wpAny_bind (append_obj S4 hsz fun h₅ hS5 hs5 => wpAny_pure (wpAny_pure ⟨rfl, ys.length, Nat.lt_succ_self _, ?_⟩))
    have e4 : Ext [] (fun b => b = D) V s₄ { s₄ with heap := h₅ } := Ext.of_heap (s := s₄) (tk := s₄.toks) fun b o hb e => (hs5.2 b hb).trans e
    have e4' : Ext S (fun b => b = D ∨ b = cenv.locals ∨ W b) V s₄ { s₄ with heap := h₅ } := e4.mono (fun _ h => nomatch h) (fun _ h => .inl h) fun _ h => h
    have eAll := (e1.trans e2').trans (e3.trans e4')
    have R5 : R ys { s₄ with heap := h₅ } := I.keeps ys s₁ _ R2 (fun b hb o e => by
      have h1 : b ≠ cenv.locals := fun h => hC (h ▸ hb)
      have h2 : b ≠ D := fun h => hD (h ▸ hb)
      exact (hs5.2 b h2).trans (hext.heap b o (hoS b hb) h1 ((hs₂.2 b h1).trans e))) (fun g _ z e => hext.gens g (fun h => h) z e)
    refine ⟨done ++ [y], ys, vs ++ [r], c + 1, m4, by rw [hxs]; simp, rfl, hOK _ _ ok1 eAll, R5, by rw [← List.append_assoc]; exact hS5, ?_, Ext.ns e4 (fun h => hDC h.symm) hn4, X1.trans eAll⟩
    exact Paired.snoc (Paired.up (fun a b h => hF a b s _ h eAll) P1) (hF y r s₄ _ hval e4')
end
end Mine
end
section
open PySem PySem.W PyProof.Rows
set_option maxRecDepth 100000
set_option maxHeartbeats 8000000
namespace Mine
section
variable {prog : Program} {w : World} {A : Around} {E : Value → Shared → Prop}
theorem It.of_walks {α : Type} {Val : α → Value → Prop} {I : Addr} {fp wr : List Addr} {n : Nat} {P : Nat → Value → Prop} {St : Nat → Heap → Prop} {OK : Heap → Prop} {S : List Addr} {xs0 : List α} (K : Walks prog w A I fp wr n P St)
    (hlen : xs0.length = n) (hv : ∀ i y v, xs0[i]? = some y → P i v → Val y v) :
    It prog w A Val I OK S (fun b => b ∈ wr) NoG fp (fun ys s => ∃ i, i ≤ n ∧ St i s.heap ∧ ys = xs0.drop i) where
  cons := fun y ys s Q E _ ⟨i, hi, hst, hy⟩ hQ => by
    have hlt : i < n := by
      rcases Nat.lt_or_ge i n with h | h
      · exact h
      · rw [List.drop_of_length_le (by omega)] at hy; cases hy
    have hlt' : i < xs0.length := by omega
    rw [List.drop_eq_getElem_cons hlt'] at hy
    have hy1 : y = xs0[i] := (List.cons.inj hy).1
    have hy2 : ys = xs0.drop (i + 1) := (List.cons.inj hy).2
    exact K.item i s Q E hlt hst fun v h' tk hp hst' hk => hQ v _ (hv i y v (by rw [hy1]; exact List.getElem?_eq_getElem hlt') hp) (.of_heap fun b o hb e => hk b o hb e) ⟨i + 1, hlt, hst', hy2⟩
  nil := fun s Q E _ ⟨i, hi, hst, hy⟩ hQ => by
    have hge : n ≤ i := by
      rcases Nat.lt_or_ge i n with h | h
      · have hlt' : i < xs0.length := by omega
        rw [List.drop_eq_getElem_cons hlt'] at hy; cases hy
      · exact h
    have : i = n := Nat.le_antisymm hi hge
    subst this
    exact K.done s Q E hst fun h' tk hk => hQ _ (.of_heap fun b o hb e => hk b o hb e)
  iter := fun xs s Q E _ hR hQ => by
    obtain ⟨i, hi, hst, hy⟩ := hR
    exact K.self i s Q E hst (hQ s (.refl _ _ _ s) ⟨i, hi, hst, hy⟩)
  keeps := fun xs s s' ⟨i, hi, hst, hy⟩ hk _ => ⟨i, hi, K.frame i _ _ hst hk, hy⟩
  sub := fun b hb => K.sub b hb
theorem It.of_own {dp un : Nat} {l : List Env} {gd : Option (List Code)} {x : Addr} {base : Heap} {W : Addr → Prop} {V : Nat → Prop} {own : List Addr} {R : List Str → Shared → Prop} (I : OwnIt prog w x base W V own R) (hd : dp ≤ 400) (hu : un ≤ 4000) (hnl : base.NoLimit)
    (hff : ∀ f ∈ frs l, f ∉ own) : It prog w (Ar dp un (some l) gd) (fun y v => ∃ t, v = .str y t) x (OkL base l) (frs l) W V own R where
  cons := fun y ys s Q E ok hR hQ => I.cons dp un l gd y ys s Q E hd hu ok.1 (hnl.keeps ok.1) ok.2 hR fun t s' hE hR' => hQ _ s' ⟨t, rfl⟩ hE hR'
  nil := fun s Q E ok hR hQ => I.nil dp un l gd s Q E hd hu ok.1 (hnl.keeps ok.1) ok.2 hff hR hQ
  iter := fun xs s Q E ok hR hQ => I.iter dp un l gd xs s Q E hd hu ok.1 (hnl.keeps ok.1) hR hQ
  keeps := I.keeps
  sub := I.sub
end
def CompTail (prog : Program) (w : World) (A : Around) (E : Value → Shared → Prop) (e : Expr) (scope : Scope) (cl : List (Str × Addr)) (env : Env) (use : Option (Value → Sem Unit)) (Q : Value → Shared → Prop) (it : Value) (s₂ : Shared) : Prop :=
  wpAny (model prog w) A (newList []) (fun acc s₃ => wpAny (model prog w) A (newFunctionEnv scope env.globals cl [] env.qual none .none (some env)) (fun cenv s₄ =>
    codeAny (model prog w) A (.compStart e 0 it acc { cenv with scope := relabel scope env }) (compPost (model prog w) A E use Q acc cenv.locals) s₄) E s₃) E s₂
section
variable {prog : Program} {w : World} {A : Around} {E : Value → Shared → Prop} {env : Env} {s : Shared}
theorem comp_head {elt target iter : Expr} {ifs : List Expr} {gens : List Comprehension} {scope : Scope} {cl : List (Str × Addr)} {pos : Pos} {Q : Value → Shared → Prop}
    (hclos : closureFor scope env = pure cl) (hkind : scope.kind = .function) (hnames : ∀ y ∈ scope.names, y.2 = .local → scope.names.lookup y.1 = some .local)
    (h : wpAny (model prog w) A (eval iter env) (fun xv s₁ => wpAny (model prog w) A (pyIter xv) (fun it s₂ => CompTail prog w A E (.ListComp elt (⟨target, iter, ifs, 0⟩ :: gens) scope pos) scope cl env none Q it s₂) E s₁) E s)
    (hs : ∀ x, foldedSetIterable iter env x = pure x := by intro _; rfl) :
    wpAny (model prog w) A (eval (.ListComp elt (⟨target, iter, ifs, 0⟩ :: gens) scope pos) env) Q E s := by
  rw [eval_ListComp]
  exact wpAny_comprehension_free (use := none) rfl hs hclos hkind hnames h
theorem assign_head {elt target iter : Expr} {ifs : List Expr} {gens : List Comprehension} {y : Str} {py : Pos} {scope : Scope} {cl : List (Str × Addr)} {pos spos : Pos} {Q : Flow → Shared → Prop}
    (hsw : swapsWith (.ListComp elt (⟨target, iter, ifs, 0⟩ :: gens) scope pos) (some (.Name y py)) spos.line env = pure true)
    (hclos : closureFor scope env = pure cl) (hkind : scope.kind = .function) (hnames : ∀ z ∈ scope.names, z.2 = .local → scope.names.lookup z.1 = some .local)
    (h : wpAny (model prog w) A (eval iter env) (fun xv s₁ => wpAny (model prog w) A (pyIter xv) (fun it s₂ => CompTail prog w A E (.ListComp elt (⟨target, iter, ifs, 0⟩ :: gens) scope pos) scope cl env (some (assign (.Name y py) env)) (fun _ s' => Q .next s') it s₂) E s₁) E s)
    (hs : ∀ x, foldedSetIterable iter env x = pure x := by intro _; rfl) :
    wpAny (model prog w) A (exec (.Assign [.Name y py] (.ListComp elt (⟨target, iter, ifs, 0⟩ :: gens) scope pos) spos) env) Q E s := by
  rw [exec_Assign_Name_used _ _ _ _ hsw]
  refine wpAny_bind (wpAny_standAt (wpAny_bind ?_))
  show wpAny _ A (do let _ ← comprehension (.ListComp elt (⟨target, iter, ifs, 0⟩ :: gens) scope pos) scope env _ (newList []) false (eval iter env) (some (assign (.Name y py) env))) _ _ s
  exact wpAny_bind (wpAny_mono (wpAny_comprehension_free (use := some (assign (.Name y py) env)) (Q := fun _ s' => Q .next s') rfl hs hclos hkind hnames h) (fun _ s' hq => wpAny_pure (wpAny_pure hq)) fun _ _ e => e)
variable {α : Type} {Val : α → Value → Prop} {it : Addr} {OK : Heap → Prop} {S : List Addr} {W : Addr → Prop} {V : Nat → Prop} {own : List Addr} {R : List α → Shared → Prop} {F : α → Value → Heap → Prop}
structure NewDC (s₂ : Shared) (S own : List Addr) (D C : Addr) : Prop where
  d : s₂.heap.get? D = none
  c : s₂.heap.get? C = none
  lt : D < C
  dsz : s₂.heap.objs.size ≤ D
  hi : C ≤ s₂.heap.objs.size + 1
theorem comp_go {elt iter : Expr} {x : Str} {px : Pos} {scope : Scope} {cl : List (Str × Addr)} {pos : Pos} {use : Option (Value → Sem Unit)} {Q : Value → Shared → Prop} {xs : List α}
    (hcell : ∀ y ∈ scope.names, y.2 ≠ .cell) (hkind : scope.kind = .function) (hx : scope.names.lookup x = some .local)
    (I : It prog w A Val it OK S W V own R) (hR : R xs s) (hok : OK s.heap) (hthere : ∀ b ∈ own, ∃ o, s.heap.get? b = some o) (hSt : ∀ b ∈ S, ∃ o, s.heap.get? b = some o) (hoS : ∀ b ∈ own, b ∉ S)
    (hOK : ∀ D C, NewDC s S own D C → ∀ (s s' : Shared), OK s.heap → Ext S (fun b => b = D ∨ b = C ∨ W b) V s s' → OK s'.heap)
    (hF : ∀ D C, NewDC s S own D C → ∀ y v (s s' : Shared), F y v s.heap → Ext S (fun b => b = D ∨ b = C ∨ W b) V s s' → F y v s'.heap)
    (helt : ∀ D C, NewDC s S own D C → ∀ y v (s₃ : Shared) m, y ∈ xs → OK s₃.heap → Ext S (fun b => b = D ∨ b = C ∨ W b) V s s₃ → s₃.heap.Ns C m → m x = some v → Val y v →
      wpAny (model prog w) A (eval elt (compEnvC scope cl C env)) (fun r s₄ => EltEnd F S C s₃ y r s₄) (fun _ _ => False) s₃)
    (hn : xs.length ≤ 16777216)
    (hEnd : ∀ D C s' vs c m, NewDC s S own D C → Ext S W V s s' → OK s'.heap → s'.heap.get? D = some (listObj vs c) → Paired (fun y v => F y v s'.heap) xs vs → s'.heap.Ns C m → compPost (model prog w) A E use Q (.ref D) C (.ok .next) s') :
    CompTail prog w A E (.ListComp elt [⟨.Name x px, iter, [], 0⟩] scope pos) scope cl env use Q (.ref it) s := by
  refine wpAny_newObj_type (wpAny_newFunctionEnv hcell (by intro y hy; simp at hy) (fun h₁ hns₁ hsb₁ => ?_) hkind)
  have kp : KeepAll s.heap (s.heap.push { cls := .type "list", dict := none, data := .seq ([] : List Value).toArray }) := fun b o e => Heap.get?_push_of_some _ e
  have kh : KeepAll (s.heap.push { cls := .type "list", dict := none, data := .seq ([] : List Value).toArray }) h₁ := fun b o e => hsb₁.extBut b o (Nat.ne_of_lt (Heap.lt_size e)) (Heap.get?_push_of_some _ e)
  have hCs : (s.heap.push { cls := .type "list", dict := none, data := .seq ([] : List Value).toArray }).objs.size = s.heap.objs.size + 1 := Heap.size_push ..
  have hD0 : h₁.get? s.heap.objs.size = some (listObj [] 0) := kh _ _ (Heap.get?_push_size _ rfl)
  generalize hCC : (s.heap.push { cls := .type "list", dict := none, data := .seq ([] : List Value).toArray }).objs.size = C at *
  have N : NewDC s S own s.heap.objs.size C := ⟨get?_size_none _ (Nat.le_refl _), get?_size_none _ (by rw [hCs]; exact Nat.le_succ _), by rw [hCs]; exact Nat.lt_succ_self _, Nat.le_refl _, Nat.le_of_eq hCs⟩
  generalize s.heap.objs.size = D at N hD0
  have e0 : Ext S (fun b => b = D ∨ b = C ∨ W b) V s { s with heap := h₁, toks := s.toks + ([] : List (Str × Value)).length } := .of_keep (kp.trans kh)
  have nt : ∀ b, s.heap.get? b = none → ∀ l : List Addr, (∀ b ∈ l, ∃ o, s.heap.get? b = some o) → b ∉ l := fun b e l hl h => by
    obtain ⟨o, ho⟩ := hl b h
    rw [e] at ho; cases ho
  have loop : ∀ s₄ : Shared, R xs s₄ → OK s₄.heap → Ext S (fun b => b = D ∨ b = C ∨ W b) V s s₄ → s₄.heap.get? D = some (listObj [] 0) → s₄.heap.Ns C (fun _ => none) →
      codeAny (model prog w) A (.compLoop (.ListComp elt [⟨.Name x px, iter, [], 0⟩] scope pos) 0 (.ref it) (.ref D) (compEnvC scope cl C env)) (compPost (model prog w) A E use Q (.ref D) C) s₄ := by
    intro s₄ hR4 ok4 x4 d4 n4
    refine fill_loop (F := F) (C := C) (vs0 := []) (s₀ := s) (compTurn_list1 _ _ _ _ _ _ _ _) I (lookup_relabel_local hx) (by simp [compEnvC, relabel, hkind]) rfl (nt D N.d _ hthere) (nt C N.c _ hthere) (Nat.ne_of_lt N.lt) (nt D N.d _ hSt) (nt C N.c _ hSt)
      (hOK D C N) (hF D C N) hoS (helt D C N) (by simpa using hn) ok4 hR4 d4 n4 x4 fun s' vs c m X ok' d' P n' => ?_
    exact hEnd D C s' vs c m N (X.shrink (fun b hb => by
      rcases hb with h | h | h
      · exact .inl (h ▸ N.d)
      · exact .inl (h ▸ N.c)
      · exact .inr h) fun g h => .inl h) ok' d' P n'
  have hR1 : R xs { s with heap := h₁, toks := s.toks + ([] : List (Str × Value)).length } := I.keeps _ _ _ hR (fun b _ o e => kh _ _ (kp _ _ e)) fun _ _ _ e => e
  have ok1 := hOK D C N _ _ hok e0
  refine codeAny_compStart_list (loop _ hR1 ok1 e0 hD0 hns₁) ?_
  refine I.iter xs _ _ _ ok1 hR1 fun s' hE hR' => ?_
  have e1 : Ext S (fun b => b = D ∨ b = C ∨ W b) V _ s' := hE.mono (fun _ h => nomatch h) (fun _ h => h.elim) fun _ h => h.elim
  exact loop s' hR' (hOK D C N _ _ ok1 e1) (e0.trans e1) (hE.keepAll _ _ hD0) (Ext.ns hE (fun h => h) hns₁)
end
end Mine
end
section
open PySem PySem.W PyProof.Rows
set_option maxRecDepth 100000
set_option maxHeartbeats 8000000
namespace Mine
section
variable {prog : Program} {w : World} {A : Around} {E : Value → Shared → Prop} {env : Env} {s : Shared}
variable {α : Type} {Val : α → Value → Prop} {it : Addr} {l : List Env} {base : Heap} {W : Addr → Prop} {V : Nat → Prop} {own : List Addr} {R : List α → Shared → Prop} {F : α → Value → Heap → Prop}
theorem OkL.frs_there {h : Heap} (o : OkL base l h) : ∀ b ∈ frs l, ∃ ob, h.get? b = some ob := fun b hb => let ⟨_, ob, e, _⟩ := o.2.mem hb; ⟨ob, e⟩
theorem NewDC.ok {D C : Addr} (N : NewDC s (frs l) own D C) (hok : OkL base l s.heap) (hW : ∀ b, W b → base.get? b = none ∧ b ∉ frs l) : ∀ (s s' : Shared), OkL base l s.heap → Ext (frs l) (fun b => b = D ∨ b = C ∨ W b) V s s' → OkL base l s'.heap := fun s₁ s₂ o x => by
  refine o.ext x fun b hb => ?_
  have nt : ∀ b, s.heap.get? b = none → base.get? b = none ∧ b ∉ frs l := fun b e => ⟨hok.1.none_of e, fun h => by
    obtain ⟨ob, hob⟩ := hok.frs_there b h
    rw [e] at hob; cases hob⟩
  rcases hb with rfl | rfl | hb
  · exact nt _ N.d
  · exact nt _ N.c
  · exact hW b hb
theorem comp_val {D C : Addr} {m : Str → Option Value} {S : List Addr} {s' : Shared} {vs : List Value} {c : Nat} {Q : Value → Shared → Prop} {xs : List α} (N : NewDC s S own D C) (X : Ext S W V s s') (d : s'.heap.get? D = some (listObj vs c)) (P : Paired (fun y v => F y v s'.heap) xs vs) (n : s'.heap.Ns C m)
    (hF : ∀ y v (s s' : Shared), F y v s.heap → Ext S (fun b => b = D ∨ b = C ∨ W b) V s s' → F y v s'.heap)
    (hQ : ∀ s'', Ext S W V s s'' → s''.heap.get? D = some (listObj vs c) → Paired (fun y v => F y v s''.heap) xs vs → Q (.ref D) s'') :
    compPost (model prog w) A E none Q (.ref D) C (.ok .next) s' := by
  refine ⟨m, n, fun h' hs => ?_⟩
  have e : Ext [] (fun b => b = C) V s' { s' with heap := h' } := Ext.of_heap (s := s') (tk := s'.toks) fun b o hb e => (hs.2 b hb).trans e
  refine hQ _ ((X.mono (fun _ h => h) (fun _ h => .inr h) (fun _ h => h)).trans (e.mono (fun _ h => nomatch h) (W' := fun b => b = C ∨ W b) (fun _ h => .inl h) fun _ h => h) |>.shrink (fun b hb => ?_) fun g h => .inl h) ((hs.2 D (Nat.ne_of_lt N.lt)).trans d) (Paired.up (fun a b h => hF a b s' _ h (e.mono (fun _ h => nomatch h) (fun _ h => .inr (.inl h)) fun _ h => h)) P)
  rcases hb with h | h
  · exact .inl (h ▸ N.c)
  · exact .inr h
theorem comp_asg {D C : Addr} {m mL : Str → Option Value} {S : List Addr} {s' : Shared} {vs : List Value} {c : Nat} {Q : Shared → Prop} {xs : List α} {y : Str} {py : Pos} {L : Addr} (N : NewDC s S own D C) (X : Ext S W V s s') (d : s'.heap.get? D = some (listObj vs c)) (P : Paired (fun y v => F y v s'.heap) xs vs) (n : s'.heap.Ns C m)
    (hF : ∀ y v (s s' : Shared), F y v s.heap → Ext S (fun b => b = D ∨ b = C ∨ W b) V s s' → F y v s'.heap)
    (hFL : ∀ y v h h', F y v h → Heap.SameBut L h h' → F y v h')
    (hloc : env.locals = L) (hk : env.kindOf y = some .local) (hp : (env.scope.kind == .class || (env.scope.kind == .module && env.locals != env.globals)) = false) (hL : s.heap.Ns L mL) (hLW : ¬ W L)
    (hQ : ∀ s'', Ext S (fun b => b = L ∨ W b) V s s'' → s''.heap.Ns L (fun z => if z = y then some (.ref D) else mL z) → s''.heap.get? D = some (listObj vs c) → Paired (fun y v => F y v s''.heap) xs vs → Q s'') :
    compPost (model prog w) A E (some (assign (.Name y py) env)) (fun _ s' => Q s') (.ref D) C (.ok .next) s' := by
  subst hloc
  show wpAny _ _ (assign (.Name y py) env (.ref D)) _ _ _
  have hLne : ∀ b, s.heap.get? b = none → b ≠ env.locals := fun b e h => by
    obtain ⟨o, _, _, ho, _⟩ := hL
    rw [← h, e] at ho; cases ho
  have hDL := hLne D N.d
  have hCL := hLne C N.c
  refine wpAny_assign_Name (wpAny_storeName_local hk (Ext.ns X hLW hL) (fun h₂ hn₂ hs₂ => ?_) hp)
  refine ⟨m, n.sameBut hs₂ hCL, fun h' hs => ?_⟩
  have e1 : Ext [] (fun b => b = env.locals) V s' { s' with heap := h₂, toks := s'.toks + 1 } := Ext.of_heap fun b o hb e => (hs₂.2 b hb).trans e
  have e2 : Ext [] (fun b => b = C) V { s' with heap := h₂, toks := s'.toks + 1 } { s' with heap := h', toks := s'.toks + 1 } := Ext.of_heap (s := { s' with heap := h₂, toks := s'.toks + 1 }) fun b o hb e => (hs.2 b hb).trans e
  refine hQ _ (((X.mono (fun _ h => h) (W' := fun b => b = C ∨ b = env.locals ∨ W b) (fun _ h => .inr (.inr h)) (fun _ h => h)).trans ((e1.mono (fun _ h => nomatch h) (fun _ h => .inr (.inl h)) fun _ h => h).trans (e2.mono (fun _ h => nomatch h) (fun _ h => .inl h) fun _ h => h))).shrink (fun b hb => ?_) fun g h => .inl h) (hn₂.sameBut hs (Ne.symm hCL)) ((hs.2 D (Nat.ne_of_lt N.lt)).trans ((hs₂.2 D hDL).trans d))
    (Paired.up (fun a b h => hF a b { s' with heap := h₂, toks := s'.toks + 1 } _ (hFL a b _ _ h hs₂) (e2.mono (fun _ h => nomatch h) (fun _ h => .inr (.inl h)) fun _ h => h)) P)
  rcases hb with h | h
  · exact .inl (h ▸ N.c)
  · exact .inr h
theorem comp_over {elt iter : Expr} {x : Str} {px : Pos} {scope : Scope} {cl : List (Str × Addr)} {pos : Pos} {Q : Value → Shared → Prop} {xs : List α}
    (hcell : ∀ y ∈ scope.names, y.2 ≠ .cell) (hkind : scope.kind = .function) (hx : scope.names.lookup x = some .local)
    (I : It prog w A Val it (OkL base l) (frs l) W V own R) (hR : R xs s) (hok : OkL base l s.heap) (hthere : ∀ b ∈ own, ∃ o, s.heap.get? b = some o) (hoS : ∀ b ∈ own, b ∉ frs l) (hW : ∀ b, W b → base.get? b = none)
    (hF : ∀ D C, NewDC s (frs l) own D C → ∀ y v (s s' : Shared), F y v s.heap → Ext (frs l) (fun b => b = D ∨ b = C ∨ W b) V s s' → F y v s'.heap)
    (helt : ∀ D C, NewDC s (frs l) own D C → ∀ y v (s₃ : Shared) m, y ∈ xs → OkL base l s₃.heap → Ext (frs l) (fun b => b = D ∨ b = C ∨ W b) V s s₃ → s₃.heap.Ns C m → m x = some v → Val y v →
      wpAny (model prog w) A (eval elt (compEnvC scope cl C env)) (fun r s₄ => EltEnd F (frs l) C s₃ y r s₄) (fun _ _ => False) s₃)
    (hn : xs.length ≤ 16777216)
    (hQ : ∀ D s' vs c, s.heap.get? D = none → s.heap.objs.size ≤ D → Ext (frs l) W V s s' → s'.heap.get? D = some (listObj vs c) → Paired (fun y v => F y v s'.heap) xs vs → Q (.ref D) s') :
    CompTail prog w A E (.ListComp elt [⟨.Name x px, iter, [], 0⟩] scope pos) scope cl env none Q (.ref it) s :=
  comp_go hcell hkind hx I hR hok hthere hok.frs_there hoS (fun D C N => N.ok hok fun b h => ⟨hW b h, hoS b (I.sub b h)⟩) hF helt hn fun D C s' vs c m N X _ d P n => comp_val N X d P n (hF D C N) fun s'' X d P => hQ D s'' vs c N.d N.dsz X d P
theorem comp_set {elt iter : Expr} {x y : Str} {px py : Pos} {scope : Scope} {cl : List (Str × Addr)} {pos : Pos} {Q : Shared → Prop} {xs : List α} {L : Addr} {mL : Str → Option Value}
    (hcell : ∀ y ∈ scope.names, y.2 ≠ .cell) (hkind : scope.kind = .function) (hx : scope.names.lookup x = some .local)
    (hloc : env.locals = L) (hk : env.kindOf y = some .local) (hp : (env.scope.kind == .class || (env.scope.kind == .module && env.locals != env.globals)) = false) (hL : s.heap.Ns L mL) (hLW : ¬ W L)
    (I : It prog w A Val it (OkL base l) (frs l) W V own R) (hR : R xs s) (hok : OkL base l s.heap) (hthere : ∀ b ∈ own, ∃ o, s.heap.get? b = some o) (hoS : ∀ b ∈ own, b ∉ frs l) (hW : ∀ b, W b → base.get? b = none)
    (hF : ∀ D C, NewDC s (frs l) own D C → ∀ y v (s s' : Shared), F y v s.heap → Ext (frs l) (fun b => b = D ∨ b = C ∨ W b) V s s' → F y v s'.heap)
    (hFL : ∀ y v h h', F y v h → Heap.SameBut L h h' → F y v h')
    (helt : ∀ D C, NewDC s (frs l) own D C → ∀ y v (s₃ : Shared) m, y ∈ xs → OkL base l s₃.heap → Ext (frs l) (fun b => b = D ∨ b = C ∨ W b) V s s₃ → s₃.heap.Ns C m → m x = some v → Val y v →
      wpAny (model prog w) A (eval elt (compEnvC scope cl C env)) (fun r s₄ => EltEnd F (frs l) C s₃ y r s₄) (fun _ _ => False) s₃)
    (hn : xs.length ≤ 16777216)
    (hQ : ∀ D s' vs c, s.heap.get? D = none → s.heap.objs.size ≤ D → Ext (frs l) (fun b => b = L ∨ W b) V s s' → s'.heap.Ns L (fun z => if z = y then some (.ref D) else mL z) → s'.heap.get? D = some (listObj vs c) → Paired (fun y v => F y v s'.heap) xs vs → Q s') :
    CompTail prog w A E (.ListComp elt [⟨.Name x px, iter, [], 0⟩] scope pos) scope cl env (some (assign (.Name y py) env)) (fun _ s' => Q s') (.ref it) s :=
  comp_go hcell hkind hx I hR hok hthere hok.frs_there hoS (fun D C N => N.ok hok fun b h => ⟨hW b h, hoS b (I.sub b h)⟩) hF helt hn fun D C s' vs c m N X _ d P n => comp_asg N X d P n (hF D C N) hFL hloc hk hp hL hLW fun s'' X nL d P => hQ D s'' vs c N.d N.dsz X nL d P
end
end Mine
end
section
open PySem PySem.W PyProof.Rows
set_option maxRecDepth 100000
set_option maxHeartbeats 8000000
namespace Mine
theorem compTurn_two0 (elt iter iter2 : Expr) (x x2 : Str) (px px2 : Pos) (scope : Scope) (pos : Pos) (it acc : Value) (env : Env) :
    compTurn (.ListComp elt [⟨.Name x px, iter, [], 0⟩, ⟨.Name x2 px2, iter2, [], 0⟩] scope pos) 0 it acc env = (standAt iter.pos >>= fun _ => pyNext it >>= fun r => match r with
      | none => pure (.done .next)
      | some v => letOwnedTupleGo (.Name x px) it v >>= fun _ => assign (.Name x px) env v >>= fun _ =>
        eval iter2 env >>= fun xv => standAt iter2.pos >>= fun _ => foldedSetIterable iter2 env xv >>= fun xv => holding [xv] (pyIter xv) >>= fun itv =>
          runOwn (.compStart (.ListComp elt [⟨.Name x px, iter, [], 0⟩, ⟨.Name x2 px2, iter2, [], 0⟩] scope pos) 1 itv acc env) env >>= fun _ =>
          again (.compLoop (.ListComp elt [⟨.Name x px, iter, [], 0⟩, ⟨.Name x2 px2, iter2, [], 0⟩] scope pos) 0 it acc env)) := by rfl
theorem compTurn_two1 (elt iter iter2 : Expr) (x x2 : Str) (px px2 : Pos) (scope : Scope) (pos : Pos) (it acc : Value) (env : Env) :
    compTurn (.ListComp elt [⟨.Name x px, iter, [], 0⟩, ⟨.Name x2 px2, iter2, [], 0⟩] scope pos) 1 it acc env = (standAt iter2.pos >>= fun _ => pyNext it >>= fun r => match r with
      | none => pure (.done .next)
      | some v => letOwnedTupleGo (.Name x2 px2) it v >>= fun _ => assign (.Name x2 px2) env v >>= fun _ =>
        (eval elt env >>= fun x => PySem.call (.builtin "list.append") [acc, x] >>= fun _ => pure ()) >>= fun _ =>
          again (.compLoop (.ListComp elt [⟨.Name x px, iter, [], 0⟩, ⟨.Name x2 px2, iter2, [], 0⟩] scope pos) 1 it acc env)) := by rfl
theorem codeAny_compStart_two {prog : Program} {w : World} {A : Around} {R : Result → Shared → Prop} {s : Shared} {elt iter iter2 t1 t2 scope pos it acc env}
    (h0 : codeAny (model prog w) A (.compLoop (.ListComp elt [⟨t1, iter, [], 0⟩, ⟨t2, iter2, [], 0⟩] scope pos) 1 it acc env) R s)
    (h : wpAny (model prog w) A (pyIter it) (fun it' s' => codeAny (model prog w) A (.compLoop (.ListComp elt [⟨t1, iter, [], 0⟩, ⟨t2, iter2, [], 0⟩] scope pos) 1 it' acc env) R s')
      (notedBy (model prog w) A env fun x s' => R (.error x) s') s) :
    codeAny (model prog w) A (.compStart (.ListComp elt [⟨t1, iter, [], 0⟩, ⟨t2, iter2, [], 0⟩] scope pos) 1 it acc env) R s := by
  refine codeAny_of_tree ?_
  show wpAny _ _ ((compStart (.ListComp elt [⟨t1, iter, [], 0⟩, ⟨t2, iter2, [], 0⟩] scope pos) 1 it acc env).onRaise (fun x => do noteFrame x env; standAt theWindowsPlace)) _ _ s
  refine wpAny_notedAt ?_
  unfold compStart
  show wpAny _ _ (ask >>= _) _ _ s
  refine wpAny_bind (wpAny_askSetting (wpAny_ite ?_))
  split
  · exact wpAny_bind (wpAny_pure (wpAny_pure (And.intro rfl h0)))
  · refine wpAny_bind (wpAny_rule ?_)
    show wpAny _ _ (standAt iter2.pos >>= _) _ _ s
    exact wpAny_bind (wpAny_standAt (wpAny_bind (wpAny_mono h (fun it' s' h' => wpAny_pure (And.intro rfl h')) fun _ _ x => x)))
section
variable {prog : Program} {w : World} {A : Around} {E : Value → Shared → Prop} {env : Env} {s : Shared}
variable {α γ : Type} {Val : α → Value → Prop} {it D C : Addr} {OK : Heap → Prop} {S : List Addr} {W : Addr → Prop} {V : Nat → Prop} {own : List Addr} {R : List α → Shared → Prop} {F : γ → Value → Prop} {g : α → List γ}
inductive InnerOut (prog : Program) (w : World) (A : Around) (S : List Addr) (D C : Addr) (F : γ → Value → Prop) (elt : Expr) (x2 : Str) (cenv : Env) (ys : List γ) (s₃ : Shared) (itv : Value) (s₅ : Shared) : Prop
  | mk (Val2 : γ → Value → Prop) (it2 : Addr) (OK2 : Heap → Prop) (W2 : Addr → Prop) (V2 : Nat → Prop) (own2 : List Addr) (R2 : List γ → Shared → Prop) (e : itv = .ref it2) (I : It prog w A Val2 it2 OK2 S W2 V2 own2 R2) (hR : R2 ys s₅) (ok : OK2 s₅.heap)
    (h1 : ∀ b ∈ own2, b ≠ D ∧ b ≠ C ∧ b ∉ S) (h2 : ∀ b, W2 b → s₃.heap.get? b = none) (h3 : ∀ g, V2 g → s₃.gens.size ≤ g)
    (h4 : ∀ (s s' : Shared), OK2 s.heap → Ext S (fun b => b = D ∨ b = C ∨ W2 b) V2 s s' → OK2 s'.heap)
    (h5 : ∀ y v (s₆ : Shared) m, y ∈ ys → OK2 s₆.heap → Ext S (fun b => b = D ∨ b = C ∨ W2 b) V2 s₅ s₆ → s₆.heap.Ns C m → m x2 = some v → Val2 y v → wpAny (model prog w) A (eval elt cenv) (fun r s₇ => EltEnd (fun y v _ => F y v) S C s₆ y r s₇) (fun _ _ => False) s₆) :
    InnerOut prog w A S D C F elt x2 cenv ys s₃ itv s₅
structure InnerAt (prog : Program) (w : World) (A : Around) (S own : List Addr) (D C : Addr) (F : γ → Value → Prop) (elt : Expr) (x2 : Str) (cenv : Env) (ys : List γ) (s₃ : Shared) (itv : Value) (s₅ : Shared) : Prop where
  out : InnerOut prog w A S D C F elt x2 cenv ys s₃ itv s₅
  ext : Ext S (fun b => b = C) NoG s₃ s₅
  ns : ∃ m, s₅.heap.Ns C m
inductive FillJ2 (OK : Heap → Prop) (S : List Addr) (W : Addr → Prop) (V : Nat → Prop) (D C : Addr) (R : List α → Shared → Prop) (F : γ → Value → Prop) (g : α → List γ) (s₀ : Shared) (xs : List α) (n : Nat) (s' : Shared) : Prop
  | mk (done rest : List α) (vs : List Value) (c : Nat) (m : Str → Option Value) (hx : xs = done ++ rest) (hn : n = rest.length) (ok : OK s'.heap) (hR : R rest s') (hD : s'.heap.get? D = some (listObj vs c)) (hP : Paired F (done.flatMap g) vs) (hns : s'.heap.Ns C m)
      (hE : Ext S (fun b => b = D ∨ b = C ∨ W b) V s₀ s') : FillJ2 OK S W V D C R F g s₀ xs n s'
theorem Paired.app {β : Type} {P : γ → β → Prop} {a c : List γ} {b d : List β} (h1 : Paired P a b) (h : Paired P c d) : Paired P (a ++ c) (b ++ d) := by
  induction h1 with
  | nil => exact h
  | cons x t ih => exact .cons x ih
theorem fill_loop2 {elt iter iter2 : Expr} {scope : Scope} {pos : Pos} {x x2 : Str} {px px2 : Pos} {cenv : Env} {Rr : Result → Shared → Prop} {s₀ : Shared} {c0 : Nat} {xs : List α} {m0 : Str → Option Value}
    (hh : A.mark none = A) (I : It prog w A Val it OK S W V own R) (hx : cenv.kindOf x = some .local) (hx2 : cenv.kindOf x2 = some .local) (hp : (cenv.scope.kind == .class || (cenv.scope.kind == .module && cenv.locals != cenv.globals)) = false)
    (hs2 : ∀ v, foldedSetIterable iter2 cenv v = pure v)
    (hloc : cenv.locals = C) (hD : D ∉ own) (hC : C ∉ own) (hDC : D ≠ C) (hDS : D ∉ S) (hCS : C ∉ S)
    (hOK : ∀ (s s' : Shared), OK s.heap → Ext S (fun b => b = D ∨ b = C ∨ W b) V s s' → OK s'.heap)
    (hoS : ∀ b ∈ own, b ∉ S)
    (hin : ∀ y v (s₃ : Shared) m vs c, y ∈ xs → OK s₃.heap → Ext S (fun b => b = D ∨ b = C ∨ W b) V s₀ s₃ → s₃.heap.Ns C m → m x = some v → Val y v → s₃.heap.get? D = some (listObj vs c) →
      wpAny (model prog w) A (eval iter2 cenv) (fun xv s₄ => wpAny (model prog w) A (pyIter xv) (fun itv s₅ => InnerAt prog w A S own D C F elt x2 cenv (g y) s₃ itv s₅) (fun _ _ => False) s₄) (fun _ _ => False) s₃)
    (hn : (xs.flatMap g).length ≤ 16777216) (hok : OK s.heap) (hR : R xs s) (hS : s.heap.get? D = some (listObj [] c0)) (hns : s.heap.Ns C m0) (hX : Ext S (fun b => b = D ∨ b = C ∨ W b) V s₀ s)
    (hEnd : ∀ s' vs c m, Ext S (fun b => b = D ∨ b = C ∨ W b) V s₀ s' → OK s'.heap → s'.heap.get? D = some (listObj vs c) → Paired F (xs.flatMap g) vs → s'.heap.Ns C m → Rr (.ok .next) s') :
    codeAny (model prog w) A (.compLoop (.ListComp elt [⟨.Name x px, iter, [], 0⟩, ⟨.Name x2 px2, iter2, [], 0⟩] scope pos) 0 (.ref it) (.ref D) cenv) Rr s := by
  subst hloc
  have hDW : ¬ W D := fun h => hD (I.sub D h)
  have hCW : ¬ W cenv.locals := fun h => hC (I.sub _ h)
  refine codeAny_loop rfl (FillJ2 OK S W V D cenv.locals R F g s₀ xs) (fun n s hJ => ?_) xs.length ⟨[], xs, [], c0, m0, rfl, rfl, hok, hR, hS, .nil, hns, hX⟩
  show wpAny _ _ ((compTurn (.ListComp elt [⟨.Name x px, iter, [], 0⟩, ⟨.Name x2 px2, iter2, [], 0⟩] scope pos) 0 (.ref it) (.ref D) cenv).onRaise (fun x => do noteFrame x cenv; theTreesLotGoes x)) _ _ s
  refine wpAny_noted ?_
  rw [compTurn_two0]
  obtain ⟨done, rest, vs, c, m, hxs, rfl, ok1, R1, S1, P1, n1, X1⟩ := hJ
  refine wpAny_bind (wpAny_standAt (wpAny_bind ?_))
  cases rest with
  | nil =>
    refine I.nil s _ _ ok1 R1 fun s' hE => wpAny_pure ?_
    have e1 : Ext S (fun b => b = D ∨ b = cenv.locals ∨ W b) V s s' := hE.mono (fun _ h => h) (fun _ h => .inr (.inr h)) fun _ h => h
    exact hEnd s' vs c m (X1.trans e1) (hOK _ _ ok1 e1) (hE.heap _ _ hDS hDW S1) (by rw [hxs, List.append_nil]; exact P1) (Ext.ns hE hCW n1)
  | cons y ys =>
    refine I.cons y ys s _ _ ok1 R1 fun v s₁ hv hE R2 => ?_
    have e1 : Ext S (fun b => b = D ∨ b = cenv.locals ∨ W b) V s s₁ := hE.mono (fun _ h => nomatch h) (fun _ h => .inr (.inr h)) fun _ h => h
    refine wpAny_bind (wpAny_of_eq (a := ()) rfl (wpAny_bind ?_))
    refine wpAny_assign_Name (wpAny_storeName_local hx (Ext.ns hE hCW n1) (fun h₂ hn₂ hs₂ => ?_) hp)
    have e2 : Ext [] (fun b => b = cenv.locals) V s₁ { s₁ with heap := h₂, toks := s₁.toks + 1 } := Ext.of_heap fun b o hb e => (hs₂.2 b hb).trans e
    have e2' : Ext S (fun b => b = D ∨ b = cenv.locals ∨ W b) V s₁ { s₁ with heap := h₂, toks := s₁.toks + 1 } := e2.mono (fun _ h => nomatch h) (fun _ h => .inr (.inl h)) fun _ h => h
    have ok2 := hOK _ _ ok1 (e1.trans e2')
    have S3 : h₂.get? D = some (listObj vs c) := (hs₂.2 D hDC).trans (hE.heap _ _ (by simp) hDW S1)
    refine wpAny_bind (wpAny_mono (hin y v { s₁ with heap := h₂, toks := s₁.toks + 1 } _ vs c (by rw [hxs]; simp) ok2 (X1.trans (e1.trans e2')) hn₂ (by simp) hv S3) (fun xv s₄ h₄ => ?_) fun _ _ f => f.elim)
    refine wpAny_bind (wpAny_standAt (wpAny_bind (wpAny_of_eq (hs2 xv) (wpAny_bind (wpAny_holding (wpAny_mono h₄ (fun itv s₅ h₅ => ?_) fun _ _ f => f.elim))))))
    obtain ⟨⟨Val2, it2, OK2, W2, V2, own2, R2', rfl, I2, hR2, hok2, hoff, hW2, hV2, hOK2, helt2⟩, hX5, m5, hn5⟩ := h₅
    have hCD : cenv.locals ≠ D := hDC.symm
    have S5 : s₅.heap.get? D = some (listObj vs c) := hX5.heap _ _ hDS hDC S3
    have hlen : vs.length = (done.flatMap g).length := P1.length.symm
    have hsz : vs.length + (g y).length ≤ 16777216 := by
      rw [hxs, List.flatMap_append, List.length_append, List.flatMap_cons, List.length_append] at hn
      omega
    have fin : ∀ s₆ vs2 c2 m2, Ext S (fun b => b = D ∨ b = cenv.locals ∨ W2 b) V2 s₅ s₆ → s₆.heap.get? D = some (listObj (vs ++ vs2) c2) → Paired F (g y) vs2 → s₆.heap.Ns cenv.locals m2 →
        FillJ2 OK S W V D cenv.locals R F g s₀ xs ys.length s₆ := by
      intro s₆ vs2 c2 m2 X6 S6 P6 n6
      have x56 : Ext S (fun b => b = D ∨ b = cenv.locals ∨ W2 b) V2 { s₁ with heap := h₂, toks := s₁.toks + 1 } s₆ := (hX5.mono (fun _ h => h) (fun _ h => .inr (.inl h)) fun _ h => h.elim).trans X6
      have e3 : Ext S (fun b => b = D ∨ b = cenv.locals ∨ W b) V { s₁ with heap := h₂, toks := s₁.toks + 1 } s₆ := x56.shrink (fun b hb => by
        rcases hb with h | h | h
        · exact .inr (.inl h)
        · exact .inr (.inr (.inl h))
        · exact .inl (hW2 b h)) fun g h => .inr (hV2 g h)
      have eAll := (e1.trans e2').trans e3
      refine ⟨done ++ [y], ys, vs ++ vs2, c2, m2, by rw [hxs]; simp, rfl, hOK _ _ ok1 eAll, ?_, S6, ?_, n6, X1.trans eAll⟩
      · refine I.keeps ys s₁ _ R2 (fun b hb o e => ?_) fun g hg z e => ?_
        · have h1 : b ≠ cenv.locals := fun h => hC (h ▸ hb)
          have h2 : b ≠ D := fun h => hD (h ▸ hb)
          have e' : h₂.get? b = some o := (hs₂.2 b h1).trans e
          exact x56.heap b o (hoS b hb) (fun h => by
            rcases h with h | h | h
            · exact h2 h
            · exact h1 h
            · have z := hW2 b h
              have z' : h₂.get? b = none := z
              rw [e'] at z'; cases z') e'
        · refine x56.gens g (fun h => ?_) z e
          have z1 : s₁.gens.size ≤ g := hV2 g h
          rw [Array.getElem?_eq_none z1] at e; cases e
      · rw [List.flatMap_append]
        exact Paired.app P1 (by simpa using P6)
    have inner : ∀ s₆ : Shared, R2' (g y) s₆ → OK2 s₆.heap → Ext S (fun b => b = D ∨ b = cenv.locals ∨ W2 b) V2 s₅ s₆ → s₆.heap.get? D = some (listObj vs c) → s₆.heap.Ns cenv.locals m5 →
        codeAny (model prog w) A (.compLoop (.ListComp elt [⟨.Name x px, iter, [], 0⟩, ⟨.Name x2 px2, iter2, [], 0⟩] scope pos) 1 (.ref it2) (.ref D) cenv)
          (fun r s' => r = .ok .next ∧ FillJ2 OK S W V D cenv.locals R F g s₀ xs ys.length s') s₆ := by
      intro s₆ r6 o6 x6 d6 n6
      exact fill_loop (F := fun y v _ => F y v) (C := cenv.locals) (vs0 := vs) (s₀ := s₅) (compTurn_two1 _ _ _ _ _ _ _ _ _ _ _ _) I2 hx2 hp rfl (fun h => (hoff D h).1 rfl) (fun h => (hoff _ h).2.1 rfl) hDC hDS hCS hOK2 (fun _ _ _ _ h _ => h) (fun b h => (hoff b h).2.2) helt2 hsz o6 r6 d6 n6 x6
        fun s' vs' c' m' X' _ d' P' n' => ⟨rfl, fin s' vs' c' m' X' d' P' n'⟩
    refine wpAny_bind (wpAny_runOwn ?_)
    show codeAny (model prog w) (A.mark none) _ _ _
    rw [hh]
    have r0 : Ext S (fun b => b = D ∨ b = cenv.locals ∨ W2 b) V2 s₅ s₅ := .refl _ _ _ s₅
    refine codeAny_mono (R := fun r s' => r = .ok .next ∧ FillJ2 OK S W V D cenv.locals R F g s₀ xs ys.length s') (codeAny_compStart_two (inner s₅ hR2 hok2 r0 S5 hn5) ?_) (fun r s' hr => ?_)
    · refine I2.iter (g y) s₅ _ _ hok2 hR2 fun s' hE' hR' => ?_
      have e1' : Ext S (fun b => b = D ∨ b = cenv.locals ∨ W2 b) V2 s₅ s' := hE'.mono (fun _ h => nomatch h) (fun _ h => h.elim) fun _ h => h.elim
      exact inner s' hR' (hOK2 _ _ hok2 e1') e1' (hE'.keepAll _ _ S5) (Ext.ns hE' (fun h => h) hn5)
    · obtain ⟨rfl, hJ⟩ := hr
      exact wpAny_pure ⟨rfl, ys.length, Nat.lt_succ_self _, hJ⟩
end
end Mine
end
section
open PySem PySem.W PyProof.Rows
set_option maxRecDepth 100000
set_option maxHeartbeats 8000000
set_option linter.unusedVariables false
namespace Mine
section
variable {prog : Program} {w : World} {A : Around} {E : Value → Shared → Prop} {env : Env} {s : Shared}
variable {α γ : Type} {Val : α → Value → Prop} {it : Addr} {l : List Env} {base : Heap} {W : Addr → Prop} {V : Nat → Prop} {own : List Addr} {R : List α → Shared → Prop} {F : γ → Value → Prop} {g : α → List γ}
theorem comp_over2 {elt iter iter2 : Expr} {x x2 : Str} {px px2 : Pos} {scope : Scope} {cl : List (Str × Addr)} {pos : Pos} {Q : Value → Shared → Prop} {xs : List α}
    (hh : A.mark none = A) (hcell : ∀ y ∈ scope.names, y.2 ≠ .cell) (hkind : scope.kind = .function) (hx : scope.names.lookup x = some .local) (hx2 : scope.names.lookup x2 = some .local)
    (hs2 : ∀ C v, foldedSetIterable iter2 (compEnvC scope cl C env) v = pure v)
    (I : It prog w A Val it (OkL base l) (frs l) W V own R) (hR : R xs s) (hok : OkL base l s.heap) (hthere : ∀ b ∈ own, ∃ o, s.heap.get? b = some o) (hoS : ∀ b ∈ own, b ∉ frs l) (hW : ∀ b, W b → base.get? b = none)
    (hin : ∀ D C, NewDC s (frs l) own D C → ∀ y v (s₃ : Shared) m vs c, y ∈ xs → OkL base l s₃.heap → Ext (frs l) (fun b => b = D ∨ b = C ∨ W b) V s s₃ → s₃.heap.Ns C m → m x = some v → Val y v → s₃.heap.get? D = some (listObj vs c) →
      wpAny (model prog w) A (eval iter2 (compEnvC scope cl C env)) (fun xv s₄ => wpAny (model prog w) A (pyIter xv) (fun itv s₅ => InnerAt prog w A (frs l) own D C F elt x2 (compEnvC scope cl C env) (g y) s₃ itv s₅) (fun _ _ => False) s₄) (fun _ _ => False) s₃)
    (hn : (xs.flatMap g).length ≤ 16777216)
    (hQ : ∀ D s' vs c, s.heap.get? D = none → s.heap.objs.size ≤ D → Ext (frs l) W V s s' → s'.heap.get? D = some (listObj vs c) → Paired F (xs.flatMap g) vs → Q (.ref D) s') :
    CompTail prog w A E (.ListComp elt [⟨.Name x px, iter, [], 0⟩, ⟨.Name x2 px2, iter2, [], 0⟩] scope pos) scope cl env none Q (.ref it) s := by
  refine wpAny_newObj_type (wpAny_newFunctionEnv hcell (by intro y hy; simp at hy) (fun h₁ hns₁ hsb₁ => ?_) hkind)
  have kp : KeepAll s.heap (s.heap.push { cls := .type "list", dict := none, data := .seq ([] : List Value).toArray }) := fun b o e => Heap.get?_push_of_some _ e
  have kh : KeepAll (s.heap.push { cls := .type "list", dict := none, data := .seq ([] : List Value).toArray }) h₁ := fun b o e => hsb₁.extBut b o (Nat.ne_of_lt (Heap.lt_size e)) (Heap.get?_push_of_some _ e)
  have hCs : (s.heap.push { cls := .type "list", dict := none, data := .seq ([] : List Value).toArray }).objs.size = s.heap.objs.size + 1 := Heap.size_push ..
  have hD0 : h₁.get? s.heap.objs.size = some (listObj [] 0) := kh _ _ (Heap.get?_push_size _ rfl)
  generalize hCC : (s.heap.push { cls := .type "list", dict := none, data := .seq ([] : List Value).toArray }).objs.size = C at *
  have N : NewDC s (frs l) own s.heap.objs.size C := ⟨get?_size_none _ (Nat.le_refl _), get?_size_none _ (by rw [hCs]; exact Nat.le_succ _), by rw [hCs]; exact Nat.lt_succ_self _, Nat.le_refl _, Nat.le_of_eq hCs⟩
  generalize s.heap.objs.size = D at N hD0
  have e0 : Ext (frs l) (fun b => b = D ∨ b = C ∨ W b) V s { s with heap := h₁, toks := s.toks + ([] : List (Str × Value)).length } := .of_keep (kp.trans kh)
  have nt : ∀ b, s.heap.get? b = none → ∀ l : List Addr, (∀ b ∈ l, ∃ o, s.heap.get? b = some o) → b ∉ l := fun b e l hl h => by
    obtain ⟨o, ho⟩ := hl b h
    rw [e] at ho; cases ho
  have hSt := hok.frs_there
  have hOK := N.ok (V := V) hok fun b h => ⟨hW b h, hoS b (I.sub b h)⟩
  have loop : ∀ s₄ : Shared, R xs s₄ → OkL base l s₄.heap → Ext (frs l) (fun b => b = D ∨ b = C ∨ W b) V s s₄ → s₄.heap.get? D = some (listObj [] 0) → s₄.heap.Ns C (fun _ => none) →
      codeAny (model prog w) A (.compLoop (.ListComp elt [⟨.Name x px, iter, [], 0⟩, ⟨.Name x2 px2, iter2, [], 0⟩] scope pos) 0 (.ref it) (.ref D) (compEnvC scope cl C env)) (compPost (model prog w) A E none Q (.ref D) C) s₄ := by
    intro s₄ hR4 ok4 x4 d4 n4
    refine fill_loop2 (F := F) (g := g) (C := C) (s₀ := s) hh I (lookup_relabel_local hx) (lookup_relabel_local hx2) (by simp [compEnvC, relabel, hkind]) (hs2 C) rfl (nt D N.d _ hthere) (nt C N.c _ hthere) (Nat.ne_of_lt N.lt) (nt D N.d _ hSt) (nt C N.c _ hSt)
      hOK hoS (hin D C N) hn ok4 hR4 d4 n4 x4 fun s' vs c m X ok' d' P n' => ?_
    exact comp_val (F := fun y v _ => F y v) N (X.shrink (fun b hb => by
      rcases hb with h | h | h
      · exact .inl (h ▸ N.d)
      · exact .inl (h ▸ N.c)
      · exact .inr h) fun g h => .inl h) d' P n' (fun _ _ _ _ h _ => h) fun s'' X d P => hQ D s'' vs c N.d N.dsz X d P
  have hR1 : R xs { s with heap := h₁, toks := s.toks + ([] : List (Str × Value)).length } := I.keeps _ _ _ hR (fun b _ o e => kh _ _ (kp _ _ e)) fun _ _ _ e => e
  have ok1 := hOK _ _ hok e0
  refine codeAny_compStart_list (loop _ hR1 ok1 e0 hD0 hns₁) ?_
  refine I.iter xs _ _ _ ok1 hR1 fun s' hE hR' => ?_
  have e1 : Ext (frs l) (fun b => b = D ∨ b = C ∨ W b) V _ s' := hE.mono (fun _ h => nomatch h) (fun _ h => h.elim) fun _ h => h.elim
  exact loop s' hR' (hOK _ _ ok1 e1) (e0.trans e1) (hE.keepAll _ _ hD0) (Ext.ns hE (fun h => h) hns₁)
end
end Mine
end
section
open PySem PySem.W PyProof.Rows
set_option maxRecDepth 100000
set_option maxHeartbeats 8000000
namespace Mine
theorem isList_keep {h h' : Heap} {a : Addr} {items : Array Value} (x : h.IsList a items) (k : KeepAll h h') : h'.IsList a items := let ⟨o, ho, r⟩ := x; ⟨o, k _ _ ho, r⟩
section
variable {prog : Program} {w : World} {base : Heap} {l it : Addr} {items : Array Value} {ss : List Str}
def LstR (l it : Addr) (ss : List Str) (xs : List Str) (s : Shared) : Prop := ∃ i, s.heap.IsListIter it l i ∧ xs = ss.drop i
theorem inIt_list (hl : base.IsList l items) (hi : StrsAre items.toList ss) (hit : base.get? it = none) :
    InIt prog w it base (· = it) (fun _ => False) [it] (LstR l it ss) where
  look := fun xs s ⟨i, h, _⟩ => ⟨"list_iterator", "list_iterator.__next__", h.typeIs, slot_listiter_next.lookup⟩
  cons := fun dp un fr gd y ys s Q E hd hu hk hlim hR hQ => by
    obtain ⟨i, hit', hxs⟩ := hR
    obtain ⟨o, ho, hc, hdt⟩ := id hit'
    obtain ⟨ol, hol, _, nl, hdl⟩ := isList_keep hl hk
    have hlen : items.size = ss.length := by rw [← StrsAre.len hi]; simp
    have hlt : i < ss.length := by
      rcases Nat.lt_or_ge i ss.length with h | h
      · exact h
      · rw [List.drop_of_length_le h] at hxs; cases hxs
    have hx : items[i]? = some (items[i]'(by omega)) := by simp
    obtain ⟨t, _, hv⟩ := StrsAre.at_ hi i _ (by rw [Array.getElem?_toList]; exact hx)
    rw [List.drop_eq_getElem_cons hlt] at hxs
    injection hxs with hy hys
    refine wpAny_callSpecial?_slot (name := Str.ofString "__next__") hit'.typeIs slot_listiter_next (wpAny_call_entry slot_listiter_next hit'.typeIs entry_listiter_next ?_ (args_listiter_next _))
    show wpAny _ _ (field (.ref it) 0 >>= _) _ _ s
    refine wpAny_bind (wpAny_field ho hdt (x := .ref l) rfl ?_)
    show wpAny _ _ (if (Value.ref l == Value.none) = true then _ else _) _ _ s
    rw [if_neg (show ¬ ((Value.ref l == Value.none) = true) from Bool.false_ne_true)]
    show wpAny _ _ (field (.ref it) 1 >>= _) _ _ s
    refine wpAny_bind (wpAny_field ho hdt (x := .int i 0) rfl ?_)
    show wpAny _ _ (seqItems? (.ref l) >>= _) _ _ s
    refine wpAny_bind (wpAny_seqItems hol hdl ?_)
    simp only [Int.toNat_natCast, hx]
    have hsb := Heap.SameBut.update s.heap it (Obj.mapFields (·.setIfInBounds 1 (rawInt ((i : Int) + 1))))
    refine wpAny_bind (wpAny_setField ho hdt (by simp) (wpAny_pure ⟨_, rfl, ?_⟩))
    rw [hv, ← hy]
    refine hQ t _ (Ext.of_heap (s := s) (tk := s.toks) fun b o hw e => ?_) ⟨i + 1, ?_, hys⟩
    · rw [Heap.get?_update_other _ _ (Ne.symm hw)]; exact e
    · exact ⟨_, Heap.get?_update_self _ ho (Obj.isFreed_of_fields (Obj.data_mapFields hdt _)), (Obj.cls_mapFields ..).trans hc, by
        rw [Obj.data_mapFields hdt]; simp [rawInt]⟩
  nil := fun dp un fr gd s Q E hd hu hk hlim hR hQ => by
    obtain ⟨i, hit', hxs⟩ := hR
    obtain ⟨o, ho, hc, hdt⟩ := id hit'
    obtain ⟨ol, hol, _, nl, hdl⟩ := isList_keep hl hk
    have hlen : items.size = ss.length := by rw [← StrsAre.len hi]; simp
    have hge : ss.length ≤ i := by
      rcases Nat.lt_or_ge i ss.length with h | h
      · rw [List.drop_eq_getElem_cons h] at hxs; cases hxs
      · exact h
    have hx : items[i]? = none := by simp; omega
    refine wpAny_callSpecial?_slot (name := Str.ofString "__next__") hit'.typeIs slot_listiter_next (wpAny_call_entry slot_listiter_next hit'.typeIs entry_listiter_next ?_ (args_listiter_next _))
    show wpAny _ _ (field (.ref it) 0 >>= _) _ _ s
    refine wpAny_bind (wpAny_field ho hdt (x := .ref l) rfl ?_)
    show wpAny _ _ (if (Value.ref l == Value.none) = true then _ else _) _ _ s
    rw [if_neg (show ¬ ((Value.ref l == Value.none) = true) from Bool.false_ne_true)]
    show wpAny _ _ (field (.ref it) 1 >>= _) _ _ s
    refine wpAny_bind (wpAny_field ho hdt (x := .int i 0) rfl ?_)
    show wpAny _ _ (seqItems? (.ref l) >>= _) _ _ s
    refine wpAny_bind (wpAny_seqItems hol hdl ?_)
    simp only [Int.toNat_natCast, hx]
    refine wpAny_bind (wpAny_rule (wpAny_bind (wpAny_setField ho hdt (by simp) ?_)))
    show wpAny _ _ (newExc (.type "StopIteration") [] >>= _) _ _ _
    refine wpAny_bind ?_
    simp only [newExc, newTuple]
    refine wpAny_bind (wpAny_newObj_type ?_ (by size_fits))
    refine wpAny_bind (m := firstArgMember _ _) (wpAny_of_eq (a := Value.none) (by first | rfl | (simp only [firstArgMember]; rfl)) ?_)
    refine wpAny_newObj_type ?_ (by size_fits)
    simp only [raiseNew]
    refine wpAny_bind (wpAny_handled ?_)
    refine wpAny_bind (wpAny_pure (wpAny_throw ?_))
    refine hQ _ { s with heap := s.heap.update it (Obj.mapFields (·.setIfInBounds 0 .none)) } _ (Ext.of_heap (s := s) (tk := s.toks) fun b o hw e => ?_) ⟨fun b o e => Heap.get?_push_of_some _ (Heap.get?_push_of_some _ e), get?_size_none _ ?_, _, _, Heap.get?_push_size _ rfl, rfl, rfl⟩
    · rw [Heap.get?_update_other _ _ (Ne.symm hw)]; exact e
    · rw [Heap.size_push]; exact Nat.le_succ _
  keeps := fun xs s s' ⟨i, hit', hxs⟩ hk _ => by
    obtain ⟨o, ho, r⟩ := hit'
    exact ⟨i, ⟨o, hk it (.head _) _ ho, r⟩, hxs⟩
  there := fun xs s ⟨i, ⟨o, ho, _⟩, _⟩ b hb => by
    rcases List.mem_cons.mp hb with rfl | hb
    · exact ⟨o, ho⟩
    · cases hb
  sub := fun b hb => by rw [hb]; exact .head _
  itn := .head _
  off := fun b hb => by
    rcases List.mem_cons.mp hb with rfl | hb
    · exact hit
    · cases hb
end
end Mine
end
section
open PySem PySem.W PyProof.Rows
set_option maxRecDepth 100000
set_option maxHeartbeats 8000000
set_option linter.unusedVariables false
namespace Mine
theorem unbox {P : Prop} (h : Box P) : P := h.out
section
variable {prog : Program} {w : World} {A : Around} {E : Value → Shared → Prop} {s : Shared} {env : Env}
theorem execs_box {M : Model} {st : Stmt} {rest : List Stmt} {Q : Flow → Shared → Prop} (h : wpAny M A (exec st env) (fun f s' => match f with | .next => Box (wpAny M A (execs rest env) Q E s') | f => Q f s') E s) : wpAny M A (execs (st :: rest) env) Q E s := by
  show wpAny M A (exec st env >>= fun f => match f with | .next => execs rest env | f => pure f) Q E s
  refine wpAny_bind (wpAny_mono h (fun f s' hf => ?_) fun _ _ e => e)
  cases f with
  | next => exact hf.out
  | cont => exact wpAny_pure hf
  | brk => exact wpAny_pure hf
  | ret v => exact wpAny_pure hf
theorem eval_box {M : Model} {e : Expr} {Q : Value → Shared → Prop} (h : wpAny M A (eval e env) (fun v s' => Box (Q v s')) E s) : wpAny M A (eval e env) Q E s := wpAny_mono h (fun _ _ h => h.out) fun _ _ e => e
abbrev RngR (n : Nat) (it : Addr) (ys : List Nat) (s : Shared) : Prop := ∃ i, i ≤ n ∧ IsRangeIter s.heap it (0 + (i : Nat) * 1) ((n : Int) - (i : Nat)) 1 ∧ ys = (List.range n).drop i
abbrev NatVal (k : Nat) (v : Value) : Prop := ∃ t, v = .int (k : Int) t
theorem small64 : ∀ n : Nat, n ≤ 64 → Builtin.Range.small 0 (n : Int) 1 = true ∧ Builtin.Range.rangeSize 0 (n : Int) 1 = (n : Int) := by decide
theorem it_range (hh : A.handled = none) (it : Addr) (n : Nat) (OK : Heap → Prop) (S : List Addr) : It prog w A NatVal it OK S (fun b => b ∈ [it]) NoG [it] (RngR n it) :=
  It.of_walks (Walks.range hh it 0 1 n) (by simp) fun i y v hy ⟨t, ht⟩ => ⟨t, by
    have hlt : i < n := by
      have := (List.getElem?_eq_some_iff.mp hy).1
      simpa using this
    rw [List.getElem?_range hlt] at hy
    cases hy
    rw [ht]
    congr 1
    omega⟩
theorem range_src {r : Addr} {n : Nat} {t u v : Tok} {Q : Value → Shared → Prop} (hr : IsRange s.heap r 0 (n : Int) 1 t u v) (hn : n ≤ 64)
    (hQ : ∀ (s₂ : Shared) it o, it = s.heap.objs.size → KeepAll s.heap s₂.heap → s₂.gens = s.gens → s₂.os = s.os → s.heap.get? it = none → s₂.heap.get? it = some o → o.cls = .type "range_iterator" → RngR n it (List.range n) s₂ → Q (.ref it) s₂) :
    wpAny (model prog w) A (pyIter (.ref r)) Q E s := by
  obtain ⟨h1, h2⟩ := small64 n hn
  refine wpAny_pyIter_range hr h1 (hQ _ _ _ rfl (fun b o e => Heap.get?_push_of_some _ e) rfl rfl (get?_size_none _ (Nat.le_refl _)) (Heap.get?_push_size _ rfl) rfl ⟨0, Nat.zero_le _, ?_, rfl⟩)
  rw [h2]
  have : (n : Int) - ((0 : Nat) : Int) = (n : Int) := by omega
  rw [this]
  exact Heap.get?_push_size _ rfl
abbrev LstV {α : Type} (l it : Addr) (items : Array Value) (xs : List α) (ys : List α) (s : Shared) : Prop := ∃ i, i ≤ items.size ∧ (s.heap.IsListIter it l i ∧ s.heap.IsList l items) ∧ ys = xs.drop i
theorem Paired.at_ {α : Type} {Val : α → Value → Prop} {xs : List α} {vs : List Value} (x : Paired Val xs vs) (i : Nat) (y : α) (v : Value) (h1 : xs[i]? = some y) (h2 : vs[i]? = some v) : Val y v := by
  induction x generalizing i with
  | nil => cases h1
  | cons h t ih =>
    cases i with
    | zero => cases h1; cases h2; exact h
    | succ i => exact ih i h1 h2
theorem it_list {α : Type} {Val : α → Value → Prop} {xs : List α} {items : Array Value} (hh : A.handled = none) (it l : Addr) (hne : l ≠ it) (P : Paired Val xs items.toList) (OK : Heap → Prop) (S : List Addr) :
    It prog w A Val it OK S (fun b => b ∈ [it]) NoG [it, l] (LstV l it items xs) :=
  It.of_walks (Walks.list hh it l hne items) (by rw [P.length]; simp) fun i y v hy hv => Paired.at_ P i y v hy (by rw [Array.getElem?_toList]; exact hv)
theorem list_src {α : Type} {l : Addr} {items : Array Value} {xs : List α} {Q : Value → Shared → Prop} (hl : s.heap.IsList l items)
    (hQ : ∀ (s₂ : Shared) it o, it = s.heap.objs.size → KeepAll s.heap s₂.heap → s₂.gens = s.gens → s₂.os = s.os → s.heap.get? it = none → s₂.heap.get? it = some o → o.cls = .type "list_iterator" → l ≠ it → LstV l it items xs xs s₂ → Q (.ref it) s₂) :
    wpAny (model prog w) A (pyIter (.ref l)) Q E s := by
  have hlt : l < s.heap.objs.size := by
    obtain ⟨o, ho, _⟩ := hl
    exact Heap.lt_size ho
  exact wpAny_pyIter_list hl (hQ { s with heap := s.heap.push _ } _ _ rfl (fun b o e => Heap.get?_push_of_some _ e) rfl rfl (get?_size_none _ (Nat.le_refl _)) (Heap.get?_push_size _ rfl) rfl (Nat.ne_of_lt hlt) ⟨0, Nat.zero_le _, ⟨⟨_, Heap.get?_push_size _ rfl, rfl, rfl⟩, isList_keep hl fun b o e => Heap.get?_push_of_some _ e⟩, rfl⟩)
theorem elt_end {α : Type} {F : α → Value → Heap → Prop} {S : List Addr} {base : Heap} {C : Addr} {m m' : Str → Option Value} {news : List (Addr × Obj)} {y : α} {r : Value} {s₃ s₄ : Shared} (F₀ : Fr base C s₃.heap m) (F' : Fr base C s₄.heap m') (N' : News base C s₄.heap news)
    (hs : ∀ q ∈ restOf base s₃.heap C, q ∈ news) (hg : s₄.gens = s₃.gens) (ho : s₄.os = s₃.os) (hv : F y r s₄.heap) : EltEnd F S C s₃ y r s₄ :=
  ⟨hv, ⟨fun b o _ hC e => keep_rest F₀ F' N' hs b o hC e, fun b o _ hC e => ⟨o.slots, keep_rest F₀ F' N' hs b o hC e⟩, fun g _ x e => by rw [hg]; exact e, by rw [hg]; exact Nat.le_refl _, fun h => by rw [hg]; exact h, ho⟩, m', F'.ns⟩
theorem elt_start {base : Heap} {C : Addr} {m : Str → Option Value} {s₃ : Shared} {news : List (Addr × Obj)} (hn : s₃.heap.Ns C m) (k : KeepAll base s₃.heap) (hsz : base.objs.size ≤ C) (hN : ∀ p ∈ news, s₃.heap.get? p.1 = some p.2 ∧ p.1 ≠ C ∧ base.get? p.1 = none) :
    Fr base C s₃.heap m ∧ News base C s₃.heap (news ++ restOf base s₃.heap C) :=
  ⟨⟨hn, k, hsz⟩, fun p hp => by
    rcases List.mem_append.mp hp with hp | hp
    · exact hN p hp
    · exact restOf_news base s₃.heap C p hp⟩
end
end Mine
end
section
open PySem PySem.W PyProof.Rows PySem.Calls
set_option maxRecDepth 100000
set_option maxHeartbeats 8000000
set_option linter.unusedVariables false
namespace Mine
theorem okl_of_fr {base h : Heap} {L : Addr} {m : Str → Option Value} {env : Env} (F : Fr base L h m) (hf : env.frame = some L) (hk : env.scope.kind ≠ .module) : OkL base [env] h := by
  obtain ⟨o, es, ep, ho, hd, _⟩ := F.ns
  exact ⟨F.keep, hk, ⟨L, o, hf, get?_size_none _ F.above, ho, fun vs e => by rw [hd] at e; cases e⟩, trivial⟩
theorem elt_ready {base : Heap} {L D C : Addr} {m m₃ : Str → Option Value} {news : List (Addr × Obj)} {S own : List Addr} {W : Addr → Prop} {V : Nat → Prop} {s₂ s₃ : Shared} (F : Fr base L s₂.heap m) (N : News base L s₂.heap news) (hS : S = [L]) (ND : NewDC s₂ S own D C)
    (X : Ext S (fun b => b = D ∨ b = C ∨ W b) V s₂ s₃) (hW : ∀ p ∈ news, ¬ W p.1) (k : KeepAll base s₃.heap) (hn : s₃.heap.Ns C m₃) :
    Fr base C s₃.heap m₃ ∧ News base C s₃.heap (news ++ restOf base s₃.heap C) := by
  have ne : ∀ b o, s₂.heap.get? b = some o → ∀ c, s₂.heap.get? c = none → b ≠ c := fun b o e c e' h => by rw [h, e'] at e; cases e
  refine elt_start hn k (Nat.le_trans F.above (Nat.le_trans (Nat.le_of_lt F.ns.lt) (Nat.le_trans ND.dsz (Nat.le_of_lt ND.lt)))) fun p hp => ?_
  have hp1 := N p hp
  refine ⟨X.heap _ _ (by rw [hS]; simp only [List.mem_singleton]; exact hp1.2.1) (fun h => ?_) hp1.1, ne _ _ hp1.1 _ ND.c, hp1.2.2⟩
  rcases h with h | h | h
  · exact ne _ _ hp1.1 _ ND.d h
  · exact ne _ _ hp1.1 _ ND.c h
  · exact hW p hp h
theorem ints_pick {vals : List Value} {ns : List Int} (hi : IntsAre vals ns) (a b c : Option Int) : ∃ ms, IntsAre (slicePick vals.toArray a b c).toList ms := by
  unfold slicePick
  generalize sliceRange _ _ _ = ix
  simp only
  induction ix with
  | nil => exact ⟨[], .nil⟩
  | cons i r ih =>
    obtain ⟨ms, h⟩ := ih
    rw [List.filterMap_cons]
    cases hx : vals.toArray[i]? with
    | none => exact ⟨ms, h⟩
    | some v =>
      obtain ⟨z, t, rfl, _⟩ := hi.at i v (by simpa using hx)
      exact ⟨z :: ms, .cons z t h⟩
section
variable {prog : Program} {w : World} {A : Around} {E : Value → Shared → Prop} {s : Shared}
theorem sum_any {l : Addr} {vs : List Value} {ns : List Int} {Q : Value → Shared → Prop} (hh : A.handled = none) (hl : s.heap.IsList l vs.toArray) (hi : IntsAre vs ns)
    (h : ∀ h' tk t', KeepAll s.heap h' → Q (.int ns.sum t') { s with heap := h', toks := tk }) : wpAny (model prog w) A (PySem.call (.builtin "sum") [.ref l]) Q E s := by
  obtain ⟨xs, e⟩ := hi.allInts.items
  have e2 := hi.numsOf
  rw [e] at hl
  refine sum_intListG hh hl fun h' tk t' hk => ?_
  have hs : preSum (numAt xs) xs.size = ns.sum := by
    rw [preSum_eq, List.take_of_length_le (by simp), ← nums_intItems, ← e, ← hi.numsOf]
  rw [hs]
  exact h h' tk t' hk
end
end Mine
namespace Mine
theorem elt_keep {α : Type} {F : α → Value → Heap → Prop} {S : List Addr} {C : Addr} {m : Str → Option Value} {y : α} {r : Value} {s₃ s₄ : Shared} (hn : s₃.heap.Ns C m) (k : KeepAll s₃.heap s₄.heap) (hg : s₄.gens = s₃.gens) (ho : s₄.os = s₃.os) (hv : F y r s₄.heap) : EltEnd F S C s₃ y r s₄ :=
  ⟨hv, ⟨fun b o _ _ e => k b o e, fun b o _ _ e => ⟨o.slots, k b o e⟩, fun g _ x e => by rw [hg]; exact e, by rw [hg]; exact Nat.le_refl _, fun h => by rw [hg]; exact h, ho⟩, m, hn.keeps k⟩
theorem comp_after {base : Heap} {L D : Addr} {m : Str → Option Value} {news : List (Addr × Obj)} {S : List Addr} {W : Addr → Prop} {V : Nat → Prop} {s s' : Shared} {o : Obj} (F : Fr base L s.heap m) (N : News base L s.heap news) (hX : Ext S W V s s') (hS : S = [L]) (hLW : ¬ W L) (hW : ∀ b, W b → base.get? b = none) (hWn : ∀ p ∈ news, ¬ W p.1)
    (hDs : s.heap.objs.size ≤ D) (hDv : s'.heap.get? D = some o) : Fr base L s'.heap m ∧ News base L s'.heap ((D, o) :: news) ∧ ∀ p ∈ news, p.1 < D := by
  subst hS
  have hLb : base.get? L = none := get?_size_none _ F.above
  refine ⟨Ext.fr hX F hLW (fun b hb => by rw [List.mem_singleton.mp hb]; exact hLb) hW, List.forall_mem_cons.mpr ⟨⟨hDv, Nat.ne_of_gt (Nat.lt_of_lt_of_le F.ns.lt hDs), get?_size_none _ (Nat.le_trans F.above (Nat.le_trans (Nat.le_of_lt F.ns.lt) hDs))⟩, Ext.news hX N (fun q hq h => (N q hq).2.1 (List.mem_singleton.mp h)) hWn⟩, fun p hp => Nat.lt_of_lt_of_le (Heap.lt_size (N p hp).1) hDs⟩
theorem comp_after_set {base : Heap} {L D : Addr} {m m' : Str → Option Value} {news : List (Addr × Obj)} {S : List Addr} {W : Addr → Prop} {V : Nat → Prop} {s s' : Shared} {o : Obj} (F : Fr base L s.heap m) (N : News base L s.heap news) (hX : Ext S (fun b => b = L ∨ W b) V s s') (hS : S = [L]) (hn : s'.heap.Ns L m') (hW : ∀ b, W b → base.get? b = none) (hWn : ∀ p ∈ news, ¬ W p.1)
    (hDs : s.heap.objs.size ≤ D) (hDv : s'.heap.get? D = some o) : Fr base L s'.heap m' ∧ News base L s'.heap ((D, o) :: news) ∧ ∀ p ∈ news, p.1 < D := by
  subst hS
  have hLb : base.get? L = none := get?_size_none _ F.above
  refine ⟨⟨hn, fun b o e => hX.heap b o (fun h => ?_) (fun h => ?_) (F.keep b o e), F.above⟩, List.forall_mem_cons.mpr ⟨⟨hDv, Nat.ne_of_gt (Nat.lt_of_lt_of_le F.ns.lt hDs), get?_size_none _ (Nat.le_trans F.above (Nat.le_trans (Nat.le_of_lt F.ns.lt) hDs))⟩,
    Ext.news hX N (fun q hq h => (N q hq).2.1 (List.mem_singleton.mp h)) fun q hq h => h.elim (N q hq).2.1 (hWn q hq)⟩, fun p hp => Nat.lt_of_lt_of_le (Heap.lt_size (N p hp).1) hDs⟩
  · rw [List.mem_singleton.mp h, hLb] at e; cases e
  · rcases h with h | h
    · rw [h, hLb] at e; cases e
    · rw [hW b h] at e; cases e
theorem news_off {base h : Heap} {L it : Addr} {news : List (Addr × Obj)} (N : News base L h news) (hin : h.get? it = none) : ∀ p ∈ news, ¬ p.1 ∈ [it] := fun p hp h => by
  have := (N p hp).1
  rw [List.mem_singleton.mp h, hin] at this; cases this
theorem fr_off {base h : Heap} {L it : Addr} {m : Str → Option Value} (F : Fr base L h m) (hin : h.get? it = none) : L ≠ it := fun h' => by
  obtain ⟨o, _, _, ho, _⟩ := F.ns
  rw [h', hin] at ho; cases ho
theorem strs_pairedF {α : Type} {f : α → Str} {xs : List α} {vs : List Value} (x : Paired (fun y v => ∃ t, v = Value.str (f y) t) xs vs) : StrsAre vs (xs.map f) := by
  induction x with
  | nil => exact .nil
  | cons h t ih =>
    obtain ⟨t', rfl⟩ := h
    exact .cons _ t' ih
theorem strs_paired {vs : List Value} {ss : List Str} (x : StrsAre vs ss) : Paired (fun (y : Str) v => ∃ t, v = Value.str y t) ss vs := by
  induction x with
  | nil => exact .nil
  | cons k t h ih => exact .cons ⟨t, rfl⟩ ih
theorem paired_of_strs {α : Type} {f : α → Str} : ∀ {xs : List α} {vs : List Value}, StrsAre vs (xs.map f) → Paired (fun y v => ∃ t, v = Value.str (f y) t) xs vs
  | [], _, .nil => .nil
  | _ :: _, _, .cons _ t h => .cons ⟨t, rfl⟩ (paired_of_strs h)
theorem Paired.drop_ {α : Type} {P : α → Value → Prop} {xs : List α} {vs : List Value} (n : Nat) (x : Paired P xs vs) : Paired P (xs.drop n) (vs.drop n) := by
  induction x generalizing n with
  | nil => cases n <;> exact .nil
  | cons h t ih =>
    cases n with
    | zero => exact .cons h t
    | succ n => exact ih n
theorem Paired.take_ {α : Type} {P : α → Value → Prop} {xs : List α} {vs : List Value} (n : Nat) (x : Paired P xs vs) : Paired P (xs.take n) (vs.take n) := by
  induction x generalizing n with
  | nil => cases n <;> exact .nil
  | cons h t ih =>
    cases n with
    | zero => exact .nil
    | succ n => exact .cons h (ih n)
theorem paired_ints {α : Type} {xs : List α} {vs : List Value} (x : Paired (fun _ v => ∃ k t, v = Value.int k t) xs vs) : ∃ ns, IntsAre vs ns ∧ ns.length = xs.length := by
  induction x with
  | nil => exact ⟨[], .nil, rfl⟩
  | cons h t ih =>
    obtain ⟨k, t', rfl⟩ := h
    obtain ⟨ns, h1, h2⟩ := ih
    exact ⟨k :: ns, .cons k t' h1, congrArg Nat.succ h2⟩
theorem ints_paired {vs : List Value} {ns : List Int} (x : IntsAre vs ns) : Paired (fun (y : Int) v => ∃ t, v = Value.int y t) ns vs := by
  induction x with
  | nil => exact .nil
  | cons k t h ih => exact .cons ⟨t, rfl⟩ ih
theorem paired_intsF {α : Type} {f : α → Int} {xs : List α} {vs : List Value} (x : Paired (fun y v => ∃ t, v = Value.int (f y) t) xs vs) : IntsAre vs (xs.map f) := by
  induction x with
  | nil => exact .nil
  | cons h t ih =>
    obtain ⟨t', rfl⟩ := h
    exact .cons _ t' ih
def rowOf (dn : List Int) : List Nat := dn.map (fun z => (z.fmod ((dn.length + 2 : Nat) : Int)).toNat) ++ [dn.length + 1]
theorem rowOf_ints (dn : List Int) : (rowOf dn).map Int.ofNat = dn.map (fun z => z.fmod ((dn.length + 2 : Nat) : Int)) ++ [((dn.length + 1 : Nat) : Int)] := by
  unfold rowOf
  rw [List.map_append, List.map_map]
  congr 1
  refine List.map_congr_left fun z _ => ?_
  have := Int.fmod_nonneg_of_pos z (posSucc (dn.length + 1))
  exact Int.toNat_of_nonneg this
theorem rowOf_len (dn : List Int) : (rowOf dn).length = dn.length + 1 := by simp [rowOf]
section
variable {prog : Program} {w : World} {A : Around} {E : Value → Shared → Prop} {s : Shared}
theorem slice_tail {value slice : Expr} {l sl : Addr} {items : Array Value} {vl vu vs : Value} {lo hi st : Option Int} {ops : List Value} {Q : Value → Shared → Prop} (hl : s.heap.IsList l items) (hs : s.heap.IsSliceOf sl vl vu vs) (pl : IsPart vl lo) (pu : IsPart vu hi) (ps : IsPart vs st) (h0 : st ≠ some 0) (hsz : items.size ≤ 16777216)
    (h : Q (.ref s.heap.objs.size) { s with heap := s.heap.push { cls := .type "list", data := .seq (slicePick items lo hi st) } })
    (hsub : subscripted slice false (.ref l) (.ref sl) = operate ops (getItem (.ref l) (.ref sl))) : wpAny (model prog w) A (subscriptTail value slice (.ref l) (.ref sl)) Q E s :=
  tail_any hl.typeIs list_getitem_lookup (wpAny_getItem_list_slice hl hs pl pu ps h0 h (by rw [sizeLine_eq]; exact hsz)) hsub
end
section
variable {prog : Program} {w : World} {A : Around} {E : Value → Shared → Prop} {s : Shared}
theorem item_zero {value slice : Expr} {l : Addr} {x : Value} {vs : List Value} {u : Tok} {Q : Value → Shared → Prop} (hl : s.heap.IsList l (x :: vs).toArray) (h : Q x s)
    (hs : subscripted slice false (.ref l) (.int 0 u) = operate [.ref l, .int 0 u] (getItem (.ref l) (.int 0 u)) := by with_unfolding_all rfl) : wpAny (model prog w) A (subscriptTail value slice (.ref l) (.int 0 u)) Q E s :=
  tail_any hl.typeIs slot_list_getitem.lookup (wpAny_getItem_list hl (by decide) (by decide) (by simp) h) hs
theorem slice_led {base h0 : Heap} {L : Addr} {m : Str → Option Value} {news : List (Addr × Obj)} {value slice : Expr} {l sl : Addr} {items : Array Value} {vl vu vs : Value} {lo hi st : Option Int} {ops : List Value} {Q : Value → Shared → Prop} (F : Fr base L h0 m) (N : News base L h0 news) (hk : KeepAll h0 s.heap)
    (hl : h0.IsList l items) (hs : s.heap.IsSliceOf sl vl vu vs) (pl : IsPart vl lo) (pu : IsPart vu hi) (ps : IsPart vs st) (hne : st ≠ some 0) (hsz : items.size ≤ 16777216)
    (h : ∀ D h', Fr base L h' m → News base L h' ((D, listObj (slicePick items lo hi st).toList 0) :: news) → (∀ p ∈ news, p.1 < D) → Q (.ref D) { s with heap := h' })
    (hsub : subscripted slice false (.ref l) (.ref sl) = operate ops (getItem (.ref l) (.ref sl))) : wpAny (model prog w) A (subscriptTail value slice (.ref l) (.ref sl)) Q E s := by
  refine slice_tail (isList_keep hl hk) hs pl pu ps hne hsz ?_ hsub
  have e : ({ cls := .type "list", data := .seq (slicePick items lo hi st) } : Obj) = listObj (slicePick items lo hi st).toList 0 := by simp [listObj]
  rw [e]
  have F1 := Fr.keepAll F hk
  have N1 := News.keepAll N hk
  exact h _ _ (F1.push _) (News.push F1 N1 _) fun p hp => Heap.lt_size (N1 p hp).1
end
section
variable {M : Model} {A : Around} {E : Value → Shared → Prop} {s : Shared} {K : Frag} {h₀ : Heap} {C : Addr} {m mg mb : Str → Option Value} {scope : Scope} {cl : List (Str × Addr)} {env : Env} {p : Program} {loose : List Str} {x : Str} {pos : Pos} {v : Value} {Q : Value → Shared → Prop}
theorem cn_local (F : Fr h₀ C s.heap m) (hx : m x = some v) (h : Q v s)
    (hk : (compEnvC scope cl C env).scope.kind = .function := by rfl) (hl : (compEnvC scope cl C env).kindOf x = some .local := by rfl) (hd : (x == ("__debug__" : Str)) = false := by decide) :
    wpAny M A (eval (.Name x pos) (compEnvC scope cl C env)) Q E s := wpAny_Name (wpAny_loadName_local hk hl F.ns hx h) hd
theorem cn_global (F : Fr h₀ C s.heap m) (X : K.In h₀) (T : TopRead p loose mg mb h₀) (e : nsIn K mainGlobals x = some (some v)) (h : Q v s) (hg : env.globals = mainGlobals := by rfl)
    (hk : (compEnvC scope cl C env).scope.kind = .function := by rfl) (hx : (compEnvC scope cl C env).kindOf x = some .globalImplicit := by rfl) (hd : (x == ("__debug__" : Str)) = false := by decide) :
    wpAny M A (eval (.Name x pos) (compEnvC scope cl C env)) Q E s :=
  Name_function_global hk hx (loadGlobal_global (env := compEnvC scope cl C env) (show s.heap.Ns env.globals mg from hg ▸ (T.keeps F.keep).g) (mg_of X T.g e) h) hd
theorem cn_built (F : Fr h₀ C s.heap m) (X : K.In h₀) (T : TopRead p loose mg mb h₀) (e : nsIn K mainGlobals x = some none) (hv : bootBuiltins x = some v) (hn : x ≠ "__name__") (h : Q v s) (hg : env.globals = mainGlobals := by rfl) (hb : env.builtins = builtinsNs := by rfl)
    (hk : (compEnvC scope cl C env).scope.kind = .function := by rfl) (hx : (compEnvC scope cl C env).kindOf x = some .globalImplicit := by rfl) (hd : (x == ("__debug__" : Str)) = false := by decide) :
    wpAny M A (eval (.Name x pos) (compEnvC scope cl C env)) Q E s :=
  Name_function_global hk hx (loadGlobal_builtin (env := compEnvC scope cl C env) (show s.heap.Ns env.globals mg from hg ▸ (T.keeps F.keep).g) (mg_none_of X T.g e) (show s.heap.Ns env.builtins mb from hb ▸ (T.keeps F.keep).b) ((T.builtins x hn).trans hv) h) hd
end
end Mine
end
section
open PySem PySem.W PyProof.Rows Mine
set_option maxRecDepth 100000
set_option maxHeartbeats 8000000
namespace Mine1
section
variable {w : World} {mg mb : Str → Option Value} {dp un : Nat} {fr : Option (List Env)} {gd : Option (List Code)} {s : Shared} {Q : Value → Shared → Prop} {E : Value → Shared → Prop}
inductive TreeJ (w : World) (s : Shared) (L d rl P : Nat) (many : Nat) (t : Tok) (row : List Nat) (i : Nat) (m : Str → Option Value) (news : List (Addr × Obj)) (s' : Shared) : Prop
  | mk (hm : m "many" = some (.int many t)) (hg : GExt NoG s.gens s'.gens s.os s'.os) (od r1 r2 r3 : Obj) (kvs : List (Int × Value)) (st : Option Value) (ps : Array Value) (hpt : TriplesOk ps.toList)
      (hn : news = [(d, od), (L + 1 + 1 + 1, r1), (L + 1 + 1, r2), (L + 1, r3), (P, ({ cls := .none, data := .fields ps } : Obj))])
      (hod : od.IsDictOf (intKind prog w) kvs) (hP : Mine.Pairs kvs ((treeOf many [] row).take i)) (c1 : r1.data = Data.cell st) (c2 : r2.data = Data.cell (some (.ref d))) (c3 : r3.data = Data.cell (some (.ref rl))) : TreeJ w s L d rl P many t row i m news s'
theorem tree_spec {base : Heap} {P : Nat} {bm : Addr} {ob : Obj} {ps : Array Value} {rl : Addr} {items : Array Value} {row : List Nat} {many : Nat} {t : Tok} (PB : PW w mg mb base) (M : BMod base mainGlobals mg bm ob) (hk : KeepAll base s.heap)
    (hPb : base.get? P = none) (hok : s.heap.IsCode 168 P ps) (htab : s.heap.TableAt 168 P ps) (hPs : cStatics ≠ P) (hdp : dp + 5 < 450) (hu : un + 30 ≤ 4500) (hl : s.heap.IsList rl items)
    (hi : IntsAre items.toList (row.map Int.ofNat)) (hsz : items.size ≤ 8) (hrow : row.length + 1 = many)
    (hQ : ∀ d s' od kvs, Ext [] (fun b => b = P) NoG s s' → s'.heap.get? d = some od → od.IsDictOf (intKind prog w) kvs → Mine.Pairs kvs (treeOf many [] row) → (d == sysModules) = false → s.heap.get? d = none → (∃ ps', s'.heap.IsCode 168 P ps' ∧ s'.heap.TableAt 168 P ps') → Q (.ref d) s') :
    wpAny (model prog w) (Ar dp un fr gd) (PySem.call (.ref 169) [.ref rl, .int many t]) Q E s := by
  have hk' : KeepAll base (hide [P] s.heap) := keep_hide hk fun a ha => by rw [List.mem_singleton.mp ha]; exact hPb
  obtain ⟨KX, T⟩ := PB.keepAll hk'
  have M' := M.keeps hk'
  have hPo : s.heap.get? P = some { cls := .none, data := .fields ps } := htab.2
  have hl' : (hide [P] s.heap).IsList rl items := by
    obtain ⟨o, ho, hc, r⟩ := hl
    refine ⟨o, hide_some (fun q => ?_) ho, hc, r⟩
    rw [List.mem_singleton.mp q, hPo] at ho
    cases ho; cases hc
  have ho : s.heap.get? 169 = some _ := hk 169 _ (PB.K 169 _ (by k_is))
  have N0 : Led (hide [P] s.heap) s.heap [(P, ({ cls := .none, data := .fields ps } : Obj))] := fun p hp => by
    rw [List.mem_singleton.mp hp]
    exact ⟨hPo, hide_none (List.mem_singleton.mpr rfl)⟩
  refine wpAny_call ?_
  refine' enterC (base := hide [P] s.heap) (hide_keep _ _) (Nat.le_of_eq (hide_size _ _)) N0 ?e1 ho ?e2 (PB.keepAll hk).T.nolimit ?e3 ?e4 ?e5 ?e6 ?_ ?e7 ?e8 ?e9
  case e2 => exact rfl
  case e1 => show dp < 1000; omega
  case e3 => exact ⟨168, _, _, _, rfl, hk 168 _ (PB.K 168 _ (by k_is)), rfl, rfl⟩
  case e4 => rfl
  case e5 => exact kindsX rfl
  case e6 => decide
  case e7 => rfl
  case e8 => rfl
  case e9 => rfl
  clear ho
  intro L h₁ tk cells F N l1 Y kh hL
  have hPL := (fun (a b : Nat) (h : a < b) => h) _ _ (l1 _ (.head _))
  dsimp only at hPL
  clear l1
  obtain ⟨q1, q2, q3, rfl, c1, c2, c3⟩ := CellsAre.three Y
  clear Y
  replace c1 := show _ = Data.cell none from c1
  replace c2 := show _ = Data.cell none from c2
  replace c3 := show _ = Data.cell (some (.ref rl)) from c3
  replace F := fr_named F "many" (.int many t) rfl
  simp only [List.cons_append, List.nil_append] at N
  have hiB : Box (IntsAre items.toList (row.map Int.ofNat)) := ⟨hi⟩
  have hsB : Box (items.size ≤ 8) := ⟨hsz⟩
  have hlen : items.size = row.length := by have := hi.length; simpa using this
  clear hi hsz
  k_steps
  rename Fr _ _ _ _ => F1
  rename News _ _ _ _ => N1
  refine for_stmt ?_
  k_steps
  rename_i d h0 od lo hs fs hi fi ll h1 r2 cc2
  refine enum_made F1 N1 hl' fun it e h₂ oi hKi hie F2 hoc hod N2 => ?_
  have hg0 : GExt NoG s.gens s.gens s.os s.os := GExt.refl _ _ _
  have hJ0 : ∀ m s', m "many" = some (.int many t) → GExt NoG s.gens s'.gens s.os s'.os → TreeJ w s L d rl P many t row 0 m _ s' := fun m s' hm hg => ⟨hm, hg, od, q1, r2, q3, [], none, ps, isCode_triples hok, rfl, hi, .nil, c1, cc2, c3⟩
  have hL3 := ll.1
  have hLd := (fun (a b : Nat) (h : a + 1 + 1 + 1 < b) => (show a < b by omega)) L d ll.1
  have hPd := ll.2.2.2
  have hds := (fun (a b : Nat) (h : a < b) => h) _ _ (Heap.lt_size (N1 _ (.head _)).1)
  have hdi := (fun (a b c : Nat) (h : a < b) (h' : b ≤ c) => Nat.lt_of_lt_of_le h h') _ _ _ hds hKi
  have hsum : ∀ a : Nat, a ≤ L + 1 + 1 + 1 → a < h1.objs.size := fun a h => by omega
  have hPs1 := (fun (a b c : Nat) (h : a < b) (h' : b < c) => Nat.lt_trans h h') _ _ _ hPd hds
  refine ⟨_, items.size, ?_, enum_loop (K := h1.objs.size) rfl hl' (TreeJ w s L d rl P many t row) it (Nat.lt_trans hLd hds) hKi hie ?_ ?_ ?_ ?_ ?_⟩
  · exact ⟨0, _, _, .none, oi, Nat.zero_le _, rfl, hJ0 _ _ (if_pos rfl) hg0, F2, hoc, hod, N2⟩
  · rw [hide_size]
    exact Nat.le_trans (Nat.le_of_eq (hide_size [P] s.heap).symm) (Nat.le_of_lt (Nat.lt_of_le_of_lt F1.above (Nat.lt_trans hLd hds)))
  · rintro i m news s' ⟨_, _, od, r1, r2, r3, kvs, st, ps, _, rfl, _⟩ p hp
    exact (show ∀ p ∈ [(d, od), (L + 1 + 1 + 1, r1), (L + 1 + 1, r2), (L + 1, r3), (P, ({ cls := .none, data := .fields ps } : Obj))], (p.1 : Nat) < h1.objs.size from allC hds (allC (hsum _ (Nat.le_refl _)) (allC (hsum _ (Nat.le_succ _)) (allC (hsum _ (Nat.le_trans (Nat.le_succ _) (Nat.le_succ _))) (allC hPs1 allN))))) p hp
  · exact fun i m news s' h' tk ⟨a1, a2, a3, a4, a5, a6, a7, a8, a9, b1, b2, b3, b4, b5, b6, b7⟩ => ⟨a1, a2, a3, a4, a5, a6, a7, a8, a9, b1, b2, b3, b4, b5, b6, b7⟩
  · intro i x m news tt s' oi hx hJ F hte hoc N
    obtain ⟨hm, hg, od, r1, r2, r3, kvs, st, ps, hpt, rfl, hod, hP, c1, c2, c3⟩ := hJ
    clear F1 N1 F2 N2 hJ0 hg0
    obtain ⟨z, tz, rfl, hz⟩ := hiB.out.at i x (by rw [Array.getElem?_toList]; exact hx)
    obtain ⟨u, hu0, rfl⟩ : ∃ u, row[i]? = some u ∧ ((u : Nat) : Int) = z := by
      rw [List.getElem?_map] at hz
      cases hr : row[i]? with
      | none => rw [hr] at hz; cases hz
      | some u => rw [hr] at hz; cases hz; exact ⟨u, rfl, rfl⟩
    replace F := fr_named F "many" (.int many t) hm
    k_steps
    rename Fr _ _ _ _ => F1
    rename News _ _ _ _ => N1
    refine' genexp_min (c := 168) (P := P) rfl rfl rfl ?hclos ?hcell rfl rfl rfl ?hroom rfl ?hgo ?hs
    case hclos => with_unfolding_all exact rfl
    case hcell => decide
    case hroom => show dp + 1 < 1000; omega
    case hs => intro _; with_unfolding_all rfl
    k_steps
    rename_i ha0 hb0 oc dc hc0 Fc0 Nc0 hh3 tk3 tr ur vr hr F3 N3 hk3
    have hil : i < row.length := (List.getElem?_eq_some_iff.mp hu0).1
    have hm9 : many ≤ 9 := by have := hsB.out; omega
    have hPLn : L ≠ P := Nat.ne_of_gt hPL
    have h168P := isCode_ne hok
    have h168 : ∀ o, s.heap.get? 168 = some o → hh3.get? 168 = some o := fun o e => F3.keep _ _ (hide_some (fun q => h168P (List.mem_singleton.mp q)) e)
    have hPg : hh3.get? P = some { cls := .none, data := .fields ps } := N3.get (by k_mem)
    refine ⟨_, tr, ur, vr, many, ps, mg, bm, ob, (fun k => !(((treeOf many [] row).take i).any fun p => p.1 == k) && !((row.drop i).contains k)), rfl, hr, (small9 many hm9).1, (small9 many hm9).2, T.nolimit.keeps F3.keep, isCode_again hok h168 hPg hpt, tableAt_again htab h168 hPg, M'.keeps F3.keep, hPs, tree_some hrow hil, ?_, ?_⟩
    · intro C code bi A' E' k tk' s3 m₂ hA' hkm hns hmx hkk
      have kp : ∀ {b : Addr} {o : Obj}, b ≠ P → (b, o) ∈ _ → s3.heap.get? b = some o := fun hb hm => hkk _ _ hb (N3.get hm)
      refine tests_gen (ca := L + 1 + 1) (cst := L + 1 + 1 + 1) (cr := L + 1) (d := d) (rl := rl) (items := items) (row := row) (t := tk') (u := s'.toks - 1) (kvs := kvs) (od := od) rfl rfl rfl rfl rfl rfl rfl rfl hns hmx ⟨r2, ?_, c2⟩ ⟨oc, ?_, dc⟩ ⟨r3, ?_, c3⟩ ?_ hiB.out ?_ (Nat.le_of_lt hil) ?_ lo hod hP rfl rfl rfl rfl rfl rfl rfl
      · exact hkk _ _ (neN (by omega)) (N3.get (by k_mem))
      · exact hkk _ _ (neN (by omega)) (N3.get (by k_mem))
      · exact hkk _ _ (neN (by omega)) (N3.get (by k_mem))
      · obtain ⟨ol, hol, r⟩ := F3.lst hl'
        refine ⟨ol, hkk _ _ (fun q => ?_) hol, r⟩
        obtain ⟨ol', hol', hc', _⟩ := hl'
        have z := F3.keep _ _ hol'
        rw [q, hPg] at z; cases z; cases hc'
      · exact Nat.le_trans hsB.out (by decide)
      · exact hkk _ _ (neN (by omega)) (N3.get (by k_mem))
    · rintro a s₅ hg5 hk5 ⟨ps5, hok5, htab5⟩ hmin
      clear Fc0 Nc0
      k_steps
      refine hmin _ _ fun j tj s6 hj hp hmn hg6 hk6 hP6 => ?_
      have F6 := frBut F3 hk6 (hide_none (List.mem_singleton.mpr rfl)) hPLn
      have N6 := newsBut (news := [_, _, _, _, _, _, _]) (show News _ _ _ ([_, _, _, _, _, _, _] ++ [_]) from N3) hk6 (allC (neN (by dsimp only; omega)) (allC (neN (by dsimp only; omega)) (allC (neN (by dsimp only; omega)) (allC (neN (by dsimp only; omega)) (allC (neN (by dsimp only; omega)) (allC (neN (by dsimp only; omega)) (allC (neN (by dsimp only; omega)) allN))))))) (hP6.trans htab5.2)
      simp only [List.cons_append, List.nil_append] at N6
      clear F3 N3
      have hflat := hP.flat
      k_steps
      rename Fr _ _ _ _ => F7
      rename News _ _ _ _ => N7
      refine' setItem_K PyProof.V.same_int (intKind_is _ _ _ _) (.int _ _) F7 N7 ?U hod hflat ?_ ?z
      case U => k_updF
      case z =>
        have h8 := hsB.out
        have h9 : (datOf ((treeOf many [] row).take i)).length ≤ 8 := by
          simp only [datOf, List.length_map, List.length_take, treeOf_len]; omega
        exact Nat.le_trans h9 (by decide)
      intro h8 o8 F8 N8 hd8 hf8
      try dsimp only at N8
      refine wpAny_execs_nil ⟨rfl, _, [(d, o8), (L + 1 + 1 + 1, oc), (L + 1 + 1, r2), (L + 1, r3), (P, _)], F8, fun p hp => N8 p (.tail _ hp), ?_⟩
      have hpk := tree_pick hrow hu0 hj hp hmn
      have hnk : ((kvs.any fun kv => kv.1 = ((j : Nat) : Int)) = true) ↔ False := by
        refine ⟨fun q => ?_, fun q => q.elim⟩
        obtain ⟨kv, h1, h2⟩ := List.any_eq_true.mp q
        have h3 := (hP.has (n := j)).mp (List.mem_map.mpr ⟨kv, h1, of_decide_eq_true h2⟩)
        obtain ⟨pr, h4, h5⟩ := List.mem_map.mp h3
        have h6 : ((treeOf many [] row).take i).any (fun p => p.1 == j) = true := List.any_eq_true.mpr ⟨pr, h4, by simp [h5]⟩
        dsimp only at hp
        rw [h6] at hp
        cases hp
      refine ⟨?_, ?_, o8, oc, r2, r3, kvs ++ [((j : Int), .int u tz)], _, ps5, isCode_triples hok5, rfl, ?_, ?_, dc, c2, c3⟩
      · first | exact (if_neg (by decide)).trans ((if_neg (by decide)).trans (if_pos rfl))
      · exact hg.trans hg6
      · have e : stored kvs ((j : Nat) : Int) (.int u tz) = kvs ++ [((j : Int), .int u tz)] := by
          unfold stored
          rw [if_neg (fun q => hnk.mp q)]
        exact e ▸ hd8
      · have e : (treeOf many [] row).take (i + 1) = (treeOf many [] row).take i ++ [(j, u)] := by
          rw [List.take_succ, hpk]; rfl
        rw [e]
        exact hP.snoc j u tz
  · rintro m news s' ⟨hm, hg, od, r1, r2, r3, kvs, st, ps', hpt, rfl, hod, hP, c1, c2, c3⟩ F N
    clear F1 N1 F2 N2 hJ0 hg0
    have h168 : ∀ o, s.heap.get? 168 = some o → s'.heap.get? 168 = some o := fun o e => F.keep _ _ (hide_some (fun q => isCode_ne hok (List.mem_singleton.mp q)) e)
    have hPg : s'.heap.get? P = some { cls := .none, data := .fields ps' } := N.get (by k_mem)
    have hEx : Ext [] (fun b => b = P) NoG s s' := ⟨fun b o _ hb e => F.keep _ _ (hide_some (by simpa using hb) e), fun b o hb => absurd hb (by simp), hg.gens, hg.gsize, hg.bare, hg.os⟩
    have hdg : s'.heap.get? d = some od := N.get (by k_mem)
    have hdn : s.heap.get? d = none := by
      have z := (N (d, od) (by k_mem)).2.2
      rw [hide_get] at z
      split at z
      · rename_i q
        have q' := List.mem_singleton.mp q
        exact absurd q' (neN (by omega))
      · exact z
    rw [hlen, List.take_of_length_le (Nat.le_of_eq (treeOf_len _ _ _))] at hP
    k_steps
    exact hQ d s' od kvs hEx hdg hod hP lo hdn ⟨ps', isCode_again hok h168 hPg hpt, tableAt_again htab h168 hPg⟩
end
end Mine1
end
section
open PySem PySem.W PyProof.Rows PyProof.V Mine
set_option maxRecDepth 100000
set_option maxHeartbeats 8000000
namespace Mine1
noncomputable def pathsDef : List Stmt × Scope := ((defOf (Str.ofString "_law_paths") PySem.Challenge.pw_kl0057_01.main.body).getD ([], default))
section
variable {w : World} {mg mb : Str → Option Value} {dp un : Nat} {fr : Option (List Env)} {gd : Option (List Code)} {s : Shared} {Q : Flow → Shared → Prop} {E : Value → Shared → Prop}
def slA (nums : List Int) (many p : Nat) : Nat := (((nums.getD p 0).fdiv (many : Int)).fmod 2).toNat
inductive PathsJ (base : Heap) (L d dr D I B : Addr) (vs : List Value) (c : Nat) (T : List (Nat × Nat)) (nums : List Int) (many : Nat) (t : Tok) (root : List Nat) (w : World) (s₀ : Shared) (n : Nat) (s' : Shared) : Prop
  | mk (i : Nat) (m : Str → Option Value) (oD : Obj) (kvs : List (Int × Value)) (oI : Obj) (hi : i ≤ T.length) (hn : n = T.length - i) (F : Fr base L s'.heap m) (m1 : m "paths" = some (.ref D)) (m2 : m "above" = some (.ref d)) (m3 : m "drawn" = some (.ref dr)) (m4 : m "many" = some (.int many t))
      (N : News base L s'.heap [(I, oI), (B, listOf vs.toArray c), (D, oD)]) (hc : oI.cls = .type "list_reverseiterator") (hd : oI.data = .fields #[.ref B, rawInt ((T.length : Int) - 1 - (i : Int))]) (hD : oD.IsDictOf (intKind prog w) kvs)
      (hP : PathsAt many root (slA nums many) (T.drop (T.length - i)) kvs) (hg : s'.gens = s₀.gens) (ho : s'.os = s₀.os) : PathsJ base L d dr D I B vs c T nums many t root w s₀ n s'
theorem slA_le {nums : List Int} {many p : Nat} : slA nums many p ≤ 1 := by
  unfold slA
  exact fm2 _
theorem paths_loop {base : Heap} {L d dr D : Addr} {m : Str → Option Value} {vals : List Value} {nums : List Int} {TT : List (Nat × Nat)} {kvs : List (Int × Value)} {od oD : Obj} {many : Nat} {t tX : Tok} {root : List Nat} (PB : PW w mg mb base)
    (hdp : dp + 5 < 450) (hu : un + 30 ≤ 4500) (hl : base.IsList dr vals.toArray) (hi : IntsAre vals nums) (hlen : nums.length = many) (hm9 : many ≤ 9) (hm2 : 2 ≤ many)
    (hd : base.get? d = some od) (hod : od.IsDictOf (intKind prog w) kvs) (hP : Mine.Pairs kvs TT) (hds : (d == sysModules) = false) (hT : TOk many TT) (hTl : TT.length ≤ 8) (hroot : root.length ≤ 20)
    (F : Fr base L s.heap m) (N : News base L s.heap [(D, oD)]) (hDs : (D == sysModules) = false) (hoD : oD.IsDictOf (intKind prog w) [(((many - 1 : Nat) : Int), .str (S root) tX)])
    (m1 : m "paths" = some (.ref D)) (m2 : m "above" = some (.ref d)) (m3 : m "drawn" = some (.ref dr)) (m4 : m "many" = some (.int many t))
    (hQ : ∀ s' oD kvs m', Fr base L s'.heap m' → News base L s'.heap [(D, oD)] → oD.IsDictOf (intKind prog w) kvs → PathsAt many root (slA nums many) TT kvs → s'.gens = s.gens → s'.os = s.os → Q (.ret (.ref D)) s') :
    wpAny (model prog w) ((Ar dp un fr gd).deeper (envOf (Str.ofString "_law_paths") pathsDef.2 L 176 (.ref 175))) (execs (pathsDef.1.drop 1) (envOf (Str.ofString "_law_paths") pathsDef.2 L 176 (.ref 175))) Q E s := by
  conv in (List.drop _ _) => whnf
  conv => enter [2, 2, 2]; whnf
  conv => enter [3, 2, 2]; whnf
  obtain ⟨KX, T0⟩ := PB
  have T := T0
  have hD0 : base.DictOf (intKind prog w) d kvs := Heap.dictOf_iff.mpr ⟨od, hd, hod⟩
  obtain ⟨ep, hat⟩ := hD0.dictAt
  replace F := fr_named F "many" _ m4
  replace F := fr_named F "drawn" _ m3
  replace F := fr_named F "above" _ m2
  replace F := fr_named F "paths" _ m1
  k_steps
  refine for_stmt ?_
  k_steps
  refine kdl_N (kdl_dict (knd := intKind prog w) (kvs := kvs) (ep := ep) hds) (by rfl) F N (hat.at' fun o e => F.keep _ o e) (by rw [hP.len, sizeLine_eq]; omega) fun B c h1 tk1 vs F1 N1 l1 hvl hv => ?_
  k_lt l1
  clear F N
  k_steps
  rename_i I h2 F2 N2 l2
  have hPl := hP.len
  refine wpAny_pyIter_revIter ⟨_, (N2 _ (.head _)).1, rfl, rfl⟩ ?_
  refine ⟨PathsJ base L d dr D I B vs c TT nums many t root w s, TT.length, ?_, ?_⟩
  · refine ⟨0, _, oD, _, _, Nat.zero_le _, rfl, F2, rfl, rfl, rfl, rfl, N2, rfl, ?_, hoD, ?_, rfl, rfl⟩
    · rw [hvl, hPl]; simp [revObj]
    · rw [show TT.length - 0 = TT.length from rfl, List.drop_length]; exact PathsAt.start hm2
  clear F2 N2 m1 m2 m3 m4
  rintro n s' ⟨i, m', oD', kvs', oI, hi', rfl, F, n1, n2, n3, n4, N, hc, hdat, hoD', hpa, hg, hos⟩
  have hBl : s'.heap.IsList B vs.toArray := ⟨_, N.get (.tail _ (.head _)), rfl, _, rfl⟩
  rcases Nat.lt_or_ge i TT.length with hlt | hge
  · have hjlt : TT.length - 1 - i < vs.length := by omega
    obtain ⟨k, x, hkx, hkv⟩ := hv _ _ (List.getElem?_eq_getElem hjlt)
    have hxx : vs.toArray[TT.length - 1 - i]? = some vs[TT.length - 1 - i] := by simp [hjlt]
    generalize vs[TT.length - 1 - i] = v at hkv hxx
    obtain ⟨tl, rfl⟩ := Value.isInt_shape hkv
    have eI : ((TT.length : Int) - 1 - (i : Int)) = ((TT.length - 1 - i : Nat) : Int) := by omega
    have hIr : s'.heap.IsRevIter I B ((TT.length - 1 - i : Nat) : Int) := ⟨oI, N.get (.head _), hc, by rw [hdat, eI]⟩
    obtain ⟨l, u, tu, hlu, rfl, rfl⟩ := Pairs.at hP hkx
    have hvk := Pairs.value hP hT hkx
    have hdr : TT.drop (TT.length - (i + 1)) = (l, u) :: TT.drop (TT.length - i) := by
      have hj' : TT.length - 1 - i < TT.length := by omega
      rw [List.getElem?_eq_getElem hj'] at hlu
      rw [show TT.length - (i + 1) = TT.length - 1 - i by omega, List.drop_eq_getElem_cons hj', show TT.length - 1 - i + 1 = TT.length - i by omega]
      rw [Option.some.inj hlu]
    generalize TT.drop (TT.length - i) = R at hpa hdr
    have hok : TOk many ((l, u) :: R) := hdr ▸ TOk.drop _ hT
    obtain ⟨tp, hvp⟩ := hpa.2 u hok.2.2.1
    have hll := hok.1
    have hIn := N _ (.head _)
    refine wpAny_pyNext_rev_item hIr hBl hxx fun h3 hit3 hs3 => ?_
    obtain ⟨oI3, hoI3, hc3, hd3⟩ := hit3
    have F3 := F.change hs3 hIn.2.1 hIn.2.2
    have N3 := news_head N hs3 hoI3 (allC (neN (by dsimp only; omega)) (allC (neN (by dsimp only; omega)) allN))
    clear F N
    replace F3 := fr_named F3 "many" _ n4
    replace F3 := fr_named F3 "drawn" _ n3
    replace F3 := fr_named F3 "above" _ n2
    replace F3 := fr_named F3 "paths" _ n1
    have hoB : Box (oD'.IsDictOf (intKind prog w) kvs') := ⟨hoD'⟩
    clear hoD' hoD n1 n2 n3 n4
    refine wpAny_of_eq (a := ()) rfl ?_
    k_steps
    rename Fr _ _ _ _ => F4
    refine item_at (knd := intKind prog w) (dictOf_keep hD0 F4.keep) (intKind_is _ _ _ _) hvk ?_
    rename News _ _ _ _ => N4
    refine item_at (knd := intKind prog w) (Heap.dictOf_iff.mpr ⟨_, N4.get (.tail _ (.tail _ (.head _))), hoB.out⟩) (intKind_is _ _ _ _) hvp ?_
    refine cut_state (h' := _) (fun sa ea1 ea2 ea3 => ?_) rfl
    subst ea1
    replace ea2 : sa.gens = s'.gens := ea2
    replace ea3 : sa.os = s'.os := ea3
    k_steps
    have e1 : Txt.mul (Str.ofString "/") (1 + ((nums.getD ((l : Nat) : Int).toNat 0).fdiv (many : Int)).fmod 2) = S (sl (slA nums many l + 1)) := by
      have h1 := Int.fmod_nonneg_of_pos ((nums.getD ((l : Nat) : Int).toNat 0).fdiv (many : Int)) (show (0 : Int) < 2 by decide)
      rw [slash_mul _ (by omega)]
      congr 2
      unfold slA
      rw [Int.toNat_natCast] at h1 ⊢
      omega
    have ea := slA_le (nums := nums) (many := many) (p := l)
    have eL := pathT_len (root := root) (a := slA nums many) (many := many) (fun _ => slA_le) (p := u) hok.2.2.2
    have eL2 : R.length * (2 + many) ≤ 8 * 11 := by
      refine Nat.mul_le_mul ?_ (by omega)
      have e3 := congrArg List.length hdr
      rw [List.length_drop, List.length_cons] at e3
      omega
    have eL3 : (pathT root (slA nums many) R u).length ≤ 200 := by omega
    generalize hY : pathT root (slA nums many) R u = Y at eL3 hvp ⊢
    rw [e1]
    generalize hsl : sl (slA nums many l + 1) = Z1
    have eZ1 : Z1.length ≤ 2 := by rw [← hsl]; simp only [sl, List.length_replicate]; omega
    refine PyProof.Rows.add_str (fun t3 tk3 => ?_) (by rw [S_len, S_len]; exact Nat.le_trans (Nat.add_le_add eL3 eZ1) (by decide))
    rw [S_app]
    clear e1
    refine cut_state (h' := sa.heap) (fun sb eb1 eb2 eb3 => ?_) rfl
    rw [← eb1] at F4 N4
    replace eb2 : sb.gens = sa.gens := eb2
    replace eb3 : sb.os = sa.os := eb3
    k_steps
    rw [show ((l : Nat) : Int) + 1 = ((l + 1 : Nat) : Int) from rfl, dot_mul]
    generalize hdl : dt (l + 1) = Z2
    have eZ2 : Z2.length ≤ 9 := by rw [← hdl]; simp only [dt, List.length_replicate]; omega
    refine PyProof.Rows.add_str (fun t4 tk4 => ?_) (by rw [S_len, S_len, List.length_append]; exact Nat.le_trans (Nat.add_le_add (Nat.add_le_add eL3 eZ1) eZ2) (by decide))
    rw [S_app]
    refine cut_state (h' := sb.heap) (fun sc ec1 ec2 ec3 => ?_) rfl
    rw [← ec1] at F4 N4
    replace ec2 : sc.gens = sb.gens := ec2
    replace ec3 : sc.os = sb.os := ec3
    k_steps
    have hDn := N4 _ (.tail _ (.tail _ (.head _)))
    refine wpAny_setItem_pairs (knd := intKind prog w) (intKind_is _ _ _ _) (Heap.dictOf_iff.mpr ⟨_, hDn.1, hoB.out⟩) (fun h5 hD5 hs5 => ?_) (by
      have := hpa.1
      have e3 := congrArg List.length hdr
      rw [List.length_drop, List.length_cons] at e3
      rw [sizeLine_eq]
      omega)
    obtain ⟨oD5, hoD5, hdd5⟩ := Heap.dictOf_iff.mp hD5
    have F5 := F4.change hs5 hDn.2.1 hDn.2.2
    have hID : I ≠ D := neN (by omega)
    have hBD : B ≠ D := neN (by omega)
    refine wpAny_execs_nil ⟨TT.length - (i + 1), by omega, i + 1, _, oD5, _, oI3, by omega, rfl, F5, rfl, rfl, rfl, rfl, ?_, hc3, ?_, hdd5, ?_, ?_, ?_⟩
    · exact allC ⟨(hs5.2 _ hID).trans (N4 _ (.head _)).1, (N4 _ (.head _)).2⟩ (allC ⟨(hs5.2 _ hBD).trans (N4 _ (.tail _ (.head _))).1, (N4 _ (.tail _ (.head _))).2⟩ (allC ⟨hoD5, hDn.2⟩ allN))
    · have e6 : ((TT.length - 1 - i : Nat) : Int) - 1 = (TT.length : Int) - 1 - ((i + 1 : Nat) : Int) := by omega
      rw [hd3, e6]
    · rw [hdr, ← hdl, ← hsl, ← hY]
      exact PathsAt.step hok hpa t4
    · exact (ec2.trans (eb2.trans (ea2.trans hg)))
    · exact (ec3.trans (eb3.trans (ea3.trans hos)))
  · have hIr : s'.heap.IsRevIter I B (-1) := ⟨oI, N.get (.head _), hc, by rw [hdat, show ((TT.length : Int) - 1 - (i : Int)) = -1 by omega]⟩
    have hIn := N _ (.head _)
    refine wpAny_pyNext_rev_end (by rfl) hIr fun h3 hs3 => ?_
    have F3 := frBut F (fun b o hb e => hs3 b o hb e) hIn.2.2 (Ne.symm hIn.2.1)
    have hDI : D ≠ I := neN (by omega)
    have N3 : News base L h3 [(D, oD')] := fun p hp => by
      rw [List.mem_singleton.mp hp]
      exact ⟨hs3 _ _ hDI (N _ (.tail _ (.tail _ (.head _)))).1, (N _ (.tail _ (.tail _ (.head _)))).2⟩
    have hii : i = TT.length := Nat.le_antisymm hi' hge
    rw [hii, Nat.sub_self, List.drop_zero] at hpa
    clear F N
    replace F3 := fr_named F3 "paths" _ n1
    have hoB : Box (oD'.IsDictOf (intKind prog w) kvs') := ⟨hoD'⟩
    have hpB : Box (PathsAt many root (slA nums many) TT kvs') := ⟨hpa⟩
    clear hoD' hoD n1 n2 n3 n4 hpa
    show wpAny _ _ (execs _ _) _ _ _
    k_steps
    rename Fr _ _ _ _ => F4
    rename News _ _ _ _ => N4
    exact hQ _ _ _ _ F4 N4 hoB.out hpB.out hg hos
end
end Mine1
end
section
open PySem PySem.W PyProof.Rows PyProof.V Mine
set_option maxRecDepth 100000
set_option maxHeartbeats 8000000
namespace Mine1
section
variable {w : World} {mg mb : Str → Option Value} {dp un : Nat} {fr : Option (List Env)} {gd : Option (List Code)} {s : Shared} {Q : Value → Shared → Prop} {E : Value → Shared → Prop}
def slB (nums : List Int) : Nat := ((nums.getD (nums.length - 1) 0).fmod 3).toNat
theorem paths_spec {d dr : Addr} {vals : List Value} {nums : List Int} {TT : List (Nat × Nat)} {kvs : List (Int × Value)} {od : Obj} {many : Nat} {t : Tok} (PB : PW w mg mb s.heap)
    (hdp : dp + 5 < 450) (hu : un + 30 ≤ 4500) (hl : s.heap.IsList dr vals.toArray) (hi : IntsAre vals nums) (hlen : nums.length = many) (hm9 : many ≤ 9) (hm2 : 2 ≤ many)
    (hd : s.heap.get? d = some od) (hod : od.IsDictOf (intKind prog w) kvs) (hP : Mine.Pairs kvs TT) (hds : (d == sysModules) = false) (hT : TOk many TT) (hTl : TT.length ≤ 8)
    (hQ : ∀ D s' oD kvs, Ext [] NoA NoG s s' → s.heap.get? D = none → s'.heap.get? D = some oD → oD.IsDictOf (intKind prog w) kvs → (D == sysModules) = false → PathsAt many (sl (slB nums) ++ dt many) (slA nums many) TT kvs → Q (.ref D) s') :
    wpAny (model prog w) (Ar dp un fr gd) (PySem.call (.ref 176) [.ref d, .ref dr, .int many t]) Q E s := by
  have PB0 := PB
  obtain ⟨KX, T0⟩ := PB
  have T := T0
  have ho : s.heap.get? 176 = some _ := KX 176 _ (by k_is)
  refine wpAny_call ?_
  refine call_plain (by first | (show dp < recursionLimit; omega) | (show dp < 1000; omega)) ho rfl T.nolimit ?_ rfl ?_ ?_
  · exact ⟨175, _, _, _, rfl, KX 175 _ (by k_is), rfl, rfl⟩
  · exact locs rfl
  clear ho
  intro h₁ F
  have N : News s.heap s.heap.objs.size h₁ [] := News.nil
  k_steps
  rename Fr _ _ _ _ => F1
  refine' kdn_eval (knd := intKind prog w) F1 News.nil T.nolimit rfl rfl (List.cons_ne_nil _ _) (by decide) ?_
  intro D h2 o2 F2 N2 l2 lo2 hd2
  clear F1
  refine wpAny_mono (Q := fun vs s₁ => Box (KdnMade prog w (intKind prog w) D _ vs s₁)) ?_ (fun _ _ h => h.out) (fun _ _ h => h)
  k_steps
  have eb : nums.getD (-1 + (nums.length : Int)).toNat 0 = nums.getD (nums.length - 1) 0 := by
    congr 1
    show (-1 + (nums.length : Int)).toNat = _
    rw [Int.add_comm]
    exact congrArg Int.toNat (predCast (hlen ▸ hm2))
  rw [eb]
  have hb0 : 0 ≤ (nums.getD (nums.length - 1) 0).fmod 3 := Int.fmod_nonneg_of_pos _ (by decide)
  have hb3 : (nums.getD (nums.length - 1) 0).fmod 3 < 3 := Int.fmod_lt_of_pos _ (by decide)
  rw [slash_mul _ hb0, dot_mul]
  rw [S_app]
  have hroot : (sl (slB nums) ++ dt many).length ≤ 20 := by
    simp only [slB, sl, dt, List.length_append, List.length_replicate]; exact Nat.le_trans (Nat.add_le_add (fm3 _) hm9) (by decide)
  generalize hX : sl ((nums.getD (nums.length - 1) 0).fmod 3).toNat ++ dt many = root
  have hXr : sl (slB nums) ++ dt many = root := hX
  rw [hXr] at hroot hQ
  have eX : ((many : Int) - 1) = ((many - 1 : Nat) : Int) := predCast hm2
  rw [eX]
  refine Box.mk ?_
  refine kdn_made_int F2 N2 (by k_updF) hd2 rfl (by exact of_decide_eq_true (by first | rfl | kernel_rfl!)) fun h4 o4 F4 N4 hd4 => ?_
  try dsimp only at N4
  clear F2 N2
  show wpAny _ _ (storeName _ _ _) _ _ _
  refine cut_state (h' := h4) (fun sa ea1 ea2 ea3 => ?_) rfl
  subst ea1
  replace ea2 : sa.gens = s.gens := ea2
  replace ea3 : sa.os = s.os := ea3
  walk1
  rename Fr _ _ _ _ => F5
  rename News _ _ _ _ => N5
  refine paths_loop (base := s.heap) (nums := nums) (root := root) PB0 hdp hu hl hi hlen hm9 hm2 hd hod hP hds hT hTl hroot F5 N5 lo2 hd4 rfl rfl rfl rfl fun s' oD kvs' m' F6 N6 hdD hpa hg ho => ?_
  have hg' : s'.gens = s.gens := hg.trans ea2
  have ho' : s'.os = s.os := ho.trans ea3
  exact hQ D s' oD kvs' ⟨fun b o _ _ e => F6.keep b o e, fun b o hb => absurd hb (by simp), fun g _ x e => by rw [hg']; exact e, by rw [hg']; exact Nat.le_refl _, fun h => by rw [hg']; exact h, ho'⟩ (N6 _ (.head _)).2.2 (N6 _ (.head _)).1 hdD lo2 hpa
end
end Mine1
end
section
open PySem PySem.W PyProof.Rows Mine
set_option maxRecDepth 100000
set_option maxHeartbeats 8000000
namespace Mine1
variable {w : World} {mg mb : Str → Option Value} {dp un : Nat} {fr : Option (List Env)} {gd : Option (List Code)} {s : Shared} {Q : Value → Shared → Prop} {E : Value → Shared → Prop}
theorem kind_spec {n x : Str} {t t' : Tok} (P : PW w mg mb s.heap) (hdp : dp < recursionLimit)
   (hQ : ∀ t h' tk, KeepAll s.heap h' → Q (.str (Str.ofString "") t) { s with heap := h', toks := tk }) : wpAny (model prog w) (Ar dp un fr gd) (PySem.call (.ref 126) [.str n t, .str x t']) Q E s := by
  obtain ⟨KX, T⟩ := P
  have ho : s.heap.get? 126 = some _ := KX 126 _ (by k_is)
  refine wpAny_call ?_
  refine call_plain (by first | (show dp < recursionLimit; omega) | (show dp < 1000; omega)) ho rfl T.nolimit ?_ rfl ?_ ?_
  · exact ⟨125, _, _, _, rfl, KX 125 _ (by k_is), rfl, rfl⟩
  · exact locs rfl
  clear ho
  intro h₁ F
  have N : News s.heap s.heap.objs.size h₁ [] := News.nil
  k_steps
  rename Fr _ _ _ _ => F'
  exact hQ _ _ _ F'.keep
theorem fspath_spec {n x : Str} {t t' : Tok} (P : PW w mg mb s.heap) (hdp : dp + 1 < recursionLimit)
   (hQ : ∀ h' tk, KeepAll s.heap h' → Q (.str x t') { s with heap := h', toks := tk }) : wpAny (model prog w) (Ar dp un fr gd) (PySem.call (.ref 133) [.str n t, .str x t']) Q E s := by
  obtain ⟨KX, T⟩ := P
  have ho : s.heap.get? 133 = some _ := KX 133 _ (by k_is)
  refine wpAny_call ?_
  refine call_plain (by first | (show dp < recursionLimit; omega) | (show dp < 1000; omega)) ho rfl T.nolimit ?_ rfl ?_ ?_
  · exact ⟨132, _, _, _, rfl, KX 132 _ (by k_is), rfl, rfl⟩
  · exact locs rfl
  clear ho
  intro h₁ F
  have N : News s.heap s.heap.objs.size h₁ [] := News.nil
  k_steps
  refine kind_spec (PW.keepAll ⟨KX, T⟩ F.keep) hdp fun t1 h2 tk2 k2 => ?_
  have F2 := Fr.keepAll F k2
  have N2 := News.keepAll N k2
  clear F N
  k_steps
  rename Fr _ _ _ _ => F'
  exact hQ _ _ F'.keep
theorem is_int_spec {i : Int} {t : Tok} (P : PW w mg mb s.heap) (hdp : dp < recursionLimit)
   (hQ : ∀ h' tk, KeepAll s.heap h' → Q (.bool true) { s with heap := h', toks := tk }) : wpAny (model prog w) (Ar dp un fr gd) (PySem.call (.ref 28) [.int i t]) Q E s := by
  obtain ⟨KX, T⟩ := P
  have ho : s.heap.get? 28 = some _ := KX 28 _ (by k_is)
  refine wpAny_call ?_
  refine call_plain (by first | (show dp < recursionLimit; omega) | (show dp < 1000; omega)) ho rfl T.nolimit ?_ rfl ?_ ?_
  · exact ⟨27, _, _, _, rfl, KX 27 _ (by k_is), rfl, rfl⟩
  · exact locs rfl
  clear ho
  intro h₁ F
  have N : News s.heap s.heap.objs.size h₁ [] := News.nil
  k_steps
  rename Fr _ _ _ _ => F'
  exact hQ _ _ F'.keep
theorem whole_spec {i : Int} {x : Str} {t t' t'' : Tok} (P : PW w mg mb s.heap) (hdp : dp + 1 < recursionLimit) (hi : i ≤ 999999) (hi' : -999999 ≤ i)
   (hQ : ∀ h' tk, KeepAll s.heap h' → Q .none { s with heap := h', toks := tk }) : wpAny (model prog w) (Ar dp un fr gd) (PySem.call (.ref 35) [.int i t, .int 999999 t', .str x t'']) Q E s := by
  obtain ⟨KX, T⟩ := P
  have ho : s.heap.get? 35 = some _ := KX 35 _ (by k_is)
  refine wpAny_call ?_
  refine call_plain (by first | (show dp < recursionLimit; omega) | (show dp < 1000; omega)) ho rfl T.nolimit ?_ rfl ?_ ?_
  · exact ⟨34, _, _, _, rfl, KX 34 _ (by k_is), rfl, rfl⟩
  · exact locs rfl
  clear ho
  intro h₁ F
  have N : News s.heap s.heap.objs.size h₁ [] := News.nil
  k_steps
  refine is_int_spec (PW.keepAll ⟨KX, T⟩ F.keep) hdp fun h2 tk2 k2 => ?_
  have F2 := Fr.keepAll F k2
  have N2 := News.keepAll N k2
  clear F N
  k_steps
  all_goals (rename Fr _ _ _ _ => F'; exact hQ _ _ F'.keep)
theorem number_spec {x : Str} {t : Tok} (P : PW w mg mb s.heap) (hdp : dp < recursionLimit) (hx : x.length ≤ 1000)
   (hQ : ∀ t h' tk, KeepAll s.heap h' → Q (.int ((x.length : Int) - ((Txt.rstripChars x (Str.ofString ".")).length : Int) - 1) t) { s with heap := h', toks := tk }) : wpAny (model prog w) (Ar dp un fr gd) (PySem.call (.ref 162) [.str x t]) Q E s := by
  obtain ⟨KX, T⟩ := P
  have ho : s.heap.get? 162 = some _ := KX 162 _ (by k_is)
  refine wpAny_call ?_
  refine call_plain (by first | (show dp < recursionLimit; omega) | (show dp < 1000; omega)) ho rfl T.nolimit ?_ rfl ?_ ?_
  · exact ⟨161, _, _, _, rfl, KX 161 _ (by k_is), rfl, rfl⟩
  · exact locs rfl
  clear ho
  intro h₁ F
  have N : News s.heap s.heap.objs.size h₁ [] := News.nil
  k_steps
  rename Fr _ _ _ _ => F'
  exact hQ _ _ _ F'.keep
theorem split_spec {x : Str} {t' : Tok} (P : PW w mg mb s.heap) (hdp : dp + 2 < recursionLimit) (hx : x.length ≤ 1000)
   (hQ : ∀ D t1 t2 y h' tk, KeepAll s.heap h' → h'.get? D = some { cls := .type "tuple", data := .seq #[.str (splitHead x) t1, .str y t2] } → s.heap.get? D = none → Q (.ref D) { s with heap := h', toks := tk }) : wpAny (model prog w) (Ar dp un fr gd) (PySem.call (.ref 140) [.str x t']) Q E s := by
  obtain ⟨KX, T⟩ := P
  have ho : s.heap.get? 140 = some _ := KX 140 _ (by k_is)
  refine wpAny_call ?_
  refine call_plain (by first | (show dp < recursionLimit; omega) | (show dp < 1000; omega)) ho rfl T.nolimit ?_ rfl ?_ ?_
  · exact ⟨139, _, _, _, rfl, KX 139 _ (by k_is), rfl, rfl⟩
  · exact locs rfl
  clear ho
  intro h₁ F
  have N : News s.heap s.heap.objs.size h₁ [] := News.nil
  k_steps
  refine fspath_spec (PW.keepAll ⟨KX, T⟩ F.keep) hdp fun h2 tk2 k2 => ?_
  have F2 := Fr.keepAll F k2
  have N2 := News.keepAll N k2
  clear F N
  k_steps
  all_goals (rename Fr _ _ _ _ => F'; rename News _ _ _ _ => N')
  · have sp : splitHead x = _ := if_pos ⟨by assumption, by assumption⟩
    rw [sp] at hQ
    exact hQ _ _ _ _ _ _ F'.keep (N' _ (.head _)).1 (N' _ (.head _)).2.2
  · have sp : splitHead x = _ := if_neg (fun q => Bool.noConfusion (q.2.symm.trans (by assumption)))
    rw [sp] at hQ
    exact hQ _ _ _ _ _ _ F'.keep (N' _ (.head _)).1 (N' _ (.head _)).2.2
  · have sp : splitHead x = _ := if_neg (fun q => absurd (by assumption) q.1)
    rw [sp] at hQ
    exact hQ _ _ _ _ _ _ F'.keep (N' _ (.head _)).1 (N' _ (.head _)).2.2
end Mine1
end
section
open PySem PySem.W PyProof.Rows Mine
set_option maxRecDepth 100000
set_option maxHeartbeats 8000000
namespace Mine1
variable {w : World} {mg mb : Str → Option Value} {dp un : Nat} {fr : Option (List Env)} {gd : Option (List Code)} {s : Shared} {Q : Value → Shared → Prop} {E : Value → Shared → Prop}
theorem make_at {A : Around} {C fI : Addr} {rest : List Value} {R : Result → Shared → Prop} (X : (hd.heap_39 w.params).In s.heap) (hm : makesIn (hd.heap_39 w.params) C = true)
    (hi : findIn (hd.heap_39 w.params) (.ref C) "__init__" = some (some (.ref fI))) (hf : typeIn (hd.heap_39 w.params) (.ref fI) = some (.type "function"))
    (h : ∀ x dx h', KeepAll s.heap h' → s.heap.get? dx = none → s.heap.get? x = none → h'.get? x = some (instObj C dx) → h'.get? dx = some (dictOf [] 0) → dx < x → s.heap.objs.size ≤ h'.objs.size →
      codeAny (model prog w) (A.under (.builtin "type.__call__" ⟨.ref C :: rest, []⟩)) (.call (.ref fI) ⟨.ref x :: rest, []⟩) (InitBack x R) { s with heap := h' }) :
    codeAny (model prog w) A (.call (.ref C) ⟨rest, []⟩) R s := by
  obtain ⟨hh, g, d, t, os⟩ := s
  refine make_core (makes_of X hm) (looks_findIn X hi) (fun self => bind_fn X self hf) (.inl rfl) (h _ hh.objs.size _ (fun b o e => Heap.get?_push_of_some _ (Heap.get?_push_of_some _ e)) ?_ ?_ ?_ ?_ (Nat.lt_succ_self _) ?_)
  · exact get?_size_none _ (Nat.le_refl _)
  · exact get?_size_none _ (Nat.le_succ _)
  · have := Heap.get?_push_size (hh.push emptyDict) (o := instObj C hh.objs.size) rfl
    rwa [Heap.size_push] at this
  · exact Heap.get?_push_of_some _ (Heap.get?_push_size _ rfl)
  · rw [Heap.size_push, Heap.size_push]; exact Nat.le_succ_of_le (Nat.le_succ _)
def IslObj (o : Obj) (dx it : Addr) (c n : Nat) : Prop :=
  ∃ t1 t2 t3 t4, o = { cls := .ref 68, dict := some dx, slots := #[some (.int c t1), some (.ref it), some (.int n t2), some (.int 1 t3), some (.int (-1) t4)] }
theorem islice_init {x dx a : Addr} {t1 : Tok} {g : Nat} {R : Result → Shared → Prop} {base : Heap} (P : PW w mg mb base) (hk : KeepAll base s.heap) (hsz : base.objs.size ≤ s.heap.objs.size)
    (hN : Led base s.heap [(x, instObj 68 dx), (dx, dictOf [] 0)]) (hl : dx < x) (hg : base.IsGen a g) (hdp : dp + 2 < recursionLimit)
    (hR : ∀ h' tk o, KeepAll base h' → h'.get? x = some o → IslObj o dx a 0 1 → h'.get? dx = some (dictOf [] 0) → R (.ok (.ret .none)) { s with heap := h', toks := tk }) :
    codeAny (model prog w) (Ar dp un fr gd) (.call (.ref 50) ⟨[.ref x, .ref a, .int 1 t1, .none], []⟩) R s := by
  obtain ⟨KX, T⟩ := P
  have ho : s.heap.get? 50 = some _ := hk _ _ (KX 50 _ (by k_is))
  refine' enterV (vs := [.int 1 t1, .none]) (binds := fun t => [("self", .ref x), ("iterable", .ref a), ("args", t)]) hk hsz hN ?e1 ho ?e2 (T.nolimit.keeps hk) ?e3 ?e4 ?e5 ?e6 ?_ ?e7 ?e8 ?e9 ?e10
  case e2 => exact rfl
  case e1 => show dp < recursionLimit; omega
  case e3 => exact ⟨49, _, _, _, rfl, hk _ _ (KX 49 _ (by k_is)), rfl, rfl⟩
  case e4 => rfl
  case e5 => exact fun t => locs rfl
  case e6 => exact Nat.le_of_ble_eq_true rfl
  case e7 => rfl
  case e8 => rfl
  case e9 => rfl
  case e10 => decide
  clear ho hk hsz hN
  intro L Tp h₁ tk F N l1 l2 kh hL
  k_lt l1
  k_lt2 hl
  k_lt2 l2
  k_steps
  rename Fr _ _ _ _ => F0
  rename News _ _ _ _ => N0
  refine whole_spec (PW.keepAll ⟨KX, T⟩ F0.keep) hdp (by decide) (by decide) fun h2 tk2 k2 => ?_
  replace F0 := Fr.keepAll F0 k2
  replace N0 := News.keepAll N0 k2
  k_steps
  rename Fr _ _ _ _ => F1
  rename News _ _ _ _ => N1
  refine call_iter (wpAny_pyIter_gen (hg.keeps F1.keep) ?_)
  k_steps
  rename Fr _ _ _ _ => F1
  rename News _ _ _ _ => N1
  exact hR _ _ _ F1.keep (N1 _ (.tail _ (.head _))).1 ⟨_, _, _, _, rfl⟩ (N1 _ (.tail _ (.tail _ (.head _)))).1
theorem islice_new {a : Addr} {t1 : Tok} {g : Nat} (P : PW w mg mb s.heap) (hg : s.heap.IsGen a g) (hdp : dp + 3 < recursionLimit)
    (hQ : ∀ x dx o h' tk, KeepAll s.heap h' → s.heap.get? x = none → s.heap.get? dx = none → dx < x → h'.get? x = some o → IslObj o dx a 0 1 → h'.get? dx = some (dictOf [] 0) → Q (.ref x) { s with heap := h', toks := tk }) :
    wpAny (model prog w) (Ar dp un fr gd) (PySem.call (.ref 68) [.ref a, .int 1 t1, .none]) Q E s := by
  refine wpAny_call (make_at (fI := 50) P.K (by k_is) (by k_is) (by k_is) fun x dx h' hk hdx hx h1 h2 hl hsz => ?_)
  refine islice_init (s := { s with heap := h' }) P hk hsz (Led.cons h1 hx (Led.cons h2 hdx Led.nil)) hl hg (by show dp + 1 + 2 < recursionLimit; omega) fun h2 tk o hk2 ho hi hd2 => ?_
  exact ⟨rfl, hQ x dx o h2 tk hk2 hx hdx hl ho hi hd2⟩
end Mine1
end
section
open PySem PySem.W PyProof.Rows Mine
set_option maxRecDepth 100000
set_option maxHeartbeats 8000000
namespace Mine1
section
variable {w : World} {mg mb : Str → Option Value} {dp un : Nat} {l : List Env} {gd : Option (List Code)} {s : Shared} {Q : Value → Shared → Prop} {E : Value → Shared → Prop}
  {W : Addr → Prop} {V : Nat → Prop} {own : List Addr} {R : List Str → Shared → Prop} {x dx it : Addr} {base : Heap} {o : Obj} {c : Nat} {xs : List Str}
def IslR (x dx it : Addr) (R : List Str → Shared → Prop) (xs : List Str) (s : Shared) : Prop :=
  s.heap.get? dx = some (dictOf [] 0) ∧ ∃ o, s.heap.get? x = some o ∧
    ((∃ c, c + xs.length ≤ 1000 ∧ IslObj o dx it c c ∧ R xs s) ∨ (IslObj o dx it 0 1 ∧ ∃ ys, ys.length ≤ 1000 ∧ xs = ys.tail ∧ R ys s))
def clsOf (name : Str) : List Stmt → List Stmt
  | [] => []
  | .ClassDef (name := n) (body := b) .. :: r => if n = name then b else clsOf name r
  | _ :: r => clsOf name r
noncomputable def islNext : List Stmt × Scope := ((defOf (Str.ofString "__next__") (clsOf (Str.ofString "islice") PySem.Challenge.pw_kl0057_01.main.body)).getD ([], default))
noncomputable def islCatch : List ExceptHandler := match islNext.1.drop 3 with
  | .Try (handlers := h) .. :: _ => h
  | _ => []
noncomputable abbrev islEnv (L : Addr) : Env := envOf (Str.ofString "islice.__next__") islNext.2 L 64 (.ref 63)
theorem isl_stop {L e : Addr} {m : Str → Option Value} {h' : Heap} {s' : Shared} {a1 a2 a3 a4 a5 : Value} {Qf : Flow → Shared → Prop} {R1 : Value → Shared → Prop} (P : PW w mg mb base) (hx : base.get? x = none) (hdx : base.get? dx = none)
    (F2 : Fr (trunc 0 s'.heap) L s'.heap m) (hm : m "self" = some (.ref x)) (nx : s'.heap.get? x = some { cls := .ref 68, dict := some dx, slots := #[some a1, some a2, some a3, some a4, some a5] }) (nd : s'.heap.get? dx = some (dictOf [] 0))
    (hxL : x < L) (hdL : dx < L) (hl : dx < x) (hsL : s.heap.objs.size ≤ L) (hk : KeepAll base s.heap) (kbs : KeepAll base s'.heap) (hl' : s.heap.FunFrames base l) (hW : ∀ f ∈ frs l, f ∉ [x, dx] ∧ ¬ W f)
    (H : Holds [x, dx] W s.heap s'.heap) (hg : GExt V s.gens s'.gens s.os s'.os) (hx' : Heap.NewExc s'.heap h' e "StopIteration")
    (hEx : ∀ e s', Ext (frs l) (fun b => b ∈ [x, dx] ∨ W b) V s s' → s'.TypeIs (.ref e) "StopIteration" → R1 (.ref e) s') :
    wpAny (model prog w) ((Ar dp un (some l) gd).deeper (islEnv L)) (noteFrame (.ref e) (islEnv L)) (fun _ s₂ => wpAny (model prog w) ((Ar dp un (some l) gd).deeper (islEnv L)) (setFlight (.ref e) none) (fun _ s₃ => wpAny (model prog w) ((Ar dp un (some l) gd).deeper (islEnv L)) (handleBy (.ref e) (islEnv L) islCatch) Qf
      (fun e s' => wpAny (model prog w) ((Ar dp un (some l) gd).deeper (islEnv L)) (leaving (islEnv L) e) (fun _ s'' => R1 e s'') (fun e' s'' => R1 e' s'') s') s₃)
      (fun e s' => wpAny (model prog w) ((Ar dp un (some l) gd).deeper (islEnv L)) (leaving (islEnv L) e) (fun _ s'' => R1 e s'') (fun e' s'' => R1 e' s'') s') s₂)
      (fun e s' => wpAny (model prog w) ((Ar dp un (some l) gd).deeper (islEnv L)) (leaving (islEnv L) e) (fun _ s'' => R1 e s'') (fun e' s'' => R1 e' s'') s') { s' with heap := h' } := by
  conv in islCatch => whnf
  have HF := ff_keep H hl' hW
  have hlt := ff_lt hl' hsL
  have bL : ∀ b o, base.get? b = some o → b < L := fun b o e0 => Nat.lt_of_lt_of_le (Heap.lt_size (hk b o e0)) hsL
  have kbt : KeepAll base (trunc L base) := fun b o e0 => by rw [trunc_get (bL b o e0)]; exact e0
  have bf : ∀ b o, base.get? b = some o → b ∉ frs l := fun b o e0 q => by rw [(hl'.mem q).1] at e0; cases e0
  refine catch_here (l := l) (news := [(x, _), (dx, _)]) rfl rfl (by show ScopeKind.function ≠ ScopeKind.module; decide) F2 HF hlt (allC ⟨nx, hxL, fun q => (hW _ q).1 (.head _)⟩ (allC ⟨nd, hdL, fun q => (hW _ q).1 (.tail _ (.head _))⟩ allN)) hx' (fun h'' Q' hs hu hq => ?_) (fun Tb oe oT b3 h'' F3 N3 X3 hb3 hf3 hne => ?_)
  · have FB : Fr (trunc L base) L h'' _ := ⟨hu.ns F2.ns, fun b o e0' => (fun e0 : base.get? b = some o => hs b o (hide_some (by simp only [List.mem_cons, not_or]; exact ⟨Nat.ne_of_lt (bL b o e0), bf b o e0⟩) (kbs b o e0))) (trunc_keep b o e0'), trunc_size _ _⟩
    exact name_B FB (P.keepAll kbt).K (P.keepAll kbt).T (by k_is) rfl (by decide) hq
  · have kb3 : KeepAll base b3 := fun b o e0 => hb3 b o (bL b o e0) (bf b o e0) (by
      simp only [List.map_cons, List.map_nil, List.mem_cons, List.not_mem_nil, or_false, not_or]
      exact ⟨fun q => (by rw [q, hx] at e0; cases e0), fun q => (by rw [q, hdx] at e0; cases e0)⟩) (kbs b o e0)
    obtain ⟨KX, T⟩ := P.keepAll kb3
    simp only [List.cons_append, List.nil_append] at N3
    obtain ⟨q1, q2⟩ := hne _ (.head _)
    obtain ⟨q3, q4⟩ := hne _ (.tail _ (.head _))
    dsimp only at q1 q2 q3 q4
    replace q1 := neN q1
    replace q2 := neN q2
    replace q3 := neN q3
    replace q4 := neN q4
    k_lt2 hl
    replace F3 := fr_named F3 "self" _ hm
    k_steps
    rename Fr _ _ _ _ => F4
    rename News _ _ _ _ => N4
    refine raise_out (e := e) (T := Tb) (l := l) rfl rfl (by show ScopeKind.function ≠ ScopeKind.module; decide) F4 N4 (.tail _ (.tail _ (.head _))) (.tail _ (.tail _ (.tail _ (.head _)))) X3 (ff_of HF (fun b hb o e0 _ => ?_) fun b hb => hide_none hb) fun h5 hst hu hT => ?_
    · obtain ⟨sl, h3⟩ := hf3 b hb o e0
      exact ⟨_, F4.keep _ _ h3, rfl⟩
    · exact hEx e _ (ext_raise (s' := s') H hsL hl' hW hb3 hf3 F4.keep hst hu hg) hT
theorem isl_later (I : InIt prog w it base W V own R) (P : PW w mg mb base) (hk : KeepAll base s.heap) (hx : base.get? x = none) (hdx : base.get? dx = none) (hxo : x ∉ own) (hdxo : dx ∉ own)
    (hox : s.heap.get? x = some o) (hod : s.heap.get? dx = some (dictOf [] 0)) (hI : IslObj o dx it c c) (hc : c ≤ 1000) (hl : dx < x)
    (hR : R xs s) (hdp : dp ≤ 450) (hu : un ≤ 4500)
    (hQ : ∀ y ys t s' o', xs = y :: ys → Ext [] (fun b => b ∈ [x, dx] ∨ W b) V s s' → s'.heap.get? x = some o' → IslObj o' dx it (c + 1) (c + 1) → s'.heap.get? dx = some (dictOf [] 0) → R ys s' → Q (.str y t) s')
    (hl' : xs = [] → s.heap.FunFrames base l) (hff : xs = [] → ∀ f ∈ frs l, f ∉ [x, dx] ∧ f ∉ own)
    (hEx : xs = [] → ∀ e s', Ext (frs l) (fun b => b ∈ [x, dx] ∨ W b) V s s' → s'.TypeIs (.ref e) "StopIteration" → E (.ref e) s') :
    wpAny (model prog w) (Ar dp un (some l) gd) (PySem.call (.ref 64) [.ref x]) Q E s := by
  have kb : KeepAll base (hide [x, dx] s.heap) := keep_hide hk fun a ha => by
    rcases List.mem_cons.mp ha with rfl | ha
    · exact hx
    · rcases List.mem_cons.mp ha with rfl | ha
      · exact hdx
      · cases ha
  obtain ⟨KX, T⟩ := P.keepAll kb
  obtain ⟨t1, t2, t3, t4, rfl⟩ := hI
  have hown : ∀ b ∈ own, ∃ o, (hide [x, dx] s.heap).get? b = some o := fun b hb => by
    obtain ⟨o, ho⟩ := I.there _ _ hR b hb
    exact ⟨o, hide_some (by simp only [List.mem_cons, List.not_mem_nil, or_false, not_or]; exact ⟨fun q => hxo (q ▸ hb), fun q => hdxo (q ▸ hb)⟩) ho⟩
  have ho : s.heap.get? 64 = some _ := hk _ _ (P.K 64 _ (by k_is))
  refine wpAny_call ?_
  refine' enter (base := hide [x, dx] s.heap) (hide_keep _ _) (by rw [hide_size]; exact Nat.le_refl _) (Led.cons hox (hide_none (.head _)) (Led.cons hod (hide_none (.tail _ (.head _))) Led.nil)) ?e1 ho ?e2 (P.T.nolimit.keeps hk) ?e3 ?e4 ?e5 ?_ ?e7 ?e8 ?e9 ?e10
  case e2 => exact rfl
  case e1 => show dp < 1000; omega
  case e3 => exact ⟨63, _, _, _, rfl, hk _ _ (P.K 63 _ (by k_is)), rfl, rfl⟩
  case e4 => rfl
  case e5 => exact locs rfl
  case e7 => rfl
  case e8 => rfl
  case e9 => rfl
  case e10 => decide
  clear ho
  intro L h₁ tk F N l1 kh hL
  k_lt l1
  k_lt2 hl
  k_steps
  rw [show decide ((c : Int) < (c : Int)) = false from by simp]
  k_steps
  rename Fr _ _ _ _ => F1
  rename News _ _ _ _ => N1
  have hR1 : R xs { s with heap := _, toks := tk } := I.keeps _ s { s with heap := _, toks := tk } hR (fun b hb o ho => F1.keep b o (hide_some (by simp only [List.mem_cons, List.not_mem_nil, or_false, not_or]; exact ⟨fun q => hxo (q ▸ hb), fun q => hdxo (q ▸ hb)⟩) ho)) fun _ _ _ e => e
  refine I.next (by show dp + 1 ≤ 500; omega) (by show un + 3 + 1 ≤ 5000; omega) (fun b o e => F1.keep b o (kb b o e)) (P.T.nolimit.keeps fun b o e => F1.keep b o (kb b o e)) hR1 (fun y ys hxs t s' hE hR' => ?_) (fun hxs e s' h' hE hx' => ?_)
  · have F2 := Fr.patch F1 hE I.sub hown (I.there _ _ hR')
    have N2 := News.patch N1 hE I.sub hown
    obtain ⟨KX, T⟩ := P.keepAll (kb.patch (h := s'.heap) I.off)
    have hkF := F1.keep
    have hg := Ext.g hE
    clear F1 N1
    k_steps
    rename Fr _ _ _ _ => F3
    rename News _ _ _ _ => N3
    exact hQ y ys t _ _ hxs ((Holds.hide.turn hkF hE |>.keep F3.keep).fin hg) (N3 _ (.head _)).1 ⟨_, _, _, _, rfl⟩ (N3 _ (.tail _ (.head _))).1 (I.keeps _ _ _ hR' (patch_own F3.keep hown) fun _ _ _ e => e)
  · replace hl' := hl' hxs
    replace hff := hff hxs
    replace hEx := hEx hxs
    have hg := Ext.g hE
    have hsL : s.heap.objs.size ≤ L := by
      have := F1.above
      simp only [patch_size, hide_size] at this
      exact this
    have hW : ∀ f ∈ frs l, f ∉ [x, dx] ∧ ¬ W f := fun f hf => ⟨(hff f hf).1, fun q => (hff f hf).2 (I.sub f q)⟩
    have H : Holds [x, dx] W s.heap s'.heap := (Holds.hide.keep F1.keep).ext (fun _ _ h => h) hE
    have F2 := fr_zero F1 hE I.sub hown
    have xW : ¬ W x := fun q => hxo (I.sub _ q)
    have dW : ¬ W dx := fun q => hdxo (I.sub _ q)
    have nx := hE.heap _ _ (by simp) xW (N1 _ (.head _)).1
    have nd := hE.heap _ _ (by simp) dW (N1 _ (.tail _ (.head _))).1
    have kbs : KeepAll base s'.heap := fun b o e0 => hE.heap b o (by simp) (fun q => by rw [I.off b (I.sub b q)] at e0; cases e0) (F1.keep b o (kb b o e0))
    exact isl_stop P hx hdx F2 rfl nx nd l1.1 l1.2 hl hsL hk kbs hl' hW H hg hx' hEx
theorem isl_first (I : InIt prog w it base W V own R) (P : PW w mg mb base) (hk : KeepAll base s.heap) (hx : base.get? x = none) (hdx : base.get? dx = none) (hxo : x ∉ own) (hdxo : dx ∉ own)
    (hox : s.heap.get? x = some o) (hod : s.heap.get? dx = some (dictOf [] 0)) (hI : IslObj o dx it 0 1) (hl : dx < x)
    (hR : R xs s) (hdp : dp ≤ 450) (hu : un ≤ 4500)
    (hQ : ∀ y0 y ys t s' o', xs = y0 :: y :: ys → Ext [] (fun b => b ∈ [x, dx] ∨ W b) V s s' → s'.heap.get? x = some o' → IslObj o' dx it 2 2 → s'.heap.get? dx = some (dictOf [] 0) → R ys s' → Q (.str y t) s')
    (hl' : xs.tail = [] → s.heap.FunFrames base l) (hff : xs.tail = [] → ∀ f ∈ frs l, f ∉ [x, dx] ∧ f ∉ own)
    (hEx : xs.tail = [] → ∀ e s', Ext (frs l) (fun b => b ∈ [x, dx] ∨ W b) V s s' → s'.TypeIs (.ref e) "StopIteration" → E (.ref e) s') :
    wpAny (model prog w) (Ar dp un (some l) gd) (PySem.call (.ref 64) [.ref x]) Q E s := by
  have kb : KeepAll base (hide [x, dx] s.heap) := keep_hide hk fun a ha => by
    rcases List.mem_cons.mp ha with rfl | ha
    · exact hx
    · rcases List.mem_cons.mp ha with rfl | ha
      · exact hdx
      · cases ha
  obtain ⟨KX, T⟩ := P.keepAll kb
  obtain ⟨t1, t2, t3, t4, rfl⟩ := hI
  have hown : ∀ b ∈ own, ∃ o, (hide [x, dx] s.heap).get? b = some o := fun b hb => by
    obtain ⟨o, ho⟩ := I.there _ _ hR b hb
    exact ⟨o, hide_some (by simp only [List.mem_cons, List.not_mem_nil, or_false, not_or]; exact ⟨fun q => hxo (q ▸ hb), fun q => hdxo (q ▸ hb)⟩) ho⟩
  have ho : s.heap.get? 64 = some _ := hk _ _ (P.K 64 _ (by k_is))
  refine wpAny_call ?_
  refine' enter (base := hide [x, dx] s.heap) (hide_keep _ _) (by rw [hide_size]; exact Nat.le_refl _) (Led.cons hox (hide_none (.head _)) (Led.cons hod (hide_none (.tail _ (.head _))) Led.nil)) ?e1 ho ?e2 (P.T.nolimit.keeps hk) ?e3 ?e4 ?e5 ?_ ?e7 ?e8 ?e9 ?e10
  case e2 => exact rfl
  case e1 => show dp < 1000; omega
  case e3 => exact ⟨63, _, _, _, rfl, hk _ _ (P.K 63 _ (by k_is)), rfl, rfl⟩
  case e4 => rfl
  case e5 => exact locs rfl
  case e7 => rfl
  case e8 => rfl
  case e9 => rfl
  case e10 => decide
  clear ho
  intro L h₁ tk F N l1 kh hL
  k_lt l1
  k_lt2 hl
  k_steps
  rename Fr _ _ _ _ => F1
  rename News _ _ _ _ => N1
  have hR1 : R xs { s with heap := _, toks := tk } := I.keeps _ s { s with heap := _, toks := tk } hR (fun b hb o ho => F1.keep b o (hide_some (by simp only [List.mem_cons, List.not_mem_nil, or_false, not_or]; exact ⟨fun q => hxo (q ▸ hb), fun q => hdxo (q ▸ hb)⟩) ho)) fun _ _ _ e => e
  refine I.next (by show dp + 1 ≤ 500; omega) (by show un + 3 + 1 ≤ 5000; omega) (fun b o e => F1.keep b o (kb b o e)) (P.T.nolimit.keeps fun b o e => F1.keep b o (kb b o e)) hR1 (fun y0 ys0 hxs t0 s0 hE0 hR0 => ?_) (fun hxs e s' h' hE hx' => ?_)
  · have F2 := Fr.patch F1 hE0 I.sub hown (I.there _ _ hR0)
    have N2 := News.patch N1 hE0 I.sub hown
    obtain ⟨KX0, T0⟩ := P.keepAll (kb.patch (h := s0.heap) I.off)
    have hkF0 := F1.keep
    have hg0 := Ext.g hE0
    clear F1 N1
    k_steps
    rename Fr _ _ _ _ => F1
    rename News _ _ _ _ => N1
    have kb2 : KeepAll base (patch own (hide [x, dx] s.heap) s0.heap) := kb.patch I.off
    have hown2 : ∀ b ∈ own, ∃ o, (patch own (hide [x, dx] s.heap) s0.heap).get? b = some o := fun b hb => by
      obtain ⟨o1, ho1⟩ := hown b hb
      obtain ⟨o2, ho2⟩ := I.there _ _ hR0 b hb
      exact ⟨o2, by rw [patch_on hb (Heap.lt_size ho1) (Heap.lt_size ho2)]; exact ho2⟩
    have hR2 : R ys0 { s0 with heap := _, toks := tk } := I.keeps _ s0 { s0 with heap := _, toks := tk } hR0 (patch_own F1.keep hown) fun _ _ _ e => e
    refine I.next (by show dp + 1 ≤ 500; omega) (by show un + 3 + 1 ≤ 5000; omega) (fun b o e => F1.keep b o (kb2 b o e)) (P.T.nolimit.keeps fun b o e => F1.keep b o (kb2 b o e)) hR2 (fun y ys hys t s' hE hR' => ?_) (fun hys e s' h' hE hx' => ?_)
    · have F2 := Fr.patch F1 hE I.sub hown2 (I.there _ _ hR')
      have N2 := News.patch N1 hE I.sub hown2
      obtain ⟨KX, T⟩ := P.keepAll (kb2.patch (h := s'.heap) I.off)
      have hkF := F1.keep
      have hg := Ext.g hE
      clear F1 N1
      k_steps
      rename Fr _ _ _ _ => F3
      rename News _ _ _ _ => N3
      exact hQ y0 y ys t _ _ (hxs.trans (congrArg _ hys)) ((((Holds.hide.turn hkF0 hE0).turn hkF hE).keep F3.keep).fin (hg0.trans hg)) (N3 _ (.head _)).1 ⟨_, _, _, _, rfl⟩ (N3 _ (.tail _ (.head _))).1 (I.keeps _ _ _ hR' (patch_own F3.keep hown2) fun _ _ _ e => e)
    · replace hl' := hl' (by rw [hxs, hys]; rfl)
      replace hff := hff (by rw [hxs, hys]; rfl)
      replace hEx := hEx (by rw [hxs, hys]; rfl)
      have hg := Ext.g hE
      have hsL : s.heap.objs.size ≤ L := by
        have := F1.above
        simp only [patch_size, hide_size] at this
        exact this
      have hW : ∀ f ∈ frs l, f ∉ [x, dx] ∧ ¬ W f := fun f hf => ⟨(hff f hf).1, fun q => (hff f hf).2 (I.sub f q)⟩
      have H : Holds [x, dx] W s.heap s'.heap := ((Holds.hide.turn hkF0 hE0).keep F1.keep).ext (fun _ _ h => h) hE
      have F2 := fr_zero F1 hE I.sub hown2
      have xW : ¬ W x := fun q => hxo (I.sub _ q)
      have dW : ¬ W dx := fun q => hdxo (I.sub _ q)
      have nx := hE.heap _ _ (by simp) xW (N1 _ (.head _)).1
      have nd := hE.heap _ _ (by simp) dW (N1 _ (.tail _ (.head _))).1
      have kbs : KeepAll base s'.heap := fun b o e0 => hE.heap b o (by simp) (fun q => by rw [I.off b (I.sub b q)] at e0; cases e0) (F1.keep b o (kb2 b o e0))
      exact isl_stop P hx hdx F2 rfl nx nd l1.1 l1.2 hl hsL hk kbs hl' hW H (hg0.trans hg) hx' hEx
  · replace hl' := hl' (by rw [hxs]; rfl)
    replace hff := hff (by rw [hxs]; rfl)
    replace hEx := hEx (by rw [hxs]; rfl)
    have hg := Ext.g hE
    have hsL : s.heap.objs.size ≤ L := by
      have := F1.above
      simp only [patch_size, hide_size] at this
      exact this
    have hW : ∀ f ∈ frs l, f ∉ [x, dx] ∧ ¬ W f := fun f hf => ⟨(hff f hf).1, fun q => (hff f hf).2 (I.sub f q)⟩
    have H : Holds [x, dx] W s.heap s'.heap := (Holds.hide.keep F1.keep).ext (fun _ _ h => h) hE
    have F2 := fr_zero F1 hE I.sub hown
    have xW : ¬ W x := fun q => hxo (I.sub _ q)
    have dW : ¬ W dx := fun q => hdxo (I.sub _ q)
    have nx := hE.heap _ _ (by simp) xW (N1 _ (.head _)).1
    have nd := hE.heap _ _ (by simp) dW (N1 _ (.tail _ (.head _))).1
    have kbs : KeepAll base s'.heap := fun b o e0 => hE.heap b o (by simp) (fun q => by rw [I.off b (I.sub b q)] at e0; cases e0) (F1.keep b o (kb b o e0))
    exact isl_stop P hx hdx F2 rfl nx nd l1.1 l1.2 hl hsL hk kbs hl' hW H hg hx' hEx
end
end Mine1
end
section
open PySem PySem.W PyProof.Rows Mine
set_option maxRecDepth 100000
set_option maxHeartbeats 8000000
namespace Mine1
section
variable {w : World} {mg mb : Str → Option Value} {dp un : Nat} {fr : Option (List Env)} {gd : Option (List Code)} {s : Shared} {Q : Value → Shared → Prop} {E : Value → Shared → Prop}
  {W : Addr → Prop} {V : Nat → Prop} {own : List Addr} {R : List Str → Shared → Prop} {x dx it : Addr} {base : Heap} {o : Obj}
theorem isl_iter (P : PW w mg mb s.heap) (hdp : dp < recursionLimit)
   (hQ : ∀ h' tk, KeepAll s.heap h' → Q (.ref x) { s with heap := h', toks := tk }) : wpAny (model prog w) (Ar dp un fr gd) (PySem.call (.ref 57) [.ref x]) Q E s := by
  obtain ⟨KX, T⟩ := P
  have ho : s.heap.get? 57 = some _ := KX 57 _ (by k_is)
  refine wpAny_call ?_
  refine' enter (base := s.heap) (fun _ _ e => e) (Nat.le_refl _) Led.nil ?e1 ho ?e2 T.nolimit ?e3 ?e4 ?e5 ?_ ?e7 ?e8 ?e9 ?e10
  case e2 => exact rfl
  case e1 => first | (show dp < recursionLimit; omega) | (show dp < 1000; omega)
  case e3 => exact ⟨56, _, _, _, rfl, KX 56 _ (by k_is), rfl, rfl⟩
  case e4 => rfl
  case e5 => exact locs rfl
  case e7 => rfl
  case e8 => rfl
  case e9 => rfl
  case e10 => decide
  clear ho
  intro L h₁ tk F N l1 kh hL
  k_steps
  rename Fr _ _ _ _ => F'
  exact hQ _ _ F'.keep
theorem IslR.at_ {xs : List Str} (hR : IslR x dx it R xs s) : ∃ ox od, InstAt s.heap x ox 68 od := by
  obtain ⟨hod, o, hox, h⟩ := hR
  rcases h with ⟨c, _, ⟨t1, t2, t3, t4, rfl⟩, _⟩ | ⟨⟨t1, t2, t3, t4, rfl⟩, _⟩
  · exact ⟨_, some _, hox, rfl, rfl, hod⟩
  · exact ⟨_, some _, hox, rfl, rfl, hod⟩
theorem ownIt_isl (I : InIt prog w it base W V own R) (P : PW w mg mb base) (hx : base.get? x = none) (hdx : base.get? dx = none) (hxo : x ∉ own) (hdxo : dx ∉ own) (hl : dx < x) :
    OwnIt prog w x base (fun b => b ∈ [x, dx] ∨ W b) V (x :: dx :: own) (IslR x dx it R) where
  cons := fun dp un l gd y ys s Q E hd hu hk hlim hff hR hQ => by
    obtain ⟨ox, od, hI⟩ := hR.at_
    refine own_next (f := 64) (P.K.keeps hk) hI (by k_is) (by k_is) ?_
    obtain ⟨hod, o, hox, ⟨c, hc, hO, hr⟩ | ⟨hO, zs, hz, hzs, hr⟩⟩ := hR
    · refine isl_later I P hk hx hdx hxo hdxo hox hod hO (Nat.le_trans (Nat.le_add_right _ _) hc) hl hr (by omega) (by omega) (fun y' ys' t s' o' e hE ho' hO' hd' hr' => ?_) (fun h => nomatch h) (fun h => nomatch h) fun h => nomatch h
      cases e
      exact hQ t s' hE ⟨hd', o', ho', .inl ⟨c + 1, Nat.le_trans (Nat.le_of_eq (Nat.succ_add_eq_add_succ _ _)) hc, hO', hr'⟩⟩
    · refine isl_first I P hk hx hdx hxo hdxo hox hod hO hl hr (by omega) (by omega) (fun y0 y' ys' t s' o' e hE ho' hO' hd' hr' => ?_) (fun h => nomatch hzs.trans h) (fun h => nomatch hzs.trans h) fun h => nomatch hzs.trans h
      subst e
      cases hzs
      exact hQ t s' hE ⟨hd', o', ho', .inl ⟨2, Nat.le_trans (Nat.le_of_eq (Nat.add_comm _ _)) hz, hO', hr'⟩⟩
  nil := fun dp un l gd s Q E hd hu hk hlim hff hfo hR hQ => by
    obtain ⟨ox, od, hI⟩ := hR.at_
    have hfo' : ∀ f ∈ frs l, f ∉ [x, dx] ∧ f ∉ own := fun f hf => ⟨fun q => hfo f hf (by
      rcases List.mem_cons.mp q with rfl | q
      · exact .head _
      · rcases List.mem_cons.mp q with rfl | q
        · exact .tail _ (.head _)
        · cases q), fun q => hfo f hf (.tail _ (.tail _ q))⟩
    refine own_next (f := 64) (P.K.keeps hk) hI (by k_is) (by k_is) ?_
    obtain ⟨hod, o, hox, ⟨c, hc, hO, hr⟩ | ⟨hO, zs, hz, hzs, hr⟩⟩ := hR
    · exact isl_later I P hk hx hdx hxo hdxo hox hod hO (Nat.le_trans (Nat.le_add_right _ _) hc) hl hr (by omega) (by omega) (fun _ _ _ _ _ e => nomatch e) (fun _ => hff) (fun _ => hfo') fun _ e s' hE hT => ⟨hT, hQ s' hE⟩
    · exact isl_first I P hk hx hdx hxo hdxo hox hod hO hl hr (by omega) (by omega) (fun _ _ _ _ _ _ e => nomatch hzs.trans (congrArg List.tail e)) (fun _ => hff) (fun _ => hfo') fun _ e s' hE hT => ⟨hT, hQ s' hE⟩
  iter := fun dp un l gd xs s Q E hd hu hk hlim hR hQ => by
    obtain ⟨ox, od, hI⟩ := hR.at_
    refine own_iter (f := 57) (P.K.keeps hk) hI (by k_is) (by k_is) (by k_is) (isl_iter (P.keepAll hk) (by show dp < 1000; omega) fun h' tk kh => ⟨rfl, P.K.keeps (hk.trans kh), ?_, hQ _ (.of_keep kh) ?_⟩)
    all_goals
      have hR' : IslR x dx it R xs { s with heap := h', toks := tk } := by
        obtain ⟨hod, o, hox, h⟩ := hR
        have kk : ∀ zs, R zs s → R zs { s with heap := h', toks := tk } := fun zs hr => I.keeps _ _ _ hr (fun b _ o e => kh b o e) fun _ _ _ e => e
        refine ⟨kh _ _ hod, o, kh _ _ hox, ?_⟩
        rcases h with ⟨c, hc, hO, hr⟩ | ⟨hO, zs, hz, hzs, hr⟩
        · exact .inl ⟨c, hc, hO, kk _ hr⟩
        · exact .inr ⟨hO, zs, hz, hzs, kk _ hr⟩
    · exact hR'.at_
    · exact hR'
  typ := fun xs s A Q E hk hR hQ => by
    obtain ⟨ox, od, hI⟩ := hR.at_
    exact hI.type.here (hQ _ (by decide) (by decide))
  nolen := fun xs s A Q E hk hR hQ => by
    obtain ⟨ox, od, hI⟩ := hR.at_
    exact wpAny_bind (hI.type.here ((looks_findIn (P.K.keeps hk) (r := none) (by k_is)).here hQ))
  nohint := fun xs s A Q E hk hR hQ => by
    obtain ⟨ox, od, hI⟩ := hR.at_
    exact wpAny_bind (hI.type.here ((looks_findIn (P.K.keeps hk) (r := none) (by k_is)).here hQ))
  keeps := fun xs s s' hR hk hg => by
    obtain ⟨hod, o, hox, h⟩ := hR
    have kk : ∀ zs, R zs s → R zs s' := fun zs hr => I.keeps _ _ _ hr (fun b hb o e => hk b (.tail _ (.tail _ hb)) o e) hg
    refine ⟨hk _ (.tail _ (.head _)) _ hod, o, hk _ (.head _) _ hox, ?_⟩
    rcases h with ⟨c, hc, hO, hr⟩ | ⟨hO, zs, hz, hzs, hr⟩
    · exact .inl ⟨c, hc, hO, kk _ hr⟩
    · exact .inr ⟨hO, zs, hz, hzs, kk _ hr⟩
  there := fun xs s hR b hb => by
    obtain ⟨hod, o, hox, h⟩ := hR
    rcases List.mem_cons.mp hb with rfl | hb
    · exact ⟨_, hox⟩
    · rcases List.mem_cons.mp hb with rfl | hb
      · exact ⟨_, hod⟩
      · rcases h with ⟨c, hc, hO, hr⟩ | ⟨hO, zs, hz, hzs, hr⟩
        · exact I.there _ _ hr b hb
        · exact I.there _ _ hr b hb
  sub := fun b hb => by
    rcases hb with hb | hb
    · rcases List.mem_cons.mp hb with rfl | hb
      · exact .head _
      · rcases List.mem_cons.mp hb with rfl | hb
        · exact .tail _ (.head _)
        · cases hb
    · exact .tail _ (.tail _ (I.sub _ hb))
  itn := .head _
  off := fun b hb => by
    rcases List.mem_cons.mp hb with rfl | hb
    · exact hx
    · rcases List.mem_cons.mp hb with rfl | hb
      · exact hdx
      · exact I.off b hb
end
end Mine1
end
section
open PySem PySem.W PyProof.Rows Mine
set_option maxRecDepth 100000
set_option maxHeartbeats 8000000
namespace Mine1
variable {w : World} {mg mb : Str → Option Value} {dp un : Nat} {fr : Option (List Env)} {gd : Option (List Code)} {s : Shared} {Q : Value → Shared → Prop} {E : Value → Shared → Prop}
abbrev AncI (base : Heap) (L : Addr) (x : Str) (h : Heap) : Prop := ∃ m t, Fr base L h m ∧ m "path" = some (.str x t) ∧ x.length ≤ 1000
theorem Fr.named {h₀ h : Heap} {L : Addr} {m : Str → Option Value} {x : Str} {v : Value} (F : Fr h₀ L h m) (e : m x = some v) : Fr h₀ L h (fun y => if y = x then some v else m y) := by
  have : m = fun y => if y = x then some v else m y := by
    funext y
    by_cases q : y = x
    · rw [if_pos q, q]; exact e
    · rw [if_neg q]
  exact this ▸ F
theorem ancestry_new {x : Str} {t : Tok} {xs : List Str} {base : Heap} (P : PW w mg mb base) (hk0 : KeepAll base s.heap) (hsz0 : base.objs.size ≤ s.heap.objs.size) (hdp : dp < recursionLimit) (hx : x.length ≤ 1000) (hc : AncComes (bare x) xs)
   (hQ : ∀ a L s', Ext [] NoA NoG s s' → s.heap.get? a = none → s.heap.get? L = none → GenText prog w 500 5000 (KeepAll base) a s.gens.size L xs xs s' → Q (.ref a) s') : wpAny (model prog w) (Ar dp un fr gd) (PySem.call (.ref 147) [.str x t]) Q E s := by
  obtain ⟨KX, T⟩ := P
  have ho : s.heap.get? 147 = some _ := hk0 _ _ (KX 147 _ (by k_is))
  refine wpAny_call ?_
  refine' enterGen (base := base) hk0 hsz0 ?e1 ho ?e2 (T.nolimit.keeps hk0) ?e3 ?e4 ?e5 ?_ ?e7 ?e8 ?e9 ?e10
  case e2 => exact rfl
  case e1 => show dp < recursionLimit; omega
  case e3 => exact ⟨146, _, _, _, rfl, hk0 _ _ (KX 146 _ (by k_is)), rfl, rfl⟩
  case e4 => rfl
  case e5 => exact locs rfl
  case e7 => rfl
  case e8 => rfl
  case e9 => rfl
  case e10 => decide
  clear ho
  intro L a h₁ tk F kh hL ha haL hg
  obtain ⟨oL, _, _, hoL, _⟩ := id F.ns
  refine hQ a L _ ⟨fun b o _ _ e => kh b o e, fun b _ hb _ _ => absurd hb (by simp), fun g _ x e => ?_, ?_, fun hb => AllBare.push hb rfl, rfl⟩ ha hL
    ⟨hg, haL, ⟨[], rfl⟩, _, oL, Array.getElem?_push_size .., hoL, fun s'' hst hL'' => ⟨rfl, ?_⟩⟩
  · show (s.gens.push _)[g]? = _
    rw [Array.getElem?_push_lt (Array.getElem?_eq_some_iff.mp e).1, ← Array.getElem?_eq_getElem]; exact e
  · show s.gens.size ≤ (s.gens.push _).size
    rw [Array.size_push]; exact Nat.le_succ _
  have F' : Fr base L s''.heap (fun x_1 => List.lookup x_1 [(Str.ofString "path", Value.str x t)]) := ⟨F.ns.at' fun o e => by rw [hoL] at e; cases e; exact hL'', hst, F.above⟩
  clear F hoL hL'' hg kh
  have frm : ∀ {y : Str} {h h' : Heap}, KeepAll base h' → AncI base L y h → (∀ o, h.get? L = some o → h'.get? L = some o) → AncI base L y h' := by
    rintro y h h' hk ⟨m, t, G, hm, hy⟩ hl
    exact ⟨m, t, ⟨G.ns.at' hl, hk, G.above⟩, hm, hy⟩
  refine seg_funcL (D := 500) (U := 5001) (I := AncI base L) (more := moreOf) (next := splitHead) (x := bare x) rfl ?_ hc ?_ (Since.refl _ _)
  · refine { test := ?_, val := ?_, step := ?_, frame := fun y h h' => frm, there := ?_, plain := rfl, quiet := rfl }
    · rintro dp un fr gd y s1 Q E hd1 hu1 hst ⟨m, t', G, hm, hy⟩ hQ
      have F := Fr.named G hm
      have N : News base L s1.heap [] := News.nil
      k_steps
      rw [show ((↑(Txt.rstripChars y (Str.ofString "/")).length : Int) != 0) = moreOf y from by
        unfold moreOf bare
        generalize ((Txt.rstripChars y (Str.ofString "/")).length : Int) = z
        by_cases q : z = 0 <;> simp [q]]
      exact hQ _ _ (fun _ _ _ e => e) hst ⟨m, t', G, hm, hy⟩
    · rintro dp un fr gd y s1 Q E hd1 hu1 hst ⟨m, t', G, hm, hy⟩ hQ
      have F := Fr.named G hm
      have N : News base L s1.heap [] := News.nil
      k_steps
      exact hQ _ _ _ (fun _ _ _ e => e) hst ⟨m, t', G, hm, hy⟩
    · rintro dp un fr gd y s1 Q E hd1 hu1 hmore hst ⟨m, t', G, hm, hy⟩ hQ
      have F := Fr.named G hm
      have N := restOf_news base s1.heap L
      have KR := fun h' m' news F' N' hs => @keep_rest base s1.heap h' L _ m' news F F' N' hs
      k_steps
      refine split_spec (PW.keepAll ⟨KX, T⟩ hst) (by show dp + 2 < 1000; omega) hy fun D t1 t2 z h2 tk2 k2 hD hDn => ?_
      have F2 := Fr.keepAll F k2
      have N2 : News base L h2 ((D, { cls := .type "tuple", data := .seq #[.str (splitHead y) t1, .str z t2] }) :: restOf base s1.heap L) := by
        intro q hq
        rcases List.mem_cons.mp hq with rfl | hq
        · refine ⟨hD, ?_, hst.none_of hDn⟩
          rintro rfl
          obtain ⟨o, _, _, ho, _⟩ := F.ns
          rw [ho] at hDn; cases hDn
        · exact News.keepAll N k2 q hq
      k_steps
      rename Fr _ _ _ _ => F1
      rename News _ _ _ _ => N1
      refine hQ _ _ (KR _ _ _ F1 N1 fun q hq => .tail _ hq) F1.keep ⟨_, _, F1, rfl, Nat.le_trans (splitHead_len y) hy⟩
    · rintro y h ⟨m, t', G, _⟩
      obtain ⟨o, _, _, ho, _⟩ := G.ns
      exact ⟨o, ho⟩
  · intro dp un fr gd Q E hd1 hu1 hQ
    have N := restOf_news base s''.heap L
    have KR := fun h' m' news F₁ N' hs => @keep_rest base s''.heap h' L _ m' news F' F₁ N' hs
    k_steps
    rename Fr _ _ _ _ => F1
    rename News _ _ _ _ => N1
    exact hQ _ _ (KR _ _ _ F1 N1 fun _ h => h) F1.keep ⟨_, _, F1, rfl, by show (Txt.rstripChars x (Str.ofString "/")).length ≤ 1000; omega⟩
end Mine1
end
section
open PySem PySem.W PyProof.Rows Mine
set_option maxRecDepth 100000
set_option maxHeartbeats 8000000
namespace Mine1
section
variable {w : World} {mg mb : Str → Option Value} {dp un : Nat} {fr : Option (List Env)} {l : List Env} {gd : Option (List Code)} {s : Shared} {Q : Value → Shared → Prop} {E : Value → Shared → Prop}
  {W : Addr → Prop} {V : Nat → Prop} {own : List Addr} {R : List Str → Shared → Prop} {x dx it q S : Addr} {base : Heap} {o : Obj} {y : Str} {ys : List Str} {Sm : Str → Bool} {n : Nat}
abbrev ffObj (dx q it : Addr) : Obj := { cls := .ref 108, dict := some dx, slots := #[some (.ref q), some (.ref it)] }
theorem ff_next (I : InIt prog w it base W V own R) (P : PW w mg mb base) (hk : KeepAll base s.heap) (hx : base.get? x = none) (hdx : base.get? dx = none) (hxo : x ∉ own) (hdxo : dx ∉ own)
    (hox : s.heap.get? x = some (ffObj dx q it)) (hod : s.heap.get? dx = some (dictOf [] 0)) (hl : dx < x) (hq : base.get? q = some (boundSet S)) (hS : base.SetOf (strKind prog w) S Sm n)
    (hR : R ys s) (hdp : dp ≤ 450) (hu : un ≤ 4500)
    (hl' : ys.dropWhile Sm = [] → s.heap.FunFrames base l) (hff : ys.dropWhile Sm = [] → ∀ f ∈ frs l, f ∉ [x, dx] ∧ f ∉ own)
    (hQ : ∀ y r, ys.dropWhile Sm = y :: r → ∀ t s', Ext [] (fun b => b ∈ [x, dx] ∨ W b) V s s' → s'.heap.get? x = some (ffObj dx q it) → s'.heap.get? dx = some (dictOf [] 0) → R r s' → Q (.str y t) s')
    (hEx : ys.dropWhile Sm = [] → ∀ e s', Ext (frs l) (fun b => b ∈ [x, dx] ∨ W b) V s s' → s'.TypeIs (.ref e) "StopIteration" → E (.ref e) s') :
    wpAny (model prog w) (Ar dp un (some l) gd) (PySem.call (.ref 104) [.ref x]) Q E s := by
  have kb : KeepAll base (hide [x, dx] s.heap) := keep_hide hk fun a ha => by
    rcases List.mem_cons.mp ha with rfl | ha
    · exact hx
    · rcases List.mem_cons.mp ha with rfl | ha
      · exact hdx
      · cases ha
  obtain ⟨KX, T⟩ := P.keepAll kb
  have hown : ∀ b ∈ own, ∃ o, (hide [x, dx] s.heap).get? b = some o := fun b hb => by
    obtain ⟨o, ho⟩ := I.there _ _ hR b hb
    exact ⟨o, hide_some (by simp only [List.mem_cons, List.not_mem_nil, or_false, not_or]; exact ⟨fun q => hxo (q ▸ hb), fun q => hdxo (q ▸ hb)⟩) ho⟩
  have ho : s.heap.get? 104 = some _ := hk _ _ (P.K 104 _ (by k_is))
  refine wpAny_call ?_
  refine' enter (base := hide [x, dx] s.heap) (hide_keep _ _) (by rw [hide_size]; exact Nat.le_refl _) (Led.cons hox (hide_none (.head _)) (Led.cons hod (hide_none (.tail _ (.head _))) Led.nil)) ?e1 ho ?e2 (P.T.nolimit.keeps hk) ?e3 ?e4 ?e5 ?_ ?e7 ?e8 ?e9 ?e10
  case e2 => exact rfl
  case e1 => show dp < 1000; omega
  case e3 => exact ⟨103, _, _, _, rfl, hk _ _ (P.K 103 _ (by k_is)), rfl, rfl⟩
  case e4 => rfl
  case e5 => exact locs rfl
  case e7 => rfl
  case e8 => rfl
  case e9 => rfl
  case e10 => decide
  clear ho
  intro L h₁ tk F N l1 kh hL
  k_lt l1
  k_lt2 hl
  have hsL : s.heap.objs.size ≤ L := by
    have := F.above
    simp only [hide_size] at this
    exact this
  refine wpAny_execs_cons (wpAny_mono (Q := fun f s' => Box (f = .next ∧ ∃ h' tk m, s' = { s with heap := h', toks := tk } ∧ Fr (hide [x, dx] s.heap) L h' m ∧ m "self" = some (.ref x) ∧ m "func" = some (.ref q) ∧
    News (hide [x, dx] s.heap) L h' [(x, ffObj dx q it), (dx, dictOf [] 0)])) ?_ ?_ fun _ _ e => e)
  · k_steps
    rename Fr _ _ _ _ => F1
    rename News _ _ _ _ => N1
    exact ⟨⟨rfl, _, _, _, rfl, F1, rfl, rfl, N1⟩⟩
  rintro f s1 ⟨rfl, h1, tk1, m, rfl, F1, m1, m2, N1⟩
  dsimp only
  refine wpAny_execs_cons (whl_start 1 ?_)
  have hR0 : R ys { s with heap := h1, toks := tk1 } := I.keeps _ s _ hR (fun b hb o ho => F1.keep b o (hide_some (by simp only [List.mem_cons, List.not_mem_nil, or_false, not_or]; exact ⟨fun q => hxo (q ▸ hb), fun q => hdxo (q ▸ hb)⟩) ho)) fun _ _ _ e => e
  clear KX T F N
  refine' (fun (loop : ∀ (zs : List Str) (b : Heap) (s0 : Shared) (m : Str → Option Value), zs.dropWhile Sm = ys.dropWhile Sm → KeepAll base b → Fr b L s0.heap m → m "self" = some (.ref x) → m "func" = some (.ref q) →
    News b L s0.heap [(x, ffObj dx q it), (dx, dictOf [] 0)] → (∀ a ∈ own, ∃ o, b.get? a = some o) → R zs s0 → Holds [x, dx] W s.heap b → GExt V s.gens s0.gens s.os s0.os → WhlRest _ _ _ _ _ _ _ _ _ 1 s0) =>
    loop ys _ _ m rfl kb F1 m1 m2 N1 hown hR0 Holds.hide (GExt.refl _ _ _)) ?_
  clear hR0 N1 F1 m1 m2 m hown kb hR kh
  intro zs
  induction zs with
  | nil =>
    intro b s0 m hz kb F m1 m2 N hown hR H hg
    replace F := Fr.named (Fr.named F m2) (v := .ref x) (x := "self") ((if_neg (by decide)).trans m1)
    obtain ⟨KX, T⟩ := P.keepAll kb
    refine whl_turn (k := 0) (by passes_own) ?_
    k_steps
    rename Fr _ _ _ _ => F1
    rename News _ _ _ _ => N1
    have hkF := F1.keep
    have hR1 : ∀ tk, R [] { s0 with toks := tk } := fun tk => I.keeps _ s0 { s0 with toks := tk } hR (fun _ _ _ e => e) fun _ _ _ e => e
    refine I.next_nil (by show dp + 1 ≤ 500; omega) (by show un + 3 + 1 ≤ 5000; omega) (fun b o e => F1.keep b o (kb b o e)) (P.T.nolimit.keeps fun b o e => F1.keep b o (kb b o e)) (hR1 _) fun e s' h' hE hx' => ?_
    have hz' : ys.dropWhile Sm = [] := hz.symm
    have hl' := hl' hz'
    have hff := hff hz'
    have hg1 := Ext.g hE
    have hg' : GExt V s.gens s'.gens s.os s'.os := hg.trans hg1
    have hW : ∀ f ∈ frs l, f ∉ [x, dx] ∧ ¬ W f := fun f hf => ⟨(hff f hf).1, fun q => (hff f hf).2 (I.sub f q)⟩
    have H' : Holds [x, dx] W s.heap s'.heap := H.ext (s := { s0 with toks := s0.toks + 1 }) hkF hE
    have HF := ff_keep H' hl' hW
    have hlt := ff_lt hl' hsL
    have F2 := fr_zero (s := { s0 with toks := s0.toks + 1 }) F1 hE I.sub hown
    have hL' : ∀ f ∈ frs l, f ≠ L := fun f hf => Nat.ne_of_lt (hlt f hf)
    refine leaves_newU (base := hide (frs l) (hide [L] s'.heap)) (outer := l) rfl rfl (fun b o e => hide_keep _ _ b o (hide_keep _ _ b o e)) (Heap.FunFrames.cons (by show ScopeKind.function ≠ ScopeKind.module; decide) rfl F2.ns ((hide_keep _ _).none_of (hide_none (.head _)))
      (ff_of HF (fun b _ o e _ => ⟨o, e, rfl⟩) fun b hb => hide_none hb)) hx' fun a0 h5 hfly hup => ?_
    refine hEx hz' e _ (ext_raise (s' := s') (b3 := hide [L] s'.heap) H' hsL hl' hW (fun b o hb _ _ e => hide_some (by simp only [List.mem_cons, List.not_mem_nil, or_false]; exact Nat.ne_of_lt hb) e)
      (fun b hb o e => ⟨o.slots, hide_some (by simp only [List.mem_cons, List.not_mem_nil, or_false]; exact hL' b hb) e⟩) (fun b o e => hx'.keeps b o (hide_keep _ _ b o e)) hfly.1 hup hg') hfly.there
  | cons z zs ih =>
    intro b s0 m hz kb F m1 m2 N hown hR H hg
    replace F := Fr.named (Fr.named F m2) (v := .ref x) (x := "self") ((if_neg (by decide)).trans m1)
    obtain ⟨KX, T⟩ := P.keepAll kb
    refine whl_turn (k := 0) (by passes_own) ?_
    generalize hWP : WhlPost prog w _ _ _ _ _ _ _ 0 = WP
    k_steps
    rename Fr _ _ _ _ => F1
    rename News _ _ _ _ => N1
    have hkF := F1.keep
    have hR1 : ∀ tk, R (z :: zs) { s0 with toks := tk } := fun tk => I.keeps _ s0 { s0 with toks := tk } hR (fun _ _ _ e => e) fun _ _ _ e => e
    refine I.next_cons (by show dp + 1 ≤ 500; omega) (by show un + 3 + 1 ≤ 5000; omega) (fun b o e => F1.keep b o (kb b o e)) (P.T.nolimit.keeps fun b o e => F1.keep b o (kb b o e)) (hR1 _) fun t s' hE hR' => ?_
    have hg1 := Ext.g hE
    have hg' := hg.trans hg1
    have F2 := Fr.patch (s := { s0 with toks := s0.toks + 1 }) F1 hE I.sub hown (I.there _ _ hR')
    have N2 := News.patch (s := { s0 with toks := s0.toks + 1 }) N1 hE I.sub hown
    have kb2 := kb.patch (h := s'.heap) I.off
    obtain ⟨KX, T⟩ := P.keepAll kb2
    clear F1 N1
    have hkF' := hkF
    k_steps
    rename Fr _ _ _ _ => F3
    rename News _ _ _ _ => N3
    refine callWith_boundB (vs := #[.builtin "set.__contains__", .ref S]) ?_
    k_steps
    rename Fr _ _ _ _ => F4
    rename News _ _ _ _ => N4
    have keep4 : KeepAll base _ := fun b o e => F4.keep b o (kb2 b o e)
    refine ⟨keep4 _ _ hq, call_boundSet (keep4 _ _ hq) (setOf_keep hS keep4) ?_⟩
    cases hb : Sm z with
    | false =>
      k_steps
      rename Fr _ _ _ _ => F5
      rename News _ _ _ _ => N5
      subst hWP
      have hdw : ys.dropWhile Sm = z :: zs := by rw [← hz, List.dropWhile_cons, hb]; rfl
      exact hQ z zs hdw t _ (((H.turn (s := { s0 with toks := s0.toks + 1 }) hkF' hE).keep F5.keep).fin hg') (N5 _ (.head _)).1 (N5 _ (.tail _ (.head _))).1 (I.keeps _ _ _ hR' (patch_own F5.keep hown) fun _ _ _ e => e)
    | true =>
      k_steps
      rename Fr _ _ _ _ => F5
      rename News _ _ _ _ => N5
      subst hWP
      have hdw : zs.dropWhile Sm = ys.dropWhile Sm := by rw [← hz, List.dropWhile_cons, hb]; rfl
      refine ih (patch own b s'.heap) _ _ hdw kb2 F5 rfl rfl N5 (fun a ha => ?_) (I.keeps _ _ _ hR' (patch_own F5.keep hown) fun _ _ _ e => e) (H.turn (s := { s0 with toks := s0.toks + 1 }) hkF' hE) hg'
      obtain ⟨o1, ho1⟩ := hown a ha
      obtain ⟨o2, ho2⟩ := I.there _ _ hR' a ha
      exact ⟨o2, by rw [patch_on ha (Heap.lt_size ho1) (Heap.lt_size ho2)]; exact ho2⟩
end
end Mine1
end
section
open PySem PySem.W PyProof.Rows Mine
set_option maxRecDepth 100000
set_option maxHeartbeats 8000000
namespace Mine1
section
variable {w : World} {mg mb : Str → Option Value} {dp un : Nat} {fr : Option (List Env)} {gd : Option (List Code)} {s : Shared} {Q : Value → Shared → Prop} {E : Value → Shared → Prop}
  {W : Addr → Prop} {V : Nat → Prop} {own : List Addr} {R : List Str → Shared → Prop} {x dx it q S : Addr} {base : Heap} {o : Obj} {Sm : Str → Bool} {n : Nat}
theorem ff_iter (P : PW w mg mb s.heap) (hdp : dp < recursionLimit)
   (hQ : ∀ h' tk, KeepAll s.heap h' → Q (.ref x) { s with heap := h', toks := tk }) : wpAny (model prog w) (Ar dp un fr gd) (PySem.call (.ref 97) [.ref x]) Q E s := by
  obtain ⟨KX, T⟩ := P
  have ho : s.heap.get? 97 = some _ := KX 97 _ (by k_is)
  refine wpAny_call ?_
  refine' enter (base := s.heap) (fun _ _ e => e) (Nat.le_refl _) Led.nil ?e1 ho ?e2 T.nolimit ?e3 ?e4 ?e5 ?_ ?e7 ?e8 ?e9 ?e10
  case e2 => exact rfl
  case e1 => first | (show dp < recursionLimit; omega) | (show dp < 1000; omega)
  case e3 => exact ⟨96, _, _, _, rfl, KX 96 _ (by k_is), rfl, rfl⟩
  case e4 => rfl
  case e5 => exact locs rfl
  case e7 => rfl
  case e8 => rfl
  case e9 => rfl
  case e10 => decide
  clear ho
  intro L h₁ tk F N l1 kh hL
  k_steps
  rename Fr _ _ _ _ => F'
  exact hQ _ _ F'.keep
def FfR (w : World) (x dx q it S : Addr) (Sm : Str → Bool) (n : Nat) (R : List Str → Shared → Prop) (xs : List Str) (s : Shared) : Prop :=
  s.heap.get? dx = some (dictOf [] 0) ∧ s.heap.get? x = some (ffObj dx q it) ∧ s.heap.get? q = some (boundSet S) ∧ s.heap.SetOf (strKind prog w) S Sm n ∧ ∃ ys, xs = ys.filter (fun y => !Sm y) ∧ R ys s
theorem FfR.at_ {xs : List Str} (hR : FfR w x dx q it S Sm n R xs s) : ∃ ox od, InstAt s.heap x ox 108 od :=
  ⟨_, some _, hR.2.1, rfl, rfl, hR.1⟩
theorem drop_filter {Sm : Str → Bool} : ∀ {ys : List Str} {y : Str} {r : List Str}, ys.dropWhile Sm = y :: r → ys.filter (fun y => !Sm y) = y :: r.filter (fun y => !Sm y)
  | [], _, _, h => by simp at h
  | z :: zs, y, r, h => by
    rw [List.dropWhile_cons] at h
    cases hz : Sm z with
    | true => rw [hz] at h; rw [List.filter_cons, hz]; exact drop_filter h
    | false => rw [hz] at h; simp only [Bool.false_eq_true, if_false] at h; cases h; rw [List.filter_cons, hz]; rfl
theorem drop_filter_nil {Sm : Str → Bool} : ∀ {ys : List Str}, ys.dropWhile Sm = [] → ys.filter (fun y => !Sm y) = []
  | [], _ => rfl
  | z :: zs, h => by
    rw [List.dropWhile_cons] at h
    cases hz : Sm z with
    | true => rw [hz] at h; rw [List.filter_cons, hz]; exact drop_filter_nil h
    | false => rw [hz] at h; simp at h
theorem ownIt_ff (I : InIt prog w it base W V own R) (P : PW w mg mb base) (hx : base.get? x = none) (hdx : base.get? dx = none) (hxo : x ∉ own) (hdxo : dx ∉ own) (hl : dx < x)
    (hqn : base.get? q = none) (hSn : base.get? S = none) (hqo : q ∉ own) (hSo : S ∉ own) (h1 : x ≠ q) (h2 : x ≠ S) (h3 : dx ≠ q) (h4 : dx ≠ S) :
    OwnIt prog w x base (fun b => b ∈ [x, dx] ∨ W b) V (x :: dx :: q :: S :: own) (FfR w x dx q it S Sm n R) := by
  have nC : ∀ a ∈ [q, S], base.get? a = none := fun a ha => by
    rcases List.mem_cons.mp ha with rfl | ha
    · exact hqn
    · rcases List.mem_cons.mp ha with rfl | ha
      · exact hSn
      · cases ha
  have oC : ∀ b ∈ own, b ∉ [q, S] := fun b hb ha => by
    rcases List.mem_cons.mp ha with rfl | ha
    · exact hqo hb
    · rcases List.mem_cons.mp ha with rfl | ha
      · exact hSo hb
      · cases ha
  have xC : x ∉ [q, S] := fun ha => by
    rcases List.mem_cons.mp ha with z | ha
    · exact h1 z
    · rcases List.mem_cons.mp ha with z | ha
      · exact h2 z
      · cases ha
  have dC : dx ∉ [q, S] := fun ha => by
    rcases List.mem_cons.mp ha with z | ha
    · exact h3 z
    · rcases List.mem_cons.mp ha with z | ha
      · exact h4 z
      · cases ha
  have still : ∀ {s s' : Shared} {S'}, Ext S' (fun b => b ∈ [x, dx] ∨ W b) V s s' → (∀ b ∈ [q, S], b ∉ S') → s.heap.get? q = some (boundSet S) → s.heap.SetOf (strKind prog w) S Sm n →
      s'.heap.get? q = some (boundSet S) ∧ s'.heap.SetOf (strKind prog w) S Sm n := fun {s s' S'} hE hS' e1 e2 => by
    have ne : ∀ b ∈ [q, S], ¬ (b ∈ [x, dx] ∨ W b) := fun b hb z => by
      rcases z with z | z
      · rcases List.mem_cons.mp z with rfl | z
        · exact xC hb
        · rcases List.mem_cons.mp z with rfl | z
          · exact dC hb
          · cases z
      · exact oC b (I.sub b z) hb
    obtain ⟨o, es, ep, t, ho, rest⟩ := e2
    exact ⟨hE.heap q _ (hS' _ (.head _)) (ne _ (.head _)) e1, o, es, ep, t, hE.heap S _ (hS' _ (.tail _ (.head _))) (ne _ (.tail _ (.head _))) ho, rest⟩
  have mem4 : ∀ {b : Addr}, b ∈ x :: dx :: q :: S :: own → b = x ∨ b = dx ∨ b = q ∨ b = S ∨ b ∈ own := fun {b} hb => by simpa [List.mem_cons] using hb
  refine { cons := ?_, nil := ?_, iter := ?_, typ := ?_, nolen := ?_, nohint := ?_, keeps := ?_, there := ?_, sub := ?_, itn := .head _, off := ?_ }
  · intro dp un l gd y ys s Q E hd hu hk hlim hff hR hQ
    obtain ⟨ox, od, hI⟩ := hR.at_
    refine own_next (f := 104) (P.K.keeps hk) hI (by k_is) (by k_is) ?_
    obtain ⟨hod, hox, hq, hS, zs, hz, hr⟩ := hR
    have kbe := keep_overlay nC hk
    have obe : KeepAll (overlay [q, S] base s.heap) s.heap := overlay_keep hk
    have hdne : zs.dropWhile Sm ≠ [] := fun z => by rw [drop_filter_nil z] at hz; cases hz
    refine ff_next (l := l) (ys := zs) (n := n) (I.up kbe fun b hb => by rw [overlay_off (oC b hb) hk]; exact I.off b hb) (P.keepAll kbe) obe (by rw [overlay_off xC hk]; exact hx) (by rw [overlay_off dC hk]; exact hdx) hxo hdxo hox hod hl
      (by rw [overlay_on (.head _)]; exact hq) ?_ hr (by omega) (by omega) (fun z => absurd z hdne) (fun z => absurd z hdne) ?_ (fun z => absurd z hdne)
    · obtain ⟨o, es, ep, t, ho, rest⟩ := hS
      exact ⟨o, es, ep, t, by rw [overlay_on (.tail _ (.head _))]; exact ho, rest⟩
    · intro y' r hdw t s' hE hx' hd' hr'
      have e := drop_filter hdw
      rw [← hz] at e
      cases e
      obtain ⟨k1, k2⟩ := still hE (fun b _ h => nomatch h) hq hS
      exact hQ t s' hE ⟨hd', hx', k1, k2, r, rfl, hr'⟩
  · intro dp un l gd s Q E hd hu hk hlim hff hfo hR hQ
    obtain ⟨ox, od, hI⟩ := hR.at_
    refine own_next (f := 104) (P.K.keeps hk) hI (by k_is) (by k_is) ?_
    obtain ⟨hod, hox, hq, hS, zs, hz, hr⟩ := hR
    have kbe := keep_overlay nC hk
    have obe : KeepAll (overlay [q, S] base s.heap) s.heap := overlay_keep hk
    have hdn : zs.dropWhile Sm = [] := by
      cases hc : zs.dropWhile Sm with
      | nil => rfl
      | cons y r => rw [drop_filter hc] at hz; cases hz
    refine ff_next (l := l) (ys := zs) (n := n) (I.up kbe fun b hb => by rw [overlay_off (oC b hb) hk]; exact I.off b hb) (P.keepAll kbe) obe (by rw [overlay_off xC hk]; exact hx) (by rw [overlay_off dC hk]; exact hdx) hxo hdxo hox hod hl
      (by rw [overlay_on (.head _)]; exact hq) ?_ hr (by omega) (by omega) (fun _ => ff_of hff (fun b _ o e _ => ⟨o, e, rfl⟩) fun b hb => ?_) (fun _ f hf => ⟨fun z => hfo f hf ?_, fun z => hfo f hf (.tail _ (.tail _ (.tail _ (.tail _ z))))⟩) (fun y' r hdw => by rw [hdn] at hdw; cases hdw) fun _ e s' hE hT => ⟨hT, hQ s' hE⟩
    · obtain ⟨o, es, ep, t, ho, rest⟩ := hS
      exact ⟨o, es, ep, t, by rw [overlay_on (.tail _ (.head _))]; exact ho, rest⟩
    · have : b ∉ [q, S] := fun z => hfo b hb (by
        rcases List.mem_cons.mp z with rfl | z
        · exact .tail _ (.tail _ (.head _))
        · rcases List.mem_cons.mp z with rfl | z
          · exact .tail _ (.tail _ (.tail _ (.head _)))
          · cases z)
      rw [overlay_off this hk]; exact (hff.mem hb).1
    · rcases List.mem_cons.mp z with rfl | z
      · exact .head _
      · rcases List.mem_cons.mp z with rfl | z
        · exact .tail _ (.head _)
        · cases z
  · intro dp un l gd xs s Q E hd hu hk hlim hR hQ
    obtain ⟨ox, od, hI⟩ := hR.at_
    refine own_iter (f := 97) (P.K.keeps hk) hI (by k_is) (by k_is) (by k_is) (ff_iter (P.keepAll hk) (by show dp < 1000; omega) fun h' tk kh => ⟨rfl, P.K.keeps (hk.trans kh), ?_, hQ _ (.of_keep kh) ?_⟩)
    all_goals
      have hR' : FfR w x dx q it S Sm n R xs { s with heap := h', toks := tk } := by
        obtain ⟨hod, hox, hq, hS, zs, hz, hr⟩ := hR
        exact ⟨kh _ _ hod, kh _ _ hox, kh _ _ hq, setOf_keep hS kh, zs, hz, I.keeps _ _ _ hr (fun b _ o e => kh b o e) fun _ _ _ e => e⟩
    · exact hR'.at_
    · exact hR'
  · intro xs s A Q E hk hR hQ
    obtain ⟨ox, od, hI⟩ := hR.at_
    exact hI.type.here (hQ _ (by decide) (by decide))
  · intro xs s A Q E hk hR hQ
    obtain ⟨ox, od, hI⟩ := hR.at_
    exact wpAny_bind (hI.type.here ((looks_findIn (P.K.keeps hk) (r := none) (by k_is)).here hQ))
  · intro xs s A Q E hk hR hQ
    obtain ⟨ox, od, hI⟩ := hR.at_
    exact wpAny_bind (hI.type.here ((looks_findIn (P.K.keeps hk) (r := none) (by k_is)).here hQ))
  · intro xs s s' hR hk hg
    obtain ⟨hod, hox, hq, ⟨o, es, ep, t, ho, rest⟩, zs, hz, hr⟩ := hR
    exact ⟨hk _ (.tail _ (.head _)) _ hod, hk _ (.head _) _ hox, hk _ (.tail _ (.tail _ (.head _))) _ hq, ⟨o, es, ep, t, hk _ (.tail _ (.tail _ (.tail _ (.head _)))) _ ho, rest⟩, zs, hz,
      I.keeps _ _ _ hr (fun b hb o e => hk b (.tail _ (.tail _ (.tail _ (.tail _ hb)))) o e) hg⟩
  · intro xs s hR b hb
    obtain ⟨hod, hox, hq, ⟨o, es, ep, t, ho, rest⟩, zs, hz, hr⟩ := hR
    rcases mem4 hb with rfl | rfl | rfl | rfl | hb
    · exact ⟨_, hox⟩
    · exact ⟨_, hod⟩
    · exact ⟨_, hq⟩
    · exact ⟨_, ho⟩
    · exact I.there _ _ hr b hb
  · intro b hb
    rcases hb with hb | hb
    · rcases List.mem_cons.mp hb with rfl | hb
      · exact .head _
      · rcases List.mem_cons.mp hb with rfl | hb
        · exact .tail _ (.head _)
        · cases hb
    · exact .tail _ (.tail _ (.tail _ (.tail _ (I.sub _ hb))))
  · intro b hb
    rcases mem4 hb with rfl | rfl | rfl | rfl | hb
    · exact hx
    · exact hdx
    · exact hqn
    · exact hSn
    · exact I.off b hb
end
end Mine1
end
section
open PySem PySem.W PyProof.Rows PySem.Builtin PySem.Builtin.ObjectAttr
set_option maxRecDepth 100000
set_option maxHeartbeats 8000000
namespace Mine
theorem metAt_all (xs : List Str) (k : Str) : (metAt xs xs.length).any (· == k) = xs.any (· == k) := by rw [metAt_any, List.take_length]
section
variable {prog : Program} {w : World} {A : Around} {E : Value → Shared → Prop} {s : Shared}
theorem call_set_strs {l : Addr} {items : Array Value} {xs : List Str} {Q : Value → Shared → Prop} (hh : A.handled = none) (hl : s.heap.IsList l items) (hi : StrsAre items.toList xs) (hb : xs.length + 1 < scanBound)
    (h : ∀ h' tk n, h'.SetOf (strKind prog w) s.heap.objs.size (fun k => xs.any (· == k)) n → n ≤ xs.length → KeepAll s.heap h' → Q (.ref s.heap.objs.size) { s with heap := h', toks := tk }) :
    wpAny (model prog w) A (PySem.call (.type "set") [.ref l]) Q E s := by
  refine call_set_by fun led s₁ hs₁ => ?_
  obtain ⟨ol, hol, hcl, nl, hdl⟩ := hl
  obtain ⟨ocls, odict, odata, oslots⟩ := ol
  simp only at hcl hdl
  subst hcl; subst hdl
  have hS : (s.heap.push { cls := .type "set", dict := none, data := .set #[] 0 (.fresh 0 0 led) }).get? s.heap.objs.size = some { cls := .type "set", dict := none, data := .set #[] 0 (.fresh 0 0 led) } := Heap.get?_push_size _ rfl
  have hol' : (s.heap.push { cls := .type "set", dict := none, data := .set #[] 0 (.fresh 0 0 led) }).get? l = some { cls := .type "list", dict := odict, data := .seq items nl, slots := oslots } := Heap.get?_push_of_some _ hol
  have hsls := F.sub_list_set
  have hslf := F.sub_list_frozenset
  have hne : (Value.type "list" == Value.type "dict") = false := by decide
  have hl1 : (s.heap.push { cls := .type "set", dict := none, data := .set #[] 0 (.fresh 0 0 led) }).IsList l items := ⟨_, hol', rfl, nl, rfl⟩
  have hlen : items.size = xs.length := by rw [← StrsAre.len hi]; simp
  subst hs₁
  unfold Builtin.«set.__init__» noKeywords Builtin.Frozenset.updateFrom
  generalize hPI : pyIter = PI
  wp_walk
  subst hPI
  refine wpAny_pyIter_list hl1 ?_
  refine wpAny_bind (wpAny_runValue ?_)
  have hlS : l < s.heap.objs.size := Heap.lt_size hol
  have hneI : l ≠ (s.heap.push { cls := .type "set", dict := none, data := .set #[] 0 (.fresh 0 0 led) }).objs.size := by
    rw [Heap.size_push]; exact Nat.ne_of_lt (Nat.lt_succ_of_lt hlS)
  have hSf : s.heap.objs.size ∉ [(s.heap.push { cls := .type "set", dict := none, data := .set #[] 0 (.fresh 0 0 led) }).objs.size, l] := by
    rw [Heap.size_push]; simp only [List.mem_cons, List.not_mem_nil, or_false, not_or]
    exact ⟨Nat.ne_of_lt (Nat.lt_succ_self _), Nat.ne_of_gt hlS⟩
  have hval : ∀ (i : Nat) (v : Value), items[i]? = some v → ∃ t, ∃ h : i < xs.length, v = .str xs[i] t := fun i v hv =>
    StrsAre.at_ hi i v (by rw [Array.getElem?_toList]; exact hv)
  have W := (Walks.list (prog := prog) (w := w) (A := A.in1.in1.in1) (by simp [hh]) (s.heap.push { cls := .type "set", dict := none, data := .set #[] 0 (.fresh 0 0 led) }).objs.size l hneI items).toS
  rw [hlen] at W
  refine set_update_strs W s.heap.objs.size hSf hval hb (xs.length - 0) 0 _ (by omega) (Nat.zero_le _) ⟨⟨_, Heap.get?_push_size _ rfl, rfl, rfl⟩, (hl1.push _)⟩ ?hS0 ?hR
  case hS0 =>
    have hget : ((s.heap.push { cls := .type "set", dict := none, data := .set #[] 0 (.fresh 0 0 led) }).push { cls := .type "list_iterator", data := .fields #[.ref l, .int 0 0] }).get? s.heap.objs.size
        = some { cls := .type "set", dict := none, data := .set #[] 0 (.fresh 0 0 led) } := Heap.get?_push_of_some _ hS
    exact SetOf_congr ((setObjOf_fresh (knd := strKind prog w) led).setOf hget (by unfold scanBound; omega)) (fun _ => by rw [metAt_zero]; rfl) (by rw [metAt_zero]; rfl)
  case hR =>
    intro s' hm hS'
    obtain ⟨h', g', d', tk', os'⟩ := s'
    have eg : g' = s.gens := hm.gens
    have ed : d' = s.drawn := hm.drawn
    have eo : os' = s.os := hm.os
    subst eg; subst ed; subst eo
    show wpAny _ _ _ _ _ _
    refine wpAny_pure ?_
    show wpAny _ _ (ret Value.none) _ _ _
    refine wpAny_pure ⟨rfl, h h' tk' _ (SetOf_congr hS' (fun k => (metAt_all xs k)) rfl) (metAt_len xs xs.length) fun b o e => ?_⟩
    have hlt := Heap.lt_size e
    refine hm.heap b o ?_ (Heap.get?_push_of_some _ (Heap.get?_push_of_some _ e))
    rw [Heap.size_push]
    simp only [List.mem_cons, List.not_mem_nil, or_false, not_or]
    exact ⟨Nat.ne_of_lt hlt, Nat.ne_of_lt (Nat.lt_succ_of_lt hlt)⟩
end
end Mine
end
section
open PySem PySem.W PyProof.Rows PySem.Builtin PySem.Builtin.ObjectAttr
set_option maxRecDepth 100000
set_option maxHeartbeats 8000000
namespace Mine
def relays (led : Bool) (n : Nat) : Bool := match (SetTable.fresh 0 0 led).roomFor n with
  | none => true
  | some wnt => !decide (SetTable.sizeAbove wnt > sizeLine) && match (SetTable.fresh 0 0 led).relaid #[] wnt with
    | some (t, o) => o.isEmpty && t.fits 0
    | none => false
theorem relays_all : ∀ led : Bool, ∀ n : Fin 13, relays led n.val = true := by decide +kernel
theorem sub_dict_set : isSubtype (.type "dict") (.type "set") = pure false := by rw [isSubtype_type]; kernel_rfl
theorem sub_dict_frozenset : isSubtype (.type "dict") (.type "frozenset") = pure false := by rw [isSubtype_type]; kernel_rfl
theorem pairsS_at {prog : Program} {w : World} {es : List DictEntry} {kvs : List (Str × Value)} (x : PySem.Pairs (strKind prog w) es kvs) (i : Nat) (e : DictEntry) (h : es[i]? = some e) : ∃ t, ∃ h : i < kvs.length, e.key = .str kvs[i].1 t ∧ e.val = kvs[i].2 := by
  induction x generalizing i with
  | nil => cases h
  | cons h1 h2 hr ih =>
    cases i with
    | zero =>
      cases h
      obtain ⟨t, ht⟩ := Value.isStrOf_shape h1
      exact ⟨t, Nat.succ_pos _, ht, h2⟩
    | succ i =>
      obtain ⟨t', hl, e⟩ := ih i h
      exact ⟨t', Nat.succ_lt_succ hl, e⟩
theorem pairsS_len {prog : Program} {w : World} {es : List DictEntry} {kvs : List (Str × Value)} (x : PySem.Pairs (strKind prog w) es kvs) : es.length = kvs.length := by
  induction x with
  | nil => rfl
  | cons h1 h2 hr ih => exact congrArg Nat.succ ih
section
variable {prog : Program} {w : World} {A : Around} {E : Value → Shared → Prop} {s : Shared}
theorem room_for {S n : Nat} {led : Bool} {Q : Unit → Shared → Prop} (hn : n < 13) (hS : s.heap.get? S = some { cls := .type "set", dict := none, data := .set #[] 0 (.fresh 0 0 led) })
    (h : ∀ h', Heap.SameBut S s.heap h' → h'.SetOf (strKind prog w) S (fun _ => false) 0 → Q () { s with heap := h' }) : wpAny (model prog w) A (setRoomFor S n) Q E s := by
  have hr := relays_all led ⟨n, hn⟩
  have fitted : (SetTable.fresh 0 0 led).fits (0 : Nat) = true := by cases led <;> decide
  unfold setRoomFor
  refine wpAny_bind (wpAny_setState_of hS rfl fitted ?_)
  dsimp only
  unfold relays at hr
  dsimp only at hr
  cases q : (SetTable.fresh 0 0 led).roomFor n with
  | none =>
    dsimp only
    refine wpAny_pure (h s.heap ⟨rfl, fun _ _ => rfl⟩ ?_)
    exact SetOf_congr ((setObjOf_fresh (knd := strKind prog w) led).setOf hS (by unfold scanBound; omega)) (fun _ => rfl) rfl
  | some wnt =>
    rw [q] at hr
    dsimp only at hr ⊢
    rw [Bool.and_eq_true] at hr
    obtain ⟨hr1, hr2⟩ := hr
    unfold setRelay
    refine wpAny_bind (wpAny_setState_of hS rfl fitted ?_)
    dsimp only
    rw [if_neg (by simpa using hr1)]
    cases q2 : (SetTable.fresh 0 0 led).relaid #[] wnt with
    | none => rw [q2] at hr2; cases hr2
    | some p =>
      obtain ⟨t, o⟩ := p
      rw [q2] at hr2
      dsimp only at hr2
      rw [Bool.and_eq_true] at hr2
      obtain ⟨ho, hf⟩ := hr2
      have ho' : o = #[] := by simpa using ho
      subst ho'
      refine wpAny_bind (wpAny_of_eq (a := (#[], t)) ?_ ?_)
      · show (_ : Sem _) = _
        simp only [Array.map_empty]
        rw [q2]
        rfl
      · dsimp only
        refine wpAny_storeSet_of hS rfl (h _ (Heap.SameBut.update ..) ?_) (by decide)
        exact (SetOf_store (knd := strKind prog w) (es' := #[]) (t' := t) (S' := fun _ => false) hS ⟨rfl, rfl, rfl⟩ rfl (fun e he => by simp at he) (fun k => by simp) (by decide) hf).2
theorem call_set_dict {d : Addr} {kvs : List (Str × Value)} {Q : Value → Shared → Prop} (hd : s.heap.DictOf (strKind prog w) d kvs) (hn : kvs.length < 13) (hm : d ≠ sysModules)
    (h : ∀ h' tk n, h'.SetOf (strKind prog w) s.heap.objs.size (fun k => (kvs.map (·.1)).any (· == k)) n → n ≤ kvs.length → KeepAll s.heap h' → Q (.ref s.heap.objs.size) { s with heap := h', toks := tk }) :
    wpAny (model prog w) A (PySem.call (.type "set") [.ref d]) Q E s := by
  refine call_set_by fun led s₁ hs₁ => ?_
  obtain ⟨od, es, ep, hod, hex, hdd, hkeys, hpairs, hnodup⟩ := hd
  obtain ⟨hc, hdi, hsl⟩ := id hex
  have hlen : es.size = kvs.length := by rw [← pairsS_len hpairs]; simp
  have hS : s₁.heap.get? s.heap.objs.size = some { cls := .type "set", dict := none, data := .set #[] 0 (.fresh 0 0 led) } := by subst hs₁; exact Heap.get?_push_size _ rfl
  have hod' : s₁.heap.get? d = some od := by subst hs₁; exact Heap.get?_push_of_some _ hod
  have hdS : d ≠ s.heap.objs.size := Nat.ne_of_lt (Heap.lt_size hod)
  have hT : s₁.TypeIs (.ref d) "dict" := ⟨od, hod', hc⟩
  have k0 : KeepAll s.heap s₁.heap := by subst hs₁; exact fun b o e => Heap.get?_push_of_some _ e
  have e0 : ∀ h', Heap.SameBut s.heap.objs.size s₁.heap h' → KeepAll s.heap h' := fun h' hsb b o e => by
    rw [hsb.2 b (Nat.ne_of_lt (Heap.lt_size e))]; exact k0 b o e
  have sameS : { s₁ with heap := s₁.heap } = s₁ := rfl
  have hs₁' : ∀ h' tk, ({ s₁ with heap := h', toks := tk } : Shared) = { s with heap := h', toks := tk } := by subst hs₁; intros; rfl
  clear hs₁ k0
  have upd : wpAny (model prog w) A.in1.in1 (Builtin.Frozenset.updateFrom "set.__init__" s.heap.objs.size (.ref d)) (fun _ s₂ => Q (.ref s.heap.objs.size) s₂) E s₁ := by
    have h1 := sub_dict_set
    have h2 := sub_dict_frozenset
    have hne : (d == sysModules) = false := by simpa using hm
    unfold Builtin.Frozenset.updateFrom Builtin.Frozenset.isAnySet
    generalize hRF : setRoomFor = RF
    repeat (first | (with_reducible refine wpAny_isInstance hT h1 ?_) | (with_reducible refine wpAny_isInstance hT h2 ?_) | (with_reducible refine wpAny_typeOf hT ?_) | (with_reducible refine wpAny_dictEpoch hod' hdd ?_) | (with_reducible refine wpAny_dictEntries hod' hdd ?_) | (rw [hne]) | wp_step)
    subst hRF
    refine room_for (S := s.heap.objs.size) (by omega) hS fun h2 hsb2 hS2 => ?_
    have hod2 : h2.get? d = some od := (hsb2.2 d hdS).trans hod'
    refine wpAny_bind (wpAny_dictEntries hod2 hdd ?_)
    refine wpAny_bind ?_
    rw [Std.Legacy.Range.forIn_eq_forIn_range']
    simp only [Std.Legacy.Range.size, Nat.sub_zero, Nat.add_sub_cancel, Nat.div_one]
    have klen : (kvs.map (·.1)).length = es.size := by rw [List.length_map, hlen]
    refine wpAny_forIn_list _
      (fun rest' _ s' => ∃ i h', rest' = List.range' i (es.size - i) ∧ i ≤ es.size ∧ s' = { s₁ with heap := h' } ∧ Heap.SameBut s.heap.objs.size s₁.heap h' ∧ h'.SetOf (strKind prog w) s.heap.objs.size (fun k' => (metAt (kvs.map (·.1)) i).any (· == k')) (metAt (kvs.map (·.1)) i).length)
      _ ?_ ?_ _ _ ⟨0, h2, by simp, Nat.zero_le _, rfl, hsb2, SetOf_congr hS2 (fun _ => by rw [metAt_zero]; rfl) (by rw [metAt_zero]; rfl)⟩
    · rintro x rest' _ s' ⟨i, h3, hr, hi, rfl, hsb3, hS3⟩
      have hlt : i < es.size := by
        rcases Nat.lt_or_ge i es.size with h | h
        · exact h
        · rw [Nat.sub_eq_zero_of_le h] at hr; simp at hr
      obtain ⟨rfl, hrest⟩ : x = i ∧ rest' = List.range' (i + 1) (es.size - (i + 1)) := by
        have e : es.size - i = (es.size - (i + 1)) + 1 := by omega
        rw [e, List.range'_succ] at hr
        injection hr with h1 h2
        exact ⟨h1, h2⟩
      have hod3 : h3.get? d = some od := (hsb3.2 d hdS).trans hod'
      have hltk : x < (kvs.map (·.1)).length := by omega
      obtain ⟨t, hlk, hkey, _⟩ := pairsS_at hpairs x es[x] (by simp [hlt])
      have hash : es[x].hash = (strKind prog w).hash kvs[x].1 := by
        obtain ⟨k, hk1, hk2⟩ := hkeys es[x] (Array.getElem_mem hlt)
        rw [hkey] at hk1
        have := (strKind prog w).inj _ _ _ hk1 (strKind_is prog w kvs[x].1 t)
        rw [hk2, this]
      have hroom : (metAt (kvs.map (·.1)) x).length + 1 < scanBound := by have := metAt_len (kvs.map (·.1)) x; unfold scanBound; omega
      refine wpAny_bind (wpAny_dictEntries hod3 hdd ?_)
      rw [Array.getElem?_eq_getElem hlt]
      dsimp only
      rw [hkey, hash]
      refine wpAny_bind (wpAny_holding (wpAny_setAddHashed_of (knd := strKind prog w) (k := kvs[x].1) (strKind_is _ _ _ _) rfl hS3 hroom fun h4 hsb4 hS4 => ?_))
      refine wpAny_bind (wpAny_dictEpoch (show h4.get? d = some od from (hsb4.2 d hdS).trans hod3) hdd ?_)
      rw [if_neg (by simp)]
      refine wpAny_pure ⟨x + 1, h4, hrest, hlt, rfl, hsb3.trans hsb4, SetOf_congr hS4 (fun k' => ?_) ?_⟩
      · rw [metAt_any, metAt_any, List.take_succ_eq_append_getElem hltk, List.any_append]
        congr 1
        rw [List.any_cons, List.any_nil, Bool.or_false, List.getElem_map]
        by_cases e : k' = kvs[x].1
        · rw [decide_eq_true e, e, beq_self_eq_true]
        · have e' : kvs[x].1 ≠ k' := fun q => e q.symm
          rw [decide_eq_false e, beq_eq_false_iff_ne.mpr e']
      · rw [metAt_succ _ hltk, List.getElem_map]
        by_cases q : (metAt (kvs.map (·.1)) x).any (· == kvs[x].1) = true
        · rw [if_pos q, if_pos q]
        · rw [if_neg q, if_neg q, List.length_append]; rfl
    · rintro _ s' ⟨i, h3, hr, hi, rfl, hsb3, hS3⟩
      have hie : i = es.size := by
        rcases Nat.lt_or_ge i es.size with h | h
        · have e : es.size - i = (es.size - (i + 1)) + 1 := by omega
          rw [e, List.range'_succ] at hr; cases hr
        · omega
      subst hie
      refine wpAny_pure ?_
      have hh := hs₁' h3 s₁.toks
      show Q _ { s₁ with heap := h3, toks := s₁.toks }
      rw [hh]
      rw [← klen] at hS3
      refine h h3 s₁.toks _ (SetOf_congr hS3 (fun k => metAt_all _ k) rfl) (Nat.le_trans (metAt_len _ _) (by omega)) (e0 h3 hsb3)
  generalize hUF : Builtin.Frozenset.updateFrom = UF at upd
  unfold Builtin.«set.__init__» noKeywords
  rw [hUF]
  have fitted : (SetTable.fresh 0 0 led).fits (0 : Nat) = true := by cases led <;> decide
  repeat (first | (with_reducible refine wpAny_setState_of hS rfl fitted ?_) | wp_step)
  exact wpAny_mono upd (fun _ s₂ h => wpAny_pure ⟨rfl, h⟩) fun _ _ e => e
end
end Mine
end
section
open PySem PySem.W PyProof.Rows Mine
set_option maxRecDepth 100000
set_option maxHeartbeats 8000000
namespace Mine1
section
variable {w : World} {mg mb : Str → Option Value} {dp un : Nat} {fr : Option (List Env)} {gd : Option (List Code)} {s : Shared} {Q : Value → Shared → Prop} {E : Value → Shared → Prop}
  {x dx it q S b : Addr} {base : Heap} {T : Addr → Obj → Prop}
def IterOf (w : World) (b : Addr) (h0 base : Heap) (T : Addr → Obj → Prop) : Prop :=
  ∀ dp un fr gd (s2 : Shared) (Q : Value → Shared → Prop) E, dp ≤ 500 → un ≤ 5000 → KeepAll h0 s2.heap →
    (∀ it oi h', KeepAll s2.heap h' → h'.get? it = some oi → (∃ vs, oi.data = .fields vs) → base.get? it = none → (s2.heap.get? it = none ∨ h0.get? it = some oi) → T it oi → Q (.ref it) { s2 with heap := h' }) →
    wpAny (model prog w) (Ar dp un fr gd) (pyIter (.ref b)) Q E s2
theorem ff_init {h0 : Heap} {R : Result → Shared → Prop} (P : PW w mg mb h0) (hk : KeepAll h0 s.heap)
    (hox : s.heap.get? x = some (instObj 108 dx)) (hod : s.heap.get? dx = some (dictOf [] 0)) (hx : h0.get? x = none) (hdx : h0.get? dx = none) (hl : dx < x) (hI : IterOf w b h0 base T) (hdp : dp + 2 < 500) (hu : un + 10 ≤ 5000)
    (hR : ∀ h' tk it oi, KeepAll h0 h' → h'.get? x = some (ffObj dx q it) → h'.get? dx = some (dictOf [] 0) → h'.get? it = some oi → base.get? it = none → (s.heap.get? it = none ∨ h0.get? it = some oi) → x ≠ it → dx ≠ it → T it oi → R (.ok (.ret .none)) { s with heap := h', toks := tk }) :
    codeAny (model prog w) (Ar dp un fr gd) (.call (.ref 90) ⟨[.ref x, .ref q, .ref b], []⟩) R s := by
  have k0 : KeepAll h0 (hide [x, dx] s.heap) := keep_hide hk fun a ha => by
    rcases List.mem_cons.mp ha with rfl | ha
    · exact hx
    · rcases List.mem_cons.mp ha with rfl | ha
      · exact hdx
      · cases ha
  obtain ⟨KX, T0⟩ := P.keepAll k0
  have ho : s.heap.get? 90 = some _ := hk _ _ (P.K 90 _ (by k_is))
  refine' enter (base := hide [x, dx] s.heap) (hide_keep _ _) (by rw [hide_size]; exact Nat.le_refl _) (Led.cons hox (hide_none (.head _)) (Led.cons hod (hide_none (.tail _ (.head _))) Led.nil)) ?e1 ho ?e2 (P.T.nolimit.keeps hk) ?e3 ?e4 ?e5 ?_ ?e7 ?e8 ?e9 ?e10
  case e2 => exact rfl
  case e1 => show dp < 1000; omega
  case e3 => exact ⟨89, _, _, _, rfl, hk _ _ (P.K 89 _ (by k_is)), rfl, rfl⟩
  case e4 => rfl
  case e5 => exact locs rfl
  case e7 => rfl
  case e8 => rfl
  case e9 => rfl
  case e10 => decide
  clear ho
  intro L h₁ tk F N l1 kh hL
  k_lt l1
  k_lt2 hl
  k_steps
  rename Fr _ _ _ _ => F0
  rename News _ _ _ _ => N0
  refine call_iter (hI _ _ _ _ _ _ _ (by show dp + 1 ≤ 500; omega) (by show un + 3 + 1 ≤ 5000; omega) (k0.trans F0.keep) fun it oi h' hk' hoi hf hbn hor hT => ?_)
  have hor' : s.heap.get? it = none ∨ h0.get? it = some oi := hor.imp (fun z => KeepAll.none_of kh z) fun z => z
  replace F0 := Fr.keepAll F0 hk'
  replace N0 := News.keepAll N0 hk'
  obtain ⟨vs, hvs⟩ := hf
  have n1 : x ≠ it := by
    rintro rfl
    have := (N0 _ (.head _)).1
    rw [hoi] at this; cases this; cases hvs
  have n2 : dx ≠ it := by
    rintro rfl
    have := (N0 _ (.tail _ (.head _))).1
    rw [hoi] at this; cases this; cases hvs
  have n3 : it ≠ L := by
    rintro rfl
    obtain ⟨o, es, ep, ho, hd, _⟩ := F0.ns
    rw [hoi] at ho; cases ho; rw [hvs] at hd; cases hd
  have m1 := neN n1
  have m2 := neN n2
  rcases hor with hor | hor
  · have N1 : News (hide [x, dx] s.heap) L h' [(x, _), (dx, _), (it, oi)] := List.forall_mem_cons.mpr ⟨N0 _ (.head _), List.forall_mem_cons.mpr ⟨N0 _ (.tail _ (.head _)), List.forall_mem_cons.mpr ⟨⟨hoi, n3, (hide_keep _ _).none_of (KeepAll.none_of kh hor)⟩, fun _ h => nomatch h⟩⟩⟩
    clear N0
    k_steps
    rename Fr _ _ _ _ => F1
    rename News _ _ _ _ => N2
    exact hR _ _ it oi (k0.trans F1.keep) (N2 _ (.head _)).1 (N2 _ (.tail _ (.head _))).1 (N2 _ (.tail _ (.tail _ (.head _)))).1 hbn hor' n1 n2 hT
  · k_steps
    rename Fr _ _ _ _ => F1
    rename News _ _ _ _ => N2
    exact hR _ _ it oi (k0.trans F1.keep) (N2 _ (.head _)).1 (N2 _ (.tail _ (.head _))).1 (F1.keep _ _ (k0 _ _ hor)) hbn hor' n1 n2 hT
theorem IterOf.up {h0 h1 : Heap} (hI : IterOf w b h0 base T) (k : KeepAll h0 h1) : IterOf w b h1 base T := fun dp un fr gd s2 Q E hd hu hk hQ =>
  hI dp un fr gd s2 Q E hd hu (k.trans hk) fun it oi h' k' e f bn hor t => hQ it oi h' k' e f bn (hor.imp (fun z => z) fun z => k _ _ z) t
theorem ff_new (P : PW w mg mb s.heap) (hI : IterOf w b s.heap base T) (hdp : dp + 3 < 500) (hu : un + 20 ≤ 5000)
    (hQ : ∀ x dx h' tk it oi, KeepAll s.heap h' → s.heap.get? x = none → s.heap.get? dx = none → dx < x → h'.get? x = some (ffObj dx q it) → h'.get? dx = some (dictOf [] 0) → h'.get? it = some oi → base.get? it = none → x ≠ it → dx ≠ it → T it oi →
      Q (.ref x) { s with heap := h', toks := tk }) :
    wpAny (model prog w) (Ar dp un fr gd) (PySem.call (.ref 108) [.ref q, .ref b]) Q E s := by
  refine wpAny_call (make_at (fI := 90) P.K (by k_is) (by k_is) (by k_is) fun x dx h' hk hdx hx h1 h2 hl hsz => ?_)
  refine ff_init (s := { s with heap := h' }) P hk h1 h2 hx hdx hl hI (by show dp + 1 + 2 < 500; omega) (by show un + 1 + 10 ≤ 5000; omega) fun h2 tk it oi hk2 ho hd2 hi hn _ m1 m2 hT => ?_
  exact ⟨rfl, hQ x dx h2 tk it oi hk2 hx hdx hl ho hd2 hi hn m1 m2 hT⟩
def SetFrom (w : World) (b : Addr) (h0 : Heap) (Sm : Str → Bool) : Prop :=
  ∀ (A : Around) (s2 : Shared) (Q : Value → Shared → Prop) E, A.handled = none → KeepAll h0 s2.heap → (∀ S h' tk n, h'.SetOf (strKind prog w) S Sm n → KeepAll s2.heap h' → s2.heap.get? S = none → Q (.ref S) { s2 with heap := h', toks := tk }) →
    wpAny (model prog w) A (PySem.call (.type "set") [.ref b]) Q E s2
theorem difference_spec {a : Addr} {Ti : Addr → Obj → Prop} {Sm : Str → Bool} (P : PW w mg mb s.heap) (hI : IterOf w a s.heap base Ti) (hS : SetFrom w b s.heap Sm) (hne : ∀ it oi, Ti it oi → oi.cls ≠ .type "builtin_function_or_method" ∧ oi.cls ≠ .type "set")
    (hdp : dp + 5 < 450) (hu : un + 30 ≤ 4500)
    (hQ : ∀ x dx q S n h' tk it oi, KeepAll s.heap h' → s.heap.get? x = none → s.heap.get? dx = none → s.heap.get? q = none → s.heap.get? S = none → dx < x → h'.get? x = some (ffObj dx q it) → h'.get? dx = some (dictOf [] 0) → h'.get? q = some (boundSet S) → h'.SetOf (strKind prog w) S Sm n →
      h'.get? it = some oi → base.get? it = none → x ≠ it → dx ≠ it → q ≠ it → S ≠ it → x ≠ q → x ≠ S → dx ≠ q → dx ≠ S → Ti it oi → Q (.ref x) { s with heap := h', toks := tk }) :
    wpAny (model prog w) (Ar dp un fr gd) (PySem.call (.ref 155) [.ref a, .ref b]) Q E s := by
  obtain ⟨KX, T⟩ := P
  have ho : s.heap.get? 155 = some _ := KX 155 _ (by k_is)
  refine wpAny_call ?_
  refine call_plain (by first | (show dp < recursionLimit; omega) | (show dp < 1000; omega)) ho rfl T.nolimit ?_ rfl ?_ ?_
  · exact ⟨154, _, _, _, rfl, KX 154 _ (by k_is), rfl, rfl⟩
  · exact locs rfl
  clear ho
  intro h₁ F
  have N : News s.heap s.heap.objs.size h₁ [] := News.nil
  k_steps
  rename Fr _ _ _ _ => F0
  refine hS _ _ _ _ rfl F0.keep fun S h1 tk1 n hSo hk1 hSn => ?_
  obtain ⟨oS, es, ep, tb, hoS, hex, hdS, hrest⟩ := id hSo
  have F1 := Fr.keepAll F0 hk1
  have N1 : News s.heap s.heap.objs.size h1 [(S, oS)] := by
    intro q hq
    rcases List.mem_cons.mp hq with rfl | hq
    · refine ⟨hoS, ?_, KeepAll.none_of F0.keep hSn⟩
      rintro rfl
      obtain ⟨o, _, _, ho, _⟩ := F0.ns
      have : _ = none := hSn
      rw [ho] at this; cases this
    · cases hq
  clear N F0
  k_steps
  refine getAttr_contains hoS hex hdS ?_
  dsimp only
  have kp : KeepAll h1 (h1.push (boundSet S)) := fun b o e => Heap.get?_push_of_some _ e
  have F2 := Fr.keepAll F1 kp
  have N2 : News s.heap s.heap.objs.size (h1.push (boundSet S)) [(h1.objs.size, boundSet S), (S, oS)] := by
    have hLt : s.heap.objs.size < h1.objs.size := F1.ns.lt
    refine List.forall_mem_cons.mpr ⟨⟨Heap.get?_push_size _ rfl, Nat.ne_of_gt hLt, get?_size_none _ (Nat.le_of_lt hLt)⟩, News.keepAll N1 kp⟩
  clear F1 N1
  k_steps
  have P2 : PW w mg mb (h1.push (boundSet S)) := PW.keepAll ⟨KX, T⟩ F2.keep
  have hq2 := (N2 _ (.head _)).1
  have hs2 := (N2 _ (.tail _ (.head _))).1
  refine ff_new P2 (hI.up F2.keep) (by show dp + 1 + 3 < 500; omega) (by show un + 3 + 20 ≤ 5000; omega) fun x dx h3 tk3 it oi k3 hxn hdxn hl hox hod hoi hbn m1 m2 hT => ?_
  have hq3 := k3 _ _ hq2
  have hs3 := k3 _ _ hs2
  have fresh : ∀ c o, (h1.push (boundSet S)).get? c = some o → ∀ d, (h1.push (boundSet S)).get? d = none → d ≠ c := fun c o e d e' z => by rw [z, e] at e'; cases e'
  refine hQ x dx h1.objs.size S n h3 tk3 it oi (KeepAll.trans F2.keep k3) (KeepAll.none_of F2.keep hxn) (KeepAll.none_of F2.keep hdxn) (N2 _ (.head _)).2.2 (N2 _ (.tail _ (.head _))).2.2 hl hox hod hq3 (setOf_keep hSo (kp.trans k3)) hoi hbn m1 m2 ?_ ?_ (fresh _ _ hq2 _ hxn) (fresh _ _ hs2 _ hxn) (fresh _ _ hq2 _ hdxn) (fresh _ _ hs2 _ hdxn) hT
  · intro z
    rw [← z, hq3] at hoi
    cases hoi
    exact (hne _ _ hT).1 rfl
  · intro z
    rw [← z, hs3] at hoi
    cases hoi
    exact (hne _ _ hT).2 hex.1
def Stands (w : World) (x : Addr) (base h0 : Heap) (g0 : Nat) (xs : List Str) (s' : Shared) : Prop :=
  ∃ W V own R, OwnIt prog w x base W V own R ∧ R xs s' ∧ (∀ g, V g → g0 ≤ g) ∧ ∀ b ∈ own, h0.get? b = none
theorem difference_list {l : Addr} {items : Array Value} {ss : List Str} {Sm : Str → Bool} (PB : PW w mg mb base) (k0 : KeepAll base s.heap) (hl : base.IsList l items) (hi : StrsAre items.toList ss) (hS : SetFrom w b s.heap Sm)
    (hdp : dp + 5 < 450) (hu : un + 30 ≤ 4500)
    (hQ : ∀ x s', Ext [] NoA NoG s s' → Stands w x base s.heap s.gens.size (ss.filter fun y => !Sm y) s' → Q (.ref x) s') :
    wpAny (model prog w) (Ar dp un fr gd) (PySem.call (.ref 155) [.ref l, .ref b]) Q E s := by
  have P := PB.keepAll k0
  refine difference_spec (base := base) (Ti := fun it oi => oi.cls = .type "list_iterator" ∧ oi.data = .fields #[.ref l, .int 0 0] ∧ s.heap.get? it = none) P ?_ hS ?_ hdp hu ?_
  · intro dp un fr gd s2 Q E _ _ hk hQ
    refine wpAny_pyIter_list (isList_keep hl (k0.trans hk)) ?_
    exact hQ _ _ _ (fun c o e => Heap.get?_push_of_some _ e) (Heap.get?_push_size _ rfl) ⟨_, rfl⟩ (KeepAll.none_of (k0.trans hk) (get?_size_none _ (Nat.le_refl _))) (.inl (get?_size_none _ (Nat.le_refl _))) ⟨rfl, rfl, KeepAll.none_of hk (get?_size_none _ (Nat.le_refl _))⟩
  · rintro it oi ⟨h1, _⟩
    rw [h1]
    exact ⟨by decide, by decide⟩
  · rintro x dx q S n h' tk it oi kh hx hdx hq hSn hlt hox hod hoq hoS hoi hbn m1 m2 m3 m4 m5 m6 m7 m8 ⟨t1, t2, t3⟩
    have I := inIt_list (prog := prog) (w := w) (base := base) hl hi hbn
    have nm : ∀ {c : Addr}, c ≠ it → c ∉ [it] := fun h z => by
      rcases List.mem_cons.mp z with z | z
      · exact h z
      · cases z
    refine hQ x _ (.of_keep kh) ⟨_, _, _, _, ownIt_ff (Sm := Sm) (n := n) I PB (k0.none_of hx) (k0.none_of hdx) (nm m1) (nm m2) hlt (k0.none_of hq) (k0.none_of hSn) (nm m3) (nm m4) m5 m6 m7 m8, ⟨hod, hox, hoq, hoS, ss, rfl, 0, ⟨oi, hoi, t1, t2⟩, rfl⟩, fun g h => h.elim, fun b hb => ?_⟩
    simp only [List.mem_cons, List.not_mem_nil, or_false] at hb
    rcases hb with rfl | rfl | rfl | rfl | rfl
    all_goals assumption
theorem parents_spec {y : Str} {t : Tok} {xs : List Str} (PB : PW w mg mb base) (k0 : KeepAll base s.heap) (hsz0 : base.objs.size ≤ s.heap.objs.size) (hdp : dp + 5 < 450) (hu : un + 30 ≤ 4500) (hy : y.length ≤ 1000) (hc : AncComes (bare y) xs) (hn : xs.length ≤ 1000)
    (hQ : ∀ x s', Ext [] NoA NoG s s' → Stands w x base s.heap s.gens.size xs.tail s' → Q (.ref x) s') :
    wpAny (model prog w) (Ar dp un fr gd) (PySem.call (.ref 119) [.str y t]) Q E s := by
  have P0 := PB.keepAll k0
  obtain ⟨KX, T⟩ := id P0
  have ho : s.heap.get? 119 = some _ := KX 119 _ (by k_is)
  refine wpAny_call ?_
  refine call_plain (by first | (show dp < recursionLimit; omega) | (show dp < 1000; omega)) ho rfl T.nolimit ?_ rfl ?_ ?_
  · exact ⟨118, _, _, _, rfl, KX 118 _ (by k_is), rfl, rfl⟩
  · exact locs rfl
  clear ho
  intro h₁ F
  have N : News s.heap s.heap.objs.size h₁ [] := News.nil
  k_steps
  have hsz : base.objs.size ≤ h₁.objs.size := Nat.le_trans hsz0 (Nat.le_trans F.above (Nat.le_of_lt F.ns.lt))
  refine ancestry_new (base := base) PB (k0.trans F.keep) hsz (by show dp + 1 < 1000; omega) hy hc fun ag Lg s1 hE hag hLg hG => ?_
  have F1 := Fr.keepAll F hE.keepAll
  have N1 := News.keepAll N hE.keepAll
  have hkF := F.keep
  clear F N
  k_steps
  rename Fr _ _ _ _ => F2
  have hga := hG.1
  have hgL : ∃ o, s1.heap.get? Lg = some o := by
    obtain ⟨_, _, _, _, oL, _, h4, _⟩ := hG
    exact ⟨oL, h4⟩
  refine islice_new (s := { s1 with toks := s1.toks + 1 }) (PW.keepAll P0 F2.keep) hga (by show dp + 1 + 3 < 1000; omega) fun x dx o h' tk kh hx hdx hl hox hI hod => ?_
  have hag' : base.get? ag = none := k0.none_of (KeepAll.none_of hkF hag)
  have hLg' : base.get? Lg = none := k0.none_of (KeepAll.none_of hkF hLg)
  have hx' : base.get? x = none := k0.none_of (KeepAll.none_of F2.keep hx)
  have hdx' : base.get? dx = none := k0.none_of (KeepAll.none_of F2.keep hdx)
  have nm : ∀ {c : Addr}, s1.heap.get? c = none → c ∉ [ag, Lg] := fun {c} e z => by
    rcases List.mem_cons.mp z with rfl | z
    · obtain ⟨o, _, _, ho, _⟩ := hga
      rw [e] at ho; cases ho
    · rcases List.mem_cons.mp z with rfl | z
      · obtain ⟨o, ho⟩ := hgL
        rw [e] at ho; cases ho
      · cases z
  have I := inIt_gen (prog := prog) (w := w) (base := base) (g := s.gens.size) (xs0 := xs) (St := KeepAll base) (fun _ k => k) hag' hLg'
  have hE' : Ext [] NoA NoG s { s1 with heap := h', toks := tk } := by
    have e1 : Ext [] NoA NoG s1 { s1 with heap := h', toks := tk } := .of_keep kh
    exact ((Ext.of_keep (s := s) hkF).trans hE).trans e1
  refine hQ x _ hE' ⟨_, _, _, _, ownIt_isl I PB hx' hdx' (nm hx) (nm hdx) hl, ⟨hod, o, hox, .inr ⟨hI, xs, hn, rfl, ?_⟩⟩, fun g h => by rw [h]; exact Nat.le_refl _, fun b hb => ?_⟩
  · exact hG.keeps (kh _) (kh _) fun _ e => e
  · simp only [List.mem_cons, List.not_mem_nil, or_false] at hb
    rcases hb with rfl | rfl | rfl | rfl
    · exact KeepAll.none_of F2.keep hx
    · exact KeepAll.none_of F2.keep hdx
    · exact KeepAll.none_of hkF hag
    · exact KeepAll.none_of hkF hLg
end
end Mine1
end
section
open PySem PySem.W PyProof.Rows
set_option maxRecDepth 100000
set_option maxHeartbeats 8000000
namespace Mine
def bestOf (kf : Str → Int) : Str → List Str → Str
  | b, [] => b
  | b, y :: ys => if kf y < kf b then bestOf kf y ys else bestOf kf b ys
section
variable {prog : Program} {w : World} {dp un : Nat} {l : List Env} {gd : Option (List Code)} {base : Heap} {x : Addr} {W : Addr → Prop} {V : Nat → Prop} {own : List Addr} {R : List Str → Shared → Prop}
abbrev bestObj (vs : List Value) (c : Nat) : Obj := seqObj "list" vs.toArray c
def KeyOf (prog : Program) (w : World) (dp un : Nat) (l : List Env) (gd : Option (List Code)) (base : Heap) (q : Addr) (kf : Str → Int) (ok : Str → Prop) : Prop :=
  ∀ (s : Shared) y t (Q : Value → Shared → Prop), KeepAll base s.heap → ok y → (∀ t' h' tk, KeepAll s.heap h' → Q (.int (kf y) t') { s with heap := h', toks := tk }) →
    wpAny (model prog w) (Ar dp un (some l) gd) (PySem.call (.ref q) [.str y t]) Q (fun _ _ => False) s
theorem min_name : (toString "min" ++ toString ".loop" : String) = "min.loop" := by decide
theorem min_loop_own (I : OwnIt prog w x base W V own R) {q S : Addr} {kf : Str → Int} {ok : Str → Prop} {Rr : Result → Shared → Prop} (hK : KeyOf prog w dp (un + 1) l gd base q kf ok) (hS : S ∉ own) (hSb : base.get? S = none) (hd : dp ≤ 400) (hu : un + 1 ≤ 4000)
    (hff : ∀ f ∈ l.filterMap (·.frame), f ∉ own ∧ f ≠ S) (hnl : base.NoLimit) :
    ∀ (xs : List Str) (s : Shared) (b : Str) (tb tk : Tok) (c : Nat), KeepAll base s.heap → s.heap.FunFrames base l → R xs s → (∀ y ∈ xs, ok y) → s.heap.get? S = some (bestObj [.str b tb, .int (kf b) tk] c) →
      (∀ s' t, Ext (l.filterMap (·.frame)) (fun b => b = S ∨ W b) V s s' → Rr (.ok (.ret (.str (bestOf kf b xs) t))) s') →
      codeAny (model prog w) (Ar dp un (some l) gd) (.builtin "min.loop" ⟨[.ref x, .ref q, .ref S], []⟩) Rr s := by
  have hSW : ¬ W S := fun h => hS (I.sub S h)
  intro xs
  induction xs with
  | nil =>
    intro s b tb tk c hk hf hR hok hb hQ
    refine codeAny_builtin PySem.F.entry_min_loop ?_
    rw [Around.under_plainId PySem.F.plain_min_loop _]
    show wpAny _ (Ar dp (un + 1) (some l) gd) (seqItems? (.ref S) >>= _) _ _ _
    refine wpAny_bind (wpAny_seqItems hb rfl ?_)
    show wpAny _ _ (tryCatch (pyNext (.ref x)) _ >>= _) _ _ _
    refine wpAny_bind (wpAny_tryCatch (I.nil dp (un + 1) l gd s _ _ hd hu hk (hnl.keeps hk) hf (fun f h => (hff f h).1) hR fun s' hE => ?_))
    have hb' := hE.heap S _ (fun h => (hff S h).2 rfl) hSW hb
    show wpAny _ _ (updateSeq S (fun _ => #[]) >>= _) _ _ _
    refine wpAny_bind ?_
    have upd : Ext [] (fun b => b = S) V s' { s' with heap := s'.heap.update S (Obj.mapSeq fun _ => #[]) } := Ext.of_heap (s := s') (tk := s'.toks) fun b o hw e => by
      rw [Heap.get?_update_other _ _ (Ne.symm hw)]; exact e
    refine wpAny_updateSeq hb' rfl (wpAny_bind (wpAny_letGo (wpAny_pure ?_)))
    exact hQ _ tb ((hE.addW fun b h => .inr h).trans ((upd.addW fun b h => .inl h).mono (fun _ h => nomatch h) (fun _ h => h) fun _ h => h))
  | cons y xs ih =>
    intro s b tb tk c hk hf hR hok hb hQ
    refine codeAny_builtin PySem.F.entry_min_loop ?_
    rw [Around.under_plainId PySem.F.plain_min_loop _]
    show wpAny _ (Ar dp (un + 1) (some l) gd) (seqItems? (.ref S) >>= _) _ _ _
    refine wpAny_bind (wpAny_seqItems hb rfl ?_)
    show wpAny _ _ (tryCatch (pyNext (.ref x)) _ >>= _) _ _ _
    refine wpAny_bind (wpAny_tryCatch (I.cons dp (un + 1) l gd y xs s _ _ hd hu hk (hnl.keeps hk) hf hR fun t s' hE hR' => ?_))
    have hk1 : KeepAll base s'.heap := fun b o e => hE.heap b o (by simp) (fun h => by rw [I.off b (I.sub b h)] at e; cases e) (hk b o e)
    have hb1 := hE.heap S _ (by simp) hSW hb
    show wpAny _ _ (tryCatch (holding [.str y t] (PySem.call (.ref q) [.str y t])) _ >>= _) _ _ _
    refine wpAny_bind (wpAny_tryCatch (wpAny_holding (wpAny_mono (hK s' y t _ hk1 (hok y (.head _)) fun t' h' tk' kh => ?_) (fun _ _ h => h) fun _ _ f => f.elim)))
    have hb2 := kh _ _ hb1
    have hk2 : KeepAll base h' := hk1.trans kh
    have e2 : Ext [] W V s { s' with heap := h', toks := tk' } := hE.trans (.of_keep kh)
    have hR2 : R xs { s' with heap := h', toks := tk' } := I.keeps _ _ _ hR' (fun b _ o e => kh b o e) fun _ _ _ e => e
    have hf2 : h'.FunFrames base l := ff_of hf (fun b hb o e _ => ⟨o, e2.heap b o (by simp) (fun h => (hff b hb).1 (I.sub b h)) e, rfl⟩) fun b hb => (hf.mem hb).1
    show wpAny _ _ (tryCatch (holding [.str y t, .int (kf y) t'] (richCompare .Lt (.int (kf y) t') (.int (kf b) tk) >>= _)) _ >>= _) _ _ _
    refine wpAny_bind (wpAny_tryCatch (wpAny_holding (wpAny_bind (CmpOf.ints_lt (prog := prog) (w := w) (A := Ar dp (un + 1) (some l) gd) (P := fun (i : Nat) v => ∃ t, v = .int (if i = 0 then kf y else kf b) t) (fun i => if i = 0 then kf y else kf b) (fun i v h => h) 0 1 _ _ _ _ _ ⟨t', rfl⟩ ⟨tk, rfl⟩ ?_))))
    refine wpAny_bind (wpAny_holding (wpAny_truthy_bool ?_))
    refine wpAny_bind (wpAny_letGo (wpAny_pure ?_))
    simp only [if_true, Nat.one_ne_zero, if_false]
    by_cases hlt : kf y < kf b
    · have upd : Ext [] (fun b => b = S) V { s' with heap := h', toks := tk' } { s' with heap := h'.update S (Obj.mapSeq fun _ => #[.str y t, .int (kf y) t']), toks := tk' } := Ext.of_heap (s := { s' with heap := h', toks := tk' }) (tk := tk') fun b o hw e => by
        rw [Heap.get?_update_other _ _ (Ne.symm hw)]; exact e
      have e3 := (e2.addW (W' := fun b => b = S ∨ W b) fun b h => .inr h).trans (upd.addW (W' := fun b => b = S ∨ W b) fun b h => .inl h)
      obtain ⟨c2, hc2⟩ : ∃ c2, (h'.update S (Obj.mapSeq fun _ => #[.str y t, .int (kf y) t'])).get? S = some (bestObj [.str y t, .int (kf y) t'] c2) := ⟨_, get?_update_seq hb2 fun _ => #[.str y t, .int (kf y) t']⟩
      simp only [hlt, decide_true, if_true]
      refine wpAny_bind ?_
      refine wpAny_updateSeq hb2 rfl (wpAny_bind (wpAny_letGo ?_))
      rw [min_name]
      refine wpAny_pure ⟨plainId_quiet PySem.F.plain_min_loop _, ih _ y t t' c2 ?_ ?_ ?_ (fun z hz => hok z (.tail _ hz)) hc2 fun s2 t2 hE2 => ?_⟩
      · exact fun b o e => e3.heap b o (by simp) (fun h => by
          rcases h with h | h
          · rw [h, hSb] at e; cases e
          · rw [I.off b (I.sub b h)] at e; cases e) (hk b o e)
      · exact ff_of hf (fun b hb o e _ => ⟨o, e3.heap b o (by simp) (fun h => by
          rcases h with h | h
          · exact (hff b hb).2 h
          · exact (hff b hb).1 (I.sub b h)) e, rfl⟩) fun b hb => (hf.mem hb).1
      · exact I.keeps _ _ _ hR2 (fun b hb o e => by
          show (h'.update S _).get? b = _
          rw [Heap.get?_update_other _ _ (fun h => hS (by rw [h]; exact hb))]; exact e) fun _ _ _ e => e
      · have := hQ s2 t2 ((e3.mono (fun _ h => nomatch h) (fun _ h => h) fun _ h => h).trans hE2)
        rw [bestOf, if_pos hlt] at this
        exact this
    · simp only [hlt, decide_false, Bool.false_eq_true, if_false]
      refine wpAny_bind (wpAny_letGo ?_)
      rw [min_name]
      refine wpAny_pure ⟨plainId_quiet PySem.F.plain_min_loop _, ih _ b tb tk c hk2 hf2 hR2 (fun z hz => hok z (.tail _ hz)) hb2 fun s2 t2 hE2 => ?_⟩
      have := hQ s2 t2 (((e2.addW fun b h => .inr h).mono (fun _ h => nomatch h) (fun _ h => h) fun _ h => h).trans hE2)
      rw [bestOf, if_neg hlt] at this
      exact this
theorem call_min_own (I : OwnIt prog w x base W V own R) {q : Addr} {kf : Str → Int} {ok : Str → Prop} {Q : Value → Shared → Prop} {E : Value → Shared → Prop} {y : Str} {xs : List Str} {s : Shared} (hK : ∀ u, u ≤ un + 3 → KeyOf prog w dp u l gd base q kf ok) (hd : dp ≤ 400) (hu : un + 4 ≤ 4000)
    (hff : ∀ f ∈ l.filterMap (·.frame), f ∉ own) (hnl : base.NoLimit) (hk : KeepAll base s.heap) (hf : s.heap.FunFrames base l) (hR : R (y :: xs) s) (hok : ∀ z ∈ y :: xs, ok z)
    (hQ : ∀ s' t, Ext (l.filterMap (·.frame)) W V s s' → Q (.str (bestOf kf y xs) t) s') :
    wpAny (model prog w) (Ar dp un (some l) gd) (PySem.call (.builtin "min") [.ref x] [(Str.ofString "key", .ref q)]) Q E s := by
  refine kmk_tree PySem.F.kind_min PySem.F.plain_min PySem.F.entry_min (kmk_min_key _ _) ?_
  show wpAny _ (Ar dp (un + 1) (some l) gd) (Builtin.Builtins.bindParams "min" ["key", "default"] 0 ⟨[], [(Str.ofString "key", .ref q)]⟩ >>= _) _ _ s
  refine wpAny_bind (wpAny_of_eq (show Builtin.Builtins.bindParams "min" ["key", "default"] 0 ⟨[], [(Str.ofString "key", .ref q)]⟩ = pure [some (.ref q), none] from rfl) ?_)
  refine wpAny_bind (wpAny_pure ?_)
  refine wpAny_bind (I.iter dp (un + 1) l gd _ s _ _ hd (by omega) hk (hnl.keeps hk) hR fun s1 hE1 hR1 => ?_)
  refine wpAny_bind (wpAny_newList ?_ (Nat.zero_le _))
  rw [min_name]
  have hk1 : KeepAll base s1.heap := hk.trans hE1.keepAll
  have kp : KeepAll s1.heap (s1.heap.push (seqObj "list" #[] 0)) := fun b o e => Heap.get?_push_of_some _ e
  have gS : (s1.heap.push (seqObj "list" #[] 0)).get? s1.heap.objs.size = some (seqObj "list" #[] 0) := Heap.get?_push_size _ rfl
  have hSn : s1.heap.get? s1.heap.objs.size = none := get?_size_none _ (Nat.le_refl _)
  have hSo : s1.heap.objs.size ∉ own := fun h => by
    obtain ⟨o, ho⟩ := I.there _ _ hR1 _ h
    exact Nat.lt_irrefl _ (Heap.lt_size ho)
  have hSb : base.get? s1.heap.objs.size = none := hk1.none_of hSn
  have hSW : ¬ W s1.heap.objs.size := fun h => hSo (I.sub _ h)
  have hf1 : s1.heap.FunFrames base l := ff_of hf (fun b _ o e _ => ⟨o, hE1.keepAll b o e, rfl⟩) fun b hb => (hf.mem hb).1
  have hffS : ∀ f ∈ l.filterMap (·.frame), f ∉ own ∧ f ≠ s1.heap.objs.size := fun f h => ⟨hff f h, fun e => by
    obtain ⟨_, o, ho, _⟩ := hf1.mem h
    rw [e, hSn] at ho; cases ho⟩
  refine wpAny_pure ⟨plainId_quiet PySem.F.plain_min_loop _, ?_⟩
  refine codeAny_builtin PySem.F.entry_min_loop ?_
  rw [Around.under_plainId PySem.F.plain_min_loop _]
  show wpAny _ (Ar dp (un + 1) (some l) gd) (seqItems? (.ref _) >>= _) _ _ _
  refine wpAny_bind (wpAny_seqItems gS rfl ?_)
  show wpAny _ _ (tryCatch (pyNext (.ref x)) _ >>= _) _ _ _
  have hR2 : R (y :: xs) { s1 with heap := s1.heap.push (seqObj "list" #[] 0) } := I.keeps _ _ _ hR1 (fun b _ o e => kp b o e) fun _ _ _ e => e
  have hk2 := hk1.trans kp
  have hf2 : (s1.heap.push (seqObj "list" #[] 0)).FunFrames base l := ff_of hf1 (fun b _ o e _ => ⟨o, kp b o e, rfl⟩) fun b hb => (hf.mem hb).1
  refine wpAny_bind (wpAny_tryCatch (I.cons dp (un + 1) l gd y xs _ _ _ hd (by omega) hk2 (hnl.keeps hk2) hf2 hR2 fun t s' hE hR' => ?_))
  have hk3 : KeepAll base s'.heap := fun b o e => hE.heap b o (by simp) (fun h => by rw [I.off b (I.sub b h)] at e; cases e) (hk2 b o e)
  have hb1 := hE.heap _ _ (by simp) hSW gS
  show wpAny _ _ (tryCatch (holding [.str y t] (PySem.call (.ref q) [.str y t])) _ >>= _) _ _ _
  refine wpAny_bind (wpAny_tryCatch (wpAny_holding (wpAny_mono (hK (un + 1) (by omega) s' y t _ hk3 (hok y (.head _)) fun t' h' tk' kh => ?_) (fun _ _ h => h) fun _ _ f => f.elim)))
  have hb2 := kh _ _ hb1
  have e1 : Ext [] W V s { s1 with heap := s1.heap.push (seqObj "list" #[] 0) } := ((hE1.trans (Ext.of_keep (tk := s1.toks) kp)).mono (fun _ h => h) (fun _ h => h.elim) fun _ h => h.elim)
  have e2 : Ext [] W V s { s' with heap := h', toks := tk' } := (e1.trans hE).trans (.of_keep kh)
  have upd : Ext [] (fun b => b = s1.heap.objs.size) V { s' with heap := h', toks := tk' } { s' with heap := h'.update s1.heap.objs.size (Obj.mapSeq fun _ => #[.str y t, .int (kf y) t']), toks := tk' } := Ext.of_heap (s := { s' with heap := h', toks := tk' }) (tk := tk') fun b o hw e => by
    rw [Heap.get?_update_other _ _ (Ne.symm hw)]; exact e
  obtain ⟨c2, hc2⟩ : ∃ c2, (h'.update s1.heap.objs.size (Obj.mapSeq fun _ => #[.str y t, .int (kf y) t'])).get? s1.heap.objs.size = some (bestObj [.str y t, .int (kf y) t'] c2) := ⟨_, get?_update_seq hb2 fun _ => #[.str y t, .int (kf y) t']⟩
  have e3 := (e2.addW (W' := fun b => b = s1.heap.objs.size ∨ W b) fun b h => .inr h).trans (upd.addW (W' := fun b => b = s1.heap.objs.size ∨ W b) fun b h => .inl h)
  have hs0 : s.heap.get? s1.heap.objs.size = none := hE1.keepAll.none_of hSn
  show wpAny _ _ (updateSeq s1.heap.objs.size (fun _ => #[.str y t, .int (kf y) t']) >>= _) _ _ _
  refine wpAny_bind ?_
  refine wpAny_updateSeq hb2 rfl ?_
  rw [min_name]
  refine wpAny_pure ⟨plainId_quiet PySem.F.plain_min_loop _, min_loop_own I (hK _ (by omega)) hSo hSb hd (by omega) hffS hnl xs _ y t t' c2 ?_ ?_ ?_ (fun z hz => hok z (.tail _ hz)) hc2 fun s2 t2 hE2 => ?_⟩
  · exact fun b o e => e3.heap b o (by simp) (fun h => by
      rcases h with h | h
      · rw [h, hSb] at e; cases e
      · rw [I.off b (I.sub b h)] at e; cases e) (hk b o e)
  · exact ff_of hf (fun b hb o e _ => ⟨o, e3.heap b o (by simp) (fun h => by
      rcases h with h | h
      · exact (hffS b hb).2 h
      · exact (hffS b hb).1 (I.sub b h)) e, rfl⟩) fun b hb => (hf.mem hb).1
  · exact I.keeps _ _ _ hR' (fun b hb o e => by
      show (h'.update _ _).get? b = _
      rw [Heap.get?_update_other _ _ (fun h => hSo (by rw [h]; exact hb))]; exact kh b o e) fun _ _ _ e => e
  · refine hQ s2 t2 (Ext.fresh (Ext.refl _ _ _ _) ((e3.mono (fun _ h => nomatch h) (fun _ h => h) fun _ h => h).trans hE2) fun b h => ?_)
    rcases h with h | h
    · exact .inl (by rw [h]; exact hs0)
    · exact .inr h
end
end Mine
end
section
open PySem PySem.W PyProof.Rows PySem.Builtin PySem.Builtin.ObjectAttr
set_option maxRecDepth 100000
set_option maxHeartbeats 8000000
namespace Mine
theorem typeCall_dict_0 : checkTypeCall "dict" ⟨[], []⟩ = pure () := by kernel_rfl
theorem newCall_dict_0 : checkBuiltinCall "dict.__new__" ⟨[.type "dict"], []⟩ = pure () := by kernel_rfl
theorem args_dict_init_1' (a : Value) : argsOk "dict.__init__" ⟨[a], []⟩ := by unfold argsOk; kernel_rfl
theorem check_fromkeys (v : Value) : checkBoundCall "dict.fromkeys" ⟨[.type "dict", v], []⟩ = pure () := by kernel_rfl
theorem entry_fromkeys : entryFor table "dict.fromkeys" = some Builtin.«dict.fromkeys» := entryFor_of_tree (by kernel_rfl)
theorem entry_fromkeys_loop : entryFor table "dict.fromkeys.loop" = some Builtin.«dict.fromkeys.loop» := entryFor_of_tree (by kernel_rfl)
theorem plain_fromkeys_loop : plainId "dict.fromkeys.loop" = true := by decide +kernel
theorem sub_dict_dict : isSubtype (.type "dict") (.type "dict") = pure true := by rw [isSubtype_type]; kernel_rfl
abbrev dedupeObj : Obj := { cls := .type "builtin_function_or_method", data := .fields #[.builtin "dict.fromkeys", .type "dict"] }
section
variable {K : Type} [DecidableEq K]
def keyed (xs : List K) : List (K × Value) := xs.foldl (fun kvs x => stored kvs x .none) []
theorem keyed_take_succ (xs : List K) {i : Nat} (h : i < xs.length) : keyed (xs.take (i + 1)) = stored (keyed (xs.take i)) xs[i] .none := by
  unfold keyed
  rw [List.take_succ_eq_append_getElem h, List.foldl_append]; rfl
theorem keyed_len (xs : List K) : (keyed xs).length ≤ xs.length := by
  unfold keyed
  suffices ∀ acc : List (K × Value), (xs.foldl (fun kvs x => stored kvs x .none) acc).length ≤ acc.length + xs.length by simpa using this []
  induction xs with
  | nil => intro acc; simp
  | cons x xs ih =>
    intro acc
    rw [List.foldl_cons, List.length_cons]
    have := ih (stored acc x .none)
    have := stored_length_le acc x (.none : Value)
    omega
end
section
variable {prog : Program} {w : World} {K : Type} [DecidableEq K] {knd : KeyKind prog w K} {A : Around} {E : Value → Shared → Prop} {s : Shared}
theorem code_dict_new_0 {Q₁ : Value → Shared → Prop} (h : Q₁ (.ref s.heap.objs.size) { s with heap := s.heap.push { cls := .type "dict", data := .dict #[] } }) :
    codeAny (model prog w) A (.call (.builtin "dict.__new__") ⟨[.type "dict"], []⟩) (wants Q₁ E) s := by
  refine codeAny_call_builtin F.kt_plain_dict_new F.kt_entry_dict_new (wpAny_of_eq newCall_dict_0 ?_)
  have hsub := F.kt_sub_dict
  have hmro := F.kt_mro_dict
  obtain ⟨hp, g, d, tk, os⟩ := s
  unfold Builtin.«dict.__new__»
  wp_walk
  exact h
theorem call_dict_0 {Q : Value → Shared → Prop} (h : Q (.ref s.heap.objs.size) { s with heap := s.heap.push { cls := .type "dict", data := .dict #[] } }) :
    wpAny (model prog w) A (PySem.call (.type "dict") []) Q E s := by
  refine callType_codes (Q₁ := fun obj s₁ => obj = .ref s.heap.objs.size ∧ s₁ = { s with heap := s.heap.push { cls := .type "dict", data := .dict #[] } }) F.kt_called_dict typeCall_dict_0 F.entry_dict_init (code_dict_new_0 ⟨rfl, rfl⟩) ?_
  rintro obj s₁ ⟨rfl, rfl⟩
  have hnew : (s.heap.push { cls := .type "dict", data := .dict #[] }).DictOf (strKind prog w) s.heap.objs.size [] := Heap.DictOf.new s.heap
  refine ⟨hnew.typeIs, args_dict_init_1' _, ?_⟩
  unfold Builtin.«dict.__init__»
  refine wpAny_bind ?_
  unfold Builtin.Dict.selfAndRest
  refine wpAny_bind (wpAny_notOrdered_dict hnew.typeIs ?_)
  show wpAny _ _ (pure (s.heap.objs.size, [])) _ _ _
  refine wpAny_pure ?_
  show wpAny _ _ (Builtin.Dict.addKeywords s.heap.objs.size [] >>= _) _ _ _
  exact wpAny_bind (wpAny_pure (wpAny_pure ⟨rfl, h⟩))
theorem fromkeys_loop {R : Result → Shared → Prop} {I : Addr} {fp wr : List Addr} {G : Array GenState → Array GenState → Prop} {P : Nat → Value → Prop} {St : Nat → Shared → Prop} {xs : List K}
    (W : WalksS prog w A.in1 I fp wr G xs.length P St) (D : Addr) (hDf : D ∉ fp) (hval : ∀ i v, P i v → ∃ h : i < xs.length, knd.is xs[i] v = true) (hb : xs.length ≤ 1000) :
    ∀ (k i : Nat) (s : Shared), xs.length - i = k → i ≤ xs.length → St i s → s.heap.DictOf knd D (keyed (xs.take i)) →
      (∀ s', Moved (D :: wr) G s s' → s'.heap.DictOf knd D (keyed xs) → R (.ok (.ret (.ref D))) s') →
      codeAny (model prog w) A (.builtin "dict.fromkeys.loop" ⟨[.ref D, .ref I, .none], []⟩) R s := by
  have hDw : D ∉ wr := fun h => hDf (W.sub _ h)
  have hsub : ∀ b ∈ wr, b ∈ D :: wr := fun b hb => List.mem_cons_of_mem _ hb
  have still : ∀ {s s' : Shared} {kvs}, Moved wr G s s' → s.heap.DictOf knd D kvs → s'.heap.DictOf knd D kvs := fun hm ⟨o, es, ep, ho, rest⟩ => ⟨o, es, ep, hm.heap D _ hDw ho, rest⟩
  intro k
  induction k with
  | zero =>
    intro i s hk hi hst hD hR
    obtain rfl : i = xs.length := by omega
    refine codeAny_builtin entry_fromkeys_loop ?_
    rw [Around.under_plainId plain_fromkeys_loop _]
    show wpAny _ A.in1 (pyNext (.ref I) >>= _) _ _ s
    refine wpAny_bind (W.done s _ _ hst fun s' hm => ?_)
    show wpAny _ A.in1 (ret (.ref D)) _ _ s'
    rw [List.take_length] at hD
    exact wpAny_pure (hR s' (hm.mono hsub) (still hm hD))
  | succ k ih =>
    intro i s hk hi hst hD hR
    have hlt : i < xs.length := by omega
    refine codeAny_builtin entry_fromkeys_loop ?_
    rw [Around.under_plainId plain_fromkeys_loop _]
    show wpAny _ A.in1 (pyNext (.ref I) >>= _) _ _ s
    refine wpAny_bind (W.item i s _ _ hlt hst fun v s' hP hst' hm => ?_)
    obtain ⟨_, hv⟩ := hval i v hP
    have hD' := still hm hD
    show wpAny _ A.in1 (typeOf (.ref D) >>= _) _ _ s'
    refine wpAny_bind (wpAny_typeOf hD'.typeIs ?_)
    rw [if_pos (by decide)]
    refine wpAny_bind (wpAny_pure ?_)
    refine wpAny_bind (wpAny_holding ?_)
    have hsz : (keyed (xs.take i)).length ≤ sizeLine := Nat.le_trans (keyed_len _) (by rw [List.length_take, sizeLine_eq]; omega)
    refine wpAny_dictSet_pairs hv hD' (fun h' hd2 hsb => ?_) hsz
    rw [← keyed_take_succ xs hlt] at hd2
    refine wpAny_pure ⟨plainId_quiet plain_fromkeys_loop _, ih (i + 1) _ (by omega) hlt (W.frame _ s' _ _ hst' (Nat.le_succ _) fun b hb o e => ?_) hd2 fun s'' hm'' hS'' => ?_⟩
    · rw [hsb.2 b (fun h : b = D => hDf (by rw [← h]; exact hb))]; exact e
    · refine hR s'' (Moved.trans W.gtrans ((hm.mono hsub).then_heap (Nat.le_succ _) fun b o hb e => ?_) hm'') hS''
      rw [hsb.2 b (fun h : b = D => hb (by rw [h]; exact List.mem_cons_self))]; exact e
end
end Mine
end
section
open PySem PySem.W PyProof.Rows PySem.Builtin PySem.Builtin.ObjectAttr
set_option maxRecDepth 100000
set_option maxHeartbeats 8000000
namespace Mine
section
variable {prog : Program} {w : World} {K : Type} [DecidableEq K] {knd : KeyKind prog w K} {A : Around} {E : Value → Shared → Prop} {s : Shared}
theorem call_dedupe {q l : Addr} {items : Array Value} {xs : List K} {Q : Value → Shared → Prop} (hq : s.heap.get? q = some dedupeObj) (hh : A.handled = none) (hl : s.heap.IsList l items) (hlen : items.size = xs.length)
    (hval : ∀ i v, items[i]? = some v → ∃ h : i < xs.length, knd.is xs[i] v = true) (hb : xs.length ≤ 1000)
    (h : ∀ D h' tk, h'.DictOf knd D (keyed xs) → s.heap.get? D = none → KeepAll s.heap h' → (∀ b o, s.heap.get? b = some o → b < D) → Q (.ref D) { s with heap := h', toks := tk }) : wpAny (model prog w) A (PySem.call (.ref q) [.ref l]) Q E s := by
  obtain ⟨ol, hol, hcl, nl, hdl⟩ := id hl
  obtain ⟨hhp, g, dr, tk, os⟩ := s
  refine wpAny_call (codeAny_of_tree ?_)
  show wpAny _ _ (callAny (.ref q) _) _ _ _
  dsimp only at hq
  refine nd_load hq ?_
  refine wpAny_bind (wpAny_pure ?_)
  dsimp only
  rw [if_pos (by decide +kernel)]
  simp only [List.getElem?_toArray, List.getElem?_cons_zero, List.getElem?_cons_succ]
  rw [if_pos (by decide +kernel)]
  refine wpAny_bind (wpAny_of_eq (a := ()) (check_fromkeys _) ?_)
  refine wpAny_pure ⟨plainId_quiet (by decide +kernel) _, codeAny_builtin entry_fromkeys ?_⟩
  rw [Around.under_plainId (by decide +kernel) _]
  have h1 := sub_dict_dict
  unfold Builtin.«dict.fromkeys»
  refine wpAny_bind (wpAny_of_eq (a := true) rfl ?_)
  rw [if_neg (by decide)]
  refine wpAny_bind (wpAny_of_eq (a := true) h1 ?_)
  rw [if_neg (by decide)]
  rw [if_neg (show ¬ ((!(([] : List (Str × Value)).isEmpty)) = true) from by decide)]
  refine wpAny_bind (wpAny_rule (wpAny_bind (wpAny_pure ?_)))
  refine wpAny_bind (call_dict_0 ?_)
  refine wpAny_holding ?_
  have hol' : (hhp.push { cls := .type "dict", data := .dict #[] }).get? l = some ol := Heap.get?_push_of_some _ hol
  have hD0 : (hhp.push { cls := .type "dict", data := .dict #[] }).DictOf knd hhp.objs.size [] := Heap.DictOf.new hhp
  refine wpAny_bind (wpAny_typeOf (T := "list") ⟨ol, hol', hcl⟩ ?_)
  refine wpAny_bind (wpAny_typeOf (T := "dict") ⟨_, Heap.get?_push_size _ rfl, rfl⟩ ?_)
  rw [if_neg (by decide)]
  refine wpAny_bind (wpAny_typeOf (T := "dict") ⟨_, Heap.get?_push_size _ rfl, rfl⟩ ?_)
  rw [if_neg (by decide)]
  have hl1 : (hhp.push { cls := .type "dict", data := .dict #[] }).IsList l items := ⟨ol, hol', hcl, nl, hdl⟩
  have hlS : l < hhp.objs.size := Heap.lt_size hol
  have hneI : l ≠ (hhp.push { cls := .type "dict", data := .dict #[] }).objs.size := by
    rw [Heap.size_push]; exact Nat.ne_of_lt (Nat.lt_succ_of_lt hlS)
  refine wpAny_bind (wpAny_pyIter_list hl1 ?_)
  have W := (Walks.list (prog := prog) (w := w) (A := A.in1) (by simp [hh]) (hhp.push { cls := .type "dict", data := .dict #[] }).objs.size l hneI items).toS
  rw [hlen] at W
  have hSf : hhp.objs.size ∉ [(hhp.push { cls := .type "dict", data := .dict #[] }).objs.size, l] := by
    rw [Heap.size_push]; simp only [List.mem_cons, List.not_mem_nil, or_false, not_or]
    exact ⟨Nat.ne_of_lt (Nat.lt_succ_self _), Nat.ne_of_gt hlS⟩
  refine wpAny_pure ⟨plainId_quiet plain_fromkeys_loop _, fromkeys_loop W hhp.objs.size hSf hval hb (xs.length - 0) 0 _ (by omega) (Nat.zero_le _) ⟨⟨_, Heap.get?_push_size _ rfl, rfl, rfl⟩, (hl1.push _)⟩ (hD0.push _) fun s' hm hD => ?_⟩
  obtain ⟨h', g', d', tk', os'⟩ := s'
  have eg : g' = g := hm.gens
  have ed : d' = dr := hm.drawn
  have eo : os' = os := hm.os
  subst eg; subst ed; subst eo
  refine h hhp.objs.size h' tk' hD (get?_size_none _ (Nat.le_refl _)) (fun b o e => ?_) fun b o e => Heap.lt_size e
  have hlt := Heap.lt_size e
  refine hm.heap b o ?_ (Heap.get?_push_of_some _ (Heap.get?_push_of_some _ e))
  rw [Heap.size_push]
  simp only [List.mem_cons, List.not_mem_nil, or_false, not_or]
  exact ⟨Nat.ne_of_lt hlt, Nat.ne_of_lt (Nat.lt_succ_of_lt hlt)⟩
end
end Mine
end
section
open PySem PySem.W PyProof.Rows PySem.Calls
set_option maxRecDepth 100000
set_option maxHeartbeats 8000000
set_option linter.unusedVariables false
namespace Mine
section
variable {prog : Program} {w : World} {A : Around} {E : Value → Shared → Prop} {s : Shared}
abbrev DicR {prog : Program} {w : World} {K : Type} [DecidableEq K] (knd : KeyKind prog w K) (d it : Addr) (kvs : List (K × Value)) (ep : Nat) {α : Type} (xs : List α) (ys : List α) (s : Shared) : Prop := ∃ i, i ≤ kvs.length ∧ (s.heap.IsKeyIter it d i kvs.length ep ∧ s.heap.DictAt knd d kvs ep) ∧ ys = xs.drop i
theorem it_dict {K : Type} [DecidableEq K] {knd : KeyKind prog w K} {kvs : List (K × Value)} {ep : Nat} (hh : A.handled = none) (it d : Addr) (hne : d ≠ it) (OK : Heap → Prop) (S : List Addr) :
    It prog w A (fun (k : K) v => knd.is k v = true) it OK S (fun b => b ∈ [it]) NoG [it, d] (DicR knd d it kvs ep (kvs.map (·.1))) :=
  It.of_walks (Walks.dictKeys hh it d hne kvs ep) (by simp) fun i y v hy ⟨k, x, hk, hv⟩ => by
    rw [List.getElem?_map, hk] at hy
    cases hy; exact hv
theorem dict_src {K : Type} [DecidableEq K] {knd : KeyKind prog w K} {d : Addr} {kvs : List (K × Value)} {Q : Value → Shared → Prop} (lo : (d == sysModules) = false) (hd : s.heap.DictOf knd d kvs)
    (hQ : ∀ (s₂ : Shared) it o ep, it = s.heap.objs.size → KeepAll s.heap s₂.heap → s₂.gens = s.gens → s₂.os = s.os → s.heap.get? it = none → s₂.heap.get? it = some o → o.cls = .type "dict_keyiterator" → d ≠ it → DicR knd d it kvs ep (kvs.map (·.1)) (kvs.map (·.1)) s₂ → Q (.ref it) s₂) :
    wpAny (model prog w) A (pyIter (.ref d)) Q E s := by
  obtain ⟨ep, hat⟩ := hd.dictAt
  refine wpAny_pyIter_dict lo hat (hQ { s with heap := s.heap.push _ } _ _ ep rfl (fun b o e => Heap.get?_push_of_some _ e) rfl rfl (get?_size_none _ (Nat.le_refl _)) (Heap.get?_push_size _ rfl) rfl (Nat.ne_of_lt hat.lt_size) ⟨0, Nat.zero_le _, ⟨⟨_, Heap.get?_push_size _ rfl, rfl, rfl⟩, hat.push _⟩, rfl⟩)
theorem ff_base {h B B' : Heap} {l : List Env} (f : h.FunFrames B l) (n : ∀ b ∈ frs l, B'.get? b = none) : h.FunFrames B' l := ff_of f (fun b _ o e _ => ⟨o, e, rfl⟩) n
end
theorem okl_hide {base h : Heap} {l : List Env} {X : List Addr} (o : OkL base l h) (hX : ∀ b ∈ frs l, b ∈ X) : OkL (hide X h) l h := ⟨hide_keep _ _, ff_base o.2 fun b hb => hide_none (hX b hb)⟩
theorem OkL.up {base h h' : Heap} {l : List Env} (o : OkL base l h) (k : KeepAll h h') : OkL base l h' := ⟨o.1.trans k, ff_of o.2 (fun b _ ob e _ => ⟨ob, k b ob e, rfl⟩) fun b hb => (o.2.mem hb).1⟩
theorem fills_list_iadd : fillsInplaceSlot (.type "list") "add" (Operator.Add == .Add) = pure false := by
  unfold fillsInplaceSlot
  show (typeLookup (.type "list") (dunderI "add") >>= fun fi => pure (fi.isSome && !isSeqSlot fi)) = pure false
  rw [PySem.F.slot_list_iadd.lookup]
  first | rfl | kernel_rfl
theorem seq_list_iadd : seqSlot? (.type "list") (dunderI "add") = pure (some (.builtin "list.__iadd__")) := by
  unfold seqSlot?
  show (typeLookup (.type "list") (dunderI "add") >>= _) = _
  rw [PySem.F.slot_list_iadd.lookup]
  first | rfl | kernel_rfl
section
variable {prog : Program} {w : World} {A : Around} {E : Value → Shared → Prop} {s : Shared}
theorem iadd_lists {l b : Addr} {vs ws : List Value} {c d : Nat} {Q : Value → Shared → Prop} (hl : s.heap.get? l = some (listObj vs c)) (hb : s.heap.get? b = some (listObj ws d)) (hsz : vs.length + ws.length ≤ 1000000)
    (h : ∀ h' c', h'.get? l = some (listObj (vs ++ ws) c') → Heap.SameBut l s.heap h' → Q (.ref l) { s with heap := h' }) : wpAny (model prog w) A (inplaceOp .Add (.ref l) (.ref b)) Q E s := by
  have hTl : s.TypeIs (.ref l) "list" := ⟨_, hl, rfl⟩
  have hTb : s.TypeIs (.ref b) "list" := ⟨_, hb, rfl⟩
  unfold inplaceOp
  refine wpAny_holding ?_
  refine wpAny_bind (wpAny_typeOf hTl (wpAny_bind (wpAny_of_eq fills_list_iadd ?_)))
  show wpAny _ A (if false = true then _ else _) Q E s
  rw [if_neg Bool.false_ne_true]
  refine wpAny_bind (binaryOp1_none (nm := "add") hTl hTb noFill_list_add ?_)
  refine wpAny_bind (wpAny_of_eq seq_list_iadd ?_)
  refine wpAny_bind (wpAny_rule ?_)
  refine call_meets F.slot_list_iadd hTl F.entry_list_iadd (F.args_list_iadd_2 _ _) (AutoSeq1.list___iadd___list_list_0 l vs.toArray c b ws.toArray d ?_ ?_ ?_) ⟨hl, hb, ?_⟩
  · have e : Builtin.List.listTooLong (vs.toArray.size + ws.toArray.size) = false := by
      unfold Builtin.List.listTooLong
      rw [sizeLine_eq]; simp; omega
    rw [e, Bool.and_false]
    exact Bool.false_ne_true
  · rw [sizeLine_eq]; simp; omega
  · rw [sizeLine_eq]; simp; omega
  · refine h _ (if ws = [] then c else c + 1) ?_ (Heap.SameBut.update ..)
    have hobj : Obj.mapSeq (fun x => x ++ ws.toArray) (listObj vs c) = listObj (vs ++ ws) (if ws = [] then c else c + 1) := by
      simp [Obj.mapSeq, listObj]
    rw [← hobj]
    exact Heap.get?_update_self _ hl rfl
end
theorem ints_paired_nat : ∀ {xs : List Nat} {vs : List Value}, IntsAre vs (xs.map Int.ofNat) → Paired (fun (k : Nat) v => ∃ t, v = Value.int (k : Int) t) xs vs
  | [], _, .nil => .nil
  | _ :: _, _, .cons _ t h => .cons ⟨t, rfl⟩ (ints_paired_nat h)
end Mine
end
section
open PySem PySem.W PyProof.Rows PyProof.V
set_option maxRecDepth 100000
set_option maxHeartbeats 8000000
set_option linter.unusedVariables false
namespace Mine
def pnum (y : Str) : Int := (y.length : Int) - ((Txt.rstripChars y (Str.ofString ".")).length : Int) - 1
theorem stored_keys {K : Type} [DecidableEq K] (kvs : List (K × Value)) (k : K) (v : Value) : (stored kvs k v).map (·.1) = if k ∈ kvs.map (·.1) then kvs.map (·.1) else kvs.map (·.1) ++ [k] := by
  unfold stored
  by_cases h : k ∈ kvs.map (·.1)
  · have h' : (kvs.any fun kv => decide (kv.1 = k)) = true := by
      obtain ⟨kv, h1, h2⟩ := List.mem_map.mp h
      exact List.any_eq_true.mpr ⟨kv, h1, by simp [h2]⟩
    rw [if_pos h, if_pos h', List.map_map]
    refine List.map_congr_left fun kv _ => ?_
    simp only [Function.comp]
    split <;> rfl
  · have h' : ¬ (kvs.any fun kv => decide (kv.1 = k)) = true := fun q => by
      obtain ⟨kv, h1, h2⟩ := List.any_eq_true.mp q
      exact h (List.mem_map.mpr ⟨kv, h1, of_decide_eq_true h2⟩)
    rw [if_neg h, if_neg h']
    simp
theorem keyed_all {K : Type} [DecidableEq K] : ∀ (xs : List K) (acc : List (K × Value)), (acc.map (·.1)).Nodup →
    ((xs.foldl (fun kvs x => stored kvs x Value.none) acc).map (·.1)).Nodup ∧ ∀ k, k ∈ (xs.foldl (fun kvs x => stored kvs x Value.none) acc).map (·.1) ↔ k ∈ acc.map (·.1) ∨ k ∈ xs
  | [], acc, h => ⟨h, fun k => by simp⟩
  | x :: xs, acc, h => by
    rw [List.foldl_cons]
    have hk := stored_keys acc x Value.none
    have hn : ((stored acc x Value.none).map (·.1)).Nodup := by
      rw [hk]
      split
      · exact h
      · rename_i hx
        exact List.nodup_append.mpr ⟨h, by simp, fun a ha b hb e => by
          rw [List.mem_singleton] at hb
          exact hx (hb ▸ e ▸ ha)⟩
    obtain ⟨h1, h2⟩ := keyed_all xs _ hn
    refine ⟨h1, fun k => ?_⟩
    rw [h2 k, hk, List.mem_cons]
    by_cases hx : x ∈ acc.map (·.1)
    · rw [if_pos hx]
      constructor
      · rintro (h | h)
        · exact .inl h
        · exact .inr (.inr h)
      · rintro (h | rfl | h)
        · exact .inl h
        · exact .inl hx
        · exact .inr h
    · rw [if_neg hx, List.mem_append, List.mem_singleton]
      constructor
      · rintro ((h | h) | h)
        · exact .inl h
        · exact .inr (.inl h)
        · exact .inr (.inr h)
      · rintro (h | h | h)
        · exact .inl (.inl h)
        · exact .inl (.inr h)
        · exact .inr h
theorem keyed_mem {K : Type} [DecidableEq K] (xs : List K) (k : K) : k ∈ (keyed xs).map (·.1) ↔ k ∈ xs := by
  have := (keyed_all xs [] List.nodup_nil).2 k
  simpa [keyed] using this
theorem keyed_nodup {K : Type} [DecidableEq K] (xs : List K) : ((keyed xs).map (·.1)).Nodup := (keyed_all xs [] List.nodup_nil).1
theorem bestOf_spec (kf : Str → Int) : ∀ (ys : List Str) (y : Str), (bestOf kf y ys) ∈ y :: ys ∧ ∀ z ∈ y :: ys, kf (bestOf kf y ys) ≤ kf z
  | [], y => ⟨.head _, fun z hz => by rw [List.mem_singleton.mp hz]; exact Int.le_refl _⟩
  | x :: ys, y => by
    show (if kf x < kf y then bestOf kf x ys else bestOf kf y ys) ∈ _ ∧ ∀ z ∈ _, kf (if kf x < kf y then bestOf kf x ys else bestOf kf y ys) ≤ kf z
    split
    · rename_i h
      obtain ⟨h1, h2⟩ := bestOf_spec kf ys x
      refine ⟨.tail _ h1, fun z hz => ?_⟩
      rcases List.mem_cons.mp hz with rfl | hz
      · have := h2 x (.head _); omega
      · exact h2 z hz
    · rename_i h
      obtain ⟨h1, h2⟩ := bestOf_spec kf ys y
      refine ⟨?_, fun z hz => ?_⟩
      · rcases List.mem_cons.mp h1 with e | e
        · rw [e]; exact .head _
        · exact .tail _ (.tail _ e)
      · rcases List.mem_cons.mp hz with rfl | hz
        · exact h2 _ (.head _)
        · rcases List.mem_cons.mp hz with rfl | hz
          · have := h2 y (.head _); omega
          · exact h2 z (.tail _ hz)
structure Canon (nr : List Int) (l : List Nat) : Prop where
  sorted : nr.Pairwise (· ≤ ·)
  nd : nr.Nodup
  mem : ∀ x : Int, x ∈ nr ↔ ∃ q ∈ l, x = (q : Int)
theorem lt_ext : ∀ {a b : List Int}, a.Pairwise (· < ·) → b.Pairwise (· < ·) → (∀ x, x ∈ a ↔ x ∈ b) → a = b
  | [], [], _, _, _ => rfl
  | [], y :: b, _, _, h => absurd ((h y).mpr (.head _)) (by simp)
  | x :: a, [], _, _, h => absurd ((h x).mp (.head _)) (by simp)
  | x :: a, y :: b, ha, hb, h => by
    rw [List.pairwise_cons] at ha hb
    have hxy : x = y := by
      have h1 := (h x).mp (.head _)
      have h2 := (h y).mpr (.head _)
      rcases List.mem_cons.mp h1 with e | e
      · exact e
      · rcases List.mem_cons.mp h2 with e' | e'
        · exact e'.symm
        · have := hb.1 x e
          have := ha.1 y e'
          omega
    subst hxy
    congr 1
    refine lt_ext ha.2 hb.2 fun z => ?_
    constructor
    · intro hz
      have := ha.1 z hz
      rcases List.mem_cons.mp ((h z).mp (.tail _ hz)) with e | e
      · omega
      · exact e
    · intro hz
      have := hb.1 z hz
      rcases List.mem_cons.mp ((h z).mpr (.tail _ hz)) with e | e
      · omega
      · exact e
theorem lt_of_le_nd : ∀ {a : List Int}, a.Pairwise (· ≤ ·) → a.Nodup → a.Pairwise (· < ·)
  | [], _, _ => .nil
  | x :: a, h, n => by
    rw [List.pairwise_cons] at h
    rw [List.nodup_cons] at n
    rw [List.pairwise_cons]
    refine ⟨fun y hy => ?_, lt_of_le_nd h.2 n.2⟩
    have h1 := h.1 y hy
    have h2 : x ≠ y := fun e => n.1 (e ▸ hy)
    omega
theorem Canon.unique {a b : List Int} {l : List Nat} (x : Canon a l) (y : Canon b l) : a = b :=
  lt_ext (lt_of_le_nd x.sorted x.nd) (lt_of_le_nd y.sorted y.nd) fun z => (x.mem z).trans (y.mem z).symm
theorem anc_keys {many : Nat} : ∀ {T : List (Nat × Nat)}, TOk many T → ∀ p, ∀ q ∈ ancT T p, q + 1 = many ∨ q ∈ T.map (·.1)
  | [], _, _, _, hq => nomatch hq
  | (l, u) :: T, h, p, q, hq => by
    have hq' : q ∈ (if p = l then u :: ancT T u else ancT T p) := hq
    split at hq'
    · rcases List.mem_cons.mp hq' with rfl | hq'
      · exact h.2.2.1.imp id fun h => .tail _ h
      · exact (anc_keys h.2.2.2 u q hq').imp id fun h => .tail _ h
    · exact (anc_keys h.2.2.2 p q hq').imp id fun h => .tail _ h
theorem seqT_anc {many : Nat} {root : List Nat} {a : Nat → Nat} : ∀ {T : List (Nat × Nat)}, TOk many T → ∀ p, seqT root a T p = (p :: ancT T p).map fun q => S (pathT root a T q)
  | [], _, p => rfl
  | (l, u) :: T, h, p => by
    have hne : ∀ q, (q + 1 = many ∨ q ∈ T.map (·.1)) → q ≠ l := fun q hq e => by
      subst e
      rcases hq with hq | hq
      · have := h.1; omega
      · exact h.2.1 hq
    have step : ∀ q, q ≠ l → S (pathT root a ((l, u) :: T) q) = S (pathT root a T q) := fun q hq => by
      simp only [pathT, if_neg hq]
    show (if p = l then S (pathT root a T u ++ sl (a l + 1) ++ dt (l + 1)) :: seqT root a T u else seqT root a T p) = (p :: if p = l then u :: ancT T u else ancT T p).map _
    split
    · rename_i e
      subst e
      rw [seqT_anc h.2.2.2 u]
      show _ :: List.map _ (u :: ancT T u) = _ :: List.map _ (u :: ancT T u)
      congr 1
      · simp only [pathT, if_true]
      · refine List.map_congr_left fun q hq => ?_
        refine (step q (hne q ?_)).symm
        rcases List.mem_cons.mp hq with rfl | hq
        · exact h.2.2.1
        · exact anc_keys h.2.2.2 u q hq
    · rename_i e
      rw [seqT_anc h.2.2.2 p]
      refine List.map_congr_left fun q hq => ?_
      refine (step q ?_).symm
      rcases List.mem_cons.mp hq with rfl | hq
      · exact e
      · exact hne q (anc_keys h.2.2.2 p q hq)
section
variable {many b : Nat} {a : Nat → Nat} {row pl0 : List Nat}
def lefts (pl0 used : List Nat) : List Nat := pl0.filter fun p => !used.contains p
structure Stage (many : Nat) (row : List Nat) (pl0 used rest : List Nat) : Prop where
  all : Inv many [] row
  inv : Inv many used rest
  anc : ∀ p, p < many → p ∉ used → ancT (treeOf many [] row) p = ancT (treeOf many used rest) p
  pl : ∀ p, p ∈ pl0 ↔ p < many
  nd : pl0.Nodup
theorem Stage.start (I : Inv many [] row) (h : ∀ p, p ∈ pl0 ↔ p < many) (n : pl0.Nodup) : Stage many row pl0 [] row := ⟨I, I, fun _ _ _ => rfl, h, n⟩
theorem Stage.next {u : Nat} {used rest : List Nat} (G : Stage many row pl0 used (u :: rest)) : Stage many row pl0 (leastOf many used (u :: rest) :: used) rest :=
  ⟨G.all, G.inv.next, fun p hp hu => (G.anc p hp fun h => hu (.tail _ h)).trans (anc_skip hu), G.pl, G.nd⟩
theorem Stage.left {used rest : List Nat} (G : Stage many row pl0 used rest) {p : Nat} : p ∈ lefts pl0 used ↔ p < many ∧ p ∉ used := by
  unfold lefts
  rw [List.mem_filter, G.pl]; simp
theorem Stage.ok {used rest : List Nat} (G : Stage many row pl0 used rest) : TOk many (treeOf many [] row) := (tOk_of G.all).1
theorem Stage.res {used rest : List Nat} (G : Stage many row pl0 used rest) {p : Nat} (hp : p < many) : Res many (treeOf many [] row) p := tree_res G.all p hp (by simp)
abbrev pt (many b : Nat) (a : Nat → Nat) (row : List Nat) (p : Nat) : Str := S (pathT (sl b ++ dt many) a (treeOf many [] row) p)
theorem Stage.num {used rest : List Nat} (G : Stage many row pl0 used rest) {p : Nat} (hp : p < many) : pnum (pt many b a row p) = (p : Int) := path_number (G.res hp)
theorem Stage.inj {used rest : List Nat} (G : Stage many row pl0 used rest) {p q : Nat} (hp : p < many) (hq : q < many) (h : pt many b a row p = pt many b a row q) : p = q := by
  have h1 := G.num (b := b) (a := a) hp
  rw [h, G.num hq] at h1
  omega
def ups (many b : Nat) (a : Nat → Nat) (row pl0 used : List Nat) : List Str := (lefts pl0 used).flatMap fun p => (seqT (sl b ++ dt many) a (treeOf many [] row) p).tail
theorem Stage.ups_mem {used rest : List Nat} (G : Stage many row pl0 used rest) (z : Str) : z ∈ ups many b a row pl0 used ↔ ∃ q ∈ rest, z = pt many b a row q := by
  unfold ups
  rw [List.mem_flatMap]
  constructor
  · rintro ⟨p, hp, hz⟩
    obtain ⟨hp1, hp2⟩ := G.left.mp hp
    rw [seqT_anc G.ok p, List.map_cons, List.tail_cons] at hz
    obtain ⟨q, hq, rfl⟩ := List.mem_map.mp hz
    rw [G.anc p hp1 hp2] at hq
    exact ⟨q, anc_sub G.inv p hp1 hp2 q hq, rfl⟩
  · rintro ⟨q, hq, rfl⟩
    obtain ⟨p, hp1, hp2, hq2⟩ := anc_all G.inv q hq
    refine ⟨p, G.left.mpr ⟨hp1, hp2⟩, ?_⟩
    rw [seqT_anc G.ok p, List.map_cons, List.tail_cons, G.anc p hp1 hp2]
    exact List.mem_map.mpr ⟨q, hq2, rfl⟩
theorem Stage.canon {used rest : List Nat} {nr : List Int} (G : Stage many row pl0 used rest) (hp : nr.Perm (((keyed (ups many b a row pl0 used)).map (·.1)).map pnum)) (hs : nr.Pairwise (· ≤ ·)) : Canon nr rest := by
  have hmem : ∀ z, z ∈ (keyed (ups many b a row pl0 used)).map (·.1) ↔ ∃ q ∈ rest, z = pt many b a row q := fun z => (keyed_mem _ _).trans (G.ups_mem z)
  refine ⟨hs, hp.symm.nodup ?_, fun x => ?_⟩
  · refine List.pairwise_map.mpr (List.Pairwise.imp_of_mem ?_ (keyed_nodup (ups many b a row pl0 used)))
    intro z z' hz hz' hne e
    obtain ⟨q, hq, rfl⟩ := (hmem _).mp hz
    obtain ⟨q', hq', rfl⟩ := (hmem _).mp hz'
    rw [G.num (G.inv.rlt q hq), G.num (G.inv.rlt q' hq')] at e
    exact hne (by rw [show q = q' by omega])
  · rw [hp.mem_iff, List.mem_map]
    constructor
    · rintro ⟨z, hz, rfl⟩
      obtain ⟨q, hq, rfl⟩ := (hmem _).mp hz
      exact ⟨q, hq, G.num (G.inv.rlt q hq)⟩
    · rintro ⟨q, hq, rfl⟩
      exact ⟨_, (hmem _).mpr ⟨q, hq, rfl⟩, G.num (G.inv.rlt q hq)⟩
theorem Stage.least {u : Nat} {used rest : List Nat} (G : Stage many row pl0 used (u :: rest)) :
    leastOf many used (u :: rest) < many ∧ leastOf many used (u :: rest) ∉ used ∧ leastOf many used (u :: rest) ∉ u :: rest ∧ ∀ p, p < many → p ∉ used → p ∉ u :: rest → leastOf many used (u :: rest) ≤ p := by
  have := G.inv.len
  rw [List.length_cons] at this
  exact least_spec (by rw [List.length_cons]; omega)
theorem Stage.leaf {u : Nat} {used rest : List Nat} (G : Stage many row pl0 used (u :: rest)) : ∃ y ys, (((lefts pl0 used).map (pt many b a row)).filter fun z => !((keyed (ups many b a row pl0 used)).map (·.1)).any (· == z)) = y :: ys ∧
    bestOf pnum y ys = pt many b a row (leastOf many used (u :: rest)) := by
  obtain ⟨l1, l2, l3, l4⟩ := G.least
  have hmem : ∀ z, z ∈ (((lefts pl0 used).map (pt many b a row)).filter fun z => !((keyed (ups many b a row pl0 used)).map (·.1)).any (· == z)) ↔ ∃ p, p < many ∧ p ∉ used ∧ p ∉ u :: rest ∧ z = pt many b a row p := by
    intro z
    rw [List.mem_filter, List.mem_map]
    have hk : ((!((keyed (ups many b a row pl0 used)).map (·.1)).any (· == z)) = true) ↔ ¬ ∃ q ∈ u :: rest, z = pt many b a row q := by
      rw [Bool.not_eq_true', ← Bool.not_eq_true, List.any_eq_true]
      refine not_congr ?_
      rw [← G.ups_mem, ← keyed_mem (ups many b a row pl0 used) z]
      constructor
      · rintro ⟨x, hx, e⟩
        rw [eq_of_beq e] at hx; exact hx
      · intro h
        exact ⟨z, h, beq_self_eq_true z⟩
    constructor
    · rintro ⟨⟨p, hp, rfl⟩, h⟩
      obtain ⟨h1, h2⟩ := G.left.mp hp
      exact ⟨p, h1, h2, fun hq => hk.mp h ⟨p, hq, rfl⟩, rfl⟩
    · rintro ⟨p, h1, h2, h3, rfl⟩
      refine ⟨⟨p, G.left.mpr ⟨h1, h2⟩, rfl⟩, hk.mpr fun ⟨q, hq, e⟩ => ?_⟩
      exact h3 (G.inj h1 (G.inv.rlt q hq) e ▸ hq)
  have hl := (hmem _).mpr ⟨_, l1, l2, l3, rfl⟩
  cases hf : (((lefts pl0 used).map (pt many b a row)).filter fun z => !((keyed (ups many b a row pl0 used)).map (·.1)).any (· == z)) with
  | nil => rw [hf] at hl; cases hl
  | cons y ys =>
    rw [hf] at hl
    refine ⟨y, ys, rfl, ?_⟩
    obtain ⟨m1, m2⟩ := bestOf_spec pnum ys y
    rw [← hf] at m1
    obtain ⟨p, h1, h2, h3, e⟩ := (hmem _).mp m1
    have h5 := m2 _ hl
    rw [e, G.num h1, G.num l1] at h5
    have h6 := l4 p h1 h2 h3
    rw [e, show p = leastOf many used (u :: rest) by omega]
theorem Stage.tells {u : Nat} {used rest : List Nat} (G : Stage many row pl0 used (u :: rest)) : (((seqT (sl b ++ dt many) a (treeOf many [] row) (leastOf many used (u :: rest))).tail).take 1).map pnum = [(u : Int)] := by
  obtain ⟨l1, l2, l3, l4⟩ := G.least
  rw [seqT_anc G.ok, List.map_cons, List.tail_cons, G.anc _ l1 l2]
  obtain ⟨r, hr⟩ := anc_least (many := many) (u := u) (used := used) (rest := rest)
  rw [hr]
  have := G.num (b := b) (a := a) (G.inv.rlt u (.head _))
  simpa using this
theorem Stage.rests {u : Nat} {used rest : List Nat} (G : Stage many row pl0 used (u :: rest)) : (((lefts pl0 used).map (pt many b a row)).filter fun z => !([pt many b a row (leastOf many used (u :: rest))].any (· == z))) = (lefts pl0 (leastOf many used (u :: rest) :: used)).map (pt many b a row) := by
  obtain ⟨l1, l2, l3, l4⟩ := G.least
  rw [List.filter_map]
  congr 1
  unfold lefts
  rw [List.filter_filter]
  refine List.filter_congr fun p hp => ?_
  have hpm := (G.pl p).mp hp
  simp only [Function.comp, List.any_cons, List.any_nil, Bool.or_false, List.contains_cons]
  by_cases e : p = leastOf many used (u :: rest)
  · subst e; simp
  · have e1 : (pt many b a row (leastOf many used (u :: rest)) == pt many b a row p) = false := beq_eq_false_iff_ne.mpr fun h => e (G.inj l1 hpm h).symm
    have e2 : (p == leastOf many used (u :: rest)) = false := beq_eq_false_iff_ne.mpr e
    rw [e1, e2]; simp
theorem Stage.done {used : List Nat} (G : Stage many row pl0 used []) (hm : 1 ≤ many) : lefts pl0 used = [many - 1] := by
  have hmem : ∀ p, p ∈ lefts pl0 used ↔ p = many - 1 := fun p => by
    rw [G.left]
    constructor
    · rintro ⟨h1, h2⟩
      have h : p + 1 = many := tree_res G.inv p h1 h2
      omega
    · rintro rfl
      exact ⟨by omega, G.inv.root⟩
  have hnd : (lefts pl0 used).Nodup := G.nd.filter _
  cases h : lefts pl0 used with
  | nil => have := (hmem (many - 1)).mpr rfl; rw [h] at this; cases this
  | cons x r =>
    rw [h] at hmem hnd
    have hx := (hmem x).mp (.head _)
    rw [List.nodup_cons] at hnd
    cases r with
    | nil => rw [hx]
    | cons y r =>
      have hy := (hmem y).mp (.tail _ (.head _))
      exact absurd (by rw [hx, ← hy]; exact .head _) hnd.1
end
end Mine
end
section
open PySem PySem.W PyProof.Rows
set_option maxRecDepth 100000
set_option maxHeartbeats 4000000
namespace Mine
open PySem.SetTable
def Cut (xs : Array Nat) (j p : Nat) : Prop := p ≤ xs.size ∧ (∀ i (h : i < xs.size), i < p → xs[i] < j) ∧ (∀ i (h : i < xs.size), p ≤ i → j ≤ xs[i])
def Rise (xs : Array Nat) : Prop := ∀ a b (ha : a < xs.size) (hb : b < xs.size), a < b → xs[a] < xs[b]
theorem below_go {xs : Array Nat} {j : Nat} (R : Rise xs) : ∀ (fuel lo hi : Nat), hi ≤ lo + fuel → lo ≤ hi → hi ≤ xs.size → (∀ i (h : i < xs.size), i < lo → xs[i] < j) → (∀ i (h : i < xs.size), hi ≤ i → j ≤ xs[i]) → Cut xs j (below.go xs j fuel lo hi) := by
  intro fuel
  induction fuel with
  | zero =>
    intro lo hi h1 h2 h3 h4 h5
    have : lo = hi := Nat.le_antisymm h2 h1
    subst this
    exact ⟨h3, h4, h5⟩
  | succ fuel ih =>
    intro lo hi h1 h2 h3 h4 h5
    unfold below.go
    by_cases h : lo < hi
    · rw [if_pos h]
      dsimp only
      have hm : (lo + hi) / 2 < xs.size := mid_lt h h3
      obtain ⟨q1, q2, q3, q4⟩ := mid_le h1 h
      have e : xs.getD ((lo + hi) / 2) j = xs[(lo + hi) / 2] := by simp [Array.getD, hm]
      rw [e]
      by_cases hq : xs[(lo + hi) / 2] < j
      · rw [if_pos hq]
        refine ih _ _ q1 q2 h3 (fun i hi' hl => ?_) h5
        by_cases he : i = (lo + hi) / 2
        · subst he; exact hq
        · exact Nat.lt_trans (R i _ hi' hm (Nat.lt_of_le_of_ne (Nat.le_of_lt_succ hl) he)) hq
      · rw [if_neg hq]
        refine ih _ _ q3 q4 (Nat.le_of_lt hm) h4 (fun i hi' hl => ?_)
        by_cases he : i = (lo + hi) / 2
        · subst he; exact Nat.le_of_not_lt hq
        · exact Nat.le_trans (Nat.le_of_not_lt hq) (Nat.le_of_lt (R _ i hm hi' (Nat.lt_of_le_of_ne hl (Ne.symm he))))
    · rw [if_neg h]
      have : lo = hi := Nat.le_antisymm h2 (Nat.le_of_not_lt h)
      subst this
      exact ⟨h3, h4, h5⟩
theorem below_cut {xs : Array Nat} {j : Nat} (R : Rise xs) : Cut xs j (below xs j) := by
  unfold below
  exact below_go R _ _ _ (by omega) (Nat.zero_le _) (Nat.le_refl _) (fun i h hi => absurd hi (Nat.not_lt_zero _)) (fun i h hi => by omega)
theorem Cut.get {xs : Array Nat} {j p : Nat} (R : Rise xs) (C : Cut xs j p) : xs[p]? = some j ↔ j ∈ xs.toList := by
  constructor
  · intro h
    exact List.mem_of_getElem? (by rw [Array.getElem?_toList]; exact h)
  · intro h
    obtain ⟨i, hi, e⟩ := List.mem_iff_getElem.mp h
    rw [Array.length_toList] at hi
    rw [Array.getElem_toList] at e
    have h1 : ¬ i < p := fun hl => by have := C.2.1 i hi hl; omega
    have hp : p < xs.size := by omega
    have h2 := C.2.2 p hp (Nat.le_refl _)
    by_cases he : p = i
    · subst he; rw [Array.getElem?_eq_getElem hp, e]
    · exfalso
      have := R p i hp hi (by omega)
      omega
theorem rise_iff {xs : Array Nat} : Rise xs ↔ xs.toList.Pairwise (· < ·) := by
  rw [List.pairwise_iff_getElem]
  constructor
  · intro R i j hi hj hij; rw [Array.length_toList] at hi hj; rw [Array.getElem_toList, Array.getElem_toList]; exact R i j hi hj hij
  · intro R a b ha hb hab; have := R a b (by rw [Array.length_toList]; exact ha) (by rw [Array.length_toList]; exact hb) hab; rw [Array.getElem_toList, Array.getElem_toList] at this; exact this
theorem Cut.take {xs : Array Nat} {j p : Nat} (C : Cut xs j p) : ∀ a ∈ xs.toList.take p, a < j := by
  intro a ha
  obtain ⟨i, hi, e⟩ := List.mem_iff_getElem.mp ha
  rw [List.length_take, Array.length_toList] at hi
  rw [List.getElem_take, Array.getElem_toList] at e
  have := C.2.1 i (by omega) (by omega)
  omega
theorem Cut.drop {xs : Array Nat} {j p : Nat} (C : Cut xs j p) : ∀ a ∈ xs.toList.drop p, j ≤ a := by
  intro a ha
  obtain ⟨i, hi, e⟩ := List.mem_iff_getElem.mp ha
  rw [List.length_drop, Array.length_toList] at hi
  rw [List.getElem_drop, Array.getElem_toList] at e
  have := C.2.2 (p + i) (by omega) (by omega)
  omega
theorem rise_insert {xs : Array Nat} {j : Nat} (R : Rise xs) (hj : j ∉ xs.toList) : Rise (insertAt xs (below xs j) j) := by
  have C := below_cut (j := j) R
  rw [rise_iff] at *
  rw [toList_insertAt, List.pairwise_append]
  refine ⟨R.sublist (List.take_sublist _ _), ?_, fun a ha b hb => ?_⟩
  · rw [List.pairwise_cons]
    refine ⟨fun b hb => ?_, R.sublist (List.drop_sublist _ _)⟩
    have h1 := C.drop b hb
    have h2 : b ≠ j := fun e => hj (e ▸ List.mem_of_mem_drop hb)
    omega
  · have h1 := C.take a ha
    rcases List.mem_cons.mp hb with h | h
    · omega
    · have := C.drop b h; omega
theorem not_has {d : Nat} : has #[] d = false := by
  unfold has; simp
theorem below_at {xs : Array Nat} (R : Rise xs) {i : Nat} (h : i < xs.size) : below xs (xs[i] + 1) = i + 1 := by
  have C := below_cut (j := xs[i] + 1) R
  have h1 : ¬ below xs (xs[i] + 1) ≤ i := fun hl => by have := C.2.2 i h hl; omega
  by_cases h2 : i + 1 < below xs (xs[i] + 1)
  · have h3 := C.1
    have := C.2.1 (i + 1) (by omega) h2
    have := R i (i + 1) h (by omega) (by omega)
    omega
  · omega
theorem below_zero {xs : Array Nat} (R : Rise xs) : below xs 0 = 0 := by
  have C := below_cut (j := 0) R
  by_cases h : 0 < below xs 0
  · have h3 := C.1
    have := C.2.1 0 (by omega) h; omega
  · omega
theorem slot_live {t : SetTable} (R : Rise t.place) (hd : t.dummies = #[]) {j : Nat} (h : j ∈ t.place.toList) : ∃ i, t.slot j = .live i := by
  refine ⟨below t.place j, ?_⟩
  unfold slot
  dsimp only
  rw [((below_cut R).get R).mpr h, if_pos (by simp)]
theorem slot_empty {t : SetTable} (R : Rise t.place) (hd : t.dummies = #[]) {j : Nat} (h : j ∉ t.place.toList) : t.slot j = .empty := by
  unfold slot
  dsimp only
  rw [if_neg (by rw [beq_iff_eq, (below_cut R).get R]; exact h), hd, not_has]
  simp
def nxt (i : Nat) : Nat := (i * 5 + 1) % 8
def nth : Nat → Nat → Nat
  | 0, i => i
  | k + 1, i => nth k (nxt i)
theorem nth_hits : ∀ i < 8, ∀ j < 8, ∃ k < 8, nth k i = j := by decide
theorem probe_go {t : SetTable} (R : Rise t.place) (hd : t.dummies = #[]) (hm : t.mask = 7) (f : Nat → Int) (h : Int) (hf : ∀ i, (f i == h) = false) :
    ∀ (k n i q : Nat), q < 32 → i < 8 → nth k i ∉ t.place.toList → k < n → ∃ j < 8, j ∉ t.place.toList ∧ probe.go t f h n { j := i, more := 0, i := i, perturb := q, dummy := none } = some (.empty j none) := by
  intro k
  induction k with
  | zero =>
    intro n i q hq hi hn hk
    obtain ⟨n, rfl⟩ := Nat.exists_eq_succ_of_ne_zero (Nat.ne_of_gt (Nat.lt_of_le_of_lt (Nat.zero_le _) hk))
    refine ⟨i, hi, hn, ?_⟩
    unfold probe.go
    dsimp only
    rw [slot_empty R hd (j := i) hn]
  | succ k ih =>
    intro n i q hq hi hn hk
    obtain ⟨n, rfl⟩ := Nat.exists_eq_succ_of_ne_zero (Nat.ne_of_gt (Nat.lt_of_le_of_lt (Nat.zero_le _) hk))
    by_cases hl : i ∈ t.place.toList
    · obtain ⟨i', e⟩ := slot_live R hd hl
      obtain ⟨j, hj, hjn, ej⟩ := ih n (nxt i) 0 (by decide) (Nat.mod_lt _ (by decide)) hn (Nat.lt_of_succ_lt_succ hk)
      refine ⟨j, hj, hjn, ?_⟩
      unfold probe.go
      dsimp only
      rw [e]
      dsimp only
      rw [if_neg (by rw [hf]; exact Bool.false_ne_true)]
      have ea : t.advance { j := i, more := 0, i := i, perturb := q, dummy := none } = { j := nxt i, more := 0, i := nxt i, perturb := 0, dummy := none } := by
        have h0 : q / 32 = 0 := Nat.div_eq_of_lt hq
        have hlp : leap t.mask i q = (nxt i, 0) := by unfold leap nxt; rw [hm, h0]
        have hre : ∀ i, runEnd 7 i = i := fun i => by unfold runEnd; rw [if_neg (by omega)]
        unfold advance
        dsimp only
        rw [if_neg (by omega), hlp, hm]
        dsimp only
        rw [hre, Nat.sub_self]
      rw [ea]
      exact ej
    · refine ⟨i, hi, hl, ?_⟩
      unfold probe.go
      dsimp only
      rw [slot_empty R hd hl]
theorem room {xs : List Nat} (h : xs.length ≤ 4) : ∃ j < 8, j ∉ xs := by
  match Classical.em (∃ j < 8, j ∉ xs) with
  | .inl h => exact h
  | .inr hn =>
    exfalso
    have ha : ∀ j ∈ List.range 8, j ∈ xs := fun j hj => Classical.byContradiction fun hc => hn ⟨j, List.mem_range.mp hj, hc⟩
    have := List.Nodup.length_le_of_subset (l₁ := List.range 8) List.nodup_range ha
    simp at this
    omega
theorem bits_small {k : Nat} (h : k < 32) : bits (k : Int) = k := by
  unfold bits
  have : ((k : Int) % (2 ^ 64 : Int)) = k := Int.emod_eq_of_lt (by omega) (by omega)
  rw [this]; rfl
theorem ne_succ (h : Int) (i : Nat) : (((fun _ => h + 1) : Nat → Int) i == h) = false := by
  rw [beq_eq_false_iff_ne]
  intro e
  have : h + 1 = h := e
  omega
theorem free7 {t : SetTable} (R : Rise t.place) (hd : t.dummies = #[]) (hm : t.mask = 7) (hs : t.place.size ≤ 4) {k : Nat} (hk : k < 32) :
    ∃ j < 8, j ∉ t.place.toList ∧ t.freeSlot (k : Int) = some (j, false) := by
  obtain ⟨j0, hj0, hn0⟩ := room (xs := t.place.toList) (by rw [Array.length_toList]; exact hs)
  obtain ⟨m, hm8, e⟩ := nth_hits (k % 8) (by omega) j0 hj0
  obtain ⟨j, hj, hjn, ej⟩ := probe_go R hd hm (fun _ => (k : Int) + 1) (k : Int) (ne_succ _) m (10 * turns t.mask) (k % 8) k hk (by omega) (by rw [e]; exact hn0) (by rw [hm]; unfold turns; omega)
  refine ⟨j, hj, hjn, ?_⟩
  have hp : t.probeStart (k : Int) = { j := k % 8, more := 0, i := k % 8, perturb := k, dummy := none } := by
    have hre : ∀ i, runEnd 7 i = i := fun i => by unfold runEnd; rw [if_neg (by omega)]
    unfold probeStart
    rw [bits_small hk, hm]
    dsimp only
    rw [hre, Nat.sub_self]
  unfold freeSlot probe
  rw [hp, ej]
  rfl
theorem free31 {t : SetTable} (R : Rise t.place) (hd : t.dummies = #[]) (hm : t.mask = 31) {k : Nat} (hk : k < 32) (hn : k ∉ t.place.toList) : t.freeSlot (k : Int) = some (k, false) := by
  have hp : (t.probeStart (k : Int)).j = k ∧ (t.probeStart (k : Int)).dummy = none := by
    unfold probeStart
    rw [bits_small hk, hm]
    exact ⟨Nat.mod_eq_of_lt (by omega), rfl⟩
  unfold freeSlot probe
  have hf : 10 * turns t.mask = 459 + 1 := by rw [hm]; rfl
  rw [hf]
  unfold probe.go
  rw [hp.1, slot_empty R hd hn, hp.2]
  rfl
structure Tab (es : Array (Int × Value)) (t : SetTable) : Prop where
  size : t.place.size = es.size
  dum : t.dummies = #[]
  plain : t.plain = true
  rise : Rise t.place
  small : ∀ e ∈ es.toList, ∃ (k : Nat) (tk : Tok), k < 32 ∧ e = ((k : Int), .int k tk)
  nodup : (es.toList.map (·.1)).Nodup
  fit : (t.mask = 7 ∧ es.size ≤ 4 ∧ ∀ p ∈ t.place.toList, p < 8) ∨ (t.mask = 31 ∧ es.size ≤ 18 ∧ t.place.toList.map Int.ofNat = es.toList.map (·.1))
theorem Tab.fits {es : Array (Int × Value)} {t : SetTable} (T : Tab es t) : t.fits es.size = true := by
  unfold SetTable.fits SetTable.fill
  rw [T.size, T.dum]
  rcases T.fit with ⟨hm, hs, _⟩ | ⟨hm, hs, _⟩ <;> (rw [hm]; simp; omega)
theorem insert_size {α : Type} (xs : Array α) (p : Nat) (x : α) : (insertAt xs p x).size = xs.size + 1 := by
  have := (SetTable.insertAt_perm xs p x).length_eq
  rw [Array.length_toList, Array.length_toList, Array.size_push] at this
  exact this
theorem lay_eq {t : SetTable} {es : Array (Int × Value)} {h : Int} {x : Value} {j : Nat} (hf : t.freeSlot h = some (j, false)) (hd : t.dummies = #[]) (hz : t.place.size = es.size) (hm : es.size + 1 ≤ t.mask) :
    layNew t es h x = (insertAt es (below t.place j) (h, x), { t with place := insertAt t.place (below t.place j) j }, false, false) := by
  have hput : t.put j = ({ t with place := insertAt t.place (below t.place j) j }, below t.place j) := by
    obtain ⟨a, b, c, d, e, f, g⟩ := t
    dsimp only at hd
    subst hd
    unfold SetTable.put
    dsimp only
    rw [not_has]; rfl
  have hfit : ({ t with place := insertAt t.place (below t.place j) j } : SetTable).fits (insertAt es (below t.place j) (h, x)).size = true := by
    unfold SetTable.fits SetTable.fill
    dsimp only
    rw [insert_size, insert_size, hz, hd]
    simp
    omega
  unfold layNew
  rw [hf]
  dsimp only
  rw [hput]
  dsimp only
  unfold SetTable.orStandIn
  rw [if_pos hfit, hfit]
  rfl
theorem insert_small {es : Array (Int × Value)} (hs : ∀ e ∈ es.toList, ∃ (k : Nat) (tk : Tok), k < 32 ∧ e = ((k : Int), .int k tk)) {k : Nat} (hk : k < 32) (tk : Tok) (p : Nat) :
    ∀ e ∈ (insertAt es p ((k : Int), .int k tk)).toList, ∃ (k : Nat) (tk : Tok), k < 32 ∧ e = ((k : Int), .int k tk) := by
  intro e he
  rw [toList_insertAt] at he
  rcases List.mem_append.mp he with h | h
  · exact hs e (List.mem_of_mem_take h)
  · rcases List.mem_cons.mp h with h | h
    · exact ⟨k, tk, hk, h⟩
    · exact hs e (List.mem_of_mem_drop h)
theorem insert_nodup {es : Array (Int × Value)} (hd : (es.toList.map (·.1)).Nodup) {h : Int} {x : Value} (hn : h ∉ es.toList.map (·.1)) (p : Nat) : ((insertAt es p (h, x)).toList.map (·.1)).Nodup := by
  have e : (insertAt es p (h, x)).toList.Perm ((h, x) :: es.toList) := (SetTable.insertAt_perm es p (h, x)).trans (by rw [Array.toList_push]; exact List.perm_append_singleton _ _)
  exact (e.map (·.1)).nodup_iff.mpr (List.nodup_cons.mpr ⟨hn, hd⟩)
structure Full (es : Array (Int × Value)) (t : SetTable) : Prop where
  mask : t.mask = 7
  plain : t.plain = true
  size : es.size ≤ 18
  small : ∀ e ∈ es.toList, ∃ (k : Nat) (tk : Tok), k < 32 ∧ e = ((k : Int), .int k tk)
  nodup : (es.toList.map (·.1)).Nodup
  big : es.size = 5
theorem Tab.lay {es : Array (Int × Value)} {t : SetTable} (T : Tab es t) {k : Nat} (hk : k < 32) (tk : Tok) (hn : (k : Int) ∉ es.toList.map (·.1)) (hs : es.size ≤ 12) :
    ∃ es' t' , layNew t es (k : Int) (.int k tk) = (es', t', false, false) ∧ t'.led = t.led ∧ t'.plain = true ∧
      ((t'.tooFull = false ∧ Tab es' t') ∨ (t'.tooFull = true ∧ Full es' t')) := by
  rcases T.fit with ⟨hm, hz, hp⟩ | ⟨hm, hz, hp⟩
  · obtain ⟨j, hj, hjn, hf⟩ := free7 T.rise T.dum hm (by rw [T.size]; exact hz) hk
    refine ⟨_, _, lay_eq hf T.dum T.size (by omega), rfl, T.plain, ?_⟩
    by_cases h4 : es.size = 4
    · refine .inr ⟨?_, hm, T.plain, by rw [insert_size]; omega, insert_small T.small hk tk _, insert_nodup T.nodup hn _, by rw [insert_size]; omega⟩
      unfold SetTable.tooFull SetTable.fill
      dsimp only
      rw [insert_size, T.size, T.dum, hm, h4]
      rfl
    · refine .inl ⟨?_, by rw [insert_size, insert_size, T.size], T.dum, T.plain, rise_insert T.rise hjn, insert_small T.small hk tk _, insert_nodup T.nodup hn _, .inl ⟨hm, by rw [insert_size]; omega, fun p hp' => ?_⟩⟩
      · unfold SetTable.tooFull SetTable.fill
        dsimp only
        rw [insert_size, T.size, T.dum, hm]
        simp
        omega
      · dsimp only at hp'
        rw [toList_insertAt] at hp'
        rcases List.mem_append.mp hp' with h | h
        · exact hp p (List.mem_of_mem_take h)
        · rcases List.mem_cons.mp h with h | h
          · omega
          · exact hp p (List.mem_of_mem_drop h)
  · have hkn : k ∉ t.place.toList := fun h => hn (by rw [← hp]; exact List.mem_map.mpr ⟨k, h, rfl⟩)
    refine ⟨_, _, lay_eq (free31 T.rise T.dum hm hk hkn) T.dum T.size (by omega), rfl, T.plain, .inl ⟨?_, by rw [insert_size, insert_size, T.size], T.dum, T.plain, rise_insert T.rise hkn, insert_small T.small hk tk _, insert_nodup T.nodup hn _, .inr ⟨hm, by rw [insert_size]; omega, ?_⟩⟩⟩
    · unfold SetTable.tooFull SetTable.fill
      dsimp only
      rw [insert_size, T.size, T.dum, hm]
      simp
      omega
    · dsimp only
      rw [toList_insertAt, toList_insertAt, List.map_append, List.map_append, List.map_cons, List.map_cons, List.map_take, List.map_take, List.map_drop, List.map_drop, hp]
      rfl
def Own31 (hs : List Int) (ow : Array (Option Nat)) : Prop := ow.size = 32 ∧ ∀ (j : Nat) (h : j < ow.size) (k : Nat), ow[j] = some k ↔ hs[k]? = some (j : Int)
abbrev stepO (acc : Option (Array (Option Nat) × Nat)) (h : Int) : Option (Array (Option Nat) × Nat) := do
  let (owner, k) ← acc
  let j ← layClean.free 31 owner (turns 31) (bits h % (31 + 1)) (bits h)
  pure (owner.setIfInBounds j (some k), k + 1)
theorem free_home {ow : Array (Option Nat)} {m : Nat} (hm : m < 32) (hs : ow.size = 32) (hn : ow[m]'(by omega) = none) : layClean.free 31 ow (turns 31) (m % (31 + 1)) m = some m := by
  have e : m % (31 + 1) = m := Nat.mod_eq_of_lt (by omega)
  have ht : turns 31 = 45 + 1 := rfl
  rw [e, ht]
  unfold layClean.free
  obtain ⟨r, hr⟩ : ∃ r, runEnd 31 m + 1 - m = r + 1 := ⟨runEnd 31 m - m, by unfold runEnd; split <;> omega⟩
  have hg : ow.getD (m + 0) (some 0) = none := by
    have : m < ow.size := by omega
    simp [Array.getD, this, hn]
  rw [hr, List.range_succ_eq_map, List.find?_cons, hg]
  rfl
theorem own_step {hs : List Int} {ow : Array (Option Nat)} (O : Own31 hs ow) {m : Nat} (hm : m < 32) (hn : (m : Int) ∉ hs) :
    ∃ ow', stepO (some (ow, hs.length)) (m : Int) = some (ow', (hs ++ [(m : Int)]).length) ∧ Own31 (hs ++ [(m : Int)]) ow' := by
  have h0 : ow[m]'(by rw [O.1]; exact hm) = none := by
    cases hq : ow[m]'(by rw [O.1]; exact hm) with
    | none => rfl
    | some k => exact absurd (List.mem_of_getElem? ((O.2 m _ k).mp hq)) hn
  refine ⟨ow.setIfInBounds m (some hs.length), ?_, by rw [Array.size_setIfInBounds]; exact O.1, fun j hj k => ?_⟩
  · show (layClean.free 31 ow (turns 31) (bits (m : Int) % (31 + 1)) (bits (m : Int))).bind (fun j => some (ow.setIfInBounds j (some hs.length), hs.length + 1)) = _
    rw [bits_small hm, free_home hm O.1 h0]
    simp
  · rw [Array.size_setIfInBounds] at hj
    rw [Array.getElem_setIfInBounds, List.getElem?_append]
    by_cases e : m = j
    · subst e
      rw [if_pos rfl]
      by_cases hk : k < hs.length
      · rw [if_pos hk]
        constructor
        · intro h; cases h; omega
        · intro h; exact absurd (List.mem_of_getElem? h) hn
      · rw [if_neg hk]
        constructor
        · intro h; cases h; simp
        · intro h
          by_cases hz : k - hs.length = 0
          · have : k = hs.length := Nat.le_antisymm (Nat.sub_eq_zero_iff_le.mp hz) (Nat.le_of_not_lt hk)
            rw [this]
          · obtain ⟨z, hz'⟩ := Nat.exists_eq_succ_of_ne_zero hz
            rw [hz'] at h; simp at h
    · rw [if_neg e]
      by_cases hk : k < hs.length
      · rw [if_pos hk]; exact O.2 j hj k
      · rw [if_neg hk]
        constructor
        · intro h
          have := (O.2 j hj k).mp h
          rw [List.getElem?_eq_none (Nat.le_of_not_lt hk)] at this; cases this
        · intro h
          by_cases hz : k - hs.length = 0
          · rw [hz] at h; simp at h; omega
          · obtain ⟨z, hz'⟩ := Nat.exists_eq_succ_of_ne_zero hz
            rw [hz'] at h; simp at h
theorem own_fold : ∀ (rest hs : List Int) (ow : Array (Option Nat)), Own31 hs ow → (hs ++ rest).Nodup → (∀ h ∈ rest, ∃ m : Nat, m < 32 ∧ h = m) →
    ∃ ow', rest.foldl stepO (some (ow, hs.length)) = some (ow', (hs ++ rest).length) ∧ Own31 (hs ++ rest) ow' := by
  intro rest
  induction rest with
  | nil => intro hs ow O _ _; exact ⟨ow, by simp, by simpa using O⟩
  | cons h rest ih =>
    intro hs ow O hd hsm
    obtain ⟨m, hm, rfl⟩ := hsm h (.head _)
    have hn : (m : Int) ∉ hs := fun hc => (List.nodup_append.mp hd).2.2 _ hc _ (.head _) rfl
    obtain ⟨ow1, e1, O1⟩ := own_step O hm hn
    have ea : hs ++ (m : Int) :: rest = (hs ++ [(m : Int)]) ++ rest := by simp
    rw [ea] at hd
    obtain ⟨ow2, e2, O2⟩ := ih _ ow1 O1 hd fun h hh => hsm h (.tail _ hh)
    refine ⟨ow2, ?_, by rw [ea]; exact O2⟩
    rw [List.foldl_cons, e1, ea]
    exact e2
theorem lay_clean {hs : Array Int} (hd : hs.toList.Nodup) (hsm : ∀ h ∈ hs.toList, ∃ m : Nat, m < 32 ∧ h = (m : Int)) : ∃ ow, layClean 31 hs = some ow ∧ Own31 hs.toList ow := by
  obtain ⟨ow, e, O⟩ := own_fold hs.toList [] (Array.replicate 32 none) ⟨by simp, fun j h k => by simp⟩ (by simpa using hd) hsm
  refine ⟨ow, ?_, by simpa using O⟩
  unfold layClean
  rw [← Array.foldl_toList]
  have e' : List.foldl stepO (some (Array.replicate (31 + 1) none, 0)) hs.toList = _ := e
  have : (List.foldl stepO (some (Array.replicate (31 + 1) none, 0)) hs.toList).map (·.1) = some ow := by rw [e']; rfl
  exact this
theorem live_es {es : Array (Int × Value)} : ∀ (l : List (Nat × Nat)), (∀ p ∈ l, ∃ e, es[p.2]? = some e ∧ e.1 = (p.1 : Int)) → ((l.map (·.2)).filterMap (fun i => es[i]?)).map (·.1) = l.map fun p => (p.1 : Int)
  | [], _ => rfl
  | p :: l, h => by
    obtain ⟨e, h1, h2⟩ := h p (.head _)
    rw [List.map_cons, List.filterMap_cons_some h1, List.map_cons, List.map_cons, live_es l (fun q hq => h q (.tail _ hq)), h2]
theorem Full.relay {es : Array (Int × Value)} {t : SetTable} (T : Full es t) : ∃ es' t', relayAll t es (SetTable.grown es.size) = (es', t', false) ∧ Tab es' t' ∧ t'.led = t.led := by
  have hsm : ∀ h ∈ (es.map (fun e : Int × Value => e.1)).toList, ∃ m : Nat, m < 32 ∧ h = (m : Int) := by
    intro h hh
    rw [Array.toList_map] at hh
    obtain ⟨e, he, rfl⟩ := List.mem_map.mp hh
    obtain ⟨k, tk, hk, rfl⟩ := T.small e he
    exact ⟨k, hk, rfl⟩
  obtain ⟨ow, e1, O⟩ := lay_clean (hs := es.map (·.1)) (by rw [Array.toList_map]; exact T.nodup) hsm
  have hat : ∀ (k : Nat) (x : Int), (es.map (·.1)).toList[k]? = some x ↔ ∃ e, es[k]? = some e ∧ e.1 = x := by
    intro k x
    rw [Array.toList_map, List.getElem?_map, Array.getElem?_toList]
    cases es[k]? <;> simp
  let live := (List.range 32).filterMap fun j => (ow.getD j none).map (j, ·)
  have hf : ∀ a b, (fun j => (ow.getD j none).map (j, ·)) a = some b → a < 32 → b.1 = a ∧ (es.map (·.1)).toList[b.2]? = some (a : Int) := by
    intro a b h ha
    have hs : a < ow.size := by rw [O.1]; exact ha
    simp only [Array.getD, hs, dite_true] at h
    cases hq : ow[a] with
    | none => simp [hq] at h
    | some k =>
      simp [hq] at h
      subst h
      exact ⟨rfl, (O.2 a hs k).mp hq⟩
  have hlive : ∀ p ∈ live, p.1 < 32 ∧ (es.map (·.1)).toList[p.2]? = some (p.1 : Int) := by
    intro p hp
    obtain ⟨a, ha, h⟩ := List.mem_filterMap.mp hp
    obtain ⟨h1, h2⟩ := hf a p h (List.mem_range.mp ha)
    rw [h1]; exact ⟨List.mem_range.mp ha, h2⟩
  have hpw : live.Pairwise (fun b b' => b.1 < b'.1) := by
    have h0 : (List.range 32).Pairwise (fun a a' => a < a' ∧ a < 32 ∧ a' < 32) := by decide
    refine List.Pairwise.filterMap _ (fun a a' haa b hb b' hb' => ?_) h0
    rw [(hf a b hb haa.2.1).1, (hf a' b' hb' haa.2.2).1]; exact haa.1
  have hon : (live.map (·.2)).Nodup := by
    unfold List.Nodup
    rw [List.pairwise_map]
    refine (List.pairwise_iff_forall_sublist.mpr fun {a b} hab => ?_)
    have h1 := List.pairwise_iff_forall_sublist.mp hpw hab
    have ha := hlive a (hab.subset (by simp))
    have hb := hlive b (hab.subset (by simp))
    intro e
    rw [e, hb.2] at ha
    have := Option.some.inj ha.2
    omega
  have hperm : (live.map (·.2)).Perm (List.range es.size) := by
    rw [List.perm_ext_iff_of_nodup hon List.nodup_range]
    intro k
    rw [List.mem_range, List.mem_map]
    constructor
    · rintro ⟨p, hp, rfl⟩
      obtain ⟨e, he, _⟩ := (hat _ _).mp (hlive p hp).2
      exact (Array.getElem?_eq_some_iff.mp he).1
    · intro hk
      obtain ⟨m, tk, hm, he⟩ := T.small es[k] (Array.getElem_mem_toList hk)
      refine ⟨(m, k), List.mem_filterMap.mpr ⟨m, List.mem_range.mpr hm, ?_⟩, rfl⟩
      have hs : m < ow.size := by rw [O.1]; exact hm
      have : ow[m] = some k := (O.2 m hs k).mpr ((hat k m).mpr ⟨es[k], Array.getElem?_eq_getElem hk, by rw [he]⟩)
      simp [Array.getD, hs, this]
  have e2 : t.relaid (es.map (·.1)) (SetTable.grown es.size) = some ({ mask := 31, place := (live.map (·.1)).toArray, dummies := #[], finger := t.finger, led := t.led, moves := t.movedTo 31, plain := t.plain }, (live.map (·.2)).toArray) := by
    have hw : sizeAbove (SetTable.grown es.size) - 1 = 31 := by rw [T.big]; decide
    unfold SetTable.relaid
    rw [hw]
    unfold SetTable.laid
    rw [e1]
    rfl
  have hperm2 := relayAll_perm t es (SetTable.grown es.size)
  have hes : ((live.map (·.2)).toArray.filterMap (es[·]?)).toList = (live.map (·.2)).filterMap (fun i => es[i]?) := by rw [Array.toList_filterMap]
  have hpl : ((live.map (·.2)).filterMap (fun i => es[i]?)).map (·.1) = live.map fun p => (p.1 : Int) := live_es live fun p hp => (hat _ _).mp (hlive p hp).2
  have hlen : (live.map (·.2)).length = es.size := by rw [hperm.length_eq, List.length_range]
  have hll : live.length = es.size := by rw [List.length_map] at hlen; exact hlen
  have hsz : ((live.map (·.2)).toArray.filterMap (es[·]?)).size = es.size := by
    rw [← Array.length_toList, hes, ← List.length_map (f := (·.1)), hpl, List.length_map, hll]
  have hfit : ({ mask := 31, place := (live.map (·.1)).toArray, dummies := #[], finger := t.finger, led := t.led, moves := t.movedTo 31, plain := t.plain } : SetTable).fits ((live.map (·.2)).toArray.filterMap (es[·]?)).size = true := by
    unfold SetTable.fits SetTable.fill
    dsimp only
    rw [hsz, List.size_toArray, List.length_map, hll, T.big]
    rfl
  have hcov : coversAll (live.map (·.2)).toArray es.size = true := by unfold coversAll; exact List.isPerm_iff.mpr (by simpa using hperm)
  have e3 : relayAll t es (SetTable.grown es.size) = ((live.map (·.2)).toArray.filterMap (es[·]?), { mask := 31, place := (live.map (·.1)).toArray, dummies := #[], finger := t.finger, led := t.led, moves := t.movedTo 31, plain := t.plain }, false) := by
    unfold relayAll
    rw [e2]
    dsimp only
    rw [hcov, hfit]
    rfl
  rw [e3] at hperm2
  refine ⟨_, _, e3, ⟨?_, rfl, T.plain, ?_, fun e he => T.small e (hperm2.mem_iff.mp he), ((hperm2.map (·.1)).nodup_iff).mpr T.nodup, .inr ⟨rfl, by rw [hsz]; exact T.size, ?_⟩⟩, rfl⟩
  · dsimp only; rw [hsz, List.size_toArray, List.length_map, hll]
  · rw [rise_iff]; dsimp only; rw [List.pairwise_map]; exact hpw
  · dsimp only
    rw [hes, hpl, List.map_map]
    rfl
end Mine
end
section
open PySem PySem.W PyProof.Rows
set_option maxRecDepth 100000
set_option maxHeartbeats 4000000
namespace Mine
abbrev setObjI (es : Array (Int × Value)) (ep : Nat) (t : SetTable) : Obj := { cls := .type "set", dict := none, data := .set es ep t }
def ISetAt (w : World) (h : Heap) (a : Addr) (S : List Int) : Prop :=
  ∃ es ep t, h.get? a = some (setObjI es ep t) ∧ Tab es t ∧ t.led = !(w.params.followText "set-order") ∧ (es.toList.map (·.1)).Perm S
theorem hash_small : ∀ k < 32, hashInt ((k : Nat) : Int) = (k : Int) := by decide +kernel
section
variable {prog : Program} {w : World} {A : Around} {E : Value → Shared → Prop} {s : Shared}
theorem elems_small {es : Array (Int × Value)} {t : SetTable} (T : Tab es t) : ElemsOf (intKind prog w) es.toList := by
  intro e he
  obtain ⟨k, tk, hk, rfl⟩ := T.small e he
  exact ⟨⟨(k : Int), intKind_is _ _ _ _, (hash_small k hk).symm⟩, rfl⟩
theorem is_small {es : Array (Int × Value)} {t : SetTable} (T : Tab es t) {e : Int × Value} (he : e ∈ es.toList) (k : Int) : (intKind prog w).is k e.2 = true ↔ e.1 = k := by
  obtain ⟨m, tk, hm, rfl⟩ := T.small e he
  show Value.isInt k (.int m tk) = true ↔ (m : Int) = k
  simp [Value.isInt]
theorem add_small {a : Addr} {S : List Int} {k : Nat} {tk : Tok} {Q : Bool → Shared → Prop} (hI : ISetAt w s.heap a S) (hk : k < 32) (hS : S.length ≤ 12)
    (h : ∀ b h', Heap.SameBut a s.heap h' → ISetAt w h' a (step_dedup S k) → Q b { s with heap := h' }) :
    wpAny (model prog w) A (setAddHashed a (.int k tk) (hashInt k)) Q E s := by
  obtain ⟨es, ep, t, ho, T, hled, hp⟩ := hI
  have hd : (setObjI es ep t).data = .set es ep t := rfl
  have hel : ElemsOf (intKind prog w) es.toList := elems_small T
  have hes : es.size ≤ 12 := by have := hp.length_eq; rw [List.length_map, Array.length_toList] at this; omega
  unfold setAddHashed setAddHashedIn
  refine wpAny_holding (wpAny_bind (wpAny_setState_of ho hd T.fits ?_))
  dsimp only
  rw [byScan_of (knd := intKind prog w) rfl (by unfold scanBound; omega) hel]
  simp only [↓reduceIte]
  unfold setAddByScan
  refine wpAny_bind ?_
  refine wpAny_bind (wpAny_rule ?_)
  refine wpAny_bind (wpAny_setScan_of (knd := intKind prog w) (k := (k : Int)) (intKind_is _ _ _ _) ho hd T.fits hel ?_)
  cases hr : List.findIdx? (fun e => (intKind prog w).is (k : Int) e.2) es.toList with
  | some j =>
    dsimp only
    obtain ⟨hj, hpj, _⟩ := List.findIdx?_eq_some_iff_getElem.mp hr
    refine wpAny_pure (wpAny_pure ?_)
    have e : s = { s with heap := s.heap } := by cases s; rfl
    have := h false s.heap (Heap.SameBut.refl a s.heap) ⟨es, ep, t, ho, T, hled, ?_⟩
    · rw [e]; exact this
    · have hm : (k : Int) ∈ S := hp.mem_iff.mp (List.mem_map.mpr ⟨_, List.getElem_mem hj, (is_small T (List.getElem_mem hj) _).mp hpj⟩)
      unfold step_dedup
      rw [if_pos (List.any_eq_true.mpr ⟨_, hm, by simp⟩)]
      exact hp
  | none =>
    dsimp only
    have hn : (k : Int) ∉ es.toList.map (·.1) := by
      intro hm
      obtain ⟨e, he, q⟩ := List.mem_map.mp hm
      have := List.findIdx?_eq_none_iff.mp hr e he
      rw [(is_small T he _).mpr q] at this; cases this
    have hnS : S.any (· == (k : Int)) = false := by
      rw [Bool.eq_false_iff]
      intro hc
      obtain ⟨x, hx, q⟩ := List.any_eq_true.mp hc
      rw [beq_iff_eq] at q; subst q
      exact hn (hp.mem_iff.mpr hx)
    have hst : step_dedup S (k : Int) = S ++ [(k : Int)] := by unfold step_dedup; rw [if_neg (by rw [hnS]; exact Bool.false_ne_true)]
    rw [hash_small k hk]
    obtain ⟨es', t', el, hled', hpl', hT'⟩ := T.lay hk tk hn hes
    have hperm := layNew_perm t es (k : Int) (.int k tk)
    rw [el] at hperm ⊢
    dsimp only at hperm ⊢
    rw [Array.toList_push] at hperm
    have hp' : (es'.toList.map (·.1)).Perm (step_dedup S (k : Int)) := by
      rw [hst]
      refine (hperm.map (·.1)).trans ?_
      rw [List.map_append]
      exact hp.append_right _
    have hsz' : es'.size ≤ 13 := by have := hperm.length_eq; simp at this; omega
    refine wpAny_bind (wpAny_pure ?_)
    rw [if_pos hpl']
    refine wpAny_bind ?_
    rw [hashByValue_scannable 8 rfl]
    refine wpAny_pure ?_
    have hpk : plainKind (Value.int (k : Int) tk) = true := rfl
    simp only [hpk, ↓reduceIte]
    refine wpAny_bind (wpAny_storeSet_of ho hd ?_ (by rw [sizeLine_eq]; omega))
    have hsb1 := Heap.SameBut.update s.heap a (Obj.putSet es' t')
    have hg : (s.heap.update a (Obj.putSet es' t')).get? a = some (setObjI es' (ep + 1) t') := by
      have := Heap.get?_update_self (Obj.putSet es' t') ho (by rw [putSet_of es' t' hd]; rfl)
      rw [putSet_of es' t' hd] at this; exact this
    rcases hT' with ⟨hfull, T'⟩ | ⟨hfull, F'⟩
    · rw [hfull]
      simp only [Bool.and_false, Bool.false_eq_true, if_false]
      exact wpAny_pure (wpAny_pure (h true _ hsb1 ⟨es', ep + 1, t', hg, T', hled'.trans hled, hp'⟩))
    · rw [hfull]
      simp only [Bool.not_false, Bool.and_true, if_true]
      obtain ⟨es2, t2, er, T2, hl2⟩ := F'.relay
      have hperm2 := relayAll_perm t' es' (SetTable.grown es'.size)
      rw [er] at hperm2 ⊢
      dsimp only at hperm2 ⊢
      have hsz2 : es2.size ≤ 13 := by have := hperm2.length_eq; simp at this; omega
      refine wpAny_bind (wpAny_pure ?_)
      refine wpAny_bind (wpAny_storeSet_of hg rfl ?_ (by rw [sizeLine_eq]; omega))
      have hg2 : ((s.heap.update a (Obj.putSet es' t')).update a (Obj.putSet es2 t2)).get? a = some (setObjI es2 (ep + 1 + 1) t2) := by
        have := Heap.get?_update_self (Obj.putSet es2 t2) hg (by rw [putSet_of es2 t2 rfl]; rfl)
        rw [putSet_of es2 t2 rfl] at this; exact this
      exact wpAny_pure (wpAny_pure (h true _ (hsb1.trans (Heap.SameBut.update _ a _)) ⟨es2, ep + 1 + 1, t2, hg2, T2, hl2.trans (hled'.trans hled), (hperm2.map (·.1)).trans hp'⟩))
end
end Mine
end
section
open PySem PySem.W PyProof.Rows PySem.Builtin PySem.Builtin.ObjectAttr
set_option maxRecDepth 100000
set_option maxHeartbeats 8000000
namespace Mine
abbrev ledOf (w : World) : Bool := !(w.params.followText "set-order")
section
variable {prog : Program} {w : World} {A : Around} {E : Value → Shared → Prop} {s : Shared}
theorem code_set_new_led (a : Value) {Q₁ : Value → Shared → Prop}
    (h : Q₁ (.ref s.heap.objs.size) { s with heap := s.heap.push { cls := .type "set", dict := none, data := .set #[] 0 (.fresh 0 0 (ledOf w)) } }) :
    codeAny (model prog w) A (.call (.builtin "set.__new__") ⟨[.type "set", a], []⟩) (wants Q₁ E) s := by
  refine codeAny_of_tree ?_
  show wpAny _ A.in1 (do checkBuiltinCall "set.__new__" ⟨[.type "set", a], []⟩; again (.builtin "set.__new__" ⟨[.type "set", a], []⟩)) _ _ s
  refine wpAny_bind (wpAny_of_eq (F.newCall_set_1 a) (wpAny_pure ⟨plainId_quiet F.plain_set_new _, codeAny_builtin F.entry_set_new ?_⟩))
  rw [Around.under_plainId F.plain_set_new _]
  unfold Builtin.«set.__new__» Builtin.Frozenset.newClass
  have hsub := sub_set_self
  obtain ⟨hp, g, d, tk, os⟩ := s
  dsimp only
  wp_walk
  refine wpAny_askSetting (wpAny_pure ?_)
  dsimp only
  simp only [newObj]
  refine wpAny_bind (wpAny_alloc (wpAny_pure ?_))
  exact wpAny_pure h
theorem call_set_led {a : Value} {Q : Value → Shared → Prop}
    (h0 : ∀ s₁, s₁ = { s with heap := s.heap.push { cls := .type "set", dict := none, data := .set #[] 0 (.fresh 0 0 (ledOf w)) } } →
      wpAny (model prog w) A.in1.in1 (Builtin.«set.__init__» ⟨[.ref s.heap.objs.size, a], []⟩) (fun fin s₂ => fin = .done (.ret .none) ∧ Q (.ref s.heap.objs.size) s₂) E s₁) :
    wpAny (model prog w) A (PySem.call (.type "set") [a]) Q E s := by
  obtain ⟨c, tl, hmro⟩ := F.called_set.mro
  have hmade := F.called_set.made
  have hsub := F.called_set.sub
  refine wpAny_call (codeAny_of_tree ?_)
  show wpAny _ _ (callAny (.type "set") _) _ _ _
  refine wpAny_pure ⟨Code.quiet_builtin _ (by decide +kernel), codeAny_builtin F.entry_type_call ?_⟩
  rw [Around.under_plain (weight_type_call_type "set" [a] []) rfl]
  have h1 := F.called_set.notType
  have h2 := F.called_set.canCreate
  have hct := F.typeCall_set_1 a
  repeat (any_goals (first | assumption | wp_step))
  refine codeAny_mono (code_set_new_led a (E := E) (Q₁ := fun obj s₁ => obj = .ref s.heap.objs.size ∧ s₁ = { s with heap := s.heap.push { cls := .type "set", dict := none, data := .set #[] 0 (.fresh 0 0 (ledOf w)) } }) ⟨rfl, rfl⟩) fun r s₁ hr => ?_
  cases r with
  | error e => exact hr
  | ok fl =>
    cases fl with
    | ret obj =>
      obtain ⟨rfl, hs₁⟩ := hr
      have hT : s₁.TypeIs (.ref s.heap.objs.size) "set" := by subst hs₁; exact ⟨_, Heap.get?_push_size _ rfl, rfl⟩
      have hli := F.called_set.init.lookup
      have hbi := F.called_set.init.bind (.ref s.heap.objs.size)
      have hz := h0 s₁ hs₁
      repeat (any_goals (first | assumption | wp_step))
      refine codeAny_mono (codeAny_call_builtin (R := wants (fun r s₂ => r = .none ∧ Q (.ref s.heap.objs.size) s₂) E) F.called_set.init.plain F.entry_set_init (check_set_init_1 hT (wpAny_mono hz (fun fin s₂ h => ?_) fun _ _ e => e))) fun r₂ s₂ hr₂ => ?_
      · obtain ⟨rfl, hq⟩ := h
        exact ⟨rfl, hq⟩
      · cases r₂ with
        | error e => exact hr₂
        | ok fl₂ =>
          cases fl₂ with
          | ret r =>
            obtain ⟨rfl, hq⟩ := hr₂
            repeat (any_goals (first | assumption | wp_step))
          | _ => exact hr₂.elim
    | _ => exact hr.elim
end
section
variable {prog : Program} {w : World} {A : Around} {R : Result → Shared → Prop} {I : Addr} {fp wr : List Addr} {G : Array GenState → Array GenState → Prop} {n : Nat} {P : Nat → Value → Prop} {St : Nat → Shared → Prop}
theorem ISetAt.still {h h' : Heap} {S : Addr} {xs : List Int} (x : ISetAt w h S xs) (k : ∀ o, h.get? S = some o → h'.get? S = some o) : ISetAt w h' S xs :=
  let ⟨es, ep, t, ho, r⟩ := x; ⟨es, ep, t, k _ ho, r⟩
theorem set_update_ints (W : WalksS prog w A.in1 I fp wr G n P St) (S : Addr) (hSf : S ∉ fp) (val : Nat → Nat)
    (hval : ∀ i v, i < n → P i v → ∃ t, v = .int (val i : Int) t) (hsm : ∀ i, i < n → val i < 32) (hb : n ≤ 12) :
    ∀ (k i : Nat) (s : Shared), n - i = k → i ≤ n → St i s →
      ISetAt w s.heap S (firstMet (fun i => (val i : Int)) i) →
      (∀ s', Moved (S :: wr) G s s' → ISetAt w s'.heap S (firstMet (fun i => (val i : Int)) n) → R (.ok (.ret .none)) s') →
      codeAny (model prog w) A (.builtin "set.update.loop" ⟨[.ref S, .ref I], []⟩) R s := by
  have hSw : S ∉ wr := fun h => hSf (W.sub _ h)
  have hsub : ∀ b ∈ wr, b ∈ S :: wr := fun b hb => List.mem_cons_of_mem _ hb
  intro k
  induction k with
  | zero =>
    intro i s hk hi hst hS hR
    obtain rfl : i = n := by omega
    refine codeAny_builtin F.entry_set_update_loop ?_
    rw [Around.under_plainId F.plain_set_update_loop _]
    show wpAny _ A.in1 (pyNext (.ref I) >>= _) _ _ s
    refine wpAny_bind (W.done s _ _ hst fun s' hm => ?_)
    show wpAny _ A.in1 (ret Value.none) _ _ s'
    exact wpAny_pure (hR s' (hm.mono hsub) (hS.still (hm.heap S · hSw)))
  | succ k ih =>
    intro i s hk hi hst hS hR
    have hlt : i < n := by omega
    refine codeAny_builtin F.entry_set_update_loop ?_
    rw [Around.under_plainId F.plain_set_update_loop _]
    show wpAny _ A.in1 (pyNext (.ref I) >>= _) _ _ s
    refine wpAny_bind (W.item i s _ _ hlt hst fun v s' hP hst' hm => ?_)
    obtain ⟨t, rfl⟩ := hval i v hlt hP
    show wpAny _ A.in1 (holding [Value.int (val i) t] (setAdd S (.int (val i) t)) >>= _) _ _ s'
    refine wpAny_bind (wpAny_holding ?_)
    unfold setAdd
    refine wpAny_holding ?_
    refine wpAny_bind ((intKind prog w).pyHash (k := (val i : Int)) (intKind_is _ _ _ _) ?_)
    refine add_small (s := { s' with toks := s'.toks + 1 }) (hS.still (hm.heap S · hSw)) (hsm i hlt) (by have := firstMet_length_le (fun i => (val i : Int)) i; omega) fun b h' hsb hS2 => ?_
    rw [← firstMet_succ] at hS2
    refine wpAny_pure ⟨plainId_quiet F.plain_set_update_loop _, ih (i + 1) _ (by omega) hlt (W.frame _ s' _ _ hst' (Nat.le_succ _) fun b hb o e => ?_) hS2 fun s'' hm'' hS'' => ?_⟩
    · rw [hsb.2 b (fun h : b = S => hSf (by rw [← h]; exact hb))]; exact e
    · refine hR s'' (Moved.trans W.gtrans ((hm.mono hsub).then_heap (Nat.le_succ _) fun b o hb e => ?_) hm'') hS''
      rw [hsb.2 b (fun h : b = S => hb (by rw [h]; exact List.mem_cons_self))]; exact e
end
section
variable {prog : Program} {w : World} {A : Around} {E : Value → Shared → Prop} {s : Shared}
theorem tab_fresh (led : Bool) : Tab #[] (.fresh 0 0 led) :=
  ⟨rfl, rfl, rfl, fun a b ha => absurd ha (Nat.not_lt_zero _), fun e he => by simp at he, List.nodup_nil, .inl ⟨rfl, by simp, fun p hp => by simp [SetTable.fresh] at hp⟩⟩
theorem call_set_ints {l : Addr} {items : Array Value} {ns : List Nat} {Q : Value → Shared → Prop} (hh : A.handled = none) (hl : s.heap.IsList l items) (hi : IntsAre items.toList (ns.map Int.ofNat)) (hb : ns.length ≤ 12) (hsm : ∀ n ∈ ns, n < 32)
    (h : ∀ h' tk, ISetAt w h' s.heap.objs.size (firstMet (fun i => (ns.getD i 0 : Int)) ns.length) → KeepAll s.heap h' → Q (.ref s.heap.objs.size) { s with heap := h', toks := tk }) :
    wpAny (model prog w) A (PySem.call (.type "set") [.ref l]) Q E s := by
  refine call_set_led fun s₁ hs₁ => ?_
  obtain ⟨ol, hol, hcl, nl, hdl⟩ := hl
  obtain ⟨ocls, odict, odata, oslots⟩ := ol
  simp only at hcl hdl
  subst hcl; subst hdl
  have hS : (s.heap.push (setObjI #[] 0 (.fresh 0 0 (ledOf w)))).get? s.heap.objs.size = some (setObjI #[] 0 (.fresh 0 0 (ledOf w))) := Heap.get?_push_size _ rfl
  have hol' : (s.heap.push (setObjI #[] 0 (.fresh 0 0 (ledOf w)))).get? l = some { cls := .type "list", dict := odict, data := .seq items nl, slots := oslots } := Heap.get?_push_of_some _ hol
  have hsls := F.sub_list_set
  have hslf := F.sub_list_frozenset
  have hne : (Value.type "list" == Value.type "dict") = false := by decide
  have hl1 : (s.heap.push (setObjI #[] 0 (.fresh 0 0 (ledOf w)))).IsList l items := ⟨_, hol', rfl, nl, rfl⟩
  have hlen : items.size = ns.length := by have := hi.length; simpa using this
  subst hs₁
  unfold Builtin.«set.__init__» noKeywords Builtin.Frozenset.updateFrom
  generalize hPI : pyIter = PI
  wp_walk
  subst hPI
  refine wpAny_pyIter_list hl1 ?_
  refine wpAny_bind (wpAny_runValue ?_)
  have hlS : l < s.heap.objs.size := Heap.lt_size hol
  have hneI : l ≠ (s.heap.push (setObjI #[] 0 (.fresh 0 0 (ledOf w)))).objs.size := by
    rw [Heap.size_push]; exact Nat.ne_of_lt (Nat.lt_succ_of_lt hlS)
  have hSf : s.heap.objs.size ∉ [(s.heap.push (setObjI #[] 0 (.fresh 0 0 (ledOf w)))).objs.size, l] := by
    rw [Heap.size_push]; simp only [List.mem_cons, List.not_mem_nil, or_false, not_or]
    exact ⟨Nat.ne_of_lt (Nat.lt_succ_self _), Nat.ne_of_gt hlS⟩
  have hval : ∀ (i : Nat) (v : Value), i < ns.length → items[i]? = some v → ∃ t, v = .int ((ns.getD i 0 : Nat) : Int) t := fun i v hi' hv => by
    obtain ⟨t, e⟩ := IntsAre.int_at hi i v (by rw [Array.getElem?_toList]; exact hv)
    refine ⟨t, e.trans ?_⟩
    congr 1
    simp [List.getD, List.getElem?_map, List.getElem?_eq_getElem hi']
  have W := (Walks.list (prog := prog) (w := w) (A := A.in1.in1.in1) (by simp [hh]) (s.heap.push (setObjI #[] 0 (.fresh 0 0 (ledOf w)))).objs.size l hneI items).toS
  rw [hlen] at W
  refine set_update_ints W s.heap.objs.size hSf (fun i => ns.getD i 0) hval (fun i hi' => hsm _ (by simp [List.getD, List.getElem?_eq_getElem hi'])) hb (ns.length - 0) 0 _ (by omega) (Nat.zero_le _) ⟨⟨_, Heap.get?_push_size _ rfl, rfl, rfl⟩, (hl1.push _)⟩ ?hS0 ?hR
  case hS0 => exact ⟨#[], 0, .fresh 0 0 (ledOf w), Heap.get?_push_of_some _ hS, tab_fresh _, rfl, List.Perm.refl _⟩
  case hR =>
    intro s' hm hS'
    obtain ⟨h', g', d', tk', os'⟩ := s'
    have eg : g' = s.gens := hm.gens
    have ed : d' = s.drawn := hm.drawn
    have eo : os' = s.os := hm.os
    subst eg; subst ed; subst eo
    show wpAny _ _ _ _ _ _
    refine wpAny_pure ?_
    show wpAny _ _ (ret Value.none) _ _ _
    refine wpAny_pure ⟨rfl, h h' tk' hS' fun b o e => ?_⟩
    have hlt := Heap.lt_size e
    refine hm.heap b o ?_ (Heap.get?_push_of_some _ (Heap.get?_push_of_some _ e))
    rw [Heap.size_push]
    simp only [List.mem_cons, List.not_mem_nil, or_false, not_or]
    exact ⟨Nat.ne_of_lt hlt, Nat.ne_of_lt (Nat.lt_succ_of_lt hlt)⟩
end
end Mine
end
section
open PySem PySem.W PyProof.Rows PySem.Builtin
set_option maxRecDepth 100000
set_option maxHeartbeats 8000000
namespace Mine
theorem slot_setit_next : Slot "set_iterator" "__next__" "set_iterator.__next__" :=
  .of (owner := "set_iterator") (n := "__next__") (by rw [typeLookup_type, builtinLookup_eq_fast]; kernel_rfl) (by decide +kernel) (by decide +kernel) (by decide +kernel)
    (by first | exact .inl (by decide +kernel) | exact .inr (by decide +kernel)) (by rw [isSubtype_type]; kernel_rfl)
theorem entry_setit_next : entryFor table "set_iterator.__next__" = some Builtin.«set_iterator.__next__» := entryFor_of_tree (by kernel_rfl)
theorem args_setit_next (a : Value) : argsOk "set_iterator.__next__" ⟨[a], []⟩ := by unfold argsOk; kernel_rfl
theorem entry_set_iter : entryFor table "set.__iter__" = some Builtin.«frozenset.__iter__» :=
  entryFor_alias (id' := "frozenset.__iter__") (by kernel_rfl) rfl (by decide +kernel) (by kernel_rfl)
theorem set_has_len : typeLookup (.type "set") "__len__" = pure (some (.builtin "set.__len__")) := by rw [typeLookup_type, builtinLookup_eq_fast]; kernel_rfl
theorem erase_perm {α : Type} : ∀ (l : List α) (i : Nat) (x : α), l[i]? = some x → (x :: l.eraseIdx i).Perm l
  | [], i, x, h => by simp at h
  | y :: l, 0, x, h => by simp at h; subst h; exact .refl _
  | y :: l, i + 1, x, h => by
    simp only [List.getElem?_cons_succ] at h
    rw [List.eraseIdx_cons_succ]
    exact (List.Perm.swap y x _).trans ((erase_perm l i x h).cons y)
theorem pick_go {α : Type} (next : Nat → Nat) : ∀ (n k : Nat) (left : List α) (out : Array α), left.length = n → (pickOrder.go next n k left out).toList.Perm (out.toList ++ left) := by
  intro n
  induction n with
  | zero => intro k left out h; unfold pickOrder.go; rw [List.length_eq_zero_iff.mp h, List.append_nil]
  | succ n ih =>
    intro k left out h
    have hlt : next k % left.length < left.length := Nat.mod_lt _ (by omega)
    unfold pickOrder.go
    rw [List.getElem?_eq_getElem hlt]
    dsimp only
    refine (ih _ _ _ (by rw [List.length_eraseIdx, if_pos hlt]; omega)).trans ?_
    rw [Array.toList_push, List.append_assoc]
    exact (erase_perm left _ _ (List.getElem?_eq_getElem hlt)).append_left _
theorem pick_perm {α : Type} (next : Nat → Nat) (xs : Array α) : (pickOrder next xs).toList.Perm xs.toList := by
  unfold pickOrder
  have := pick_go next xs.size 0 xs.toList #[] (Array.length_toList ..)
  simpa using this
abbrev byText (w : World) : Bool := w.params.followText "set-order"
def orderOf (w : World) (S : Addr) (ep : Nat) (es : Array (Int × Value)) : Array (Int × Value) := if byText w then pickOrder (w.params.setOrder S ep) es else es
theorem order_perm (w : World) (S : Addr) (ep : Nat) (es : Array (Int × Value)) : (orderOf w S ep es).toList.Perm es.toList := by
  unfold orderOf
  split
  · exact pick_perm _ _
  · exact .refl _
abbrev setItObj (slot i : Nat) (S : Addr) (n ep : Nat) : Obj := { cls := .type "set_iterator", data := .fields #[rawInt slot, rawInt i, .ref S, rawInt n, rawInt ep] }
def SlotAt (w : World) (t : SetTable) (slot i : Nat) : Prop := byText w = true ∨ SetTable.below t.place slot = i
section
variable {prog : Program} {w : World} {A : Around} {E : Value → Shared → Prop} {s : Shared}
theorem wpAny_iteF {α : Type} {M : Model} {c : Bool} {x y : Sem α} {Q : α → Shared → Prop} (h : c = false) (hQ : wpAny M A y Q E s) : wpAny M A (if c = true then x else y) Q E s := by
  subst h; exact hQ
theorem byText_of {Q : Bool → Shared → Prop} (h : Q (byText w) s) : wpAny (model prog w) A setsByText Q E s := by
  unfold setsByText
  exact wpAny_bind (wpAny_askSetting (wpAny_pure h))
theorem setIter_of {S : Addr} {es : Array (Int × Value)} {ep : Nat} {t : SetTable} {Q : Value → Shared → Prop} (ho : s.heap.get? S = some (setObjI es ep t)) (T : Tab es t)
    (h : Q (.ref s.heap.objs.size) { s with heap := s.heap.push (setItObj 0 0 S es.size ep) }) :
    wpAny (model prog w) A (pyIter (.ref S)) Q E s := by
  have hT : s.TypeIs (.ref S) "set" := ⟨_, ho, rfl⟩
  refine wpAny_pyIter_slot hT F.slot_set_iter (wpAny_call_entry F.slot_set_iter hT entry_set_iter ?_ (F.args_set_iter_1 _))
  unfold Builtin.«frozenset.__iter__»
  show wpAny _ _ (Builtin.Frozenset.sizeOf S >>= _) _ _ _
  unfold Builtin.Frozenset.sizeOf
  refine wpAny_bind (wpAny_bind (wpAny_setEntries_of ho rfl T.fits (wpAny_pure ?_)))
  refine wpAny_bind ?_
  unfold setDrawn
  refine wpAny_bind (wpAny_setState_of ho rfl T.fits ?_)
  dsimp only
  refine wpAny_bind (byText_of (wpAny_pure ?_))
  refine wpAny_iteF ?_ ?_
  · show (!byText w && (!t.plain && decide (es.size > 1))) = false
    rw [T.plain]; simp
  refine wpAny_bind (wpAny_pure ?_)
  refine wpAny_bind (wpAny_setEpoch_of ho rfl T.fits ?_)
  refine wpAny_bind (wpAny_newObj_type (wpAny_pure ⟨_, rfl, "set_iterator", _, ⟨_, Heap.get?_push_size _ rfl, rfl⟩, slot_setit_next.lookup, ?_⟩))
  exact h
theorem setWalk_text {S : Addr} {es : Array (Int × Value)} {ep : Nat} {t : SetTable} {Q : Array (Int × Value) → Shared → Prop} (hb : byText w = true) (hS : s.heap.get? S = some (setObjI es ep t)) (T : Tab es t) (h : Q (orderOf w S ep es) s) :
    wpAny (model prog w) A (setWalk S) Q E s := by
  unfold setWalk
  refine wpAny_bind (wpAny_setState_of hS rfl T.fits ?_)
  dsimp only
  refine wpAny_bind (byText_of ?_)
  rw [hb, if_pos rfl]
  refine wpAny_bind (wpAny_askSetting (wpAny_pure ?_))
  unfold orderOf at h
  rw [if_pos hb] at h
  exact h
theorem setNext_some {S : Addr} {es : Array (Int × Value)} {ep slot i : Nat} {t : SetTable} {Q : Option (Value × Nat) → Shared → Prop} (hS : s.heap.get? S = some (setObjI es ep t)) (T : Tab es t) (hl : t.led = ledOf w)
    (hs : SlotAt w t slot i) (hi : i < es.size) (hQ : ∀ slot' e, SlotAt w t slot' (i + 1) → (orderOf w S ep es)[i]? = some e → Q (some (e.2, slot')) s) :
    wpAny (model prog w) A (setNext S slot i ep) Q E s := by
  unfold setNext
  refine wpAny_bind (wpAny_setState_of hS rfl T.fits ?_)
  dsimp only
  refine wpAny_bind (byText_of ?_)
  by_cases hb : byText w = true
  · rw [hb, if_pos rfl]
    refine wpAny_iteF (by simp) ?_
    refine wpAny_bind (setWalk_text hb hS T (wpAny_pure ?_))
    have hz : i < (orderOf w S ep es).size := by
      have := (order_perm w S ep es).length_eq
      rw [Array.length_toList, Array.length_toList] at this; omega
    rw [Array.getElem?_eq_getElem hz]
    exact hQ slot _ (.inl hb) (Array.getElem?_eq_getElem hz)
  · have hb' : byText w = false := by simpa using hb
    rw [hb', if_neg Bool.false_ne_true]
    refine wpAny_iteF ?_ ?_
    · show (!t.plain && decide (es.size > 1)) = false
      rw [T.plain]; simp
    have hled : t.led = true := by rw [hl]; show (!byText w) = true; rw [hb']; rfl
    refine wpAny_bind ?_
    refine wpAny_iteF ?_ ?_
    · rw [hled]; rfl
    refine wpAny_pure ?_
    have hbe : SetTable.below t.place slot = i := hs.resolve_left hb
    have hp : i < t.place.size := by rw [T.size]; exact hi
    rw [hbe, Array.getElem?_eq_getElem hi, Array.getElem?_eq_getElem hp]
    refine wpAny_pure (hQ _ _ (.inr (below_at T.rise hp)) ?_)
    unfold orderOf
    rw [if_neg hb]
    exact Array.getElem?_eq_getElem hi
theorem setNext_none {S : Addr} {es : Array (Int × Value)} {ep slot : Nat} {t : SetTable} {Q : Option (Value × Nat) → Shared → Prop} (hS : s.heap.get? S = some (setObjI es ep t)) (T : Tab es t) (hl : t.led = ledOf w)
    (hs : SlotAt w t slot es.size) (hQ : Q none s) :
    wpAny (model prog w) A (setNext S slot es.size ep) Q E s := by
  unfold setNext
  refine wpAny_bind (wpAny_setState_of hS rfl T.fits ?_)
  dsimp only
  refine wpAny_bind (byText_of ?_)
  by_cases hb : byText w = true
  · rw [hb, if_pos rfl]
    refine wpAny_iteF (by simp) ?_
    refine wpAny_bind (setWalk_text hb hS T (wpAny_pure ?_))
    have hz : (orderOf w S ep es).size = es.size := by
      have := (order_perm w S ep es).length_eq
      rw [Array.length_toList, Array.length_toList] at this; omega
    rw [← hz, Array.getElem?_size]
    exact hQ
  · have hb' : byText w = false := by simpa using hb
    rw [hb', if_neg Bool.false_ne_true]
    refine wpAny_iteF ?_ ?_
    · show (!t.plain && decide (es.size > 1)) = false
      rw [T.plain]; simp
    have hled : t.led = true := by rw [hl]; show (!byText w) = true; rw [hb']; rfl
    refine wpAny_bind ?_
    refine wpAny_iteF ?_ ?_
    · rw [hled]; rfl
    refine wpAny_pure ?_
    have hbe : SetTable.below t.place slot = es.size := hs.resolve_left hb
    rw [hbe, Array.getElem?_size]
    exact wpAny_pure hQ
theorem setit_field {h : Heap} {it S : Addr} {slot slot' i n ep : Nat} (hit : h.get? it = some (setItObj slot i S n ep)) :
    ((h.update it (Obj.mapFields (·.setIfInBounds 0 (rawInt slot')))).update it (Obj.mapFields (·.setIfInBounds 1 (rawInt ((i : Int) + 1))))).get? it = some (setItObj slot' (i + 1) S n ep) := by
  have h1 := Heap.get?_update_self (Obj.mapFields (·.setIfInBounds 0 (rawInt slot'))) hit rfl
  have h2 := Heap.get?_update_self (Obj.mapFields (·.setIfInBounds 1 (rawInt ((i : Int) + 1)))) h1 rfl
  rw [h2]
  rfl
theorem setNext_item {it S : Addr} {es : Array (Int × Value)} {ep slot i : Nat} {t : SetTable} {Q : Option Value → Shared → Prop} (hS : s.heap.get? S = some (setObjI es ep t)) (T : Tab es t) (hl : t.led = ledOf w)
    (hit : s.heap.get? it = some (setItObj slot i S es.size ep)) (hs : SlotAt w t slot i) (hi : i < es.size)
    (hQ : ∀ slot' h' e, SlotAt w t slot' (i + 1) → (orderOf w S ep es)[i]? = some e → h'.get? it = some (setItObj slot' (i + 1) S es.size ep) → Heap.SameBut it s.heap h' → Q (some e.2) { s with heap := h' }) :
    wpAny (model prog w) A (pyNext (.ref it)) Q E s := by
  have hT : s.TypeIs (.ref it) "set_iterator" := ⟨_, hit, rfl⟩
  unfold pyNext
  refine wpAny_bind (wpAny_attempt (wpAny_callSpecial?_slot (name := Str.ofString "__next__") hT slot_setit_next
    (wpAny_call_entry slot_setit_next hT entry_setit_next ?_ (args_setit_next _))))
  unfold Builtin.«set_iterator.__next__»
  show wpAny _ _ (fieldsOf (.ref it) >>= _) _ _ _
  refine wpAny_bind (wpAny_fieldsOf hit rfl ?_)
  show wpAny _ _ (setEntries S >>= _) _ _ _
  refine wpAny_bind (wpAny_setEntries_of hS rfl T.fits ?_)
  refine wpAny_iteF (by simp) ?_
  show wpAny _ _ (setNext S slot i ep >>= _) _ _ _
  refine wpAny_bind (setNext_some hS T hl hs hi fun slot' e hs' he => ?_)
  dsimp only
  refine wpAny_bind (wpAny_setField hit rfl (by simp) ?_)
  have h1 := Heap.get?_update_self (Obj.mapFields (·.setIfInBounds 0 (rawInt slot'))) hit rfl
  refine wpAny_bind (wpAny_setField h1 rfl (by simp) ?_)
  refine wpAny_pure ⟨_, rfl, wpAny_pure ?_⟩
  exact hQ slot' _ e hs' he (setit_field hit) ((Heap.SameBut.update ..).trans (Heap.SameBut.update ..))
theorem setNext_end {it S : Addr} {es : Array (Int × Value)} {ep slot : Nat} {t : SetTable} {Q : Option Value → Shared → Prop} (hh : A.handled = none) (hS : s.heap.get? S = some (setObjI es ep t)) (T : Tab es t) (hl : t.led = ledOf w)
    (hit : s.heap.get? it = some (setItObj slot es.size S es.size ep)) (hs : SlotAt w t slot es.size)
    (hQ : ∀ h', Heap.ExtBut it s.heap h' → Q none { s with heap := h' }) :
    wpAny (model prog w) A (pyNext (.ref it)) Q E s := by
  have hT : s.TypeIs (.ref it) "set_iterator" := ⟨_, hit, rfl⟩
  unfold pyNext
  refine wpAny_bind (wpAny_attempt (wpAny_callSpecial?_slot (name := Str.ofString "__next__") hT slot_setit_next
    (wpAny_call_entry slot_setit_next hT entry_setit_next ?_ (args_setit_next _))))
  unfold Builtin.«set_iterator.__next__»
  show wpAny _ _ (fieldsOf (.ref it) >>= _) _ _ _
  refine wpAny_bind (wpAny_fieldsOf hit rfl ?_)
  show wpAny _ _ (setEntries S >>= _) _ _ _
  refine wpAny_bind (wpAny_setEntries_of hS rfl T.fits ?_)
  refine wpAny_iteF (by simp) ?_
  show wpAny _ _ (setNext S slot es.size ep >>= _) _ _ _
  refine wpAny_bind (setNext_none hS T hl hs ?_)
  dsimp only
  refine wpAny_bind (wpAny_setField hit rfl (by simp) ?_)
  show wpAny _ _ (newExc (.type "StopIteration") [] >>= _) _ _ _
  refine wpAny_bind ?_
  simp only [newExc, newTuple]
  refine wpAny_bind (wpAny_newObj_type ?_ (by size_fits))
  refine wpAny_bind (m := firstArgMember _ _) (wpAny_of_eq (a := Value.none) (by first | rfl | (simp only [firstArgMember]; rfl)) ?_)
  refine wpAny_newObj_type ?_ (by size_fits)
  simp only [raiseNew]
  refine wpAny_bind (wpAny_handled ?_)
  rw [show A.in1.handled = none from hh]
  refine wpAny_bind (wpAny_pure (wpAny_throw ?_))
  refine wpAny_bind (wpAny_isInstance (T := "StopIteration") (b := true) ⟨_, Heap.get?_push_size _ rfl, rfl⟩ isSubtype_stop ?_)
  exact wpAny_pure (hQ _ (((Heap.SameBut.update ..).extBut.push _).push _))
end
end Mine
end
section
open PySem PySem.W PyProof.Rows PySem.Builtin
set_option maxRecDepth 100000
set_option maxHeartbeats 8000000
namespace Mine
section
variable {prog : Program} {w : World} {A : Around} {E : Value → Shared → Prop} {s : Shared}
theorem wpAny_iteT {α : Type} {M : Model} {c : Bool} {x y : Sem α} {Q : α → Shared → Prop} (h : c = true) (hQ : wpAny M A x Q E s) : wpAny M A (if c = true then x else y) Q E s := by
  subst h; exact hQ
theorem extend_set {A : Around} {S it D : Addr} {es : Array (Int × Value)} {ep : Nat} {t : SetTable} {res : Value} {Rr : Result → Shared → Prop} (hh : A.handled = none) (T : Tab es t) (hl : t.led = ledOf w)
    (hDS : D ≠ S) (hDi : D ≠ it) (hiS : it ≠ S) :
    ∀ (k i slot : Nat) (s : Shared) (acc : Array Value) (c : Nat), es.size - i = k → i ≤ es.size → s.heap.get? S = some (setObjI es ep t) → s.heap.get? it = some (setItObj slot i S es.size ep) → SlotAt w t slot i →
      s.heap.get? D = some (seqObj "list" acc c) → acc.toList = ((orderOf w S ep es).toList.take i).map (·.2) →
      (∀ h' tk c', h'.get? D = some (seqObj "list" ((orderOf w S ep es).toList.map (·.2)).toArray c') → (∀ b o, b ≠ D → b ≠ it → s.heap.get? b = some o → h'.get? b = some o) → Rr (.ok (.ret res)) { s with heap := h', toks := tk }) →
      codeAny (model prog w) A (.builtin "list.extend.loop" ⟨[.ref D, .ref it, res], []⟩) Rr s := by
  have hz : (orderOf w S ep es).toList.length = es.size := by
    have := (order_perm w S ep es).length_eq; rw [this, Array.length_toList]
  have hsm : es.size ≤ 18 := by rcases T.fit with ⟨_, h, _⟩ | ⟨_, h, _⟩ <;> omega
  intro k
  induction k with
  | zero =>
    intro i slot s acc c hk hi hS hit hs hD ha hR
    obtain rfl : i = es.size := by omega
    refine codeAny_builtin F.entry_extend_loop ?_
    rw [Around.under_plainId F.plain_extend_loop _]
    show wpAny _ A.in1 (pyNext (.ref it) >>= _) _ _ s
    refine wpAny_bind (setNext_end hh hS T hl hit hs fun h' hx => ?_)
    refine wpAny_pure ?_
    have hD' := hx D _ hDi hD
    refine hR h' s.toks c ?_ fun b o hb hb2 e => hx b o hb2 e
    rw [hD']
    rw [← hz, List.take_length] at ha
    rw [← ha]
  | succ k ih =>
    intro i slot s acc c hk hi hS hit hs hD ha hR
    have hlt : i < es.size := by omega
    refine codeAny_builtin F.entry_extend_loop ?_
    rw [Around.under_plainId F.plain_extend_loop _]
    show wpAny _ A.in1 (pyNext (.ref it) >>= _) _ _ s
    refine wpAny_bind (setNext_item hS T hl hit hs hlt fun slot' h' e hs' he hit' hx => ?_)
    have hD' : h'.get? D = some (seqObj "list" acc c) := hx.extBut D _ hDi hD
    have hS' : h'.get? S = some (setObjI es ep t) := hx.extBut S _ hiS.symm hS
    have hacc : acc.size = i := by
      have := congrArg List.length ha
      rw [Array.length_toList, List.length_map, List.length_take, hz] at this; omega
    show wpAny _ A.in1 (updateSeq D (·.push e.2) >>= _) _ _ _
    refine wpAny_bind ?_
    have hDn : (h'.update D (Obj.mapSeq (·.push e.2))).get? D = some (seqObj "list" (acc.push e.2) (if (acc.push e.2).size == acc.size then c else c + 1)) := get?_update_seq hD' _
    have oth : ∀ b o, b ≠ D → h'.get? b = some o → (h'.update D (Obj.mapSeq (·.push e.2))).get? b = some o := fun b o hb q => (Heap.get?_update_other _ _ (Ne.symm hb)).trans q
    refine wpAny_updateSeq hD' rfl (wpAny_pure ⟨plainId_quiet F.plain_extend_loop _, ih (i + 1) slot' _ _ _ (by omega) hlt (oth S _ hDS.symm hS') (oth it _ hDi.symm hit') hs' hDn ?_ ?_⟩) ?_ ?_
    · rw [Array.toList_push, ha, List.take_succ_eq_append_getElem (by rw [hz]; exact hlt), List.map_append]
      congr 1
      rw [Array.getElem_toList]
      have : (orderOf w S ep es)[i]'(by rw [← Array.length_toList, hz]; exact hlt) = e := by
        have h2 := Array.getElem?_eq_getElem (xs := orderOf w S ep es) (i := i) (by rw [← Array.length_toList, hz]; exact hlt)
        rw [h2] at he; exact Option.some.inj he
      rw [this]; rfl
    · intro h'' tk c' hD'' hk''
      refine hR h'' tk c' hD'' fun b o hb hb2 q => hk'' b o hb hb2 (oth b o hb (hx.extBut b o hb2 q))
    · rw [hacc, sizeLine_eq]; omega
    · rw [Array.size_push, hacc, sizeLine_eq]; omega
theorem collect_set {S : Addr} {es : Array (Int × Value)} {ep : Nat} {t : SetTable} {Q : List Value → Shared → Prop} (hh : A.handled = none) (hS : s.heap.get? S = some (setObjI es ep t)) (T : Tab es t) (hl : t.led = ledOf w)
    (h : ∀ h' tk, KeepAll s.heap h' → Q ((orderOf w S ep es).toList.map (·.2)) { s with heap := h', toks := tk }) :
    wpAny (model prog w) A (collect (.ref S)) Q E s := by
  have hSlt := Heap.lt_size hS
  have hDS : s.heap.objs.size ≠ S := Nat.ne_of_gt hSlt
  unfold collect
  refine wpAny_bind (wpAny_runValue (codeAny_builtin F.entry_proto_collect ?_))
  rw [Around.under_plainId F.plain_proto_collect _]
  show wpAny _ A.in1 (newList [] >>= fun l => again (.builtin "list.__iadd__" ⟨[l, .ref S], []⟩)) _ _ s
  refine wpAny_bind (wpAny_newObj_type ?_)
  refine wpAny_pure ⟨plainId_quiet F.plain_list_iadd _, codeAny_builtin F.entry_list_iadd ?_⟩
  rw [Around.under_plainId F.plain_list_iadd _]
  have hS1 : (s.heap.push (seqObj "list" #[] 0)).get? S = some (setObjI es ep t) := Heap.get?_push_of_some _ hS
  have hD1 : (s.heap.push (seqObj "list" #[] 0)).get? s.heap.objs.size = some (seqObj "list" #[] 0) := Heap.get?_push_size _ rfl
  show wpAny _ A.in1 (Builtin.List.listExtendWith (.ref s.heap.objs.size) (.ref S) (.ref s.heap.objs.size)) _ _ { s with heap := s.heap.push (seqObj "list" #[] 0) }
  unfold Builtin.List.listExtendWith
  have hT : ∀ s' : Shared, s'.heap.get? S = some (setObjI es ep t) → s'.TypeIs (.ref S) "set" := fun s' e => ⟨_, e, rfl⟩
  refine wpAny_bind (wpAny_typeOf (hT { s with heap := s.heap.push (seqObj "list" #[] 0) } hS1) ?_)
  have h1 : Builtin.List.listSameRef (.ref s.heap.objs.size) (.ref S) = false := by simp [Builtin.List.listSameRef, hDS]
  have h2 : (Value.type "set" == Value.type "list") = false := by decide
  have h3 : (Value.type "set" == Value.type "tuple") = false := by decide
  simp only [h1, h2, h3, Bool.or_false, Bool.false_eq_true, if_false]
  refine wpAny_bind (setIter_of (s := { s with heap := s.heap.push (seqObj "list" #[] 0) }) hS1 T ?_)
  have hsz : (s.heap.push (seqObj "list" #[] 0)).objs.size = s.heap.objs.size + 1 := size_push' _ _
  generalize hH : (s.heap.push (seqObj "list" #[] 0)).push (setItObj 0 0 S es.size ep) = H2
  have hS2 : H2.get? S = some (setObjI es ep t) := by rw [← hH]; exact Heap.get?_push_of_some _ hS1
  have hD2 : H2.get? s.heap.objs.size = some (seqObj "list" #[] 0) := by rw [← hH]; exact Heap.get?_push_of_some _ hD1
  have hI2 : H2.get? (s.heap.objs.size + 1) = some (setItObj 0 0 S es.size ep) := by rw [← hH, ← hsz]; exact Heap.get?_push_size _ rfl
  have hk2 : KeepAll s.heap H2 := fun b o e => by rw [← hH]; exact Heap.get?_push_of_some _ (Heap.get?_push_of_some _ e)
  rw [hsz]
  refine wpAny_bind (wpAny_holding ?_)
  unfold Builtin.List.listLengthHint
  refine wpAny_bind (wpAny_specialOf (hT { s with heap := H2 } hS2) set_has_len ?_)
  have hid : splitId "set.__len__" = some ("set", "__len__") := by decide +kernel
  dsimp only
  rw [hid]
  dsimp only
  refine wpAny_bind (wpAny_isInstance (hT { s with heap := H2 } hS2) (b := true) sub_set_self ?_)
  rw [if_neg (by decide)]
  refine wpAny_iteT (by decide +kernel) ?_
  refine wpAny_bind (wpAny_typeOf (hT { s with heap := H2 } hS2) ?_)
  refine wpAny_pure ?_
  refine wpAny_iteT (by decide +kernel) ?_
  refine wpAny_bind (wpAny_rule ?_)
  refine wpAny_bind ?_
  show wpAny _ _ (updateSeq s.heap.objs.size (·.push .none) >>= fun _ => updateSeq s.heap.objs.size (·.pop)) _ _ _
  refine wpAny_bind (wpAny_updateSeq hD2 rfl ?_)
  have hD3 := get?_update_seq hD2 (·.push Value.none)
  refine wpAny_updateSeq hD3 rfl ?_
  have hD4 := get?_update_seq hD3 (·.pop)
  have oth : ∀ b o, b ≠ s.heap.objs.size → H2.get? b = some o → ((H2.update s.heap.objs.size (Obj.mapSeq (·.push Value.none))).update s.heap.objs.size (Obj.mapSeq (·.pop))).get? b = some o :=
    fun b o hb e => (Heap.get?_update_other _ _ (Ne.symm hb)).trans ((Heap.get?_update_other _ _ (Ne.symm hb)).trans e)
  refine wpAny_pure ⟨plainId_quiet F.plain_extend_loop _, extend_set (by exact hh) T hl hDS (Nat.ne_of_lt (Nat.lt_succ_self _)) (Nat.ne_of_gt (Nat.lt_succ_of_lt hSlt)) es.size 0 0 _ _ _ rfl (Nat.zero_le _) (oth S _ hDS.symm hS2) (oth _ _ (Nat.ne_of_gt (Nat.lt_succ_self _)) hI2) (.inr (below_zero T.rise)) hD4 rfl fun h' tk c' hD' hk' => ?_⟩
  show wpAny (model prog w) A (do
      let o ← load s.heap.objs.size
      match o.data with
      | .seq xs _ => pure xs.toList
      | _ => unsupported "internal:collect") Q E { s with heap := h', toks := tk }
  refine wpAny_bind (wpAny_load hD' ?_)
  show wpAny _ _ (pure ((orderOf w S ep es).toList.map (·.2)).toArray.toList) Q E _
  refine wpAny_pure (h h' tk fun b o e => ?_)
  have hb := Heap.lt_size e
  exact hk' b o (Nat.ne_of_lt hb) (Nat.ne_of_lt (Nat.lt_succ_of_lt hb)) (oth b o (Nat.ne_of_lt hb) (hk2 b o e))
theorem sorted_set {S : Addr} {xs : List Int} {Q : Value → Shared → Prop} (hh : A.handled = none) (hS : ISetAt w s.heap S xs)
    (h : ∀ (out : Array Value) (ns' : List Int) (l : Addr) (h' : Heap) (tk c : Nat), IntsAre out.toList ns' → ns'.Perm xs → ns'.Pairwise (· ≤ ·) → KeepAll s.heap h' → (∀ b o, s.heap.get? b = some o → b < l) → h'.get? l = some (seqObj "list" out c) → Q (.ref l) { s with heap := h', toks := tk }) :
    wpAny (model prog w) A (call (.builtin "sorted") [.ref S]) Q E s := by
  obtain ⟨es, ep, t, ho, T, hl, hp⟩ := hS
  refine Calls.call_function_entry kind_sorted plain_sorted entry_sorted (args_sorted1 _) ?_
  unfold Builtin.«sorted»
  refine wpAny_bind (m := checkCount "sorted" 1 1 _) (wpAny_pure ?_)
  refine wpAny_bind (collect_set (by exact hh) ho T hl fun h' tk hk => ?_)
  have hsm : es.size ≤ 18 := by rcases T.fit with ⟨_, h, _⟩ | ⟨_, h, _⟩ <;> omega
  have hz : (orderOf w S ep es).toList.length = es.size := by
    have := (order_perm w S ep es).length_eq; rw [this, Array.length_toList]
  have hI : IntsAre ((orderOf w S ep es).toList.map (·.2)) ((orderOf w S ep es).toList.map (·.1)) := by
    have hall : ∀ e ∈ (orderOf w S ep es).toList, ∃ (k : Nat) (tk : Tok), k < 32 ∧ e = ((k : Int), .int k tk) := fun e he => T.small e ((order_perm w S ep es).mem_iff.mp he)
    generalize (orderOf w S ep es).toList = L at hall
    induction L with
    | nil => exact .nil
    | cons e L ih =>
      obtain ⟨k, tk, _, rfl⟩ := hall e (.head _)
      exact .cons _ _ (ih fun e he => hall e (.tail _ he))
  have hper : ((orderOf w S ep es).toList.map (·.1)).Perm xs := ((order_perm w S ep es).map _).trans hp
  refine wpAny_bind (wpAny_newList ?_)
  have hoL : (h'.push (seqObj "list" ((orderOf w S ep es).toList.map (·.2)).toArray 0)).get? h'.objs.size = some (seqObj "list" ((orderOf w S ep es).toList.map (·.2)).toArray 0) := Heap.get?_push_size _ rfl
  refine wpAny_bind (wpAny_holding (wpAny_call_entry slot_list_sort ⟨_, hoL, rfl⟩ entry_list_sort (list_sort_tree hoL hI (by rw [List.length_map, hz]; omega) fun out ns' a1 a2 a3 => ⟨_, rfl, ?_⟩) (args_list_sort _)))
  refine wpAny_pure ⟨_, rfl, ?_⟩
  have hneT : ∀ b o, s.heap.get? b = some o → b ≠ h'.objs.size := fun b o e => Nat.ne_of_lt (Heap.lt_size (hk b o e))
  obtain ⟨c, hc⟩ := sortedHeap_at (out := out) hoL
  refine h out ns' h'.objs.size _ _ c a1 (a2.trans hper) a3 (fun b o e => ?_) (fun b o e => Heap.lt_size (hk b o e)) hc
  rw [sortedHeap_old (hneT b o e) (by rw [size_push']; exact Nat.lt_succ_of_lt (Heap.lt_size (hk b o e)))]
  exact Heap.get?_push_of_some _ (hk b o e)
end
end Mine
end
section
open PySem PySem.W PyProof.Rows PySem.Builtin
set_option maxRecDepth 100000
set_option maxHeartbeats 8000000
namespace Mine
theorem firstMet_nodup (val : Nat → Int) : ∀ i, (firstMet val i).Nodup
  | 0 => List.nodup_nil
  | i + 1 => by
    rw [firstMet_succ]
    unfold step_dedup
    by_cases h : (firstMet val i).any (· == val i) = true
    · rw [if_pos h]; exact firstMet_nodup val i
    · rw [if_neg h, List.nodup_append]
      refine ⟨firstMet_nodup val i, by simp, fun a ha b hb e => h ?_⟩
      rw [List.mem_singleton] at hb
      subst hb; subst e
      exact List.any_eq_true.mpr ⟨_, ha, by simp⟩
theorem firstMet_mem (ns : List Nat) (z : Int) : z ∈ firstMet (fun i => (ns.getD i 0 : Int)) ns.length ↔ ∃ q ∈ ns, z = (q : Int) := by
  have h := firstMet_any (fun i => (ns.getD i 0 : Int)) ns.length z
  have e : (List.range ns.length).map (fun i => (ns.getD i 0 : Int)) = ns.map Int.ofNat := by
    refine List.ext_getElem? fun i => ?_
    by_cases hi : i < ns.length
    · simp [List.getElem?_range hi, List.getD, hi]
    · simp [List.getElem?_eq_none (Nat.le_of_not_lt hi), hi]
  rw [e] at h
  have h1 : z ∈ firstMet (fun i => (ns.getD i 0 : Int)) ns.length ↔ (firstMet (fun i => (ns.getD i 0 : Int)) ns.length).any (· == z) = true := by
    rw [List.any_eq_true]
    exact ⟨fun h => ⟨z, h, beq_self_eq_true _⟩, fun ⟨x, hx, e⟩ => by rw [beq_iff_eq] at e; exact e ▸ hx⟩
  rw [h1, h, List.any_eq_true]
  constructor
  · rintro ⟨x, hx, e⟩
    obtain ⟨q, hq, rfl⟩ := List.mem_map.mp hx
    rw [beq_iff_eq] at e
    exact ⟨q, hq, e.symm⟩
  · rintro ⟨q, hq, rfl⟩
    exact ⟨_, List.mem_map.mpr ⟨q, hq, rfl⟩, beq_self_eq_true _⟩
theorem canon_set {ns : List Nat} {ns' : List Int} (hp : ns'.Perm (firstMet (fun i => (ns.getD i 0 : Int)) ns.length)) (hs : ns'.Pairwise (· ≤ ·)) : Canon ns' ns :=
  ⟨hs, hp.symm.nodup (firstMet_nodup _ _), fun x => (hp.mem_iff).trans (firstMet_mem ns x)⟩
end Mine
end
section
open PySem PySem.W PyProof.Rows PySem.SeqAt
set_option maxRecDepth 100000
set_option maxHeartbeats 4000000
namespace Mine
theorem reads_ints {h : Heap} {vs : List Value} {ns : List Int} (x : IntsAre vs ns) : ReadsAll h vs (ns.map .int) [] := by
  induction x with
  | nil => exact .nil
  | cons n t r ih => exact .cons (as := []) (.int n t) ih
theorem lay_ints : ∀ ns : List Int, PyData.canLayAll0 (ns.map .int) = true
  | [] => by simp [PyData.canLayAll0]
  | n :: ns => by
    have := lay_ints ns
    simp [PyData.canLayAll0, PyData.canLay0, this]
theorem depth_ints : ∀ ns : List Int, PyData.depthAll (ns.map .int) = 0
  | [] => by simp [PyData.depthAll]
  | n :: ns => by
    have := depth_ints ns
    simp [PyData.depthAll, PyData.depth, this]
theorem all_true (n : Nat) : ((List.range n).all fun _ => true) = true := List.all_eq_true.mpr fun _ _ => rfl
section
variable {prog : Program} {w : World} {A : Around} {E : Value → Shared → Prop} {s : Shared} {Q : Value → Shared → Prop}
theorem eqAt_str (X : Str) (t u : Tok) : EqAt A s (.str X t) (.str X u) true := by
  have := EqAt.str_str (A := A) (s := s) X t X u
  rw [beq_self_eq_true] at this
  exact this
theorem eqAt_ints {a b : Addr} {x y : Array Value} {ns : List Int} (ha : s.heap.IsList a x) (hb : s.heap.IsList b y) (hx : IntsAre x.toList ns) (hy : IntsAre y.toList ns) (hu : A.units + 1 < cLine) : EqAt A s (.ref a) (.ref b) true := by
  obtain ⟨o, ho, hc, n, hd⟩ := ha
  obtain ⟨o', ho', hc', n', hd'⟩ := hb
  have hl : (PyData.list (ns.map .int)).canLay0 = true := by simp [PyData.canLay0, lay_ints]
  have := eqAt_reads (.list (ns.map .int)) (.list (ns.map .int)) A s (.ref a) (.ref b) _ _ (.list ho hc hd (reads_ints hx)) (.list ho' hc' hd' (reads_ints hy)) hl hl (by simp [PyData.depth, depth_ints]; exact hu)
  rw [eqv_refl _ hl] at this
  exact this
theorem eq_lists_by {a b : Addr} {x y : Array Value} (ha : s.heap.IsList a x) (hb : s.heap.IsList b y) (hz : x.size = y.size) (hu : A.units < cLine)
    (he : ∀ (j : Nat) v v', x[j]? = some v → y[j]? = some v' → EqAt A.in1 s v v' true) (h : Q (.bool true) s) : wpAny (model prog w) A (compareOp .Eq (.ref a) (.ref b)) Q E s := by
  refine eq_listAt (e := fun _ => true) ha hb hz hu (fun j h1 h2 => he j _ _ (Array.getElem?_eq_getElem h1) (Array.getElem?_eq_getElem h2)) ?_
  rw [all_true]; exact h
theorem eq_ints {a b : Addr} {x y : Array Value} {ns : List Int} (ha : s.heap.IsList a x) (hb : s.heap.IsList b y) (hx : IntsAre x.toList ns) (hy : IntsAre y.toList ns) (hu : A.units < cLine) (h : Q (.bool true) s) : wpAny (model prog w) A (compareOp .Eq (.ref a) (.ref b)) Q E s := by
  refine eq_lists_by ha hb ?_ hu (fun j v v' h1 h2 => ?_) h
  · have e1 := hx.length; have e2 := hy.length
    rw [Array.length_toList] at e1 e2; omega
  · obtain ⟨t, rfl⟩ := hx.int_at j v (by rw [Array.getElem?_toList]; exact h1)
    obtain ⟨t', rfl⟩ := hy.int_at j v' (by rw [Array.getElem?_toList]; exact h2)
    have := EqAt.int_int (A := A.in1) (s := s) (ns.getD j 0) t (ns.getD j 0) t'
    rw [beq_self_eq_true] at this
    exact this
end
end Mine
end
section
open PySem PySem.W PyProof.Rows Mine
local macro_rules | `(tactic| walk_at "eval ListComp") => `(tactic| ((with_reducible show wpAny _ _ (eval (PySem.Expr.ListComp _ _ _ _) _) _ _ _); refine unbox ?_))
local macro_rules | `(tactic| walk_at "pyIter ref") => `(tactic| ((with_reducible show wpAny _ _ (pyIter (Value.ref _)) _ _ _); refine unbox ?_))
local macro_rules | `(tactic| walk_at "eval Name") => `(tactic| ((with_reducible show wpAny _ _ (eval (PySem.Expr.Name _ _) (compEnvC _ _ _ _)) _ _ _); with_unfolding_all first
  | refine lcf_cell (by k_asm) (by rfl) (by k_mem) (by k_asm) ?_ (by rfl) (by rfl)
  | refine cn_local (by k_asm) (by first | exact if_pos rfl | rfl) ?_
  | refine cn_global (by k_asm) (by k_asm) (by k_asm) (by k_is) ?_
  | refine cn_built (by k_asm) (by k_asm) (by k_asm) (by k_is) (by boot_by_name) (by decide) ?_))
section
open PySem PySem.W PyProof.Rows PyProof.V Mine
set_option maxRecDepth 100000
set_option maxHeartbeats 8000000
namespace Mine1
noncomputable def lawDef : List Stmt × Scope := ((defOf (Str.ofString "law") PySem.Challenge.pw_kl0057_01.main.body).getD ([], default))
theorem law_kind : lawDef.2.kind ≠ .module := by
  show ScopeKind.function ≠ ScopeKind.module
  decide
section
variable {w : World} {mg mb : Str → Option Value} {dp un : Nat} {gd : Option (List Code)} {s : Shared} {Q : Flow → Shared → Prop} {E : Value → Shared → Prop}
theorem law_1 {base : Heap} {L fa ls P : Addr} {cd : Value} {m : Str → Option Value} {vals : List Value} {ns : List Int} {q1 q2 q3 q4 q5 q6 oP : Obj} (PB : PW w mg mb base)
    (hdp : dp ≤ 310) (hu : un ≤ 3000) (hl : base.IsList ls vals.toArray) (hi : IntsAre vals ns) (hns : ns.length ≤ 63)
    (F : Fr base L s.heap m) (N : News base L s.heap [(L + 1 + 1 + 1 + 1 + 1 + 1, q6), (L + 1 + 1 + 1 + 1 + 1, q5), (L + 1 + 1 + 1 + 1, q4), (L + 1 + 1 + 1, q3), (L + 1 + 1, q2), (L + 1, q1), (P, oP)])
    (d1 : q1.data = .cell (some (.ref ls))) (d2 : q2.data = .cell none) (d3 : q3.data = .cell none) (d4 : q4.data = .cell none) (d5 : q5.data = .cell none) (d6 : q6.data = .cell none) (hPL : P < L)
    (hQ : ∀ s' dr ws dn o2 o3 tc, dn.length ≤ 7 → IntsAre ws (dn ++ [0, ns.sum]) → GExt NoG s.gens s'.gens s.os s'.os → Fr base L s'.heap m →
      News base L s'.heap [(dr, W.listOf ws.toArray 0), (L + 1 + 1 + 1 + 1 + 1 + 1, q6), (L + 1 + 1 + 1 + 1 + 1, q5), (L + 1 + 1 + 1 + 1, q4), (L + 1 + 1 + 1, o3), (L + 1 + 1, o2), (L + 1, q1), (P, oP)] →
      o2.data = .cell (some (.int ((dn.length : Nat) : Int) tc)) → o3.data = .cell (some (.ref dr)) →
      ((L + 1 + 1 + 1 + 1 + 1 + 1 : Nat) < (dr : Nat)) →
      wpAny (model prog w) ((Ar dp un (some []) gd).deeper (envOfC (Str.ofString "law") lawDef.2 L fa cd)) (execs (lawDef.1.drop 2) (envOfC (Str.ofString "law") lawDef.2 L fa cd)) Q E s') :
    wpAny (model prog w) ((Ar dp un (some []) gd).deeper (envOfC (Str.ofString "law") lawDef.2 L fa cd)) (execs (lawDef.1.drop 0) (envOfC (Str.ofString "law") lawDef.2 L fa cd)) Q E s := by
  conv in (List.drop 0 _) => whnf
  conv => enter [2, 2, 2]; whnf
  conv => enter [3, 2, 2]; whnf
  obtain ⟨KX, T⟩ := id PB
  replace hPL := (fun (a b : Nat) (h : a < b) => h) _ _ hPL
  refine execs_box ?_
  k_steps
  rename Fr _ _ _ _ => F1
  rename News _ _ _ _ => N1
  rename_i h1 o2 dc2
  refine Box.mk ?_
  have ecnt : (if 7 < (ns.length : Int) then (7 : Int) else (ns.length : Int)) = ((min ns.length 7 : Nat) : Int) := by
    split <;> omega
  rw [ecnt] at dc2
  obtain ⟨tc, dc2⟩ : ∃ t, o2.data = Data.cell (some (.int ((min ns.length 7 : Nat) : Int) t)) := ⟨_, dc2⟩
  generalize hcnt : min ns.length 7 = cnt at dc2
  have hc7 : cnt ≤ 7 := by omega
  clear ecnt
  refine cut_state (h' := h1) (fun sa ea1 ea2 ea3 => ?_) rfl
  subst ea1
  replace ea2 : sa.gens = s.gens := ea2
  replace ea3 : sa.os = s.os := ea3
  refine execs_box ?_
  k_steps
  refine Box.mk (comp_head (by with_unfolding_all exact rfl) rfl (by decide) ?_)
  k_steps
  rename_i h2 tk2 t1 u1 v1 hr F2 N2 k2
  refine Box.mk (range_src hr (by omega) fun sb it oi hit kb gb ob hin hio hic hR => ?_)
  dsimp only at hit kb hin
  replace gb : sb.gens = sa.gens := gb
  replace ob : sb.os = sa.os := ob
  have Fb := Fr.keepAll F2 kb
  have Nb := News.keepAll N2 kb
  have hWn : ∀ p ∈ [(L + 1 + 1 + 1 + 1 + 1 + 1, q6), (L + 1 + 1 + 1 + 1 + 1, q5), (L + 1 + 1 + 1 + 1, q4), (L + 1 + 1 + 1, q3), (L + 1 + 1, o2), (L + 1, q1), (P, oP)], ¬ p.1 ∈ [it] := fun p hp h => by
    have := (N2 p hp).1
    rw [List.mem_singleton.mp h, hin] at this; cases this
  have hLit : L ≠ it := fun h => by
    obtain ⟨o, _, _, ho, _⟩ := F2.ns
    rw [h, hin] at ho; cases ho
  refine comp_over (l := [envOfC (Str.ofString "law") lawDef.2 L fa cd]) (base := base) (F := fun _ v _ => ∃ k t, v = .int k t) (by decide) rfl rfl (it_range rfl it cnt _ _) hR (okl_of_fr Fb rfl law_kind) (fun b hb => ⟨oi, by rw [List.mem_singleton.mp hb]; exact hio⟩)
    (fun b hb => by rw [List.mem_singleton.mp hb]; simp only [frs, List.filterMap]; exact fun h => hLit (List.mem_singleton.mp h).symm) (fun b hb => by rw [List.mem_singleton.mp hb]; exact KeepAll.none_of F2.keep hin) (fun _ _ _ _ _ _ _ h _ => h) ?_ (by simp; omega) ?_
  · rintro D C ND y v s₃ m₃ hy ok3 X3 hn3 hx ⟨tv, rfl⟩
    obtain ⟨F3, N3⟩ := elt_ready Fb Nb rfl ND X3 hWn ok3.1 hn3
    simp only [List.cons_append, List.nil_append] at N3
    have F30 : Box (Fr base C s₃.heap m₃) := ⟨F3⟩
    replace F3 := fr_named F3 "start" _ hx
    clear F2 N2 Fb Nb
    k_steps
    have hyc : y < cnt := List.mem_range.mp hy
    have hvl : vals.length ≤ 63 := by rw [hi.length]; exact hns
    refine slice_tail ((F3.lst hl).push _) (Heap.IsSliceOf.new ..) (.int _ _) .none (.int _ _) (by simp; omega) (by simp; omega) ?_ (by with_unfolding_all rfl)
    obtain ⟨ms, hms⟩ := ints_pick hi (some (y : Int)) none (some (cnt : Int))
    k_steps
    refine sum_any (vs := (slicePick vals.toArray (some (y : Int)) none (some (cnt : Int))).toList) rfl ⟨_, Heap.get?_push_size _ rfl, rfl, _, rfl⟩ hms fun h' tk t' kh => ?_
    refine elt_keep hn3 (fun b o e => kh _ _ (Heap.get?_push_of_some _ (Heap.get?_push_of_some _ e))) rfl rfl ⟨_, _, rfl⟩
  · intro D sc vs c hDn hDs hX hDv hP
    obtain ⟨Fc, Nc, lD⟩ := comp_after Fb Nb hX rfl (fun h => hLit (List.mem_singleton.mp h)) (fun b hb => by rw [List.mem_singleton.mp hb]; exact KeepAll.none_of F2.keep hin) hWn hDs hDv
    k_lt lD
    obtain ⟨dn, hdn, hdl⟩ := paired_ints hP
    rw [List.length_range] at hdl
    have hgs : GExt NoG sb.gens sc.gens sb.os sc.os := Ext.g hX
    clear F2 N2 Fb Nb hX hP
    k_steps
    rename_i h3 tk3 t3 l3 h4 l31 D4 ws h5 hI l32 h6 o3 F6 N6 d3'
    have hG : GExt NoG s.gens sc.gens s.os sc.os := by rw [← ea2, ← gb, ← ea3, ← ob]; exact hgs
    exact Box.mk (hQ _ D4 ws dn o2 o3 tc (by rw [hdl]; exact hc7) hI hG F6 (newsPick [_, _, _] _ [0] N6) (by rw [hdl]; exact dc2) d3' l32.2.2.1)
end
end Mine1
end
section
open PySem PySem.W PyProof.Rows PyProof.V Mine
set_option maxRecDepth 100000
set_option maxHeartbeats 8000000
namespace Mine1
section
variable {w : World} {mg mb : Str → Option Value} {dp un : Nat} {gd : Option (List Code)} {s : Shared} {Q : Flow → Shared → Prop} {E : Value → Shared → Prop}
abbrev Cells (L : Addr) (P : Addr) (o1 o2 o3 o4 o5 o6 oP : Obj) : List (Addr × Obj) := [(L + 1 + 1 + 1 + 1 + 1 + 1, o6), (L + 1 + 1 + 1 + 1 + 1, o5), (L + 1 + 1 + 1 + 1, o4), (L + 1 + 1 + 1, o3), (L + 1 + 1, o2), (L + 1, o1), (P, oP)]
theorem law_2 {base : Heap} {L fa dr P : Addr} {cd : Value} {m : Str → Option Value} {ws : List Value} {dn : List Int} {S0 : Int} {o1 o2 o3 q4 q5 q6 oP : Obj} {tc : Tok} (PB : PW w mg mb base)
    (hd7 : dn.length ≤ 7) (hws : IntsAre ws (dn ++ [0, S0]))
    (F : Fr base L s.heap m) (N : News base L s.heap ((dr, W.listOf ws.toArray 0) :: Cells L P o1 o2 o3 q4 q5 q6 oP))
    (d2 : o2.data = .cell (some (.int ((dn.length : Nat) : Int) tc))) (d3 : o3.data = .cell (some (.ref dr))) (d4 : q4.data = .cell none) (d5 : q5.data = .cell none) (hPL : P < L) (hdr : L + 1 + 1 + 1 + 1 + 1 + 1 < dr)
    (hQ : ∀ s' rw' wr o4 o5 tm, IntsAre wr ((rowOf dn).map Int.ofNat) → GExt NoG s.gens s'.gens s.os s'.os → Fr base L s'.heap m →
      News base L s'.heap ((rw', W.listOf wr.toArray 0) :: (dr, W.listOf ws.toArray 0) :: Cells L P o1 o2 o3 o4 o5 q6 oP) →
      o4.data = .cell (some (.int ((dn.length + 2 : Nat) : Int) tm)) → o5.data = .cell (some (.ref rw')) → dr < rw' →
      wpAny (model prog w) ((Ar dp un (some []) gd).deeper (envOfC (Str.ofString "law") lawDef.2 L fa cd)) (execs (lawDef.1.drop 4) (envOfC (Str.ofString "law") lawDef.2 L fa cd)) Q E s') :
    wpAny (model prog w) ((Ar dp un (some []) gd).deeper (envOfC (Str.ofString "law") lawDef.2 L fa cd)) (execs (lawDef.1.drop 2) (envOfC (Str.ofString "law") lawDef.2 L fa cd)) Q E s := by
  conv in (List.drop 2 _) => whnf
  conv => enter [2, 2, 2]; whnf
  conv => enter [3, 2, 2]; whnf
  obtain ⟨KX, T⟩ := id PB
  replace hPL := (fun (a b : Nat) (h : a < b) => h) _ _ hPL
  replace hdr := (fun (a b : Nat) (h : a < b) => h) _ _ hdr
  simp only [Cells] at N
  refine execs_box ?_
  k_steps
  rename Fr _ _ _ _ => F1
  rename News _ _ _ _ => N1
  rename_i h1 o4 d4'
  refine Box.mk ?_
  have e4 : ((dn.length : Nat) : Int) + 2 = ((dn.length + 2 : Nat) : Int) := rfl
  rw [e4] at d4'
  obtain ⟨tm, d4'⟩ : ∃ t, o4.data = Data.cell (some (.int ((dn.length + 2 : Nat) : Int) t)) := ⟨_, d4'⟩
  clear d4
  refine cut_state (h' := h1) (fun sa ea1 ea2 ea3 => ?_) rfl
  subst ea1
  replace ea2 : sa.gens = s.gens := ea2
  replace ea3 : sa.os = s.os := ea3
  refine execs_box ?_
  k_steps
  refine Box.mk (comp_head (by with_unfolding_all exact rfl) rfl (by decide) ?_)
  k_steps
  rename Fr _ _ _ _ => F2
  rename News _ _ _ _ => N2
  rename_i D2 w2 h2 hI2 hC2 hL2 lD2
  have etk : (dn ++ [0, S0]).take ((dn.length : Nat) : Int).toNat = dn := by simp
  rw [etk] at hI2
  clear hC2 hL2 etk
  have hlD2 : h2.IsList D2 w2.toArray := ⟨_, (N2 _ (.head _)).1, rfl, _, rfl⟩
  refine Box.mk (list_src (xs := dn) hlD2 fun sb it oi hit kb gb ob hin hio hic hne hR => ?_)
  dsimp only at hit kb hin
  replace gb : sb.gens = sa.gens := gb
  replace ob : sb.os = sa.os := ob
  have Fb := Fr.keepAll F2 kb
  have Nb := News.keepAll N2 kb
  have hWn : ∀ p ∈ [(D2, W.listOf w2.toArray 0), (dr, W.listOf ws.toArray 0), (L + 1 + 1 + 1 + 1 + 1 + 1, q6), (L + 1 + 1 + 1 + 1 + 1, q5), (L + 1 + 1 + 1 + 1, o4), (L + 1 + 1 + 1, o3), (L + 1 + 1, o2), (L + 1, o1), (P, oP)], ¬ p.1 ∈ [it] := fun p hp h => by
    have := (N2 p hp).1
    rw [List.mem_singleton.mp h, hin] at this; cases this
  have hLit : L ≠ it := fun h => by
    obtain ⟨o, _, _, ho, _⟩ := F2.ns
    rw [h, hin] at ho; cases ho
  have hD2L : D2 ≠ L := (N2 _ (.head _)).2.1
  refine comp_over (l := [envOfC (Str.ofString "law") lawDef.2 L fa cd]) (base := base) (Val := fun (y : Int) v => ∃ t, v = .int y t) (F := fun y v _ => ∃ t, v = .int (y.fmod ((dn.length + 2 : Nat) : Int)) t) (by decide) rfl rfl (it_list rfl it D2 hne (ints_paired hI2) _ _) hR (okl_of_fr Fb rfl law_kind) (fun b hb => ?_)
    (fun b hb => ?_) (fun b hb => by rw [List.mem_singleton.mp hb]; exact KeepAll.none_of F2.keep hin) (fun _ _ _ _ _ _ _ h _ => h) ?_ (by omega) ?_
  · exact allC (P := fun b => ∃ o, sb.heap.get? b = some o) ⟨oi, hio⟩ (allC ⟨_, (Nb _ (.head _)).1⟩ allN) b hb
  · exact allC (P := fun b => ¬ b ∈ [L]) (fun h => hLit (List.mem_singleton.mp h).symm) (allC (fun h => hD2L (List.mem_singleton.mp h)) allN) b hb
  · rintro D C ND y v s₃ m₃ hy ok3 X3 hn3 hx ⟨tv, rfl⟩
    obtain ⟨F3, N3⟩ := elt_ready Fb Nb rfl ND X3 hWn ok3.1 hn3
    simp only [List.cons_append, List.nil_append] at N3
    replace F3 := fr_named F3 "number" _ hx
    clear F2 N2 Fb Nb
    k_steps
    exact elt_keep hn3 (fun _ _ e => e) rfl rfl ⟨_, rfl⟩
  · intro D sc vs c hDn hDs hX hDv hP
    obtain ⟨Fc, Nc, lD⟩ := comp_after Fb Nb hX rfl (fun h => hLit (List.mem_singleton.mp h)) (fun b hb => by rw [List.mem_singleton.mp hb]; exact KeepAll.none_of F2.keep hin) hWn hDs hDv
    k_lt lD
    have hvI := paired_intsF hP
    have hgs : GExt NoG sb.gens sc.gens sb.os sc.os := Ext.g hX
    clear F2 N2 Fb Nb hX hP
    k_steps
    rename_i l3 h3 l31 D4 wr h5 hI l32 h6 o5 F6 N6 d5'
    have hG : GExt NoG s.gens sc.gens s.os sc.os := by rw [← ea2, ← gb, ← ea3, ← ob]; exact hgs
    have eI : dn.map (fun y => y.fmod ((dn.length + 2 : Nat) : Int)) ++ [((dn.length + 2 : Nat) : Int) - 1] = (rowOf dn).map Int.ofNat := by
      rw [rowOf_ints]; congr 2; omega
    rw [eI] at hI
    exact Box.mk (hQ _ D4 wr o4 o5 tm hI hG F6 (newsPick [_, _, _, _] _ [0] N6) d4' d5' l32.2.2.2.1)
end
end Mine1
end
local macro_rules | `(tactic| walk_at "call ref") => `(tactic| ((with_reducible show wpAny _ _ (PySem.call (Value.ref _) _) _ _ _); refine unbox ?_))
section
open PySem PySem.W PyProof.Rows PyProof.V Mine
set_option maxRecDepth 100000
set_option maxHeartbeats 8000000
namespace Mine1
section
variable {w : World} {mg mb : Str → Option Value} {dp un : Nat} {gd : Option (List Code)} {s : Shared} {Q : Flow → Shared → Prop} {E : Value → Shared → Prop}
theorem law_3 {base hR : Heap} {L fa dr rw' P bm : Addr} {cd : Value} {m : Str → Option Value} {ws wr : List Value} {dn : List Int} {S0 : Int} {o1 o2 o3 o4 o5 q6 ob : Obj} {tm : Tok} {ps0 ps : Array Value} (PB : PW w mg mb base)
    (M : BMod base mainGlobals mg bm ob) (hPb : base.get? P = none) (hok : hR.IsCode 168 P ps0) (htab : hR.TableAt 168 P ps0) (h168 : ∀ o, hR.get? 168 = some o → base.get? 168 = some o) (hPs : cStatics ≠ P) (hpt : TriplesOk ps.toList)
    (hdp : dp ≤ 310) (hu : un ≤ 3000) (hd7 : dn.length ≤ 7) (hws : IntsAre ws (dn ++ [0, S0])) (hwr : IntsAre wr ((rowOf dn).map Int.ofNat)) (hT : TOk (dn.length + 2) (treeOf (dn.length + 2) [] (rowOf dn)))
    (F : Fr base L s.heap m) (N : News base L s.heap ((rw', W.listOf wr.toArray 0) :: (dr, W.listOf ws.toArray 0) :: Cells L P o1 o2 o3 o4 o5 q6 { cls := .none, data := .fields ps }))
    (d3 : o3.data = .cell (some (.ref dr))) (d4 : o4.data = .cell (some (.int ((dn.length + 2 : Nat) : Int) tm))) (d5 : o5.data = .cell (some (.ref rw'))) (d6 : q6.data = .cell none) (hPL : P < L) (hdr : L + 1 + 1 + 1 + 1 + 1 + 1 < dr) (hrd : dr < rw')
    (hQ : ∀ s' D oD kvs o6 (ps' : Array Value), GExt NoG s.gens s'.gens s.os s'.os → Fr base L s'.heap m →
      News base L s'.heap ((D, oD) :: (rw', W.listOf wr.toArray 0) :: (dr, W.listOf ws.toArray 0) :: Cells L P o1 o2 o3 o4 o5 o6 { cls := .none, data := .fields ps' }) →
      (∀ p ∈ ((rw', W.listOf wr.toArray 0) :: (dr, W.listOf ws.toArray 0) :: Cells L P o1 o2 o3 o4 o5 o6 { cls := .none, data := .fields ps' }), D ≠ p.1) → o6.data = .cell (some (.ref D)) → oD.IsDictOf (intKind prog w) kvs → (D == sysModules) = false →
      PathsAt (dn.length + 2) (sl (slB (dn ++ [0, S0])) ++ dt (dn.length + 2)) (slA (dn ++ [0, S0]) (dn.length + 2)) (treeOf (dn.length + 2) [] (rowOf dn)) kvs →
      wpAny (model prog w) ((Ar dp un (some []) gd).deeper (envOfC (Str.ofString "law") lawDef.2 L fa cd)) (execs (lawDef.1.drop 5) (envOfC (Str.ofString "law") lawDef.2 L fa cd)) Q E s') :
    wpAny (model prog w) ((Ar dp un (some []) gd).deeper (envOfC (Str.ofString "law") lawDef.2 L fa cd)) (execs (lawDef.1.drop 4) (envOfC (Str.ofString "law") lawDef.2 L fa cd)) Q E s := by
  conv in (List.drop 4 _) => whnf
  conv => enter [2, 2, 2]; whnf
  conv => enter [3, 2, 2]; whnf
  obtain ⟨KX, T⟩ := id PB
  replace hPL := (fun (a b : Nat) (h : a < b) => h) _ _ hPL
  replace hdr := (fun (a b : Nat) (h : a < b) => h) _ _ hdr
  replace hrd := (fun (a b : Nat) (h : a < b) => h) _ _ hrd
  simp only [Cells] at N hQ
  refine execs_box ?_
  k_steps
  have hPg : s.heap.get? P = some { cls := .none, data := .fields ps } := N.get (by k_mem)
  have h168s : ∀ o, hR.get? 168 = some o → s.heap.get? 168 = some o := fun o e => F.keep _ _ (h168 o e)
  refine Box.mk (tree_spec (base := base) (row := rowOf dn) (items := wr.toArray) PB M F.keep hPb (isCode_again hok h168s hPg hpt) (tableAt_again htab h168s hPg) hPs (by show dp + 1 + 5 < 450; omega) (by show un + 3 + 30 ≤ 4500; omega)
    ⟨_, N.get (by k_mem), rfl, _, rfl⟩ hwr (by have := hwr.length; rw [List.length_map, rowOf_len] at this; simp; omega) (by rw [rowOf_len]) ?_)
  intro d sa od kv0 hX hod hdd hP0 hds hdn ⟨ps', hok', htab'⟩
  have hW : ∀ b, (fun b => b = P) b → base.get? b = none := fun b h => by rw [show b = P from h]; exact hPb
  have hLP : L ≠ P := neN (by omega)
  have F1 : Fr base L sa.heap m := Ext.fr hX F hLP (fun b hb => absurd hb (by simp)) hW
  have N1 : News base L sa.heap [(rw', W.listOf wr.toArray 0), (dr, W.listOf ws.toArray 0), (L + 1 + 1 + 1 + 1 + 1 + 1, q6), (L + 1 + 1 + 1 + 1 + 1, o5), (L + 1 + 1 + 1 + 1, o4), (L + 1 + 1 + 1, o3), (L + 1 + 1, o2), (L + 1, o1), (P, { cls := .none, data := .fields ps' })] := by
    intro p hp
    simp only [List.mem_cons, List.not_mem_nil, or_false] at hp
    rcases hp with rfl | rfl | rfl | rfl | rfl | rfl | rfl | rfl | rfl
    case inr.inr.inr.inr.inr.inr.inr.inr => exact ⟨htab'.2, (N (P, { cls := .none, data := .fields ps }) (by k_mem)).2⟩
    all_goals exact ⟨hX.heap _ _ (by simp) (neN (by dsimp only; omega)) (N _ (by k_mem)).1, (N _ (by k_mem)).2⟩
  have hne1 : ∀ p ∈ [(rw', W.listOf wr.toArray 0), (dr, W.listOf ws.toArray 0), (L + 1 + 1 + 1 + 1 + 1 + 1, q6), (L + 1 + 1 + 1 + 1 + 1, o5), (L + 1 + 1 + 1 + 1, o4), (L + 1 + 1 + 1, o3), (L + 1 + 1, o2), (L + 1, o1), (P, ({ cls := .none, data := .fields ps } : Obj))], d ≠ p.1 := fun p hp h => by
    have := (N p hp).1
    rw [← h, hdn] at this; cases this
  have hG1 := Ext.g hX
  clear hX
  k_steps
  refine Box.mk (paths_spec (nums := dn ++ [0, S0]) (TT := treeOf (dn.length + 2) [] (rowOf dn)) (vals := ws) (PB.keepAll F1.keep) (by show dp + 1 + 5 < 450; omega) (by show un + 3 + 30 ≤ 4500; omega) ⟨_, N1.get (by k_mem), rfl, _, rfl⟩ hws (by simp) (by omega) (by omega) hod hdd hP0 hds hT (by rw [treeOf_len, rowOf_len]; omega) ?_)
  intro D sb oD kvs hX hDn hDv hDd hDs hPa
  have F2 := Fr.keepAll F1 hX.keepAll
  have hG2 := hG1.trans (Ext.g hX)
  have hne : ∀ p ∈ [(rw', W.listOf wr.toArray 0), (dr, W.listOf ws.toArray 0), (L + 1 + 1 + 1 + 1 + 1 + 1, q6), (L + 1 + 1 + 1 + 1 + 1, o5), (L + 1 + 1 + 1 + 1, o4), (L + 1 + 1 + 1, o3), (L + 1 + 1, o2), (L + 1, o1), (P, ({ cls := .none, data := .fields ps' } : Obj))], D ≠ p.1 := fun p hp h => by
    have := (N1 p hp).1
    rw [← h, hDn] at this; cases this
  have hDL : D ≠ L := fun h => by
    obtain ⟨o, _, _, ho, _⟩ := F1.ns
    rw [← h, hDn] at ho; cases ho
  have N2 : News base L sb.heap [(D, oD), (rw', W.listOf wr.toArray 0), (dr, W.listOf ws.toArray 0), (L + 1 + 1 + 1 + 1 + 1 + 1, q6), (L + 1 + 1 + 1 + 1 + 1, o5), (L + 1 + 1 + 1 + 1, o4), (L + 1 + 1 + 1, o3), (L + 1 + 1, o2), (L + 1, o1), (P, { cls := .none, data := .fields ps' })] :=
    List.forall_mem_cons.mpr ⟨⟨hDv, hDL, KeepAll.none_of F1.keep hDn⟩, News.keepAll N1 hX.keepAll⟩
  have hneN := hne
  simp only [List.forall_mem_cons] at hneN
  obtain ⟨y1, y2, y3, y4, y5, y6, y7, y8, y9, _⟩ := hneN
  have z1 := (fun (a b : Nat) (h : a ≠ b) => h) _ _ y1
  have z2 := (fun (a b : Nat) (h : a ≠ b) => h) _ _ y2
  have z3 := (fun (a b : Nat) (h : a ≠ b) => h) _ _ y3
  have z4 := (fun (a b : Nat) (h : a ≠ b) => h) _ _ y4
  have z5 := (fun (a b : Nat) (h : a ≠ b) => h) _ _ y5
  have z6 := (fun (a b : Nat) (h : a ≠ b) => h) _ _ y6
  have z7 := (fun (a b : Nat) (h : a ≠ b) => h) _ _ y7
  have z8 := (fun (a b : Nat) (h : a ≠ b) => h) _ _ y8
  have z9 := (fun (a b : Nat) (h : a ≠ b) => h) _ _ y9
  clear F1 N1 hX y1 y2 y3 y4 y5 y6 y7 y8 y9 hne1 hod hdd hP0
  k_steps
  rename_i h6 o6 F3 N3 d6'
  refine Box.mk (hQ _ D oD kvs o6 _ hG2 F3 N3 (fun p hp => ?_) d6' hDd hDs hPa)
  simp only [List.mem_cons, List.not_mem_nil, or_false] at hp
  rcases hp with rfl | rfl | rfl | rfl | rfl | rfl | rfl | rfl | rfl
  all_goals assumption
end
end Mine1
end
section
open PySem PySem.W PyProof.Rows PyProof.V Mine
set_option maxRecDepth 100000
set_option maxHeartbeats 8000000
namespace Mine1
section
variable {w : World} {mg mb : Str → Option Value} {dp un : Nat} {gd : Option (List Code)} {s : Shared} {Q : Flow → Shared → Prop} {E : Value → Shared → Prop}
def slE (nums : List Int) (many p : Nat) : Nat := ((((nums.getD p 0).fdiv (many : Int)).fdiv 2).fmod 3).toNat
def pathOf (nums : List Int) (many : Nat) (row : List Nat) (p : Nat) : List Nat := pathT (sl (slB nums) ++ dt many) (slA nums many) (treeOf many [] row) p
abbrev Stat (L P : Addr) (D : Addr) (oD : Obj) (rw' : Addr) (wr : List Value) (dr : Addr) (ws : List Value) (o1 o2 o3 o4 o5 o6 oP : Obj) : List (Addr × Obj) := (D, oD) :: (rw', W.listOf wr.toArray 0) :: (dr, W.listOf ws.toArray 0) :: Cells L P o1 o2 o3 o4 o5 o6 oP
theorem law_4 {base : Heap} {L fa dr rw' D P : Addr} {cd : Value} {m : Str → Option Value} {ws wr : List Value} {nums : List Int} {many : Nat} {row : List Nat} {kvs : List (Int × Value)} {oD o1 o2 o3 o4 o5 o6 oP : Obj} {tm : Tok} (PB : PW w mg mb base)
    (hm9 : many ≤ 9) (hm2 : 2 ≤ many) (hnl : nums.length = many) (hws : IntsAre ws nums) (hlen : ∀ p, p < many → (pathOf nums many row p).length ≤ 300) (hkey : ∀ p, p < many → p + 1 = many ∨ p ∈ (treeOf many [] row).map (·.1))
    (F : Fr base L s.heap m) (N : News base L s.heap (Stat L P D oD rw' wr dr ws o1 o2 o3 o4 o5 o6 oP))
    (d3 : o3.data = .cell (some (.ref dr))) (d4 : o4.data = .cell (some (.int (many : Int) tm))) (d6 : o6.data = .cell (some (.ref D)))
    (hdd : oD.IsDictOf (intKind prog w) kvs) (hPa : PathsAt many (sl (slB nums) ++ dt many) (slA nums many) (treeOf many [] row) kvs)
    (hQ : ∀ s' lst vl c, GExt NoG s.gens s'.gens s.os s'.os → Fr base L s'.heap (fun z => if z = Str.ofString "listing" then some (.ref lst) else m z) →
      News base L s'.heap ((lst, listObj vl c) :: Stat L P D oD rw' wr dr ws o1 o2 o3 o4 o5 o6 oP) → (∀ p ∈ Stat L P D oD rw' wr dr ws o1 o2 o3 o4 o5 o6 oP, p.1 < lst) →
      StrsAre vl ((List.range many).map fun p => S (pathOf nums many row p ++ sl (slE nums many p))) →
      wpAny (model prog w) ((Ar dp un (some []) gd).deeper (envOfC (Str.ofString "law") lawDef.2 L fa cd)) (execs (lawDef.1.drop 6) (envOfC (Str.ofString "law") lawDef.2 L fa cd)) Q E s') :
    wpAny (model prog w) ((Ar dp un (some []) gd).deeper (envOfC (Str.ofString "law") lawDef.2 L fa cd)) (execs (lawDef.1.drop 5) (envOfC (Str.ofString "law") lawDef.2 L fa cd)) Q E s := by
  conv in (List.drop 5 _) => whnf
  conv => enter [2, 2, 2]; whnf
  conv => enter [3, 2, 2]; whnf
  obtain ⟨KX, T⟩ := id PB
  simp only [Stat, Cells] at N hQ
  refine execs_box ?_
  refine assign_head (by with_unfolding_all rfl) (by with_unfolding_all exact rfl) rfl (by decide) ?_
  k_steps
  rename_i h2 tk2 t1 u1 v1 hr F2 N2 k2
  refine Box.mk (range_src hr (by omega) fun sb it oi hit kb gb ob hin hio hic hR => ?_)
  dsimp only at hit kb hin
  replace gb : sb.gens = s.gens := gb
  replace ob : sb.os = s.os := ob
  have Fb := Fr.keepAll F2 kb
  have Nb := News.keepAll N2 kb
  have hWn := news_off N2 hin
  have hLit := fr_off F2 hin
  have hitb : ∀ b, b ∈ [it] → base.get? b = none := fun b hb => by rw [List.mem_singleton.mp hb]; exact KeepAll.none_of F2.keep hin
  refine comp_set (l := [envOfC (Str.ofString "law") lawDef.2 L fa cd]) (base := base) (L := L) (mL := m) (F := fun y v _ => ∃ t, v = .str (S (pathOf nums many row y ++ sl (slE nums many y))) t) (by decide) rfl rfl rfl rfl rfl Fb.ns (fun h => hLit (List.mem_singleton.mp h)) (it_range rfl it many _ _) hR (okl_of_fr Fb rfl law_kind) (fun b hb => ⟨oi, by rw [List.mem_singleton.mp hb]; exact hio⟩)
    (fun b hb => by rw [List.mem_singleton.mp hb]; simp only [frs, List.filterMap]; exact fun h => hLit (List.mem_singleton.mp h).symm) hitb (fun _ _ _ _ _ _ _ h _ => h) (fun _ _ _ _ h _ => h) ?_ (by simp; omega) ?_
  · rintro D' C ND y v s₃ m₃ hy ok3 X3 hn3 hx ⟨tv, rfl⟩
    obtain ⟨F3, N3⟩ := elt_ready Fb Nb rfl ND X3 hWn ok3.1 hn3
    simp only [List.cons_append, List.nil_append] at N3
    replace F3 := fr_named F3 "place" _ hx
    have hyc : y < many := List.mem_range.mp hy
    have hoB : Box (oD.IsDictOf (intKind prog w) kvs) := ⟨hdd⟩
    have hDg := (N3 _ (.head _)).1
    obtain ⟨tp, hvp⟩ := hPa.2 y (hkey y hyc)
    clear F2 N2 Fb Nb hdd hQ hPa
    have hYl := hlen y hyc
    change valueAt kvs (y : Int) = some (Value.str (S (pathOf nums many row y)) tp) at hvp
    generalize hY : pathOf nums many row y = Y at hvp hYl
    k_steps
    refine item_at (knd := intKind prog w) (Heap.dictOf_iff.mpr ⟨_, hDg, hoB.out⟩) (intKind_is _ _ _ _) hvp ?_
    refine cut_state (h' := s₃.heap) (fun sc ec1 ec2 ec3 => ?_) rfl
    rw [← ec1] at F3 N3
    replace ec2 : sc.gens = s₃.gens := ec2
    replace ec3 : sc.os = s₃.os := ec3
    k_steps
    have e1 : Txt.mul (Str.ofString "/") ((((nums.getD ((y : Nat) : Int).toNat 0).fdiv (many : Int)).fdiv 2).fmod 3) = S (sl (slE nums many y)) := by
      have h1 := Int.fmod_nonneg_of_pos (((nums.getD ((y : Nat) : Int).toNat 0).fdiv (many : Int)).fdiv 2) (show (0 : Int) < 3 by decide)
      rw [slash_mul _ h1]
      unfold slE
      rw [Int.toNat_natCast]
    rw [e1]
    generalize hZ : sl (slE nums many y) = Z
    have eZ : Z.length ≤ 3 := by
      have h2 := Int.fmod_lt_of_pos (((nums.getD y 0).fdiv (many : Int)).fdiv 2) (show (0 : Int) < 3 by decide)
      rw [← hZ]; simp only [sl, List.length_replicate, slE]; omega
    refine PyProof.Rows.add_str (fun t4 tk4 => ?_) (by rw [S_len, S_len]; exact Nat.le_trans (Nat.add_le_add hYl eZ) (by decide))
    rw [S_app]
    refine elt_keep hn3 (fun b o e => ?_) ec2 ec3 ⟨t4, by rw [hY, hZ]⟩
    show sc.heap.get? b = some o
    rw [ec1]; exact e
  · intro lst sc vl c hDn hDs hX hnL hDv hP
    obtain ⟨Fc, Nc, lD⟩ := comp_after_set Fb Nb hX rfl hnL hitb hWn hDs hDv
    have hG : GExt NoG s.gens sc.gens s.os sc.os := by rw [← gb, ← ob]; exact Ext.g hX
    exact Box.mk (hQ sc lst vl c hG Fc Nc lD (strs_pairedF hP))
end
end Mine1
end
end
section
open PySem PySem.W PyProof.Rows PyProof.V Mine
set_option maxRecDepth 100000
set_option maxHeartbeats 8000000
namespace Mine1
theorem row_inv (dn : List Int) : Inv (dn.length + 2) [] (rowOf dn) where
  len := by rw [rowOf_len]; simp
  lt := fun p hp => nomatch hp
  rlt := fun p hp => by
    unfold rowOf at hp
    rcases List.mem_append.mp hp with h | h
    · obtain ⟨z, _, rfl⟩ := List.mem_map.mp h
      have h0 := Int.fmod_nonneg_of_pos z (posSucc (dn.length + 1))
      have h1 := Int.fmod_lt_of_pos z (posSucc (dn.length + 1))
      exact (Int.toNat_lt h0).mpr h1
    · rw [List.mem_singleton] at h; omega
  dis := fun p hp => nomatch hp
  last := .inr (by unfold rowOf; rw [List.getLast?_append]; rfl)
  root := fun h => nomatch h
  nd := List.nodup_nil
theorem path_len {many : Nat} {root : List Nat} {a : Nat → Nat} (ha : ∀ p, a p ≤ 1) : ∀ {T : List (Nat × Nat)}, TOk many T → ∀ p, (pathT root a T p).length ≤ root.length + T.length * (many + 2)
  | [], _, p => by simp [pathT]
  | (l, u) :: T, h, p => by
    obtain ⟨h1, _, _, h4⟩ := h
    have ih1 := path_len (root := root) ha h4 u
    have ih2 := path_len (root := root) ha h4 p
    have hal := ha l
    show (if p = l then pathT root a T u ++ sl (a l + 1) ++ dt (l + 1) else pathT root a T p).length ≤ root.length + (T.length + 1) * (many + 2)
    rw [Nat.succ_mul]
    split
    · simp only [List.length_append, sl, dt, List.length_replicate]; omega
    · omega
theorem seq_len {root : List Nat} {a : Nat → Nat} : ∀ (T : List (Nat × Nat)) (p : Nat), (seqT root a T p).length ≤ T.length + 1
  | [], p => by simp [seqT]
  | (l, u) :: T, p => by
    have h1 := seq_len (root := root) (a := a) T u
    have h2 := seq_len (root := root) (a := a) T p
    show (if p = l then _ :: seqT root a T u else seqT root a T p).length ≤ T.length + 1 + 1
    split
    · simp only [List.length_cons]; omega
    · omega
theorem slB_le (nums : List Int) : slB nums ≤ 2 := by
  unfold slB
  exact fm3 _
theorem pathOf_len {nums : List Int} {many : Nat} {row : List Nat} (I : Inv many [] row) (h9 : many ≤ 9) (p : Nat) : (pathOf nums many row p).length ≤ 300 := by
  unfold pathOf
  have h := path_len (root := sl (slB nums) ++ dt many) (a := slA nums many) (fun p => slA_le) (tOk_of I).1 p
  have hl := I.len
  have hb := slB_le nums
  rw [treeOf_len] at h
  have hr : (sl (slB nums) ++ dt many).length ≤ 11 := by simp only [sl, dt, List.length_append, List.length_replicate]; exact Nat.add_le_add hb h9
  have h2 : row.length * (many + 2) ≤ 8 * 11 := Nat.mul_le_mul (Nat.le_of_succ_le_succ (Nat.le_trans (Nat.le_of_eq hl) h9)) (Nat.add_le_add_right h9 2)
  exact Nat.le_trans h (Nat.le_trans (Nat.add_le_add hr h2) (by decide))
theorem path_hc {nums : List Int} {many : Nat} {row : List Nat} (I : Inv many [] row) (h9 : many ≤ 9) (h0 : 0 < many) (p : Nat) (hp : p < many) :
    ∃ r, AncComes (bare (S (pathOf nums many row p ++ sl (slE nums many p)))) (S (pathOf nums many row p) :: r) ∧ r.length ≤ 100 := by
  have R := tree_res I p hp (by simp)
  have hb := path_bare (b := slB nums) (a := slA nums many) (n := slE nums many p) R
  have hc := path_comes (b := slB nums) (a := slA nums many) h0 R
  have hs := seqT_anc (root := sl (slB nums) ++ dt many) (a := slA nums many) (tOk_of I).1 p
  have hl := seq_len (root := sl (slB nums) ++ dt many) (a := slA nums many) (treeOf many [] row) p
  have hil := I.len
  unfold pathOf
  rw [hb]
  rw [hs] at hc hl
  refine ⟨_, hc, ?_⟩
  rw [List.map_cons, List.length_cons, treeOf_len] at hl
  simp at hil
  omega
theorem pl_start {many f : Nat} (hf : f ≤ many) : (∀ p, p ∈ (List.range many).drop f ++ (List.range many).take f ↔ p < many) ∧ ((List.range many).drop f ++ (List.range many).take f).Nodup ∧ ((List.range many).drop f ++ (List.range many).take f).length = many := by
  have hp : ((List.range many).drop f ++ (List.range many).take f).Perm (List.range many) := by
    refine List.perm_append_comm.trans ?_
    rw [List.take_append_drop]
  exact ⟨fun p => (hp.mem_iff).trans List.mem_range, hp.nodup_iff.mpr List.nodup_range, by rw [hp.length_eq, List.length_range]⟩
theorem lefts_nil (pl0 : List Nat) : lefts pl0 [] = pl0 := by
  unfold lefts
  exact List.filter_eq_self.mpr fun _ _ => rfl
end Mine1
end
section
open PySem PySem.W PyProof.Rows Mine
local macro_rules | `(tactic| walk_at "eval ListComp") => `(tactic| ((with_reducible show wpAny _ _ (eval (PySem.Expr.ListComp _ _ _ _) _) _ _ _); refine unbox ?_))
local macro_rules | `(tactic| walk_at "call ref") => `(tactic| ((with_reducible show wpAny _ _ (PySem.call (Value.ref _) _) _ _ _); refine unbox ?_))
local macro_rules | `(tactic| walk_at "pyIter ref") => `(tactic| ((with_reducible show wpAny _ _ (pyIter (Value.ref _)) _ _ _); refine unbox ?_))
local macro_rules | `(tactic| walk_at "eval Name") => `(tactic| ((with_reducible show wpAny _ _ (eval (PySem.Expr.Name _ _) (compEnvC _ _ _ _)) _ _ _); with_unfolding_all first
  | refine lcf_cell (by k_asm) (by rfl) (by k_mem) (by k_asm) ?_ (by rfl) (by rfl)
  | refine cn_local (by k_asm) (by first | exact if_pos rfl | rfl) ?_
  | refine cn_global (by k_asm) (by k_asm) (by k_asm) (by k_is) ?_
  | refine cn_built (by k_asm) (by k_asm) (by k_asm) (by k_is) (by boot_by_name) (by decide) ?_))
section
open PySem PySem.W PyProof.Rows PyProof.V Mine
set_option maxRecDepth 100000
set_option maxHeartbeats 8000000
namespace Mine1
section
variable {w : World} {mg mb : Str → Option Value} {dp un : Nat} {gd : Option (List Code)} {s : Shared} {Q : Flow → Shared → Prop} {E : Value → Shared → Prop}
theorem law_5 {base : Heap} {L fa dr rw' D P ls lst : Addr} {cd : Value} {m : Str → Option Value} {ws wr vals vl : List Value} {ns : List Int} {many c : Nat} {oD o1 o2 o3 o4 o5 o6 oP : Obj} {tm : Tok} (PB : PW w mg mb base)
    (hm2 : 2 ≤ many) (hl : base.IsList ls vals.toArray) (hi : IntsAre vals ns) (hns : ns.length ≤ 63)
    (F : Fr base L s.heap m) (N : News base L s.heap ((lst, listObj vl c) :: Stat L P D oD rw' wr dr ws o1 o2 o3 o4 o5 o6 oP))
    (d1 : o1.data = .cell (some (.ref ls))) (d4 : o4.data = .cell (some (.int (many : Int) tm)))
    (hQ : ∀ s' (f : Nat) tf, f < many → GExt NoG s.gens s'.gens s.os s'.os → Fr base L s'.heap (fun z => if z = Str.ofString "first" then some (.int (f : Int) tf) else m z) →
      News base L s'.heap ((lst, listObj vl c) :: Stat L P D oD rw' wr dr ws o1 o2 o3 o4 o5 o6 oP) →
      wpAny (model prog w) ((Ar dp un (some []) gd).deeper (envOfC (Str.ofString "law") lawDef.2 L fa cd)) (execs (lawDef.1.drop 7) (envOfC (Str.ofString "law") lawDef.2 L fa cd)) Q E s') :
    wpAny (model prog w) ((Ar dp un (some []) gd).deeper (envOfC (Str.ofString "law") lawDef.2 L fa cd)) (execs (lawDef.1.drop 6) (envOfC (Str.ofString "law") lawDef.2 L fa cd)) Q E s := by
  conv in (List.drop 6 _) => whnf
  conv => enter [2, 2, 2]; whnf
  conv => enter [3, 2, 2]; whnf
  obtain ⟨KX, T⟩ := id PB
  simp only [Stat, Cells] at N hQ
  refine execs_box ?_
  k_steps
  rename_i h3 tk3 t3 h4 F2 N2
  have h0 := Int.fmod_nonneg_of_pos (ns.sum.fdiv 3) (posCast (by assumption))
  have h1 := Int.fmod_lt_of_pos (ns.sum.fdiv 3) (show (0 : Int) < (many : Int) by omega)
  obtain ⟨f, hf⟩ := Int.eq_ofNat_of_zero_le h0
  rw [hf] at F2 h1
  exact Box.mk (hQ _ f _ (by omega) (GExt.refl _ _ _) F2 N2)
end
end Mine1
end
section
open PySem PySem.W PyProof.Rows PyProof.V Mine
set_option maxRecDepth 100000
set_option maxHeartbeats 8000000
namespace Mine1
section
variable {w : World} {mg mb : Str → Option Value} {dp un : Nat} {gd : Option (List Code)} {s : Shared} {Q : Flow → Shared → Prop} {E : Value → Shared → Prop}
theorem law_6 {base : Heap} {L fa dr rw' D P lst : Addr} {cd : Value} {m : Str → Option Value} {ws wr vl : List Value} {nums : List Int} {many c f : Nat} {tf : Tok} {row : List Nat} {oD o1 o2 o3 o4 o5 o6 oP : Obj} (PB : PW w mg mb base)
    (hdp : dp ≤ 310) (hu : un ≤ 3000) (hm9 : many ≤ 9) (hf : f < many) (hlen : ∀ p, p < many → (pathOf nums many row p).length ≤ 300)
    (hvl : StrsAre vl ((List.range many).map fun p => S (pathOf nums many row p ++ sl (slE nums many p))))
    (hc : ∀ p, p < many → ∃ r, AncComes (bare (S (pathOf nums many row p ++ sl (slE nums many p)))) (S (pathOf nums many row p) :: r) ∧ r.length ≤ 100)
    (F : Fr base L s.heap m) (N : News base L s.heap ((lst, listObj vl c) :: Stat L P D oD rw' wr dr ws o1 o2 o3 o4 o5 o6 oP)) (m1 : m "listing" = some (.ref lst)) (m2 : m "first" = some (.int (f : Int) tf))
    (hlt : ∀ p ∈ Stat L P D oD rw' wr dr ws o1 o2 o3 o4 o5 o6 oP, p.1 < lst)
    (hQ : ∀ s' lf vf c', GExt NoG s.gens s'.gens s.os s'.os → Fr base L s'.heap (fun z => if z = Str.ofString "left" then some (.ref lf) else m z) →
      News base L s'.heap ((lf, listObj vf c') :: Stat L P D oD rw' wr dr ws o1 o2 o3 o4 o5 o6 oP) → (∀ p ∈ Stat L P D oD rw' wr dr ws o1 o2 o3 o4 o5 o6 oP, p.1 < lf) →
      StrsAre vf (((List.range many).drop f ++ (List.range many).take f).map fun p => S (pathOf nums many row p)) →
      wpAny (model prog w) ((Ar dp un (some []) gd).deeper (envOfC (Str.ofString "law") lawDef.2 L fa cd)) (execs (lawDef.1.drop 8) (envOfC (Str.ofString "law") lawDef.2 L fa cd)) Q E s') :
    wpAny (model prog w) ((Ar dp un (some []) gd).deeper (envOfC (Str.ofString "law") lawDef.2 L fa cd)) (execs (lawDef.1.drop 7) (envOfC (Str.ofString "law") lawDef.2 L fa cd)) Q E s := by
  conv in (List.drop 7 _) => whnf
  conv => enter [2, 2, 2]; whnf
  conv => enter [3, 2, 2]; whnf
  obtain ⟨KX, T⟩ := id PB
  simp only [Stat, Cells] at N hlt
  k_lt hlt
  refine execs_box ?_
  refine assign_head (by with_unfolding_all rfl) (by with_unfolding_all exact rfl) rfl (by decide) ?_
  replace F := fr_named F "listing" _ m1
  replace F := fr_named F "first" _ m2
  k_steps
  have hvn : vl.length = many := by
    have := StrsAre.len hvl
    simpa using this
  refine slice_led F N (fun b o e => Heap.get?_push_of_some _ e) ⟨_, N.get (.head _), rfl, _, rfl⟩ (Heap.IsSliceOf.new ..) (.int _ _) .none .none (by simp) (by simp; omega) (fun D1 h1 F1 N1 l1 => ?_) (by with_unfolding_all rfl)
  rw [slicePick_from'] at N1
  simp only at N1
  k_lt l1
  refine cut_state (h' := h1) (fun sa ea1 ea2 ea3 => ?_) rfl
  subst ea1
  replace ea2 : sa.gens = s.gens := ea2
  replace ea3 : sa.os = s.os := ea3
  clear F N
  k_steps
  rename Fr _ _ _ _ => F2
  rename News _ _ _ _ => N2
  rename_i h2
  have et : slicePick vl.toArray none (some (f : Int)) none = (vl.take f).toArray := slicePick_upto' _ _
  rw [et] at N2
  refine add_arrays (its := (vl.drop f).toArray) (its2 := (vl.take f).toArray) F2 N2 ⟨_, N2.get (.tail _ (.head _)), rfl, _, rfl⟩ ⟨_, N2.get (.head _), rfl, _, rfl⟩ (fun h3 F3 N3 => ?_) (by rw [sizeLine_eq]; simp; omega)
  have hP0 := paired_of_strs hvl
  have hP1 : Paired (fun (p : Nat) v => ∃ t, v = Value.str (S (pathOf nums many row p ++ sl (slE nums many p))) t) ((List.range many).drop f ++ (List.range many).take f) ((vl.drop f).toArray.toList ++ (vl.take f).toArray.toList).toArray.toList := by
    simpa using Paired.app (Paired.drop_ f hP0) (Paired.take_ f hP0)
  generalize ((vl.drop f).toArray.toList ++ (vl.take f).toArray.toList).toArray = its at N3 hP1
  have hlen3 : ({ heap := h2, gens := sa.gens, drawn := sa.drawn, toks := sa.toks, os := sa.os } : Shared).heap.objs.size = h2.objs.size := rfl
  refine cut_state (h' := h3) (fun sb eb1 eb2 eb3 => ?_) rfl
  subst eb1
  replace eb2 : sb.gens = sa.gens := eb2
  replace eb3 : sb.os = sa.os := eb3
  dsimp only at N3 ⊢
  generalize h2.objs.size = l3 at N3 ⊢
  clear F2 N2
  refine list_src (xs := (List.range many).drop f ++ (List.range many).take f) (items := its) (l := l3) ⟨_, N3.get (.head _), rfl, _, rfl⟩ fun sc it oi hit kb gb ob hin hio hic hne hR => ?_
  have Fb := Fr.keepAll F3 kb
  have Nb := News.keepAll N3 kb
  have hWn := news_off N3 hin
  have hLit := fr_off F3 hin
  have hitb : ∀ b, b ∈ [it] → base.get? b = none := fun b hb => by rw [List.mem_singleton.mp hb]; exact KeepAll.none_of F3.keep hin
  have hl3L : l3 ≠ L := (N3 _ (.head _)).2.1
  refine comp_set (l := [envOfC (Str.ofString "law") lawDef.2 L fa cd]) (base := base) (L := L) (mL := _) (Val := fun (p : Nat) v => ∃ t, v = Value.str (S (pathOf nums many row p ++ sl (slE nums many p))) t) (F := fun y v _ => ∃ t, v = .str (S (pathOf nums many row y)) t) (by decide) rfl rfl rfl rfl rfl Fb.ns (fun h => hLit (List.mem_singleton.mp h)) (it_list rfl it l3 hne hP1 _ _) hR (okl_of_fr Fb rfl law_kind) (fun b hb => ?_)
    (fun b hb => ?_) hitb (fun _ _ _ _ _ _ _ h _ => h) (fun _ _ _ _ h _ => h) ?_ (by simp; omega) ?_
  · exact allC (P := fun b => ∃ o, sc.heap.get? b = some o) ⟨oi, hio⟩ (allC ⟨_, (Nb _ (.head _)).1⟩ allN) b hb
  · exact allC (P := fun b => ¬ b ∈ [L]) (fun h => hLit (List.mem_singleton.mp h).symm) (allC (fun h => hl3L (List.mem_singleton.mp h)) allN) b hb
  · rintro D' C ND y v s₃ m₃ hy ok3 X3 hn3 hx ⟨tv, rfl⟩
    obtain ⟨F5, N5⟩ := elt_ready Fb Nb rfl ND X3 hWn ok3.1 hn3
    simp only [List.cons_append, List.nil_append] at N5
    have F50 : Box (Fr base C s₃.heap m₃) := ⟨F5⟩
    replace F5 := fr_named F5 "entry" _ hx
    have hyc : y < many := by
      rcases List.mem_append.mp hy with h | h
      · exact List.mem_range.mp (List.mem_of_mem_drop h)
      · exact List.mem_range.mp (List.mem_of_mem_take h)
    clear F3 N3 Fb Nb hQ
    k_steps
    obtain ⟨r, hcr, hrl⟩ := hc y hyc
    have hsl : (sl (slE nums many y)).length ≤ 3 := by
      simp only [sl, List.length_replicate, slE]; exact Nat.le_succ_of_le (fm3 _)
    have hCs : base.objs.size ≤ s₃.heap.objs.size := Nat.le_trans F5.above (Nat.le_of_lt F5.ns.lt)
    refine Box.mk (ancestry_new (base := base) PB ok3.1 hCs (by show dp + 1 < 1000; omega) (by rw [S_len, List.length_append]; exact Nat.le_trans (Nat.add_le_add (hlen y hyc) hsl) (by decide)) hcr fun a Lg s4 hE ha hLg hG => ?_)
    have ok4 : OkL base [envOfC (Str.ofString "law") lawDef.2 L fa cd] s4.heap := ok3.ext (hE.mono (fun _ h => nomatch h) (fun _ h => h) fun _ h => h) fun b h => h.elim
    have hL3 : ∃ o, s₃.heap.get? L = some o := let ⟨_, o, e, _⟩ := ok3.2.mem (b := L) (.head _); ⟨o, e⟩
    walk1
    refine call_list_own (ownIt_gen (base := base) (St := KeepAll base) (fun _ k => k) (KeepAll.none_of ok3.1 ha) (KeepAll.none_of ok3.1 hLg)) (by show dp + 1 ≤ 400; omega) (by show un + 3 + 4 ≤ 4000; omega) (fun b hb h => ?_) T.nolimit ok4.1 ok4.2 hG (by simp; omega) fun D2 s5 vs2 c2 hX2 hD2 _ hDv2 hvs2 => ?_
    · obtain ⟨o, ho⟩ := hL3
      have hbL : b = L := List.mem_singleton.mp (show b ∈ [L] from hb)
      simp only [List.mem_cons, List.not_mem_nil, or_false] at h
      rcases h with h | h
      · rw [← hbL, h, ha] at ho; cases ho
      · rw [← hbL, h, hLg] at ho; cases ho
    cases hvs2 with
    | cons _ tz hrest =>
    walk1
    refine item_zero ⟨_, hDv2, rfl, _, rfl⟩ ?_
    replace hX2 := hX2.trans (Ext.of_keep (S := frs [envOfC (Str.ofString "law") lawDef.2 L fa cd]) (W := fun b => b = Lg) (V := fun g => g = s₃.gens.size) (s := s5) (h' := s5.heap) (tk := s5.toks + 1) fun _ _ e => e)
    have hXX : Ext (frs [envOfC (Str.ofString "law") lawDef.2 L fa cd]) (fun b => b = C) NoG s₃ { s5 with toks := s5.toks + 1 } := by
      refine ((hE.mono (fun _ h => nomatch h) (W' := fun b => b = Lg) (fun _ h => h.elim) (V' := fun g => g = s₃.gens.size) fun _ h => h.elim).trans hX2).shrink (fun b h => .inl (h ▸ hLg)) fun g h => .inr (h ▸ Nat.le_refl _)
    exact ⟨⟨tz, rfl⟩, hXX, ⟨m₃, Ext.ns (hE.mono (fun _ h => nomatch h) (W' := fun b => b = Lg) (fun _ h => h.elim) (V' := fun g => g = s₃.gens.size) (fun _ h => h.elim) |>.trans hX2) (fun h => by
      obtain ⟨o, _, _, ho, _⟩ := hn3
      rw [h, hLg] at ho; cases ho) hn3⟩⟩
  · intro lf sd vf c' hDn hDs hX hnL hDv hP
    obtain ⟨Fc, Nc, lD⟩ := comp_after_set Fb Nb hX rfl hnL hitb hWn hDs hDv
    have em : ∀ z, (if z = Str.ofString "first" then some (Value.int (f : Int) tf) else if z = Str.ofString "listing" then some (Value.ref lst) else m z) = m z := fun z => by
      split
      · rename_i h; rw [h]; exact m2.symm
      · split
        · rename_i h; rw [h]; exact m1.symm
        · rfl
    simp only [em] at Fc
    have hG : GExt NoG s.gens sd.gens s.os sd.os := by rw [← ea2, ← eb2, ← gb, ← ea3, ← eb3, ← ob]; exact Ext.g hX
    exact Box.mk (hQ sd lf vf c' hG Fc (newsPick [_, _, _, _, _] _ [0] Nc) (fun p hp => lD p (.tail _ (.tail _ (.tail _ (.tail _ hp))))) (strs_pairedF hP))
end
end Mine1
end
local macro_rules | `(tactic| walk_at "call builtin:list.append") => `(tactic| ((with_reducible show wpAny _ _ (PySem.call (Value.builtin "list.append") _) _ _ _); refine unbox ?_))
local macro_rules | `(tactic| walk_at "call builtin:sorted") => `(tactic| ((with_reducible show wpAny _ _ (PySem.call (Value.builtin "sorted") _) _ _ _); refine unbox ?_))
section
open PySem PySem.W PyProof.Rows PyProof.V Mine
set_option maxRecDepth 100000
set_option maxHeartbeats 8000000
namespace Mine1
section
variable {w : World} {mg mb : Str → Option Value} {dp un : Nat} {gd : Option (List Code)} {s : Shared} {Q : Flow → Shared → Prop} {E : Value → Shared → Prop}
noncomputable def loopBody : List Stmt := match lawDef.1.drop 10 with
  | .For (body := b) .. :: _ => b
  | _ => []
theorem law_a {base : Heap} {L fa lf : Addr} {cd : Value} {m : Str → Option Value} {vf : List Value} {c : Nat} {nums : List Int} {many : Nat} {row places : List Nat} {anc : Nat → List Str} {R : List (Addr × Obj)} (PB : PW w mg mb base)
    (hdp : dp ≤ 310) (hu : un ≤ 3000) (hvf : StrsAre vf (places.map fun p => S (pathOf nums many row p))) (hpl : places.length ≤ 9) (hfl : (places.flatMap fun p => (anc p).tail).length ≤ 1000)
    (hanc : ∀ p ∈ places, AncComes (bare (S (pathOf nums many row p))) (anc p) ∧ (anc p).length ≤ 100 ∧ (pathOf nums many row p).length ≤ 300)
    (F : Fr base L s.heap m) (N : News base L s.heap ((lf, listObj vf c) :: R)) (m1 : m "left" = some (.ref lf))
    (hQ : ∀ s' D o, GExt NoG s.gens s'.gens s.os s'.os → Fr base L s'.heap (fun z => if z = Str.ofString "uppers" then some (.ref D) else m z) →
      News base L s'.heap ((D, o) :: (lf, listObj vf c) :: R) → o.IsDictOf (strKind prog w) (keyed (places.flatMap fun p => (anc p).tail)) → (D == sysModules) = false → (∀ p ∈ (lf, listObj vf c) :: R, p.1 < D) →
      wpAny (model prog w) ((Ar dp un (some []) gd).deeper (envOfC (Str.ofString "law") lawDef.2 L fa cd)) (execs (loopBody.drop 1) (envOfC (Str.ofString "law") lawDef.2 L fa cd)) Q E s') :
    wpAny (model prog w) ((Ar dp un (some []) gd).deeper (envOfC (Str.ofString "law") lawDef.2 L fa cd)) (execs (loopBody.drop 0) (envOfC (Str.ofString "law") lawDef.2 L fa cd)) Q E s := by
  conv in (List.drop 0 _) => whnf
  conv => enter [2, 2, 2]; whnf
  conv => enter [3, 2, 2]; whnf
  obtain ⟨KX, T⟩ := id PB
  refine execs_box ?_
  have F0 : Box (Fr base L s.heap m) := ⟨F⟩
  replace F := fr_named F "left" _ m1
  k_steps
  refine callWith_boundB (vs := #[.builtin "dict.fromkeys", .type "dict"]) ?_
  k_steps
  refine Box.mk (comp_head (by with_unfolding_all exact rfl) rfl (by decide) ?_)
  k_steps
  refine Box.mk (list_src (xs := places) (items := vf.toArray) ⟨_, N.get (.head _), rfl, _, rfl⟩ fun sb it oi hit kb gb ob hin hio hic hne hR => ?_)
  have Fb := Fr.keepAll F0.out kb
  have Nb := News.keepAll N kb
  have hWn := news_off N hin
  have hLit := fr_off F hin
  have hitb : ∀ b, b ∈ [it] → base.get? b = none := fun b hb => by rw [List.mem_singleton.mp hb]; exact KeepAll.none_of F.keep hin
  have hlfL : lf ≠ L := (N _ (.head _)).2.1
  have hP1 := paired_of_strs hvf
  clear F N
  refine comp_over2 (l := [envOfC (Str.ofString "law") lawDef.2 L fa cd]) (base := base) (Val := fun (p : Nat) v => ∃ t, v = Value.str (S (pathOf nums many row p)) t) (F := fun (y : Str) v => ∃ t, v = .str y t) (g := fun p => (anc p).tail) rfl (by decide) rfl rfl rfl (fun _ _ => rfl) (it_list rfl it lf hne (by simpa using hP1) _ _) hR (okl_of_fr Fb rfl law_kind) (fun b hb => ?_)
    (fun b hb => ?_) hitb ?_ (by omega) ?_
  · simp only [List.mem_cons, List.not_mem_nil, or_false] at hb
    rcases hb with rfl | rfl
    · exact ⟨oi, hio⟩
    · exact ⟨_, (Nb _ (.head _)).1⟩
  · simp only [List.mem_cons, List.not_mem_nil, or_false] at hb
    simp only [frs, List.filterMap]
    rcases hb with rfl | rfl
    · exact fun h => hLit (List.mem_singleton.mp h).symm
    · exact fun h => hlfL (List.mem_singleton.mp h)
  · rintro D C ND y v s₃ m₃ vs3 c3 hy ok3 X3 hn3 hx ⟨tv, rfl⟩ hD3
    obtain ⟨hac, hal, hpl2⟩ := hanc y hy
    have hL3 : ∃ o, s₃.heap.get? L = some o := let ⟨_, o, e, _⟩ := ok3.2.mem (b := L) (.head _); ⟨o, e⟩
    have hC3 : ∃ o, s₃.heap.get? C = some o := let ⟨o, _, _, e, _⟩ := hn3; ⟨o, e⟩
    have hbL : base.get? L = none := (ok3.2.mem (b := L) (.head _)).1
    have hbC : base.get? C = none := KeepAll.none_of Fb.keep ND.c
    have hbD : base.get? D = none := KeepAll.none_of Fb.keep ND.d
    have kB : KeepAll base (hide [L, C, D] s₃.heap) := keep_hide ok3.1 fun a ha => by
      simp only [List.mem_cons, List.not_mem_nil, or_false] at ha
      rcases ha with rfl | rfl | rfl <;> assumption
    have PB2 := PB.keepAll kB
    obtain ⟨F5, N5⟩ := elt_ready Fb Nb rfl ND X3 hWn ok3.1 hn3
    replace F5 := fr_named F5 "path" _ hx
    clear Nb hQ N5
    k_steps
    have kI := hide_keep [L, C, D] s₃.heap
    refine Box.mk (parents_spec (base := hide [L, C, D] s₃.heap) PB2 kI (by rw [hide_size]; exact Nat.le_refl _) (by show dp + 1 + 5 < 450; omega) (by show un + 3 + 30 ≤ 4500; omega) (by rw [S_len]; omega) hac (by omega) fun x s4 hE4 hS4 => ?_)
    obtain ⟨W2, V2, own2, R2, I2, hR4, hV2, hown⟩ := hS4
    have k4 : KeepAll (hide [L, C, D] s₃.heap) s4.heap := kI.trans hE4.keepAll
    show wpAny _ _ (pyIter (.ref x)) _ _ s4
    refine I2.iter _ _ [envOfC (Str.ofString "law") lawDef.2 L fa cd] _ _ s4 _ _ (by show dp + 1 ≤ 400; omega) (by show un + 3 ≤ 4000; omega) k4 (PB2.T.nolimit.keeps k4) hR4 fun s5 hE5 hR5 => ?_
    have ne3 : ∀ b ∈ own2, ∀ c, (∃ o, s₃.heap.get? c = some o) → b ≠ c := fun b hb c ⟨o, ho⟩ h => by
      have := hown b hb
      rw [h, ho] at this; cases this
    have hX5 : Ext (frs [envOfC (Str.ofString "law") lawDef.2 L fa cd]) (fun b => b = C) NoG s₃ s5 := (hE4.trans hE5).mono (fun _ h => nomatch h) (fun _ h => h.elim) fun _ h => h
    have fr1 : ∀ b, b ∈ frs [envOfC (Str.ofString "law") lawDef.2 L fa cd] → b = L := fun b hb => List.mem_singleton.mp (show b ∈ [L] from hb)
    have ok5 : OkL (hide [L, C, D] s₃.heap) [envOfC (Str.ofString "law") lawDef.2 L fa cd] s5.heap := (okl_hide ok3 fun b hb => by rw [fr1 b hb]; exact .head _).up (hE4.trans hE5).keepAll
    have hD3' : ∃ o, s₃.heap.get? D = some o := ⟨_, hD3⟩
    have hW2 : ∀ b, (b = D ∨ b = C ∨ W2 b) → (hide [L, C, D] s₃.heap).get? b = none ∧ b ∉ frs [envOfC (Str.ofString "law") lawDef.2 L fa cd] := fun b hb => by
      have hDL : D ≠ L := fun h => by
        obtain ⟨o, _, _, ho, _⟩ := Fb.ns
        rw [← h, ND.d] at ho; cases ho
      have hCL : C ≠ L := fun h => by
        obtain ⟨o, _, _, ho, _⟩ := Fb.ns
        rw [← h, ND.c] at ho; cases ho
      rcases hb with rfl | rfl | hb
      · exact ⟨hide_none (by simp), fun h => hDL (fr1 _ h)⟩
      · exact ⟨hide_none (by simp), fun h => hCL (fr1 _ h)⟩
      · exact ⟨I2.off b (I2.sub b hb), fun h => ne3 b (I2.sub b hb) L hL3 (fr1 _ h)⟩
    refine ⟨⟨_, x, OkL (hide [L, C, D] s₃.heap) [envOfC (Str.ofString "law") lawDef.2 L fa cd], W2, V2, own2, R2, rfl, It.of_own I2 (by show dp + 1 ≤ 400; omega) (by show un + 3 ≤ 4000; omega) PB2.T.nolimit (fun f hf h => ne3 f h L hL3 (fr1 f hf)), hR5, ok5,
      fun b hb => ⟨ne3 b hb D hD3', ne3 b hb C hC3, fun h => ne3 b hb L hL3 (fr1 b h)⟩, fun b hb => hown b (I2.sub b hb), hV2, fun s s' o X => o.ext X hW2, ?_⟩, hX5, ⟨m₃, hn3.keeps (hE4.trans hE5).keepAll⟩⟩
    rintro z v2 s₆ m6 _ ok6 X6 hn6 hx6 ⟨tz, rfl⟩
    have F6 : Fr base C s₆.heap m6 := ⟨hn6, kB.trans ok6.1, F5.above⟩
    replace F6 := fr_named F6 "parent" _ hx6
    clear F5 Fb
    k_steps
    exact elt_keep hn6 (fun _ _ e => e) rfl rfl ⟨_, rfl⟩
  · intro D1 sc v1 c1 hDn hDs hX hDv hP
    obtain ⟨Fc, Nc, lD⟩ := comp_after Fb Nb hX rfl (fun h => hLit (List.mem_singleton.mp h)) hitb hWn hDs hDv
    k_steps
    have h148 : sc.heap.get? 148 = some _ := Fc.keep _ _ (KX 148 _ (by k_is))
    have hvl := hP.length
    refine ⟨h148, call_dedupe (knd := strKind prog w) (xs := places.flatMap fun p => (anc p).tail) (items := v1.toArray) h148 rfl ⟨_, hDv, rfl, _, rfl⟩ (by rw [List.size_toArray, hvl]) (fun i v hv => ?_) hfl fun D h' tk hd hDn2 kh hDlt => ?_⟩
    · have hi : i < v1.length := by
        have := (Array.getElem?_eq_some_iff.mp hv).1
        simpa using this
      have hi' : i < (places.flatMap fun p => (anc p).tail).length := by rw [hvl]; exact hi
      obtain ⟨t, rfl⟩ := Paired.at_ hP i _ v (List.getElem?_eq_getElem hi') (by simpa using hv)
      exact ⟨hi', strKind_is _ _ _ _⟩
    obtain ⟨o, ho, hdd⟩ := Heap.dictOf_iff.mp hd
    have F7 := Fr.keepAll Fc kh
    have hDLt : L < D := by
      obtain ⟨oL, _, _, hoL, _⟩ := Fc.ns
      exact hDlt _ _ hoL
    have hDbase : base.get? D = none := KeepAll.none_of Fc.keep hDn2
    have N7 : News base L h' ((D, o) :: (lf, listObj vf c) :: R) := List.forall_mem_cons.mpr ⟨⟨ho, Nat.ne_of_gt hDLt, hDbase⟩, fun p hp => News.keepAll Nc kh p (.tail _ hp)⟩
    have hlt7 : ∀ p ∈ (lf, listObj vf c) :: R, p.1 < D := fun p hp => hDlt _ _ (Nc p (.tail _ hp)).1
    have hsys : (D == sysModules) = false := by
      have h1 := modules_low T.nolimit
      have h2 : sysModules < D := Nat.lt_trans (Nat.lt_of_lt_of_le h1 F7.above) hDLt
      exact beq_eq_false_iff_ne.mpr (Nat.ne_of_gt h2)
    have hG : GExt NoG s.gens sc.gens s.os sc.os := by rw [← gb, ← ob]; exact Ext.g hX
    clear Fc Nc Fb Nb hX hP
    walk1
    rename Fr _ _ _ _ => F8
    rename News _ _ _ _ => N8
    exact Box.mk (hQ _ D o hG F8 N8 hdd hsys hlt7)
end
end Mine1
end
section
open PySem PySem.W PyProof.Rows PyProof.V Mine
set_option maxRecDepth 100000
set_option maxHeartbeats 8000000
namespace Mine1
section
variable {w : World} {mg mb : Str → Option Value} {dp un : Nat} {gd : Option (List Code)} {s : Shared} {Q : Flow → Shared → Prop} {E : Value → Shared → Prop}
theorem law_b {base : Heap} {L fa sn up : Addr} {cd : Value} {m : Str → Option Value} {vsn : List Value} {csn : Nat} {oU : Obj} {kvs : List (Str × Value)} {R : List (Addr × Obj)} (PB : PW w mg mb base)
    (hdp : dp ≤ 310) (hu : un ≤ 3000) (hU : oU.IsDictOf (strKind prog w) kvs) (hlo : (up == sysModules) = false) (hk9 : kvs.length ≤ 60) (hkl : ∀ y ∈ kvs.map (·.1), y.length ≤ 1000) (hsl : vsn.length ≤ 1000)
    (F : Fr base L s.heap m) (N : News base L s.heap ((sn, listObj vsn csn) :: (up, oU) :: R)) (m1 : m "seen" = some (.ref sn)) (m2 : m "uppers" = some (.ref up)) (hne : ∀ p ∈ (up, oU) :: R, p.1 ≠ sn)
    (hQ : ∀ s' r vr nr e, GExt NoG s.gens s'.gens s.os s'.os → Fr base L s'.heap m →
      News base L s'.heap ((sn, listObj (vsn ++ [.ref r]) (csn + 1)) :: (r, seqObj "list" vr.toArray e) :: (up, oU) :: R) → IntsAre vr nr → nr.Perm ((kvs.map (·.1)).map pnum) → nr.Pairwise (· ≤ ·) → (∀ p ∈ (sn, listObj vsn csn) :: (up, oU) :: R, p.1 < r) →
      wpAny (model prog w) ((Ar dp un (some []) gd).deeper (envOfC (Str.ofString "law") lawDef.2 L fa cd)) (execs (loopBody.drop 2) (envOfC (Str.ofString "law") lawDef.2 L fa cd)) Q E s') :
    wpAny (model prog w) ((Ar dp un (some []) gd).deeper (envOfC (Str.ofString "law") lawDef.2 L fa cd)) (execs (loopBody.drop 1) (envOfC (Str.ofString "law") lawDef.2 L fa cd)) Q E s := by
  conv in (List.drop 1 _) => whnf
  conv => enter [2, 2, 2]; whnf
  conv => enter [3, 2, 2]; whnf
  obtain ⟨KX, T⟩ := id PB
  refine execs_box ?_
  have F0 : Box (Fr base L s.heap m) := ⟨F⟩
  replace F := fr_named F "seen" _ m1
  replace F := fr_named F "uppers" _ m2
  k_steps
  refine Box.mk (comp_head (by with_unfolding_all exact rfl) rfl (by decide) ?_)
  k_steps
  have hdU : s.heap.DictOf (strKind prog w) up kvs := Heap.dictOf_iff.mpr ⟨oU, (N _ (.tail _ (.head _))).1, hU⟩
  refine Box.mk (dict_src (knd := strKind prog w) hlo hdU fun sb it oi ep hit kb gb ob hin hio hic hne2 hR => ?_)
  have Fb := Fr.keepAll F0.out kb
  have Nb := News.keepAll N kb
  have hWn := news_off N hin
  have hLit := fr_off F hin
  have hitb : ∀ b, b ∈ [it] → base.get? b = none := fun b hb => by rw [List.mem_singleton.mp hb]; exact KeepAll.none_of F.keep hin
  have hupL : up ≠ L := (N _ (.tail _ (.head _))).2.1
  clear F N
  refine comp_over (l := [envOfC (Str.ofString "law") lawDef.2 L fa cd]) (base := base) (F := fun (y : Str) v _ => ∃ t, v = .int (pnum y) t) (by decide) rfl rfl (it_dict rfl it up hne2 _ _) hR (okl_of_fr Fb rfl law_kind) (fun b hb => ?_)
    (fun b hb => ?_) hitb (fun _ _ _ _ _ _ _ h _ => h) ?_ (by simp; omega) ?_
  · simp only [List.mem_cons, List.not_mem_nil, or_false] at hb
    rcases hb with rfl | rfl
    · exact ⟨oi, hio⟩
    · exact ⟨_, (Nb _ (.tail _ (.head _))).1⟩
  · simp only [List.mem_cons, List.not_mem_nil, or_false] at hb
    simp only [frs, List.filterMap]
    rcases hb with rfl | rfl
    · exact fun h => hLit (List.mem_singleton.mp h).symm
    · exact fun h => hupL (List.mem_singleton.mp h)
  · rintro D C ND y v s₃ m₃ hy ok3 X3 hn3 hx hv
    obtain ⟨tv, rfl⟩ := Value.isStrOf_shape hv
    obtain ⟨F5, N5⟩ := elt_ready Fb Nb rfl ND X3 hWn ok3.1 hn3
    replace F5 := fr_named F5 "parent" _ hx
    have hyl := hkl y hy
    clear Nb hQ N5
    k_steps
    refine Box.mk (number_spec (PB.keepAll ok3.1) (by show dp + 1 < 1000; omega) hyl fun t h' tk kh => ?_)
    exact elt_keep hn3 kh rfl rfl ⟨t, rfl⟩
  · intro D1 sc v1 c1 hDn hDs hX hDv hP
    obtain ⟨Fc, Nc, lD⟩ := comp_after Fb Nb hX rfl (fun h => hLit (List.mem_singleton.mp h)) hitb hWn hDs hDv
    have hvI := paired_intsF hP
    have hvl := hvI.length
    rw [List.length_map, List.length_map] at hvl
    have hG : GExt NoG s.gens sc.gens s.os sc.os := by rw [← gb, ← ob]; exact Ext.g hX
    clear Fb Nb hX hP
    k_steps
    refine Box.mk (sorted_N Fc Nc ⟨_, hDv, rfl, _, rfl⟩ hvI (by omega) fun h4 vr nr e F4 N4 hI4 hp4 hs4 => ?_)
    have hlt4 : ∀ p ∈ (sn, listObj vsn csn) :: (up, oU) :: R, p.1 < sc.heap.objs.size + 1 := fun p hp => Nat.lt_succ_of_lt (Heap.lt_size (Nc p (.tail _ hp)).1)
    generalize sc.heap.objs.size + 1 = r at N4 hlt4 ⊢
    walk1
    have hsn4 := (N4 (sn, listObj vsn csn) (by k_mem))
    refine append_obj (vs := vsn) (c := csn) ?_ ?_ fun h5 hS5 hs5 => ?_
    · exact hsn4.1
    · omega
    have hrs : r ≠ sn := Nat.ne_of_gt (hlt4 _ (.head _))
    refine Box.mk (hQ _ r vr nr e hG (F4.change hs5 hsn4.2.1 hsn4.2.2) ?_ hI4 hp4 hs4 hlt4)
    refine List.forall_mem_cons.mpr ⟨⟨hS5, hsn4.2⟩, List.forall_mem_cons.mpr ⟨⟨(hs5.2 _ hrs).trans (N4 _ (.head _)).1, (N4 _ (.head _)).2⟩, fun p hp => ?_⟩⟩
    have h6 := N4 p (.tail _ (.tail _ (.tail _ hp)))
    exact ⟨(hs5.2 _ (hne p hp)).trans h6.1, h6.2⟩
end
end Mine1
end
local macro_rules | `(tactic| walk_at "call builtin:min") => `(tactic| ((with_reducible show wpAny _ _ (PySem.call (Value.builtin "min") _ _) _ _ _); refine unbox ?_))
section
open PySem PySem.W PyProof.Rows PyProof.V Mine
set_option maxRecDepth 100000
set_option maxHeartbeats 8000000
namespace Mine1
section
variable {w : World} {mg mb : Str → Option Value} {dp un : Nat} {gd : Option (List Code)} {s : Shared} {Q : Flow → Shared → Prop} {E : Value → Shared → Prop}
theorem setFrom_dict {b : Addr} {h0 : Heap} {kvs : List (Str × Value)} (hd : h0.DictOf (strKind prog w) b kvs) (hn : kvs.length < 13) (hlo : (b == sysModules) = false) : SetFrom w b h0 (fun k => (kvs.map (·.1)).any (· == k)) := fun A s2 Q E hh hk hQ =>
  call_set_dict (dictOf_keep hd hk) hn (fun h => by rw [h] at hlo; simp at hlo) fun h' tk n hS _ kh => hQ _ h' tk n hS kh (get?_size_none _ (Nat.le_refl _))
theorem setFrom_list {b : Addr} {h0 : Heap} {items : Array Value} {xs : List Str} (hl : h0.IsList b items) (hi : StrsAre items.toList xs) (hb : xs.length + 1 < scanBound) : SetFrom w b h0 (fun k => xs.any (· == k)) := fun A s2 Q E hh hk hQ =>
  call_set_strs hh (isList_keep hl hk) hi hb fun h' tk n hS _ kh => hQ _ h' tk n hS kh (get?_size_none _ (Nat.le_refl _))
theorem law_c {base : Heap} {L fa lf up : Addr} {cd : Value} {m : Str → Option Value} {vf : List Value} {c : Nat} {ss : List Str} {oU : Obj} {kvs : List (Str × Value)} {R : List (Addr × Obj)} {y : Str} {ys : List Str} (PB : PW w mg mb base)
    (hdp : dp ≤ 310) (hu : un ≤ 3000) (hU : oU.IsDictOf (strKind prog w) kvs) (hlo : (up == sysModules) = false) (hk9 : kvs.length < 13) (hvf : StrsAre vf ss) (hsl : ∀ z ∈ ss, z.length ≤ 1000)
    (hfl : (ss.filter fun z => !(kvs.map (·.1)).any (· == z)) = y :: ys)
    (F : Fr base L s.heap m) (N : News base L s.heap ((lf, listObj vf c) :: (up, oU) :: R)) (m1 : m "left" = some (.ref lf)) (m2 : m "uppers" = some (.ref up))
    (hQ : ∀ s' t, GExt NoG s.gens s'.gens s.os s'.os → Fr base L s'.heap (fun z => if z = Str.ofString "leaf" then some (.str (bestOf pnum y ys) t) else m z) →
      News base L s'.heap ((lf, listObj vf c) :: (up, oU) :: R) →
      wpAny (model prog w) ((Ar dp un (some []) gd).deeper (envOfC (Str.ofString "law") lawDef.2 L fa cd)) (execs (loopBody.drop 3) (envOfC (Str.ofString "law") lawDef.2 L fa cd)) Q E s') :
    wpAny (model prog w) ((Ar dp un (some []) gd).deeper (envOfC (Str.ofString "law") lawDef.2 L fa cd)) (execs (loopBody.drop 2) (envOfC (Str.ofString "law") lawDef.2 L fa cd)) Q E s := by
  conv in (List.drop 2 _) => whnf
  conv => enter [2, 2, 2]; whnf
  conv => enter [3, 2, 2]; whnf
  obtain ⟨KX, T⟩ := id PB
  refine execs_box ?_
  have F0 : Box (Fr base L s.heap m) := ⟨F⟩
  replace F := fr_named F "left" _ m1
  replace F := fr_named F "uppers" _ m2
  k_steps
  have hbL : base.get? L = none := get?_size_none _ F.above
  have kB : KeepAll base (hide [L] s.heap) := keep_hide F.keep fun a ha => by rw [List.mem_singleton.mp ha]; exact hbL
  have PB2 := PB.keepAll kB
  have kI := hide_keep [L] s.heap
  have hlf := N _ (.head _)
  have hup := N _ (.tail _ (.head _))
  have hlfB : (hide [L] s.heap).IsList lf vf.toArray := ⟨_, hide_some (by simp only [List.mem_singleton]; exact hlf.2.1) hlf.1, rfl, _, rfl⟩
  refine Box.mk (difference_list (base := hide [L] s.heap) (ss := ss) PB2 kI hlfB (by simpa using hvf) (setFrom_dict (Heap.dictOf_iff.mpr ⟨_, hup.1, hU⟩) hk9 hlo) (by show dp + 1 + 5 < 450; omega) (by show un + 3 + 30 ≤ 4500; omega) fun x s1 hE1 hS1 => ?_)
  have F1 : Fr base L s1.heap m := Fr.keepAll F0.out hE1.keepAll
  have N1 := News.keepAll N hE1.keepAll
  clear F
  k_steps
  obtain ⟨W2, V2, own2, R2, I2, hR1, hV2, hown⟩ := hS1
  rw [hfl] at hR1
  have hLs : ∃ o, s.heap.get? L = some o := let ⟨o, _, _, e, _⟩ := F0.out.ns; ⟨o, e⟩
  have fr1 : ∀ b, b ∈ frs [envOfC (Str.ofString "law") lawDef.2 L fa cd] → b = L := fun b hb => List.mem_singleton.mp (show b ∈ [L] from hb)
  have okS : OkL base [envOfC (Str.ofString "law") lawDef.2 L fa cd] s.heap := okl_of_fr F0.out rfl law_kind
  have ok1 : OkL (hide [L] s.heap) [envOfC (Str.ofString "law") lawDef.2 L fa cd] s1.heap := (okl_hide okS fun b hb => by rw [fr1 b hb]; exact .head _).up hE1.keepAll
  refine Box.mk ?_
  show wpAny _ _ (PySem.call (.builtin "min") [.ref x] [(Str.ofString "key", .ref 162)]) _ _ s1
  refine call_min_own (l := [envOfC (Str.ofString "law") lawDef.2 L fa cd]) (kf := pnum) (ok := fun z => z.length ≤ 1000) I2 ?_ (by show dp + 1 ≤ 400; omega) (by show un + 3 + 4 ≤ 4000; omega) (fun f hf h => ?_) PB2.T.nolimit ok1.1 ok1.2 hR1 (fun z hz => ?_) fun s2 t hE2 => ?_
  · intro u hu s' z t Q' hk hz hQ'
    exact number_spec (PB2.keepAll hk) (by show dp + 1 < 1000; omega) hz fun t' h' tk kh => hQ' t' h' tk kh
  · obtain ⟨o, ho⟩ := hLs
    have := hown f h
    rw [fr1 f hf, ho] at this; cases this
  · refine hsl z ?_
    rw [← hfl] at hz
    exact (List.mem_filter.mp hz).1
  have hX : Ext (frs [envOfC (Str.ofString "law") lawDef.2 L fa cd]) NoA NoG s s2 := ((hE1.mono (fun _ h => nomatch h) (W' := W2) (fun _ h => h.elim) (V' := V2) fun _ h => h.elim).trans hE2).shrink (fun b h => .inl (hown b (I2.sub b h))) fun g h => .inr (hV2 g h)
  have F2 : Fr base L s2.heap m := Ext.fr hX F0.out (fun h => h) (fun b hb => by rw [fr1 b hb]; exact hbL) fun b h => h.elim
  have N2 : News base L s2.heap ((lf, listObj vf c) :: (up, oU) :: R) := Ext.news hX N (fun q hq h => (N q hq).2.1 (fr1 _ h)) fun _ _ h => h
  have hG := Ext.g hX
  clear N1 F1 N
  walk1
  rename Fr _ _ _ _ => F3
  rename News _ _ _ _ => N3
  exact Box.mk (hQ _ t hG F3 N3)
end
end Mine1
end
local macro_rules | `(tactic| walk_at "call type:list") => `(tactic| ((with_reducible show wpAny _ _ (PySem.call (Value.type "list") _) _ _ _); refine unbox ?_))
section
open PySem PySem.W PyProof.Rows PyProof.V Mine
set_option maxRecDepth 100000
set_option maxHeartbeats 8000000
namespace Mine1
section
variable {w : World} {mg mb : Str → Option Value} {dp un : Nat} {gd : Option (List Code)} {s : Shared} {Q : Flow → Shared → Prop} {E : Value → Shared → Prop}
theorem law_d {base : Heap} {L fa tl : Addr} {cd : Value} {m : Str → Option Value} {vt : List Value} {ct : Nat} {nt : List Int} {lv : Str} {tv : Tok} {xs : List Str} {R : List (Addr × Obj)} (PB : PW w mg mb base)
    (hdp : dp ≤ 310) (hu : un ≤ 3000) (hlv : lv.length ≤ 1000) (hac : AncComes (bare lv) xs) (hxl : xs.length ≤ 100) (hxs : ∀ z ∈ xs, z.length ≤ 1000) (hvt : IntsAre vt nt) (htl : vt.length ≤ 1000)
    (F : Fr base L s.heap m) (N : News base L s.heap ((tl, listObj vt ct) :: R)) (m1 : m "leaf" = some (.str lv tv)) (m2 : m "told" = some (.ref tl)) (hne : ∀ p ∈ R, p.1 ≠ tl)
    (hQ : ∀ s' vt' ct', GExt NoG s.gens s'.gens s.os s'.os → Fr base L s'.heap m →
      News base L s'.heap ((tl, listObj vt' ct') :: R) → IntsAre vt' (nt ++ (xs.tail.take 1).map pnum) →
      wpAny (model prog w) ((Ar dp un (some []) gd).deeper (envOfC (Str.ofString "law") lawDef.2 L fa cd)) (execs (loopBody.drop 4) (envOfC (Str.ofString "law") lawDef.2 L fa cd)) Q E s') :
    wpAny (model prog w) ((Ar dp un (some []) gd).deeper (envOfC (Str.ofString "law") lawDef.2 L fa cd)) (execs (loopBody.drop 3) (envOfC (Str.ofString "law") lawDef.2 L fa cd)) Q E s := by
  conv in (List.drop 3 _) => whnf
  conv => enter [2, 2, 2]; whnf
  conv => enter [3, 2, 2]; whnf
  obtain ⟨KX, T⟩ := id PB
  refine execs_box ?_
  have F0 : Box (Fr base L s.heap m) := ⟨F⟩
  replace F := fr_named F "told" _ m2
  replace F := fr_named F "leaf" _ m1
  have hbL : base.get? L = none := get?_size_none _ F.above
  k_steps
  refine Box.mk (comp_head (by with_unfolding_all exact rfl) rfl (by decide) ?_)
  k_steps
  have kB : KeepAll base (hide [L] s.heap) := keep_hide F.keep fun a ha => by rw [List.mem_singleton.mp ha]; exact hbL
  have PB2 := PB.keepAll kB
  have kI := hide_keep [L] s.heap
  have hLs : ∃ o, s.heap.get? L = some o := let ⟨o, _, _, e, _⟩ := F0.out.ns; ⟨o, e⟩
  have fr1 : ∀ b, b ∈ frs [envOfC (Str.ofString "law") lawDef.2 L fa cd] → b = L := fun b hb => List.mem_singleton.mp (show b ∈ [L] from hb)
  have okS : OkL base [envOfC (Str.ofString "law") lawDef.2 L fa cd] s.heap := okl_of_fr F0.out rfl law_kind
  refine Box.mk (parents_spec (base := hide [L] s.heap) PB2 kI (by rw [hide_size]; exact Nat.le_refl _) (by show dp + 1 + 5 < 450; exact bndL2 hdp (by decide)) (by show un + 3 + 30 ≤ 4500; omega) hlv hac (by omega) fun x s1 hE1 hS1 => ?_)
  obtain ⟨W2, V2, own2, R2, I2, hR1, hV2, hown⟩ := hS1
  have ok1 : OkL (hide [L] s.heap) [envOfC (Str.ofString "law") lawDef.2 L fa cd] s1.heap := (okl_hide okS fun b hb => by rw [fr1 b hb]; exact .head _).up hE1.keepAll
  walk1
  have hxt : xs.tail.length ≤ 100 := by rw [List.length_tail]; exact Nat.le_trans (Nat.sub_le _ _) hxl
  refine call_list_own (l := [envOfC (Str.ofString "law") lawDef.2 L fa cd]) I2 (by show dp + 1 ≤ 400; omega) (by show un + 3 + 4 ≤ 4000; omega) (fun f hf h => ?_) PB2.T.nolimit ok1.1 ok1.2 hR1 (by omega) fun D2 s2 v2 c2 hE2 hD2 hD2l hDv2 hv2 => ?_
  · obtain ⟨o, ho⟩ := hLs
    have := hown f h
    rw [fr1 f hf, ho] at this; cases this
  have hX : Ext (frs [envOfC (Str.ofString "law") lawDef.2 L fa cd]) NoA NoG s s2 := ((hE1.mono (fun _ h => nomatch h) (W' := W2) (fun _ h => h.elim) (V' := V2) fun _ h => h.elim).trans hE2).shrink (fun b h => .inl (hown b (I2.sub b h))) fun g h => .inr (hV2 g h)
  have F2 : Fr base L s2.heap m := Ext.fr hX F0.out (fun h => h) (fun b hb => by rw [fr1 b hb]; exact hbL) fun b h => h.elim
  have N20 : News base L s2.heap ((tl, listObj vt ct) :: R) := Ext.news hX N (fun q hq h => (N q hq).2.1 (fr1 _ h)) fun _ _ h => h
  have hk1 := hE1.keepAll
  have hD2n : s.heap.get? D2 = none := hk1.none_of hD2
  have hDL2 : L < D2 := by
    obtain ⟨o, ho⟩ := hLs
    exact hD2l _ _ (hk1 _ _ ho)
  have N2 : News base L s2.heap ((D2, listObj v2 c2) :: (tl, listObj vt ct) :: R) := List.forall_mem_cons.mpr ⟨⟨hDv2, Nat.ne_of_gt hDL2, F0.out.keep |> fun k => KeepAll.none_of k hD2n⟩, N20⟩
  have hl2 : ∀ p ∈ (tl, listObj vt ct) :: R, p.1 < D2 := fun p hp => hD2l _ _ (hk1 _ _ (N p hp).1)
  have hG := Ext.g hX
  clear F N N20
  k_steps
  rename Fr _ _ _ _ => F3
  rename News _ _ _ _ => N3
  rename_i h3
  have et : slicePick v2.toArray none (some 1) none = (v2.take 1).toArray := slicePick_upto' _ 1
  rw [et] at N3
  refine Box.mk ?_
  refine cut_state (h' := h3) (fun sa ea1 ea2 ea3 => ?_) rfl
  subst ea1
  replace ea2 : sa.gens = s2.gens := ea2
  replace ea3 : sa.os = s2.os := ea3
  dsimp only at N3 ⊢
  generalize s2.heap.objs.size + 1 = l3 at N3 ⊢
  clear F2 N2
  have hP1 : Paired (fun (y : Str) v => ∃ t, v = Value.str y t) (xs.tail.take 1) (v2.take 1) := Paired.take_ 1 (strs_paired hv2)
  refine list_src (xs := xs.tail.take 1) (items := (v2.take 1).toArray) ⟨_, N3.get (.head _), rfl, _, rfl⟩ fun sb it oi hit kb gb ob hin hio hic hne2 hR => ?_
  have Fb := Fr.keepAll F3 kb
  have Nb := News.keepAll N3 kb
  have hWn := news_off N3 hin
  have hLit := fr_off F3 hin
  have hitb : ∀ b, b ∈ [it] → base.get? b = none := fun b hb => by rw [List.mem_singleton.mp hb]; exact KeepAll.none_of F3.keep hin
  have hl3L : l3 ≠ L := (N3 _ (.head _)).2.1
  clear F3 N3
  refine comp_over (l := [envOfC (Str.ofString "law") lawDef.2 L fa cd]) (base := base) (Val := fun (y : Str) v => ∃ t, v = Value.str y t) (F := fun (y : Str) v _ => ∃ t, v = .int (pnum y) t) (by decide) rfl rfl (it_list rfl it l3 hne2 (by simpa using hP1) _ _) hR (okl_of_fr Fb rfl law_kind) (fun b hb => ?_)
    (fun b hb => ?_) hitb (fun _ _ _ _ _ _ _ h _ => h) ?_ (by rw [List.length_take]; exact Nat.le_trans (Nat.min_le_left _ _) (by decide)) ?_
  · simp only [List.mem_cons, List.not_mem_nil, or_false] at hb
    rcases hb with rfl | rfl
    · exact ⟨oi, hio⟩
    · exact ⟨_, (Nb _ (.head _)).1⟩
  · simp only [List.mem_cons, List.not_mem_nil, or_false] at hb
    simp only [frs, List.filterMap]
    rcases hb with rfl | rfl
    · exact fun h => hLit (List.mem_singleton.mp h).symm
    · exact fun h => hl3L (List.mem_singleton.mp h)
  · rintro D C ND y v s₃ m₃ hy ok3 X3 hn3 hx ⟨tv, rfl⟩
    obtain ⟨F5, N5⟩ := elt_ready Fb Nb rfl ND X3 hWn ok3.1 hn3
    replace F5 := fr_named F5 "parent" _ hx
    have hyl := hxs y (List.mem_of_mem_tail (List.mem_of_mem_take hy))
    clear Nb hQ N5
    k_steps
    refine Box.mk (number_spec (PB.keepAll ok3.1) (by show dp + 1 < 1000; omega) hyl fun t h' tk kh => ?_)
    exact elt_keep hn3 kh rfl rfl ⟨t, rfl⟩
  · intro D1 sc v1 c1 hDn hDs hX2 hDv hP
    obtain ⟨Fc, Nc, lD⟩ := comp_after Fb Nb hX2 rfl (fun h => hLit (List.mem_singleton.mp h)) hitb hWn hDs hDv
    have hvI := paired_intsF hP
    have hG2 : GExt NoG s.gens sc.gens s.os sc.os := by
      refine hG.trans ?_
      rw [← ea2, ← gb, ← ea3, ← ob]; exact Ext.g hX2
    clear Fb Nb hX hP hX2
    k_steps
    have htlg := Nc _ (.tail _ (.tail _ (.tail _ (.head _))))
    have hv1 : v1.length ≤ 1 := by
      have := hvI.length
      rw [List.length_map, List.length_take] at this
      exact Nat.le_trans (Nat.le_of_eq this) (Nat.min_le_left _ _)
    refine iadd_lists (vs := vt) (c := ct) (ws := v1) (d := c1) htlg.1 hDv (by omega) fun h6 ct' hS6 hs6 => ?_
    have F6 := Fc.change hs6 htlg.2.1 htlg.2.2
    have N6 : News base L h6 ((tl, listObj (vt ++ v1) ct') :: R) := List.forall_mem_cons.mpr ⟨⟨hS6, htlg.2⟩, fun p hp => by
      have h6 := Nc p (.tail _ (.tail _ (.tail _ (.tail _ hp))))
      exact ⟨(hs6.2 _ (hne p hp)).trans h6.1, h6.2⟩⟩
    clear Fc Nc
    walk1
    rename Fr _ _ _ _ => F7
    rename News _ _ _ _ => N7
    have em : (fun z => if z = Str.ofString "told" then some (Value.ref tl) else m z) = m := by
      funext z
      split
      · rename_i h; rw [h]; exact m2.symm
      · rfl
    rw [em] at F7
    exact Box.mk (hQ _ _ ct' hG2 F7 N7 (hvt.append hvI))
end
end Mine1
end
section
open PySem PySem.W PyProof.Rows PyProof.V Mine
set_option maxRecDepth 100000
set_option maxHeartbeats 8000000
namespace Mine1
section
variable {w : World} {mg mb : Str → Option Value} {dp un : Nat} {gd : Option (List Code)} {s : Shared} {Q : Flow → Shared → Prop} {E : Value → Shared → Prop}
theorem law_e {base : Heap} {L fa lf : Addr} {cd : Value} {m : Str → Option Value} {vf : List Value} {c : Nat} {ss : List Str} {lv : Str} {tv : Tok} {R : List (Addr × Obj)} (PB : PW w mg mb base)
    (hdp : dp ≤ 310) (hu : un ≤ 3000) (hvf : StrsAre vf ss) (hss : ss.length ≤ 100)
    (F : Fr base L s.heap m) (N : News base L s.heap ((lf, listObj vf c) :: R)) (m1 : m "left" = some (.ref lf)) (m2 : m "leaf" = some (.str lv tv))
    (hQ : ∀ s' lf' vf' c', GExt NoG s.gens s'.gens s.os s'.os → Fr base L s'.heap (fun z => if z = Str.ofString "left" then some (.ref lf') else m z) →
      News base L s'.heap ((lf', listObj vf' c') :: R) → StrsAre vf' (ss.filter fun z => !([lv].any (· == z))) → (∀ p ∈ R, p.1 < lf') →
      wpAny (model prog w) ((Ar dp un (some []) gd).deeper (envOfC (Str.ofString "law") lawDef.2 L fa cd)) (execs [] (envOfC (Str.ofString "law") lawDef.2 L fa cd)) Q E s') :
    wpAny (model prog w) ((Ar dp un (some []) gd).deeper (envOfC (Str.ofString "law") lawDef.2 L fa cd)) (execs (loopBody.drop 4) (envOfC (Str.ofString "law") lawDef.2 L fa cd)) Q E s := by
  conv in (List.drop 4 _) => whnf
  conv => enter [2, 2, 2]; whnf
  conv => enter [3, 2, 2]; whnf
  obtain ⟨KX, T⟩ := id PB
  refine execs_box ?_
  have hbL : base.get? L = none := get?_size_none _ F.above
  replace F := fr_named F "left" _ m1
  replace F := fr_named F "leaf" _ m2
  k_steps
  rename Fr _ _ _ _ => F1
  rename News _ _ _ _ => N1
  rename_i ll h1 l1
  refine Box.mk ?_
  refine cut_state (h' := h1) (fun sa ea1 ea2 ea3 => ?_) rfl
  subst ea1
  replace ea2 : sa.gens = s.gens := ea2
  replace ea3 : sa.os = s.os := ea3
  have em : (fun y => if y = Str.ofString "leaf" then some (Value.str lv tv) else if y = Str.ofString "left" then some (Value.ref lf) else m y) = m := by
    funext z
    split
    · rename_i h; rw [h]; exact m2.symm
    · split
      · rename_i h; rw [h]; exact m1.symm
      · rfl
  rw [em] at F1
  have kB : KeepAll base (hide [L] sa.heap) := keep_hide F1.keep fun a ha => by rw [List.mem_singleton.mp ha]; exact hbL
  have PB2 := PB.keepAll kB
  have kI := hide_keep [L] sa.heap
  have hLs : ∃ o, sa.heap.get? L = some o := let ⟨o, _, _, e, _⟩ := F1.ns; ⟨o, e⟩
  have fr1 : ∀ b, b ∈ frs [envOfC (Str.ofString "law") lawDef.2 L fa cd] → b = L := fun b hb => List.mem_singleton.mp (show b ∈ [L] from hb)
  have okS : OkL base [envOfC (Str.ofString "law") lawDef.2 L fa cd] sa.heap := okl_of_fr F1 rfl law_kind
  have hll := N1 _ (.head _)
  have hlf := N1 _ (.tail _ (.head _))
  have hlfB : (hide [L] sa.heap).IsList lf vf.toArray := ⟨_, hide_some (by simp only [List.mem_singleton]; exact hlf.2.1) hlf.1, rfl, _, rfl⟩
  refine difference_list (base := hide [L] sa.heap) (ss := ss) PB2 kI hlfB (by simpa using hvf) (setFrom_list (items := #[.str lv tv]) (xs := [lv]) ⟨_, hll.1, rfl, _, rfl⟩ (.cons lv tv .nil) (show 1 + 1 < scanBound by decide)) (by show dp + 1 + 5 < 450; omega) (by show un + 3 + 30 ≤ 4500; omega) fun x s1 hE1 hS1 => ?_
  obtain ⟨W2, V2, own2, R2, I2, hR1, hV2, hown⟩ := hS1
  have ok1 : OkL (hide [L] sa.heap) [envOfC (Str.ofString "law") lawDef.2 L fa cd] s1.heap := (okl_hide okS fun b hb => by rw [fr1 b hb]; exact .head _).up hE1.keepAll
  walk1
  refine call_list_own (l := [envOfC (Str.ofString "law") lawDef.2 L fa cd]) I2 (by show dp + 1 ≤ 400; omega) (by show un + 3 + 4 ≤ 4000; omega) (fun f hf h => ?_) PB2.T.nolimit ok1.1 ok1.2 hR1 (Nat.le_trans (List.length_filter_le _ _) (by omega)) fun D2 s2 v2 c2 hE2 hD2 hD2l hDv2 hv2 => ?_
  · obtain ⟨o, ho⟩ := hLs
    have := hown f h
    rw [fr1 f hf, ho] at this; cases this
  have hX : Ext (frs [envOfC (Str.ofString "law") lawDef.2 L fa cd]) NoA NoG sa s2 := ((hE1.mono (fun _ h => nomatch h) (W' := W2) (fun _ h => h.elim) (V' := V2) fun _ h => h.elim).trans hE2).shrink (fun b h => .inl (hown b (I2.sub b h))) fun g h => .inr (hV2 g h)
  have F2 : Fr base L s2.heap m := Ext.fr hX F1 (fun h => h) (fun b hb => by rw [fr1 b hb]; exact hbL) fun b h => h.elim
  have N20 : News base L s2.heap R := Ext.news hX (fun p hp => N1 p (.tail _ (.tail _ hp))) (fun q hq h => (N1 q (.tail _ (.tail _ hq))).2.1 (fr1 _ h)) fun _ _ h => h
  have hk1 := hE1.keepAll
  have hD2n : sa.heap.get? D2 = none := hk1.none_of hD2
  have hDL2 : L < D2 := by
    obtain ⟨o, ho⟩ := hLs
    exact hD2l _ _ (hk1 _ _ ho)
  have N2 : News base L s2.heap ((D2, listObj v2 c2) :: R) := List.forall_mem_cons.mpr ⟨⟨hDv2, Nat.ne_of_gt hDL2, KeepAll.none_of F1.keep hD2n⟩, N20⟩
  have hl2 : ∀ p ∈ R, p.1 < D2 := fun p hp => hD2l _ _ (hk1 _ _ (N1 p (.tail _ (.tail _ hp))).1)
  have hG : GExt NoG s.gens s2.gens s.os s2.os := by rw [← ea2, ← ea3]; exact Ext.g hX
  clear F1 N1 N20
  walk1
  rename Fr _ _ _ _ => F3
  rename News _ _ _ _ => N3
  exact Box.mk (hQ _ D2 v2 c2 hG F3 N3 hv2 hl2)
end
end Mine1
end
section
open PySem PySem.W PyProof.Rows PyProof.V Mine
set_option maxRecDepth 100000
set_option maxHeartbeats 8000000
namespace Mine1
section
variable {w : World} {mg mb : Str → Option Value} {dp un : Nat} {gd : Option (List Code)} {s : Shared} {Q : Flow → Shared → Prop} {E : Value → Shared → Prop}
inductive SeenOk (RR : List (Addr × Obj)) : List Value → List (List Int) → Prop
  | nil : SeenOk RR [] []
  | snoc {vs nss r vr e nr} : SeenOk RR vs nss → (r, seqObj "list" vr.toArray e) ∈ RR → IntsAre vr nr → SeenOk RR (vs ++ [.ref r]) (nss ++ [nr])
theorem SeenOk.mono {RR RR' : List (Addr × Obj)} {vs nss} (x : SeenOk RR vs nss) (h : ∀ p ∈ RR, p ∈ RR') : SeenOk RR' vs nss := by
  induction x with
  | nil => exact .nil
  | snoc x m i ih => exact .snoc ih (h _ m) i
theorem SeenOk.len {RR : List (Addr × Obj)} {vs nss} (x : SeenOk RR vs nss) : vs.length = nss.length := by
  induction x with
  | nil => rfl
  | snoc x _ _ ih => rw [List.length_append, List.length_append, ih]; rfl
structure LoopJ (w : World) (base : Heap) (L it rw' : Addr) (wr : List Value) (many b : Nat) (a : Nat → Nat) (row pl0 : List Nat) (SS : List (Addr × Obj)) (s₀ : Shared) (used rest : List Nat) (m : Str → Option Value) (lf : Addr) (vf : List Value) (c : Nat) (tl : Addr) (vt : List Value) (ct : Nat) (sn : Addr) (vsn : List Value) (csn : Nat)
    (RR : List (Addr × Obj)) (nss : List (List Int)) (s' : Shared) : Prop where
  st : Stage many row pl0 used rest
  fr : Fr base L s'.heap m
  m1 : m "left" = some (.ref lf)
  m2 : m "told" = some (.ref tl)
  m3 : m "seen" = some (.ref sn)
  ss : ∀ p ∈ SS, p ∈ RR
  d1 : lf ≠ sn ∧ lf ≠ tl ∧ sn ≠ tl ∧ it ≠ sn ∧ it ≠ tl ∧ lf ≠ it
  d2 : ∀ p ∈ RR, p.1 ≠ sn ∧ p.1 ≠ tl ∧ p.1 ≠ it
  vf : StrsAre vf ((lefts pl0 used).map (pt many b a row))
  vt : IntsAre vt ((row.take (row.length - rest.length)).map Int.ofNat)
  vs : SeenOk RR vsn nss
  nl : nss.length = row.length - rest.length
  ns : ∀ j nr, nss[j]? = some nr → Canon nr (row.drop j)
  rs : rest = row.drop (row.length - rest.length)
  ge : GExt NoG s₀.gens s'.gens s₀.os s'.os
inductive LoopI (w : World) (base : Heap) (L it rw' : Addr) (wr : List Value) (many b : Nat) (a : Nat → Nat) (row pl0 : List Nat) (SS : List (Addr × Obj)) (s₀ : Shared) (n : Nat) (s' : Shared) : Prop
  | mk (used rest : List Nat) (m : Str → Option Value) (lf : Addr) (vf : List Value) (c : Nat) (tl : Addr) (vt : List Value) (ct : Nat) (sn : Addr) (vsn : List Value) (csn : Nat) (RR : List (Addr × Obj)) (nss : List (List Int)) (oi : Obj) (hn : n = rest.length)
    (hJ : LoopJ w base L it rw' wr many b a row pl0 SS s₀ used rest m lf vf c tl vt ct sn vsn csn RR nss s') (hR : LstV rw' it wr.toArray row rest s')
    (hN : News base L s'.heap ((lf, listObj vf c) :: (tl, listObj vt ct) :: (sn, listObj vsn csn) :: (it, oi) :: RR)) : LoopI w base L it rw' wr many b a row pl0 SS s₀ n s'
theorem flat_len {α β : Type} (f : α → List β) (k : Nat) : ∀ (l : List α), (∀ x ∈ l, (f x).length ≤ k) → (l.flatMap f).length ≤ l.length * k
  | [], _ => by simp
  | x :: l, h => by
    rw [List.flatMap_cons, List.length_append, List.length_cons, Nat.succ_mul]
    have h1 := h x (.head _)
    have h2 := flat_len f k l fun y hy => h y (.tail _ hy)
    rw [Nat.add_comm]
    exact Nat.add_le_add h2 h1
theorem anc_len : ∀ (T : List (Nat × Nat)) (p : Nat), (ancT T p).length ≤ T.length
  | [], _ => Nat.le_refl _
  | (l, u) :: T, p => by
    show (if p = l then u :: ancT T u else ancT T p).length ≤ T.length + 1
    have h1 := anc_len T u
    have h2 := anc_len T p
    split
    · exact Nat.succ_le_succ h1
    · exact Nat.le_succ_of_le h2
theorem law_turn {base : Heap} {L fa it rw' : Addr} {cd : Value} {wr : List Value} {nums : List Int} {many : Nat} {row pl0 : List Nat} {SS : List (Addr × Obj)} {s₀ : Shared} {Qf : Flow → Shared → Prop} {px : Pos} (PB : PW w mg mb base)
    (hdp : dp ≤ 310) (hu : un ≤ 3000) (hm9 : many ≤ 9) (hm2 : 2 ≤ many) (hrl : row.length + 1 = many) (hpl : pl0.length ≤ 9) (hne : rw' ≠ it) (hwr : IntsAre wr (row.map Int.ofNat)) (hrS : (rw', W.listOf wr.toArray 0) ∈ SS)
    (hEnd : ∀ s' used m lf vf c tl vt ct sn vsn csn RR nss, LoopJ w base L it rw' wr many (slB nums) (slA nums many) row pl0 SS s₀ used [] m lf vf c tl vt ct sn vsn csn RR nss s' → News base L s'.heap ((lf, listObj vf c) :: (tl, listObj vt ct) :: (sn, listObj vsn csn) :: RR) → Qf .next s') :
    ∀ n s', LoopI w base L it rw' wr many (slB nums) (slA nums many) row pl0 SS s₀ n s' → wpAny (model prog w) ((Ar dp un (some []) gd).deeper (envOfC (Str.ofString "law") lawDef.2 L fa cd)) (pyNext (.ref it))
      (ForTurn prog w ((Ar dp un (some []) gd).deeper (envOfC (Str.ofString "law") lawDef.2 L fa cd)) (envOfC (Str.ofString "law") lawDef.2 L fa cd) (.Name (Str.ofString "turn") px) (.ref it) loopBody (LoopI w base L it rw' wr many (slB nums) (slA nums many) row pl0 SS s₀) Qf n) (fun _ _ => False) s' := by
  rintro n s' ⟨used, rest, m, lf, vf, c, tl, vt, ct, sn, vsn, csn, RR, nss, oi, rfl, J, hR, N⟩
  obtain ⟨G, F, m1, m2, m3, hSS, ⟨e1, e2, e3, e4, e5, e6⟩, hd2, hvf, hvt, hvs, hnl, hns, hrs, hge⟩ := J
  have hP : Paired (fun (k : Nat) v => ∃ t, v = Value.int (k : Int) t) row wr.toArray.toList := by simpa using ints_paired_nat hwr
  have I := it_list (prog := prog) (w := w) (A := (Ar dp un (some []) gd).deeper (envOfC (Str.ofString "law") lawDef.2 L fa cd)) rfl it rw' hne hP (OkL base [envOfC (Str.ofString "law") lawDef.2 L fa cd]) (frs [envOfC (Str.ofString "law") lawDef.2 L fa cd])
  have okS : OkL base [envOfC (Str.ofString "law") lawDef.2 L fa cd] s'.heap := okl_of_fr F rfl law_kind
  have hitL : it ≠ L := (N (it, oi) (by k_mem)).2.1
  have hitb : ∀ b, b ∈ [it] → base.get? b = none := fun b hb => by rw [List.mem_singleton.mp hb]; exact (N (it, oi) (by k_mem)).2.2
  have fr1 : ∀ b, b ∈ frs [envOfC (Str.ofString "law") lawDef.2 L fa cd] → b = L := fun b hb => List.mem_singleton.mp (show b ∈ [L] from hb)
  have hbL : base.get? L = none := get?_size_none _ F.above
  have N0 : News base L s'.heap ((lf, listObj vf c) :: (tl, listObj vt ct) :: (sn, listObj vsn csn) :: RR) := newsPick [_, _, _, _] _ [0, 1, 2] N
  have hoff : ∀ p ∈ (lf, listObj vf c) :: (tl, listObj vt ct) :: (sn, listObj vsn csn) :: RR, ¬ p.1 ∈ [it] := allC (fun h => e6 (List.mem_singleton.mp h)) (allC (fun h => e5 (List.mem_singleton.mp h).symm) (allC (fun h => e4 (List.mem_singleton.mp h).symm) fun p hp h => (hd2 p hp).2.2 (List.mem_singleton.mp h)))
  cases rest with
  | nil =>
    refine I.nil s' _ _ okS hR fun s1 hE => ?_
    have F1 : Fr base L s1.heap m := Ext.fr hE F (fun h => hitL (List.mem_singleton.mp h).symm) (fun b hb => by rw [fr1 b hb]; exact hbL) hitb
    have N1 := Ext.news hE N0 (fun q hq h => (N0 q hq).2.1 (fr1 _ h)) hoff
    exact hEnd s1 used m lf vf c tl vt ct sn vsn csn RR nss ⟨G, F1, m1, m2, m3, hSS, ⟨e1, e2, e3, e4, e5, e6⟩, hd2, hvf, hvt, hvs, hnl, hns, hrs, hge.trans (Ext.g hE)⟩ N1
  | cons u rest =>
    refine I.cons u rest s' _ _ okS hR fun v s1 hv hE hR1 => ?_
    obtain ⟨tv, rfl⟩ := hv
    have F1 : Fr base L s1.heap m := Ext.fr hE F (fun h => hitL (List.mem_singleton.mp h).symm) (fun b hb => absurd hb (by simp)) hitb
    have N10 := Ext.news hE N0 (fun q hq h => absurd h (by simp)) hoff
    obtain ⟨oi1, hoi1⟩ : ∃ o, s1.heap.get? it = some o := by
      obtain ⟨_, _, ⟨⟨o, ho, _⟩, _⟩, _⟩ := hR1
      exact ⟨o, ho⟩
    have N1 : News base L s1.heap ((lf, listObj vf c) :: (tl, listObj vt ct) :: (sn, listObj vsn csn) :: (it, oi1) :: RR) := newsPick [_, _, _, _] _ [1, 2, 3, 0] (allC ⟨hoi1, (N (it, oi) (by k_mem)).2⟩ N10)
    have hge1 := hge.trans (Ext.g hE)
    have hrw1 : s1.heap.get? rw' = some (W.listOf wr.toArray 0) := (N1 (rw', W.listOf wr.toArray 0) (.tail _ (.tail _ (.tail _ (.tail _ (hSS _ hrS)))))).1
    clear N0 N10 hoff N F okS hE
    show wpAny _ _ (letOwnedTupleGo _ _ _) _ _ _
    refine wpAny_of_eq (a := ()) rfl ?_
    obtain ⟨KX, T⟩ := id PB
    walk1
    walk1
    rename Fr _ _ _ _ => F2
    rename News _ _ _ _ => N2
    rename_i h2
    refine cut_state (h' := h2) (fun s2 ea1 ea2 ea3 => ?_) rfl
    subst ea1
    replace ea2 : s2.gens = s1.gens := ea2
    replace ea3 : s2.os = s1.os := ea3
    have hob := G.ok
    have hTl : (treeOf many [] row).length ≤ 8 := by rw [treeOf_len]; exact Nat.le_of_succ_le_succ (Nat.le_trans (Nat.le_of_eq hrl) hm9)
    have hr9 : row.length ≤ 9 := Nat.le_trans (Nat.le_succ _) (Nat.le_trans (Nat.le_of_eq hrl) hm9)
    have hroot : (sl (slB nums) ++ dt many).length ≤ 20 := by
      simp only [slB, sl, dt, List.length_append, List.length_replicate]
      exact Nat.le_trans (Nat.add_le_add (fm3 _) hm9) (by decide)
    have hpl2 : ∀ p, (pathOf nums many row p).length ≤ 300 := fun p => by
      have h1 := pathT_len (root := sl (slB nums) ++ dt many) (a := slA nums many) (many := many) (fun _ => slA_le) (p := p) hob
      have h2 : (treeOf many [] row).length * (2 + many) ≤ 8 * 11 := Nat.mul_le_mul hTl (Nat.add_le_add_left hm9 2)
      exact Nat.le_trans h1 (Nat.le_trans (Nat.add_le_add hroot h2) (by decide))
    have hsq : ∀ p, (seqT (sl (slB nums) ++ dt many) (slA nums many) (treeOf many [] row) p).length ≤ 9 := fun p => by
      rw [seqT_anc hob p, List.length_map, List.length_cons]
      exact Nat.succ_le_succ (Nat.le_trans (anc_len (treeOf many [] row) p) hTl)
    have hlf9 : (lefts pl0 used).length ≤ 9 := Nat.le_trans (List.length_filter_le _ _) hpl
    have hac : ∀ p, p < many → AncComes (bare (S (pathOf nums many row p))) (seqT (sl (slB nums) ++ dt many) (slA nums many) (treeOf many [] row) p) := fun p hp => by
      have h1 := path_bare (b := slB nums) (a := slA nums many) (n := 0) (G.res hp)
      have h2 := path_comes (b := slB nums) (a := slA nums many) (Nat.lt_of_lt_of_le (by decide) hm2) (G.res hp)
      have h3 : pathT (sl (slB nums) ++ dt many) (slA nums many) (treeOf many [] row) p ++ sl 0 = pathOf nums many row p := by simp [sl, pathOf]
      rw [h3] at h1
      rw [h1]; exact h2
    obtain ⟨l1, l2, l3, l4⟩ := G.least
    have hkeys : (keyed (ups many (slB nums) (slA nums many) row pl0 used)).length ≤ 9 := by
      have hk1 : ((keyed (ups many (slB nums) (slA nums many) row pl0 used)).map (·.1)).length ≤ 9 := by
        have hm : ∀ z ∈ (keyed (ups many (slB nums) (slA nums many) row pl0 used)).map (·.1), ∃ q ∈ u :: rest, z = pt many (slB nums) (slA nums many) row q := fun z hz => (G.ups_mem z).mp ((keyed_mem _ _).mp hz)
        have hnd := keyed_nodup (ups many (slB nums) (slA nums many) row pl0 used)
        have hn2 : (((keyed (ups many (slB nums) (slA nums many) row pl0 used)).map (·.1)).map fun z => (pnum z).toNat).Nodup := by
          refine List.pairwise_map.mpr (List.Pairwise.imp_of_mem ?_ hnd)
          intro z z' hz hz' hne e
          obtain ⟨q, hq, rfl⟩ := hm _ hz
          obtain ⟨q', hq', rfl⟩ := hm _ hz'
          rw [G.num (G.inv.rlt q hq), G.num (G.inv.rlt q' hq')] at e
          exact hne (by rw [show q = q' from e])
        have := nodup_len many _ hn2 fun x hx => by
          obtain ⟨z, hz, rfl⟩ := List.mem_map.mp hx
          obtain ⟨q, hq, rfl⟩ := hm _ hz
          rw [G.num (G.inv.rlt q hq)]
          have := G.inv.rlt q hq
          simpa using this
        rw [List.length_map] at this
        exact Nat.le_trans this hm9
      rw [List.length_map] at hk1; exact hk1
    have hkl : ∀ z ∈ (keyed (ups many (slB nums) (slA nums many) row pl0 used)).map (·.1), z.length ≤ 1000 := fun z hz => by
      obtain ⟨q, hq, rfl⟩ := (G.ups_mem z).mp ((keyed_mem _ _).mp hz)
      have := hpl2 q
      rw [S_len]
      exact Nat.le_trans this (by decide)
    have hvsl : vsn.length ≤ 9 := by rw [hvs.len, hnl]; exact Nat.le_trans (Nat.sub_le _ _) hr9
    have hvtl : vt.length ≤ 9 := by
      have := hvt.length
      rw [List.length_map, List.length_take] at this
      exact Nat.le_trans (Nat.le_of_eq this) (Nat.le_trans (Nat.min_le_right _ _) hr9)
    refine law_a (places := lefts pl0 used) (anc := fun p => seqT (sl (slB nums) ++ dt many) (slA nums many) (treeOf many [] row) p) PB hdp hu hvf hlf9 ?_ (fun p hp => ⟨hac p (G.left.mp hp).1, Nat.le_trans (hsq p) (by decide), hpl2 p⟩) F2 N2 ((if_neg (by decide)).trans m1) fun s3 up oU hG3 F3 N3 hdU hlo hlt3 => ?_
    · have h1 := flat_len (fun p => (seqT (sl (slB nums) ++ dt many) (slA nums many) (treeOf many [] row) p).tail) 9 (lefts pl0 used) fun p _ => by
        rw [List.length_tail]
        exact Nat.le_trans (Nat.sub_le _ _) (hsq p)
      have h2 : (lefts pl0 used).length * 9 ≤ 9 * 9 := Nat.mul_le_mul hlf9 (Nat.le_refl _)
      exact Nat.le_trans h1 (Nat.le_trans h2 (by decide))
    change oU.IsDictOf (strKind prog w) (keyed (ups many (slB nums) (slA nums many) row pl0 used)) at hdU
    clear N2 F2
    have N3' : News base L s3.heap ((sn, listObj vsn csn) :: (up, oU) :: (lf, listObj vf c) :: (tl, listObj vt ct) :: (it, oi1) :: RR) := newsPick [_, _, _, _, _] _ [3, 0, 1, 2, 4] N3
    refine law_b PB hdp hu hdU hlo (by omega) hkl (by omega) F3 N3' ((if_neg (by decide)).trans ((if_neg (by decide)).trans m3)) (if_pos rfl) (fun p hp => ?_) fun s4 r vr nr er hG4 F4 N4 hI4 hp4 hs4 hlt4 => ?_
    · exact allC (P := fun p : Addr × Obj => p.1 ≠ sn) (Nat.ne_of_gt (hlt3 (sn, listObj vsn csn) (by k_mem))) (allC e1 (allC e3.symm (allC e4 fun p hp => (hd2 p hp).1))) p hp
    have hcan := G.canon hp4 hs4
    clear N3 N3' F3
    obtain ⟨y, ys, hfl, hbest⟩ := G.leaf (b := slB nums) (a := slA nums many)
    have N4' : News base L s4.heap ((lf, listObj vf c) :: (up, oU) :: (tl, listObj vt ct) :: (sn, listObj (vsn ++ [.ref r]) (csn + 1)) :: (r, seqObj "list" vr.toArray er) :: (it, oi1) :: RR) := newsPick [_, _, _, _, _, _] _ [3, 2, 4, 0, 1, 5] N4
    refine law_c PB hdp hu hdU hlo (by omega) hvf (fun z hz => ?_) hfl F4 N4' ((if_neg (by decide)).trans ((if_neg (by decide)).trans m1)) (if_pos rfl) fun s5 tleaf hG5 F5 N5 => ?_
    · obtain ⟨p, hp, rfl⟩ := List.mem_map.mp hz
      have := hpl2 p
      rw [S_len]
      exact Nat.le_trans this (by decide)
    rw [hbest] at F5
    clear N4 N4' F4 hdU hfl hbest
    have N5' : News base L s5.heap ((tl, listObj vt ct) :: (lf, listObj vf c) :: (sn, listObj (vsn ++ [.ref r]) (csn + 1)) :: (r, seqObj "list" vr.toArray er) :: (it, oi1) :: RR) := newsPick [_, _, _, _, _, _] _ [2, 0, 3, 4, 5] N5
    have hlf1 : (pt many (slB nums) (slA nums many) row (leastOf many used (u :: rest))).length ≤ 1000 := by
      rw [S_len]
      exact Nat.le_trans (hpl2 _) (by decide)
    refine law_d (xs := seqT (sl (slB nums) ++ dt many) (slA nums many) (treeOf many [] row) (leastOf many used (u :: rest))) PB hdp hu hlf1 (hac _ l1) (Nat.le_trans (hsq (leastOf many used (u :: rest))) (by decide)) (fun z hz => ?_) hvt (by omega) F5 N5' (if_pos rfl) ((if_neg (by decide)).trans ((if_neg (by decide)).trans ((if_neg (by decide)).trans m2))) (fun p hp => ?_) fun s6 vt' ct' hG6 F6 N6 hvt' => ?_
    · rw [seqT_anc hob] at hz
      obtain ⟨p, hp, rfl⟩ := List.mem_map.mp hz
      have := hpl2 p
      rw [S_len]
      exact Nat.le_trans this (by decide)
    · exact allC (P := fun p : Addr × Obj => p.1 ≠ tl) e2 (allC e3 (allC (Nat.ne_of_gt (hlt4 (tl, listObj vt ct) (by k_mem))) (allC e5 fun p hp => (hd2 p hp).2.1))) p hp
    rw [G.tells] at hvt'
    clear N5 N5' F5
    have N6' : News base L s6.heap ((lf, listObj vf c) :: (tl, listObj vt' ct') :: (sn, listObj (vsn ++ [.ref r]) (csn + 1)) :: (r, seqObj "list" vr.toArray er) :: (it, oi1) :: RR) := newsPick [_, _, _, _, _] _ [1, 0, 2, 3, 4] N6
    refine law_e (ss := (lefts pl0 used).map (pt many (slB nums) (slA nums many) row)) PB hdp hu hvf (by rw [List.length_map]; omega) F6 N6' ((if_neg (by decide)).trans ((if_neg (by decide)).trans ((if_neg (by decide)).trans m1))) (if_pos rfl) fun s7 lf' vf' c' hG7 F7 N7 hvf' hlt7 => ?_
    rw [G.rests] at hvf'
    clear N6 N6' F6
    obtain ⟨m7, F8, n1, n2, n3⟩ : ∃ m7, Fr base L s7.heap m7 ∧ m7 "left" = some (.ref lf') ∧ m7 "told" = some (.ref tl) ∧ m7 "seen" = some (.ref sn) :=
      ⟨_, F7, if_pos rfl, (if_neg (by decide)).trans ((if_neg (by decide)).trans ((if_neg (by decide)).trans ((if_neg (by decide)).trans m2))), (if_neg (by decide)).trans ((if_neg (by decide)).trans ((if_neg (by decide)).trans ((if_neg (by decide)).trans m3)))⟩
    refine wpAny_execs_nil ⟨rest.length, Nat.lt_succ_self _, ?_⟩
    refine ⟨leastOf many used (u :: rest) :: used, rest, m7, lf', vf', c', tl, vt', ct', sn, vsn ++ [.ref r], csn + 1, (r, seqObj "list" vr.toArray er) :: RR, nss ++ [nr], oi1, rfl, ?_, ?_, ?_⟩
    · have hik : row.length - rest.length = (row.length - (u :: rest).length) + 1 := by
        have : (u :: rest).length ≤ row.length := by rw [hrs, List.length_drop]; exact Nat.sub_le _ _
        exact stp5 this
      have hul : row[row.length - (u :: rest).length]? = some u := by
        have := congrArg List.head? hrs
        rw [List.head?_drop] at this
        exact this.symm
      have hrs2 : rest = row.drop (row.length - rest.length) := by
        rw [hik, ← List.tail_drop, ← hrs]; rfl
      refine ⟨G.next, F8, n1, n2, n3, fun p hp => .tail _ (hSS p hp), ?_, ?_, hvf', ?_, ?_, ?_, ?_, hrs2, ?_⟩
      · refine ⟨Nat.ne_of_gt (hlt7 (sn, listObj (vsn ++ [.ref r]) (csn + 1)) (by k_mem)), Nat.ne_of_gt (hlt7 (tl, listObj vt' ct') (by k_mem)), e3, e4, e5, Nat.ne_of_gt (hlt7 (it, oi1) (by k_mem))⟩
      · exact allC ⟨Nat.ne_of_gt (hlt4 (sn, listObj vsn csn) (by k_mem)), Nat.ne_of_gt (hlt4 (tl, listObj vt ct) (by k_mem)), Nat.ne_of_gt (hlt4 (it, oi1) (by k_mem))⟩ hd2
      · rw [hik, List.take_add_one, hul, List.map_append]
        exact hvt'
      · exact (hvs.mono fun p hp => .tail _ hp).snoc (.head _) hI4
      · rw [List.length_append, hnl, hik]; rfl
      · intro j nr' hj
        rcases Nat.lt_or_ge j nss.length with h | h
        · rw [List.getElem?_append_left h] at hj
          exact hns j nr' hj
        · rw [List.getElem?_append_right h] at hj
          have hj0 : j - nss.length = 0 := Nat.lt_one_iff.mp (List.getElem?_eq_some_iff.mp hj).1
          rw [hj0] at hj
          cases hj
          have hjj : j = row.length - (u :: rest).length := (Nat.le_antisymm (Nat.sub_eq_zero_iff_le.mp hj0) h).trans hnl
          rw [hjj, ← hrs]; exact hcan
      · have := hge1.trans (by rw [← ea2, ← ea3]; exact hG3)
        exact ((this.trans hG4).trans hG5).trans (hG6.trans hG7)
    · refine I.keeps rest s1 s7 hR1 (fun b hb o e => ?_) fun g _ z e => ?_
      · exact allC (P := fun b => ∀ o, s1.heap.get? b = some o → s7.heap.get? b = some o) (fun o e => some_at hoi1 e (N7 (it, oi1) (by k_mem)).1) (allC (fun o e => some_at hrw1 e (N7 (rw', W.listOf wr.toArray 0) (.tail _ (.tail _ (.tail _ (.tail _ (.tail _ (hSS _ hrS))))))).1) allN) b hb o e
      · rename_i hgf
        exact hgf.elim
    · exact newsPick [_, _, _, _, _] _ [0, 1, 2, 4, 3] N7
end
end Mine1
end
section
open PySem PySem.W PyProof.Rows PyProof.V Mine
set_option maxRecDepth 100000
set_option maxHeartbeats 8000000
namespace Mine1
section
variable {w : World} {mg mb : Str → Option Value} {dp un : Nat} {gd : Option (List Code)} {s : Shared} {Q : Flow → Shared → Prop} {E : Value → Shared → Prop}
theorem law_loop {base : Heap} {L fa lf dr rw' D P : Addr} {cd : Value} {m : Str → Option Value} {ws wr vf : List Value} {c : Nat} {nums : List Int} {many : Nat} {row pl0 : List Nat} {oD o1 o2 o3 o4 o5 o6 oP : Obj} (PB : PW w mg mb base)
    (hdp : dp ≤ 310) (hu : un ≤ 3000) (hm9 : many ≤ 9) (hm2 : 2 ≤ many) (hrl : row.length + 1 = many) (hpl : pl0.length ≤ 9) (hwr : IntsAre wr (row.map Int.ofNat)) (G : Stage many row pl0 [] row)
    (hvf : StrsAre vf ((lefts pl0 []).map (pt many (slB nums) (slA nums many) row))) (d5 : o5.data = .cell (some (.ref rw')))
    (F : Fr base L s.heap m) (N : News base L s.heap ((lf, listObj vf c) :: Stat L P D oD rw' wr dr ws o1 o2 o3 o4 o5 o6 oP)) (m1 : m "left" = some (.ref lf)) (hlt : ∀ p ∈ Stat L P D oD rw' wr dr ws o1 o2 o3 o4 o5 o6 oP, p.1 < lf)
    (hQ : ∀ s' it used m lf vf c tl vt ct sn vsn csn RR nss, LoopJ w base L it rw' wr many (slB nums) (slA nums many) row pl0 (Stat L P D oD rw' wr dr ws o1 o2 o3 o4 o5 o6 oP) s used [] m lf vf c tl vt ct sn vsn csn RR nss s' → News base L s'.heap ((lf, listObj vf c) :: (tl, listObj vt ct) :: (sn, listObj vsn csn) :: RR) →
      wpAny (model prog w) ((Ar dp un (some []) gd).deeper (envOfC (Str.ofString "law") lawDef.2 L fa cd)) (execs (lawDef.1.drop 11) (envOfC (Str.ofString "law") lawDef.2 L fa cd)) Q E s') :
    wpAny (model prog w) ((Ar dp un (some []) gd).deeper (envOfC (Str.ofString "law") lawDef.2 L fa cd)) (execs (lawDef.1.drop 8) (envOfC (Str.ofString "law") lawDef.2 L fa cd)) Q E s := by
  conv in (List.drop 8 _) => whnf
  conv => enter [2, 2, 2]; whnf
  conv => enter [3, 2, 2]; whnf
  obtain ⟨KX, T⟩ := id PB
  have hltN := hlt
  simp only [Stat, Cells] at N hltN
  k_lt hltN
  refine execs_box ?_
  k_steps
  refine Box.mk (execs_box ?_)
  k_steps
  refine Box.mk (execs_box ?_)
  refine for_stmt ?_
  k_steps
  rename_i tl h1 l1 h2 sn h3 l2 h4 F4 N4
  refine Box.mk ?_
  refine cut_state (h' := h4) (fun sa ea1 ea2 ea3 => ?_) rfl
  subst ea1
  replace ea2 : sa.gens = s.gens := ea2
  replace ea3 : sa.os = s.os := ea3
  refine list_src (xs := row) (items := wr.toArray) ⟨_, N4.get (by k_mem), rfl, _, rfl⟩ fun sb it oi hit kb gb ob hin hio hic hne hR => ?_
  have Fb := Fr.keepAll F4 kb
  have Nb := News.keepAll N4 kb
  have hoff := news_off N4 hin
  have hitL := fr_off F4 hin
  have hitb : base.get? it = none := KeepAll.none_of F4.keep hin
  have hgt : ∀ p ∈ Stat L P D oD rw' wr dr ws o1 o2 o3 o4 o5 o6 oP, p.1 ≠ sn ∧ p.1 ≠ tl ∧ p.1 ≠ it := fun p hp => by
    have h1 := hlt p hp
    have h2 : lf < tl := l1.1
    have h3 : lf < sn := l2.2.1
    exact ⟨Nat.ne_of_lt (Nat.lt_trans h1 h3), Nat.ne_of_lt (Nat.lt_trans h1 h2), fun h => hoff p (.tail _ (.tail _ (.tail _ hp))) (List.mem_singleton.mpr h)⟩
  refine ⟨LoopI w base L it rw' wr many (slB nums) (slA nums many) row pl0 (Stat L P D oD rw' wr dr ws o1 o2 o3 o4 o5 o6 oP) s, row.length, ?_, law_turn PB hdp hu hm9 hm2 hrl hpl hne hwr (.tail _ (.head _)) fun s' used m' lf' vf' c' tl' vt ct sn' vsn csn RR nss J N' => Box.mk (hQ s' it used m' lf' vf' c' tl' vt ct sn' vsn csn RR nss J N')⟩
  obtain ⟨m7, F8, n1, n2, n3⟩ : ∃ m7, Fr base L sb.heap m7 ∧ m7 "left" = some (.ref lf) ∧ m7 "told" = some (.ref tl) ∧ m7 "seen" = some (.ref sn) :=
    ⟨_, Fb, (if_neg (by decide)).trans ((if_neg (by decide)).trans m1), (if_neg (by decide)).trans (if_pos rfl), if_pos rfl⟩
  refine ⟨[], row, m7, lf, vf, c, tl, [], 0, sn, [], 0, Stat L P D oD rw' wr dr ws o1 o2 o3 o4 o5 o6 oP, [], oi, rfl, ?_, hR, ?_⟩
  · refine ⟨G, F8, n1, n2, n3, fun p hp => hp, ⟨Nat.ne_of_lt l2.2.1, Nat.ne_of_lt l1.1, (Nat.ne_of_lt l2.1).symm, fun h => hoff (sn, W.listOf #[] 0) (by k_mem) (List.mem_singleton.mpr h.symm), fun h => hoff (tl, W.listOf #[] 0) (by k_mem) (List.mem_singleton.mpr h.symm), fun h => hoff (lf, listObj vf c) (by k_mem) (List.mem_singleton.mpr h)⟩, hgt, hvf, ?_, .nil, ?_, ?_, ?_, ?_⟩
    · rw [Nat.sub_self]; exact .nil
    · rw [Nat.sub_self]; rfl
    · intro j nr hj; simp at hj
    · rw [Nat.sub_self]; rfl
    · rw [← ea2, ← ea3, ← gb, ← ob]; exact GExt.refl _ _ _
  · exact newsPick [_, _, _, _] _ [3, 2, 1, 0] (allC ⟨hio, Ne.symm hitL, hitb⟩ Nb)
end
end Mine1
end
local macro_rules | `(tactic| walk_at "call type:set") => `(tactic| ((with_reducible show wpAny _ _ (PySem.call (Value.type "set") _) _ _ _); refine unbox ?_))
local macro_rules | `(tactic| walk_at "subscriptTail Name Slice ref ref") => `(tactic| ((with_reducible show wpAny _ _ (subscriptTail _ _ (Value.ref _) (Value.ref _)) _ _ _); refine unbox ?_))
section
open PySem PySem.W PyProof.Rows PyProof.V Mine
set_option maxRecDepth 100000
set_option maxHeartbeats 8000000
namespace Mine1
section
variable {w : World} {mg mb : Str → Option Value} {dp un : Nat} {gd : Option (List Code)} {s : Shared} {Q : Flow → Shared → Prop} {E : Value → Shared → Prop}
theorem far_off {L D C it r n : Nat} (hr : n + 1 < r) (h1 : D < C) (h2 : C ≤ n + 1) (h3 : it < n) (h4 : L < n) : r ≠ L ∧ r ≠ D ∧ r ≠ C ∧ r ≠ it := by omega
theorem ints_drop {vs : List Value} {ns : List Int} (x : IntsAre vs ns) (k : Nat) : IntsAre (vs.drop k) (ns.drop k) := by
  induction x generalizing k with
  | nil => cases k <;> exact .nil
  | cons n t h ih =>
    cases k with
    | zero => exact .cons n t h
    | succ k => exact ih k
def StillF (sz : Nat) (row : List Nat) (y : Nat) (v : Value) (h : Heap) : Prop := ∃ r out c ns', v = .ref r ∧ sz < r ∧ h.get? r = some (seqObj "list" out c) ∧ IntsAre out.toList ns' ∧ Canon ns' (row.drop y)
theorem law_still {base : Heap} {L fa rw' c5 : Addr} {cd : Value} {m : Str → Option Value} {wr : List Value} {row : List Nat} {o5 : Obj} {R : List (Addr × Obj)} (PB : PW w mg mb base)
    (hdp : dp ≤ 310) (hu : un ≤ 3000) (hr9 : row.length ≤ 9) (hwr : IntsAre wr (row.map Int.ofNat)) (hc5 : c5 = L + 1 + 1 + 1 + 1 + 1) (d5 : o5.data = .cell (some (.ref rw')))
    (F : Fr base L s.heap m) (N : News base L s.heap ((c5, o5) :: (rw', W.listOf wr.toArray 0) :: R))
    (hrs : ∀ n ∈ row, n < 32)
    (hQ : ∀ s' D vs c, GExt NoG s.gens s'.gens s.os s'.os → Fr base L s'.heap (fun z => if z = Str.ofString "still" then some (.ref D) else m z) → News base L s'.heap ((D, listObj vs c) :: (c5, o5) :: (rw', W.listOf wr.toArray 0) :: R) →
      Paired (fun y v => StillF 0 row y v s'.heap) (List.range row.length) vs →
      wpAny (model prog w) ((Ar dp un (some []) gd).deeper (envOfC (Str.ofString "law") lawDef.2 L fa cd)) (execs (lawDef.1.drop 12) (envOfC (Str.ofString "law") lawDef.2 L fa cd)) Q E s') :
    wpAny (model prog w) ((Ar dp un (some []) gd).deeper (envOfC (Str.ofString "law") lawDef.2 L fa cd)) (execs (lawDef.1.drop 11) (envOfC (Str.ofString "law") lawDef.2 L fa cd)) Q E s := by
  conv in (List.drop 11 _) => whnf
  conv => enter [2, 2, 2]; whnf
  conv => enter [3, 2, 2]; whnf
  obtain ⟨KX, T⟩ := id PB
  subst hc5
  refine execs_box ?_
  refine assign_head (by with_unfolding_all rfl) (by with_unfolding_all exact rfl) rfl (by decide) ?_
  k_steps
  rename_i h2 tk2 t1 u1 v1 hr F2 N2 k2
  have hwl : wr.length = row.length := by have := hwr.length; rw [List.length_map] at this; exact this
  refine Box.mk (range_src (n := row.length) (by simpa [hwl] using hr) (by omega) fun sb it oi hit kb gb ob hin hio hic hR => ?_)
  dsimp only at hit kb hin
  replace gb : sb.gens = s.gens := gb
  replace ob : sb.os = s.os := ob
  have Fb := Fr.keepAll F2 kb
  have Nb := News.keepAll N2 kb
  have hWn := news_off N2 hin
  have hLit := fr_off F2 hin
  have hitb : ∀ b, b ∈ [it] → base.get? b = none := fun b hb => by rw [List.mem_singleton.mp hb]; exact KeepAll.none_of F2.keep hin
  refine comp_set (l := [envOfC (Str.ofString "law") lawDef.2 L fa cd]) (base := base) (L := L) (mL := m) (F := StillF (sb.heap.objs.size + 1) row) (by decide) rfl rfl rfl rfl rfl Fb.ns (fun h => hLit (List.mem_singleton.mp h)) (it_range rfl it row.length _ _) hR (okl_of_fr Fb rfl law_kind) (fun b hb => ⟨oi, by rw [List.mem_singleton.mp hb]; exact hio⟩)
    (fun b hb => by rw [List.mem_singleton.mp hb]; simp only [frs, List.filterMap]; exact fun h => hLit (List.mem_singleton.mp h).symm) hitb (fun D C ND y v s s' h X => ?_) (fun y v h h' hv hs => ?_) ?_ (by simp; omega) ?_
  · obtain ⟨r, out, c, ns', rfl, hr, ho, rest⟩ := h
    obtain ⟨n1, n2, n3, n4⟩ := far_off hr ND.lt ND.hi (Heap.lt_size hio) Fb.ns.lt
    refine ⟨r, out, c, ns', rfl, hr, X.heap r _ (fun h => n1 (List.mem_singleton.mp h)) (fun h => ?_) ho, rest⟩
    rcases h with h | h | h
    · exact n2 h
    · exact n3 h
    · exact n4 (List.mem_singleton.mp h)
  · obtain ⟨r, out, c, ns', rfl, hr, ho, rest⟩ := hv
    exact ⟨r, out, c, ns', rfl, hr, (hs.2 r (far_off hr (Nat.lt_succ_self _) (Nat.le_refl _) (Heap.lt_size hio) Fb.ns.lt).1).trans ho, rest⟩
  · rintro D' C ND y v s₃ m₃ hy ok3 X3 hn3 hx ⟨tv, rfl⟩
    obtain ⟨F3, N3⟩ := elt_ready Fb Nb rfl ND X3 hWn ok3.1 hn3
    simp only [List.cons_append, List.nil_append] at N3
    replace F3 := fr_named F3 "start" _ hx
    have hyc : y < row.length := List.mem_range.mp hy
    clear F2 N2 Fb Nb hQ
    clear hr k2 hR hio hic hin hWn hLit hitb
    k_steps
    refine Box.mk ?_
    refine slice_led F3 N3 (fun b o e => Heap.get?_push_of_some _ e) ⟨_, N3.get (.tail _ (.head _)), rfl, _, rfl⟩ (Heap.IsSliceOf.new ..) (.int _ _) .none .none (by simp) (by simp; omega) (fun D1 h1 F1 N1 l1 => ?_) (by with_unfolding_all rfl)
    rw [slicePick_from'] at N1
    simp only at N1
    have hpi : IntsAre (wr.drop y).toArray.toList ((row.drop y).map Int.ofNat) := by
      rw [List.map_drop]; simpa using ints_drop hwr y
    k_steps
    have hD1 := N1.get (.head _)
    have hc3 : C < s₃.heap.objs.size := hn3.lt
    refine Box.mk (call_set_ints (ns := row.drop y) (by rfl) ⟨_, hD1, rfl, _, rfl⟩ hpi (by simp; omega) (fun n hn => hrs n (List.mem_of_mem_drop hn)) fun h2 tk2 hI2 k2 => ?_)
    walk1
    refine sorted_set (A := (Ar dp un (some []) gd).deeper (envOfC (Str.ofString "law") lawDef.2 L fa cd)) (s := { heap := h2, gens := s₃.gens, drawn := s₃.drawn, toks := tk2, os := s₃.os }) rfl hI2 fun out ns' l h3 tk3 c3 hI3 hp3 hs3 k3 hl3 ho3 => ?_
    have Fz := Fr.keepAll (Fr.keepAll F1 k2) k3
    have Nz := News.keepAll (News.keepAll N1 k2) k3
    obtain ⟨oC, _, _, hoC, _⟩ := (Fr.keepAll F1 k2).ns
    have hCl : C < l := hl3 C oC hoC
    refine elt_end (base := base) F3 Fz Nz (fun q hq => by simp only [List.mem_cons, List.mem_append]; exact .inr (.inr (.inr (.inr hq)))) rfl rfl ⟨l, out, c3, ns', rfl, ?_, ho3, hI3, canon_set hp3 hs3⟩
    exact (fun (a b c d : Nat) (h1 : a ≤ b) (h2 : b < c) (h3 : c < d) => by omega : ∀ a b c d : Nat, a ≤ b → b < c → c < d → a + 1 < d) _ _ _ _ ND.dsz ND.lt hCl
  · intro D1 sc v1 c1 hDn hDs hX hnL hDv hP
    obtain ⟨Fc, Nc, lD⟩ := comp_after_set Fb Nb hX rfl hnL hitb hWn hDs hDv
    have hG : GExt NoG s.gens sc.gens s.os sc.os := by rw [← gb, ← ob]; exact Ext.g hX
    refine Box.mk (hQ sc D1 v1 c1 hG Fc Nc (Paired.up (fun y v h => let ⟨r, out, c, ns', e, hr, rest⟩ := h; ⟨r, out, c, ns', e, Nat.lt_of_le_of_lt (Nat.zero_le _) hr, rest⟩) hP))
end
end Mine1
end
end
section
open PySem PySem.W PyProof.Rows Mine
local macro_rules | `(tactic| walk_at "compareOp Eq ref ref") => `(tactic| ((with_reducible show wpAny _ _ (compareOp _ (Value.ref _) (Value.ref _)) _ _ _); refine unbox ?_))
section
open PySem PySem.W PyProof.Rows PyProof.V Mine PySem.SeqAt
set_option maxRecDepth 100000
set_option maxHeartbeats 8000000
namespace Mine1
section
variable {w : World} {mg mb : Str → Option Value} {dp un : Nat} {gd : Option (List Code)} {s : Shared} {Q : Flow → Shared → Prop} {E : Value → Shared → Prop}
theorem paired_len {α : Type} {P : α → Value → Prop} {xs : List α} {vs : List Value} (x : Paired P xs vs) : xs.length = vs.length := by
  induction x with
  | nil => rfl
  | cons _ t ih => exact congrArg Nat.succ ih
theorem SeenOk.at_ {RR : List (Addr × Obj)} : ∀ {vs : List Value} {nss : List (List Int)}, SeenOk RR vs nss → ∀ (j : Nat) (v : Value), vs[j]? = some v → ∃ r vr e nr, v = Value.ref r ∧ nss[j]? = some nr ∧ (r, seqObj "list" vr.toArray e) ∈ RR ∧ IntsAre vr nr
  | _, _, .nil, j, v, h => by simp at h
  | _, _, .snoc (vs := vs) (nss := nss) x m i, j, v, h => by
    have hl := x.len
    rw [List.getElem?_append] at h
    by_cases hj : j < vs.length
    · rw [if_pos hj] at h
      obtain ⟨r, vr, e, nr, h1, h2, h3, h4⟩ := SeenOk.at_ x j v h
      exact ⟨r, vr, e, nr, h1, by rw [List.getElem?_append, if_pos (by omega)]; exact h2, h3, h4⟩
    · rw [if_neg hj] at h
      have hz : j - vs.length = 0 := by
        cases hk : j - vs.length with
        | zero => rfl
        | succ n => rw [hk] at h; simp at h
      rw [hz] at h
      simp at h
      exact ⟨_, _, _, _, h.symm, by rw [List.getElem?_append, if_neg (by omega)]; rw [show j - nss.length = 0 by omega]; rfl, m, i⟩
theorem law_ret {base : Heap} {L fa rw' tl sn st lf D : Addr} {cd : Value} {m : Str → Option Value} {wr vt vsn vst vf : List Value} {ct csn cst c many : Nat} {row : List Nat} {nss : List (List Int)} {o4 o5 o6 oD : Obj} {tm : Tok} {kvs : List (Int × Value)} {RR : List (Addr × Obj)} {X : Str} (PB : PW w mg mb base)
    (hdp : dp ≤ 310) (hu : un ≤ 3000) (hm9 : many ≤ 9) (hm2 : 2 ≤ many) (hwr : IntsAre wr (row.map Int.ofNat)) (hvt : IntsAre vt (row.map Int.ofNat)) (hvs : SeenOk RR vsn nss) (hnl : nss.length = row.length) (hns : ∀ j nr, nss[j]? = some nr → Canon nr (row.drop j))
    (hst : Paired (fun y v => StillF 0 row y v s.heap) (List.range row.length) vst) (hvf : StrsAre vf [X]) (hdd : oD.IsDictOf (intKind prog w) kvs) (hX : ∃ t, valueAt kvs ((many : Int) - 1) = some (.str X t)) (hDs : (D == sysModules) = false)
    (d4 : o4.data = .cell (some (.int (many : Int) tm))) (d5 : o5.data = .cell (some (.ref rw'))) (d6 : o6.data = .cell (some (.ref D)))
    (F : Fr base L s.heap m) (N : News base L s.heap ((L + 1 + 1 + 1 + 1 + 1 + 1, o6) :: (L + 1 + 1 + 1 + 1 + 1, o5) :: (L + 1 + 1 + 1 + 1, o4) :: (st, listObj vst cst) :: (lf, listObj vf c) :: (tl, listObj vt ct) :: (sn, listObj vsn csn) :: (rw', W.listOf wr.toArray 0) :: (D, oD) :: RR))
    (m1 : m "told" = some (.ref tl)) (m2 : m "seen" = some (.ref sn)) (m3 : m "still" = some (.ref st)) (m4 : m "left" = some (.ref lf))
    (hQ : ∀ h' tk m', Fr base L h' m' → News base L h' RR → Q (.ret (.bool true)) { s with heap := h', toks := tk }) :
    wpAny (model prog w) ((Ar dp un (some []) gd).deeper (envOfC (Str.ofString "law") lawDef.2 L fa cd)) (execs (lawDef.1.drop 12) (envOfC (Str.ofString "law") lawDef.2 L fa cd)) Q E s := by
  conv in (List.drop 12 _) => whnf
  conv => enter [2, 2, 2]; whnf
  conv => enter [3, 2, 2]; whnf
  obtain ⟨KX, T⟩ := id PB
  refine execs_box ?_
  replace F := fr_named F "told" _ m1
  replace F := fr_named F "seen" _ m2
  replace F := fr_named F "still" _ m3
  replace F := fr_named F "left" _ m4
  k_steps
  have hun : ((Ar dp un (some []) gd).deeper (envOfC (Str.ofString "law") lawDef.2 L fa cd)).units + 20 < cLine := by
    show un + 3 + 20 < 9900
    omega
  refine Box.mk (eq_ints (ns := row.map Int.ofNat) ⟨_, N.get (by k_mem), rfl, _, rfl⟩ ⟨_, N.get (by k_mem), rfl, _, rfl⟩ (by simpa using hvt) (by simpa using hwr) (by exact Nat.lt_of_le_of_lt (Nat.le_add_right _ _) hun) ?_)
  k_steps
  have hRR : ∀ p ∈ RR, s.heap.get? p.1 = some p.2 := fun p hp => (N p (by simp only [List.mem_cons]; exact .inr (.inr (.inr (.inr (.inr (.inr (.inr (.inr (.inr hp)))))))))).1
  have hsl : vsn.length = row.length := hvs.len.trans hnl
  have hml : vst.length = row.length := by
    have := paired_len hst
    simpa using this.symm
  refine Box.mk (eq_lists_by ⟨_, N.get (by k_mem), rfl, _, rfl⟩ ⟨_, N.get (by k_mem), rfl, _, rfl⟩ (by simp; omega) (by exact Nat.lt_of_le_of_lt (Nat.le_add_right _ _) hun) (fun j v v' h1 h2 => ?_) ?_)
  · rw [List.getElem?_toArray] at h1 h2
    obtain ⟨r, vr, e, nr, rfl, hnr, hmr, hir⟩ := hvs.at_ j v h1
    have hj : j < row.length := by
      have := (List.getElem?_eq_some_iff.mp h1).1
      omega
    obtain ⟨r2, out, c2, ns', rfl, _, ho2, hi2, hc2⟩ := Paired.at_ hst j j v' (List.getElem?_range hj) h2
    have hcu := Canon.unique (hns j nr hnr) hc2
    subst hcu
    exact eqAt_ints ⟨_, hRR _ hmr, rfl, _, rfl⟩ ⟨_, ho2, rfl, _, rfl⟩ (by simpa using hir) hi2 (by show un + 3 + 1 + 1 < 9900; omega)
  k_steps
  obtain ⟨tX, hX⟩ := hX
  refine item_at (knd := intKind prog w) (kvs := kvs) (k := (many : Int) - 1) (Heap.dictOf_iff.mpr ⟨oD, N.get (by k_mem), hdd⟩) (intKind_is _ _ _ _) hX ?_
  k_steps
  rename Fr _ _ _ _ => F9
  rename News _ _ _ _ => N9
  rename_i l9 h9 _
  obtain ⟨tx, rfl⟩ : ∃ tx, vf = [Value.str X tx] := by
    cases hvf with
    | cons n t r => cases r; exact ⟨_, rfl⟩
  refine Box.mk (eq_lists_by (x := #[.str X tx]) (y := #[.str X tX]) ⟨_, N9.get (by k_mem), rfl, _, rfl⟩ ⟨_, N9.get (.head _), rfl, _, rfl⟩ rfl (by exact Nat.lt_of_le_of_lt (Nat.le_add_right _ _) hun) (fun j v v' h1 h2 => ?_) ?_)
  · have hj := (Array.getElem?_eq_some_iff.mp h1).1
    have hj0 : j = 0 := by simp at hj; exact hj
    subst hj0
    simp at h1 h2
    subst h1; subst h2
    exact eqAt_str _ _ _
  · exact hQ _ _ _ F9 fun p hp => N9 p (by simp only [List.mem_cons]; exact .inr (.inr (.inr (.inr (.inr (.inr (.inr (.inr (.inr (.inr hp))))))))))
end
end Mine1
end
end
section
open PySem PySem.W PyProof.Rows PyProof.V Mine
set_option maxRecDepth 100000
set_option maxHeartbeats 8000000
namespace Mine1
section
variable {w : World} {mg mb : Str → Option Value} {dp un : Nat} {gd : Option (List Code)} {s : Shared} {Q : Flow → Shared → Prop} {E : Value → Shared → Prop}
theorem law_body {base hR : Heap} {L fa ls P bm : Addr} {cd : Value} {m : Str → Option Value} {vals : List Value} {ns : List Int} {q1 q2 q3 q4 q5 q6 ob : Obj} {ps0 ps : Array Value} (PB : PW w mg mb base)
    (M : BMod base mainGlobals mg bm ob) (hPb : base.get? P = none) (hok : hR.IsCode 168 P ps0) (htab : hR.TableAt 168 P ps0) (h168 : ∀ o, hR.get? 168 = some o → base.get? 168 = some o) (hPs : cStatics ≠ P) (hpt : TriplesOk ps.toList)
    (hdp : dp ≤ 310) (hu : un ≤ 3000) (hl : base.IsList ls vals.toArray) (hi : IntsAre vals ns) (hns : ns.length ≤ 63)
    (F : Fr base L s.heap m) (N : News base L s.heap [(L + 1 + 1 + 1 + 1 + 1 + 1, q6), (L + 1 + 1 + 1 + 1 + 1, q5), (L + 1 + 1 + 1 + 1, q4), (L + 1 + 1 + 1, q3), (L + 1 + 1, q2), (L + 1, q1), (P, { cls := .none, data := .fields ps })])
    (d1 : q1.data = .cell (some (.ref ls))) (d2 : q2.data = .cell none) (d3 : q3.data = .cell none) (d4 : q4.data = .cell none) (d5 : q5.data = .cell none) (d6 : q6.data = .cell none) (hPL : P < L)
    (hQ : ∀ s' m' (ps' : Array Value), GExt NoG s.gens s'.gens s.os s'.os → Fr base L s'.heap m' → s'.heap.get? P = some { cls := .none, data := .fields ps' } → Q (.ret (.bool true)) s') :
    wpAny (model prog w) ((Ar dp un (some []) gd).deeper (envOfC (Str.ofString "law") lawDef.2 L fa cd)) (execs (lawDef.1.drop 0) (envOfC (Str.ofString "law") lawDef.2 L fa cd)) Q E s := by
  refine law_1 PB hdp hu hl hi hns F N d1 d2 d3 d4 d5 d6 hPL fun s1 dr ws dn o2 o3 tc hd7 hws g1 F1 N1 c2 c3 hdr => ?_
  refine law_2 PB hd7 hws F1 N1 c2 c3 d4 d5 hPL hdr fun s2 rw' wr o4 o5 tm hwr g2 F2 N2 c4 c5 hrd => ?_
  have I := row_inv dn
  have hT := (tOk_of I).1
  refine law_3 PB M hPb hok htab h168 hPs hpt hdp hu hd7 hws hwr hT F2 N2 c3 c4 c5 d6 hPL hdr hrd fun s3 D oD kvs o6 ps' g3 F3 N3 hne c6 hdd hDs hPa => ?_
  have hm9 : dn.length + 2 ≤ 9 := by omega
  have hnl : (dn ++ [0, ns.sum]).length = dn.length + 2 := by simp
  have hR : ∀ p, p < dn.length + 2 → Res (dn.length + 2) (treeOf (dn.length + 2) [] (rowOf dn)) p := fun p hp => tree_res I p hp (by simp)
  refine law_4 PB hm9 (by omega) hnl hws (fun p _ => pathOf_len I hm9 p) (fun p hp => res_key (hR p hp)) F3 N3 c3 c4 c6 hdd hPa fun s4 lst vl c g4 F4 N4 hlt4 hvl => ?_
  refine law_5 PB (by omega) hl hi hns F4 N4 d1 c4 fun s5 f tf hf g5 F5 N5 => ?_
  refine law_6 PB hdp hu hm9 hf (fun p _ => pathOf_len I hm9 p) hvl (fun p hp => path_hc I hm9 (by omega) p hp) F5 N5 rfl rfl hlt4 fun s6 lf vf c' g6 F6 N6 hlt6 hvf => ?_
  have hrl := rowOf_len dn
  obtain ⟨p1, p2, p3⟩ := pl_start (many := dn.length + 2) (f := f) (Nat.le_of_lt hf)
  have G : Stage (dn.length + 2) (rowOf dn) ((List.range (dn.length + 2)).drop f ++ (List.range (dn.length + 2)).take f) [] (rowOf dn) := Stage.start I p1 p2
  refine law_loop (nums := dn ++ [0, ns.sum]) (many := dn.length + 2) (row := rowOf dn) (pl0 := (List.range (dn.length + 2)).drop f ++ (List.range (dn.length + 2)).take f) PB hdp hu hm9 (by omega) (by rw [hrl]) (by rw [p3]; exact hm9) hwr G (by rw [lefts_nil]; exact hvf) c5 F6 N6 rfl hlt6 fun s7 it used m7 lf7 vf7 c7 tl vt ct sn vsn csn RR nss J N7 => ?_
  have hSS : ∀ p ∈ Stat L P D oD rw' wr dr ws q1 o2 o3 o4 o5 o6 { cls := .none, data := .fields ps' }, s7.heap.get? p.1 = some p.2 ∧ p.1 ≠ L ∧ base.get? p.1 = none := fun p hp => N7 p (.tail _ (.tail _ (.tail _ (J.ss p hp))))
  refine law_still (R := (lf7, listObj vf7 c7) :: (tl, listObj vt ct) :: (sn, listObj vsn csn) :: RR) PB hdp hu (by rw [hrl]; omega) hwr rfl c5 J.fr (allC (hSS _ (by k_mem)) (allC (hSS _ (by k_mem)) N7)) (fun n hn => Nat.lt_of_lt_of_le (I.rlt n hn) (by omega)) fun s8 st vst cst g8 F8 N8 hst => ?_
  have hS8 : ∀ p ∈ Stat L P D oD rw' wr dr ws q1 o2 o3 o4 o5 o6 { cls := .none, data := .fields ps' }, s8.heap.get? p.1 = some p.2 ∧ p.1 ≠ L ∧ base.get? p.1 = none := fun p hp => N8 p (.tail _ (.tail _ (.tail _ (.tail _ (.tail _ (.tail _ (J.ss p hp)))))))
  obtain ⟨tX, hX⟩ := hPa.2 (dn.length + 2 - 1) (.inl (by omega))
  have hdone := J.st.done (by omega)
  have hvf7 := J.vf
  rw [hdone] at hvf7
  have hvt7 := J.vt
  rw [show (rowOf dn).take ((rowOf dn).length - ([] : List Nat).length) = rowOf dn by simp] at hvt7
  refine law_ret (RR := RR) (c := c7) (cst := cst) (csn := csn) (ct := ct) (X := pt (dn.length + 2) (slB (dn ++ [0, ns.sum])) (slA (dn ++ [0, ns.sum]) (dn.length + 2)) (rowOf dn) (dn.length + 2 - 1)) PB hdp hu hm9 (by omega) hwr hvt7 J.vs (by have := J.nl; simpa using this) J.ns hst hvf7 hdd ⟨tX, ?_⟩ hDs c4 c5 c6 F8 ?_ ((if_neg (by decide)).trans J.m2) ((if_neg (by decide)).trans J.m3) (if_pos rfl) ((if_neg (by decide)).trans J.m1) fun h' tk m' F9 N9 => ?_
  · rw [show ((dn.length + 2 : Nat) : Int) - 1 = ((dn.length + 2 - 1 : Nat) : Int) by omega]
    exact hX
  · exact allC (hS8 _ (by k_mem)) (allC (hS8 _ (by k_mem)) (allC (hS8 _ (by k_mem)) (allC (N8 _ (by k_mem)) (allC (N8 _ (by k_mem)) (allC (N8 _ (by k_mem)) (allC (N8 _ (by k_mem)) (allC (hS8 _ (by k_mem)) (allC (hS8 _ (by k_mem)) fun p hp => N8 p (.tail _ (.tail _ (.tail _ (.tail _ (.tail _ (.tail _ hp))))))))))))))
  · exact hQ _ m' ps' ((((((g1.trans g2).trans g3).trans g4).trans g5).trans g6).trans (J.ge.trans g8)) F9 (N9 (P, { cls := .none, data := .fields ps' }) (J.ss _ (by k_mem))).1
end
end Mine1
end
section
open PySem PySem.W PyProof.Rows Mine
set_option maxRecDepth 100000
set_option maxHeartbeats 8000000
namespace Mine1
theorem noTab39 (P : Params) : noTabs (hd.heap_39 P) = true := by kernel_rfl
theorem hide_K {K : Frag} {h : Heap} {P : Addr} {ps : Array Value} (X : K.In h) (hK : noTabs K = true) (hP : h.get? P = some { cls := .none, data := .fields ps }) : K.In (hide [P] h) := fun a o e => by
  have h1 := X a o e
  refine hide_some (fun q => ?_) h1
  rw [List.mem_singleton.mp q, hP] at h1
  have h2 := List.all_eq_true.mp hK (a, o) (mem_of_lookupK e)
  cases h1
  exact absurd (show false = true from h2) Bool.false_ne_true
theorem hide_Ns {h : Heap} {P a : Addr} {ps : Array Value} {m : Str → Option Value} (hP : h.get? P = some { cls := .none, data := .fields ps }) (x : h.Ns a m) : (hide [P] h).Ns a m := by
  obtain ⟨o, es, ep, e, hd, r⟩ := x
  refine ⟨o, es, ep, hide_some (fun q => ?_) e, hd, r⟩
  rw [List.mem_singleton.mp q, hP] at e
  cases e; cases hd
theorem hide_isList {h : Heap} {P a : Addr} {ps its : Array Value} (hP : h.get? P = some { cls := .none, data := .fields ps }) (x : h.IsList a its) : (hide [P] h).IsList a its := by
  obtain ⟨o, e, hc, r⟩ := x
  refine ⟨o, hide_some (fun q => ?_) e, hc, r⟩
  rw [List.mem_singleton.mp q, hP] at e
  cases e; cases hc
theorem hide_TopRead {pr : Program} {lo : List Str} {mg mb : Str → Option Value} {h : Heap} {P : Addr} {ps : Array Value} (hP : h.get? P = some { cls := .none, data := .fields ps }) (T : TopRead pr lo mg mb h) : TopRead pr lo mg mb (hide [P] h) where
  g := hide_Ns hP T.g
  b := hide_Ns hP T.b
  nolimit := let ⟨mc, a, r⟩ := T.nolimit; ⟨mc, hide_Ns hP a, r⟩
  builtins := T.builtins
  free := T.free
theorem hide_BMod {h : Heap} {P g bm : Addr} {ob : Obj} {ps : Array Value} {mg : Str → Option Value} (hP : h.get? P = some { cls := .none, data := .fields ps }) (M : BMod h g mg bm ob) : BMod (hide [P] h) g mg bm ob where
  ns := hide_Ns hP M.ns
  name := M.name
  ne := M.ne
  obj := hide_some (fun q => by
    have e := M.obj
    rw [List.mem_singleton.mp q, hP] at e
    have := M.cls
    cases e; cases this) M.obj
  cls := M.cls
  dict := M.dict
  data := M.data
theorem cells_six {cm : Str → Option Value} {n₁ n₂ n₃ n₄ n₅ n₆ : Str} {c₁ c₂ c₃ c₄ c₅ c₆ : Addr} {cells : List (Addr × Obj)} (x : CellsAre cm [(n₁, c₁), (n₂, c₂), (n₃, c₃), (n₄, c₄), (n₅, c₅), (n₆, c₆)] cells) :
    ∃ o₁ o₂ o₃ o₄ o₅ o₆, cells = [(c₁, o₁), (c₂, o₂), (c₃, o₃), (c₄, o₄), (c₅, o₅), (c₆, o₆)] ∧ o₁.data = .cell (cm n₁) ∧ o₂.data = .cell (cm n₂) ∧ o₃.data = .cell (cm n₃) ∧ o₄.data = .cell (cm n₄) ∧ o₅.data = .cell (cm n₅) ∧ o₆.data = .cell (cm n₆) := by
  cases x with
  | cons h r =>
    cases r with
    | cons h' r' =>
      obtain ⟨o₃, o₄, o₅, o₆, rfl, h₃, h₄, h₅, h₆⟩ := r'.four
      exact ⟨_, _, o₃, o₄, o₅, o₆, rfl, h, h', h₃, h₄, h₅, h₆⟩
theorem top_ : PySem.Challenge.rw_kl0057_01.Holds := by
  refine hd ?_
  k_fill
  intro w s₀ s₁ mg mb G Y fa o pm cd doc dV kV ho hd hcd hD hmg hg args vals as hpre hlay hrd hwl hlo
  have KX := kIn_of Y
  have X := (Ground.X G).1
  have V := (Ground.X G).2
  refine Ground.open G ?_
  intro T B D TE TW
  obtain ⟨bm, ob, M⟩ := bmod_of_top T
  x_fa T KX hmg
  clear ho hd hcd hD B D TE TW X V Y
  obtain ⟨dr, hdr⟩ := Option.isSome_iff_exists.mp (show ((recsOf Mine1.hd.view_39).find? (fun e => e.name == Str.ofString "_law_tree")).isSome = true by kernel_rfl)
  have hdn : dr.name = Str.ofString "_law_tree" := beq_iff_eq.mp (List.find?_some (p := fun e : DefRec => e.name == Str.ofString "_law_tree") hdr)
  obtain ⟨a, o', fd, c, P, h1, h2, h3, h4, h5, h6⟩ := T.tab dr (List.mem_of_find?_eq_some hdr)
  rw [hdn] at h1
  x_fa T KX h1
  wrow_args hpre hlay hrd hwl hlo
  rename_i ns as0 as1 ls vs as2 hL ra w1 r0 hI hr hc1 hc2
  clear hmg h1
  have e169 : s₁.heap.get? 169 = some _ := KX 169 _ (by k_is)
  have e168 : s₁.heap.get? 168 = some _ := KX 168 _ (by k_is)
  have hoo := Option.some.inj (h2.symm.trans e169)
  subst hoo
  have hfd := Data.func.inj h3
  subst hfd
  have hcc : Value.ref 168 = Value.ref c := h4
  cases hcc
  clear h2 h3 h4
  have hP := h6.2
  have hPs : cStatics ≠ P := fun e => by
    obtain ⟨_, ⟨oc, _, _, e1, e2, _⟩, _⟩ := T.nodigits
    rw [e, hP] at e1
    cases e1; cases e2
  have PB : PW w mg mb (hide [P] s₁.heap) := ⟨hide_K KX (noTab39 _) hP, hide_TopRead hP (topRead_of T)⟩
  have M' := hide_BMod hP M
  have N0 : Led (hide [P] s₁.heap) s₁.heap [(P, ({ cls := .none, data := .fields #[] } : Obj))] := fun p hp => by
    rw [List.mem_singleton.mp hp]
    exact ⟨hP, hide_none (List.mem_singleton.mpr rfl)⟩
  have ho : s₁.heap.get? 181 = some _ := KX 181 _ (by k_is)
  show wpAny _ (Ar (1 + claimMargin) 4 (some []) (some [])) (PySem.call (Value.ref 181) [Value.ref ls]) _ _ _
  refine wpAny_call ?_
  refine' enterC (base := hide [P] s₁.heap) (hide_keep _ _) (Nat.le_of_eq (hide_size _ _)) N0 ?e1 ho ?e2 T.nolimit ?e3 ?e4 ?e5 ?e6 ?_ ?e7 ?e8 ?e9
  case e2 => exact rfl
  case e1 => decide
  case e3 => exact ⟨180, _, _, _, rfl, KX 180 _ (by k_is), rfl, rfl⟩
  case e4 => rfl
  case e5 => exact kindsX rfl
  case e6 => decide
  case e7 => rfl
  case e8 => rfl
  case e9 => rfl
  clear ho
  intro L h₁ tk cells F N l1 Y kh hL'
  have hPL := l1 _ (.head _)
  dsimp only at hPL
  clear l1
  obtain ⟨q6, q5, q4, q3, q2, q1, rfl, c6, c5, c4, c3, c2, c1⟩ := cells_six Y
  clear Y
  replace c1 := show _ = Data.cell (some (.ref ls)) from c1
  replace c2 := show _ = Data.cell none from c2
  replace c3 := show _ = Data.cell none from c3
  replace c4 := show _ = Data.cell none from c4
  replace c5 := show _ = Data.cell none from c5
  replace c6 := show _ = Data.cell none from c6
  simp only [List.cons_append, List.nil_append] at N
  have h168 : ∀ o, s₁.heap.get? 168 = some o → (hide [P] s₁.heap).get? 168 = some o := fun o e => hide_some (fun q => by
    rw [List.mem_singleton.mp q, hP] at e168
    have := Option.some.inj e168
    injection this with h _ _
    cases h) e
  change wpAny (model prog w) ((Ar (1 + claimMargin) 4 (some []) (some [])).deeper (envOfC (Str.ofString "law") lawDef.2 L 181 (.ref 180))) (execs (lawDef.1.drop 0) (envOfC (Str.ofString "law") lawDef.2 L 181 (.ref 180))) _ _ _
  refine law_body (hR := s₁.heap) (ps0 := #[]) (ps := #[]) PB M' (hide_none (List.mem_singleton.mpr rfl)) h5 h6 h168 hPs trivial (by decide) (by decide) (hide_isList hP hL) hI (by omega) F N c1 c2 c3 c4 c5 c6 hPL fun s' m' ps' hg' hF hP' => ?_
  show GoodWG _ _ _ _ s₁ (.ok (.ret (.bool true))) s'
  refine ⟨.inl ⟨_, .bool true, [], rfl, fun cls => ?_, .bool true, ?_, fun _ => ⟨.nil, fun _ ha => nomatch ha⟩⟩, ⟨fun b o e => ?_, fun b o e => ?_⟩, hg'.os, ?_⟩
  · first | rfl | kernel_rfl
  · first | rfl | kernel_rfl
  · by_cases hb : b = P
    · subst hb
      rw [hP] at e
      cases e
      refine .inr (.inl ⟨?_, rfl, #[], ps', rfl, ?_⟩)
      · obtain ⟨⟨oc, vs, e1, e2, e3, e4⟩, _⟩ := h6
        exact ⟨168, oc, vs, e1, e2, e3, e4⟩
      · rw [hP']; simp
    · exact .inl (hF.keep b o (hide_some (fun q => hb (List.mem_singleton.mp q)) e))
  · by_cases hb : b = P
    · exact ⟨_, hb ▸ hP'⟩
    · exact ⟨_, hF.keep b o (hide_some (fun q => hb (List.mem_singleton.mp q)) e)⟩
  · exact hg'.bare (by rw [hg]; exact AllBare.empty)
end Mine1
end
open PySem PySem.W PyProof.Rows
theorem PySem.Challenge.cw_kl0057_01_holds : PySem.Challenge.rw_kl0057_01.Holds := by
  exact Mine1.top_
