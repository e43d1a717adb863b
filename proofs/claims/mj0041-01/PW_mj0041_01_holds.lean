import PyProof.Rows.All
import Wide.All
import OpenK.AllK
import Wide.FinOn
import PySem.Challenge.RW_mj0041_01
open PySem PySem.W PyProof.Rows
set_option Elab.async false
set_option maxRecDepth 100000
set_option maxHeartbeats 4000000

namespace Mine
set_option maxRecDepth 100000 in
set_option maxHeartbeats 8000000 in
open_top hd for PySem.Challenge.rw_mj0041_01
end Mine

namespace Mine

noncomputable abbrev KK (P : Params) : Frag := hd.heap_39 P

structure Gd (w : World) (mg mb : Str → Option Value) (h : Heap) : Prop where
  X : (KK w.params).In h
  g : h.Ns mainGlobals mg
  b : h.Ns builtinsNs mb
  bi : ∀ x : Str, x ≠ "__name__" → mb x = bootBuiltins x
  lim : h.NoLimit

theorem Gd.keeps {w : World} {mg mb : Str → Option Value} {h h' : Heap} (G : Gd w mg mb h) (hk : ∀ b o, h.get? b = some o → h'.get? b = some o) : Gd w mg mb h' where
  X := G.X.keeps hk
  g := G.g.keeps hk
  b := G.b.keeps hk
  bi := G.bi
  lim := G.lim.keeps hk

theorem Gd.at {w : World} {mg mb : Str → Option Value} {s s' : Shared} (G : Gd w mg mb s.heap) (k : Keeps s s') : Gd w mg mb s'.heap := by
  obtain ⟨h', tk, rfl, hk⟩ := k
  exact G.keeps hk

theorem keepsRefl (s : Shared) : Keeps s s := ⟨s.heap, s.toks, rfl, fun _ _ e => e⟩
theorem keepsTok (s : Shared) (t : Nat) : Keeps s { s with toks := t } := ⟨s.heap, t, rfl, fun _ _ e => e⟩
theorem keepsTrans {s₁ s₂ s₃ : Shared} (a : Keeps s₁ s₂) (b : Keeps s₂ s₃) : Keeps s₁ s₃ := by
  obtain ⟨h, t, rfl, k⟩ := a
  obtain ⟨h', t', rfl, k'⟩ := b
  exact ⟨h', t', rfl, fun b o e => k' b o (k b o e)⟩
theorem keepsHeap {s s' : Shared} (k : Keeps s s') : ∀ b o, s.heap.get? b = some o → s'.heap.get? b = some o := by
  obtain ⟨h, t, rfl, k⟩ := k
  exact k

theorem inCallKeeps {s₀ s s' : Shared} {L : Addr} {m : Str → Option Value} (x : InCall s₀ L m s) (k : Keeps s s') : Keeps s₀ s' := keepsTrans x.done k
theorem inCallMore {s₀ s s' : Shared} {L : Addr} {m : Str → Option Value} (x : InCall s₀ L m s) (k : Keeps s s') : InCall s₀ L m s' := by
  obtain ⟨h', tk, rfl, hk⟩ := k
  exact x.kept hk

/-- the def at address a -/
noncomputable def fnAt (P : Params) (a : Addr) : FuncData :=
  match (KK P).lookup a with
  | some ⟨_, _, .func fd, _⟩ => fd
  | _ => default

def retOf : Flow → Value
  | .ret v => v
  | _ => .none


section
variable {env : Env}
theorem ab_Const {c : Const} {k : Nat} {p : Pos} {n : Str} {v : Sem Value} : attributeBase (.Constant c k p) n env v = v := rfl
theorem ab_Name {x : Str} {p : Pos} {n : Str} {v : Sem Value} : attributeBase (.Name x p) n env v = v := rfl
theorem ab_BoolOp {o : BoolOp} {vs : List Expr} {p : Pos} {n : Str} {v : Sem Value} : attributeBase (.BoolOp o vs p) n env v = v := rfl
theorem se_Name {x : Str} {p : Pos} {r : List Expr} : starEach (.Name x p :: r) env = (false, eval (.Name x p) env) :: starEach r env := rfl
theorem se_Const {c : Const} {k : Nat} {p : Pos} {r : List Expr} : starEach (.Constant c k p :: r) env = (false, eval (.Constant c k p) env) :: starEach r env := rfl
theorem se_ListComp {e : Expr} {gs : List Comprehension} {sc : Scope} {p : Pos} {r : List Expr} : starEach (.ListComp e gs sc p :: r) env = (false, eval (.ListComp e gs sc p) env) :: starEach r env := rfl
theorem se_Call {f : Expr} {as : List Expr} {ks : List Keyword} {p : Pos} {r : List Expr} : starEach (.Call f as ks p :: r) env = (false, eval (.Call f as ks p) env) :: starEach r env := rfl
theorem se_Attribute {f : Expr} {n : Str} {p : Pos} {r : List Expr} : starEach (.Attribute f n p :: r) env = (false, eval (.Attribute f n p) env) :: starEach r env := rfl
theorem se_BinOp {a b : Expr} {o : Operator} {p : Pos} {r : List Expr} : starEach (.BinOp a o b p :: r) env = (false, eval (.BinOp a o b p) env) :: starEach r env := rfl
theorem se_Name1 {x : Str} {p : Pos} : starEach [.Name x p] env = [(false, eval (.Name x p) env)] := rfl
theorem se_Const1 {c : Const} {k : Nat} {p : Pos} : starEach [.Constant c k p] env = [(false, eval (.Constant c k p) env)] := rfl
theorem se_ListComp1 {e : Expr} {gs : List Comprehension} {sc : Scope} {p : Pos} : starEach [.ListComp e gs sc p] env = [(false, eval (.ListComp e gs sc p) env)] := rfl
theorem se_Call1 {f : Expr} {as : List Expr} {ks : List Keyword} {p : Pos} : starEach [.Call f as ks p] env = [(false, eval (.Call f as ks p) env)] := rfl
theorem se_Const2 {c c' : Const} {k k' : Nat} {p p' : Pos} : starEach [.Constant c k p, .Constant c' k' p'] env = [(false, eval (.Constant c k p) env), (false, eval (.Constant c' k' p') env)] := rfl
end

section
variable {prog : Program} {w : World} {A : Around} {E : Value → Shared → Prop} {s : Shared} {mg mb : Str → Option Value} {env : Env}

theorem call_of {a : Addr} {body : List Stmt} {v : Value} {nm : Str} {Post : Value → Shared → Prop} (G : Gd w mg mb s.heap) (hroom : A.depth < recursionLimit)
    (ho : (KK w.params).lookup a = some { cls := .type "function", data := .func (fnAt w.params a) })
    (hc : codeIn (KK w.params) (fnAt w.params a).code (fnAt w.params a).qualname = true)
    (hb : (fnAt w.params a).body = .stmts body) (hbind : bindArgs (fnAt w.params a) ⟨[v], []⟩ = pure [(nm, v)])
    (hcell : ((fnAt w.params a).scope.names.all fun x => x.2 != .cell) = true) (hloc : (fnAt w.params a).scope.names.lookup nm = some .local)
    (h : ∀ s₁, InCall s s.heap.objs.size (fun y => [(nm, v)].lookup y) s₁ → 0 < s₁.toks →
      wpAny (model prog w) (A.deeper (callEnv (fnAt w.params a) s.heap.objs.size a)) (execs body (callEnv (fnAt w.params a) s.heap.objs.size a)) (fun f s' => Post (retOf f) s') (fun _ _ => False) s₁)
    (hco : (fnAt w.params a).scope.isCoroutine = false) (hgen : (fnAt w.params a).scope.isGenerator = false) (hk : (fnAt w.params a).scope.kind = .function) :
    wpAny (model prog w) A (call (.ref a) [v]) Post E s := by
  refine wpAny_call (codeAny_call_plain hroom (G.X _ _ ho) rfl G.lim (codeRec_of G.X hc) hb hbind (by
    intro x hx
    have := List.all_eq_true.mp hcell x hx
    simpa using this) (by
    intro x hx; rw [List.mem_singleton.mp hx]; exact hloc) (fun h₀ hns keep => ?_) hco hgen hk)
  refine wpAny_mono (h _ ⟨⟨h₀, _, rfl⟩, hns, keep, Nat.le_refl _⟩ (Nat.lt_of_lt_of_le Nat.zero_lt_one (Nat.le_add_left _ _))) (fun f s' p => ?_) (fun _ _ x => x.elim)
  cases f <;> exact p

/-- sep.join(arg) -/
theorem join_call {sep : Str} {k0 : Nat} {p0 apos pos : Pos} {arg : Expr} {Q : Value → Shared → Prop}
    (hs : starEach [arg] env = [(false, eval arg env)]) (hline : (apos.endLine == pos.line) = true)
    (h : ∀ s₀ : Shared, (∃ tk, s₀ = { s with toks := tk }) → wpAny (model prog w) A (eval arg env) (fun v s₁ => ∃ D l, v = .ref D ∧ s₁.heap.IsList D (strValues l).toArray ∧ JoinOk sep (l.map (·.1)) = true ∧
      ∀ t' k, Q (.str (Txt.join sep (l.map (·.1))) t') { s₁ with toks := k }) E s₀) :
    wpAny (model prog w) A (eval (.Call (.Attribute (.Constant (.str sep) k0 p0) "join" apos) [arg] [] pos) env) Q E s := by
  refine Call_method1 ab_Const hs hline (wpAny_Constant_str ?_)
  refine ⟨"str", "str.join", F.plainAttrs_str, F.slot_str_join, F.type_str_join, typeIs_str _ _ _, (fun _ e => nomatch e), ?_⟩
  refine Calls.callWith_builtin rfl (Calls.evalArgs_plain (Calls.spliced_cons (wpAny_mono (h _ ⟨_, rfl⟩) (fun v s₁ hv => ?_) fun _ _ e => e)))
  obtain ⟨D, l, rfl, hl, hok, hq⟩ := hv
  exact Calls.spliced_nil (SC.join hl rfl hok hq)

/-- what a comprehension's filter says of a value -/
noncomputable def liftP {α : Type} (is : α → Value → Prop) (p : α → Bool) (v : Value) : Bool := @decide (∃ a, is a v ∧ p a = true) (Classical.propDecidable _)

theorem liftP_of {α : Type} {is : α → Value → Prop} (inj : ∀ a b v, is a v → is b v → a = b) {p : α → Bool} {a : α} {v : Value} (h : is a v) : liftP is p v = p a := by
  unfold liftP
  cases hp : p a with
  | true => exact @decide_eq_true _ (Classical.propDecidable _) ⟨a, h, hp⟩
  | false =>
    refine @decide_eq_false _ (Classical.propDecidable _) ?_
    rintro ⟨b, hb, hb'⟩
    rw [inj b a v hb h, hp] at hb'
    cases hb'

theorem paired_strs {α : Type} {is : α → Value → Prop} (inj : ∀ a b v, is a v → is b v → a = b) (p : α → Bool) (f : α → Str) :
    ∀ (vs : List Value) (as : List α) (ys : List Value), vs.length = as.length → (∀ (j : Nat) (v : Value), vs[j]? = some v → ∃ a, as[j]? = some a ∧ is a v) →
      Paired (fun v y => ∃ a u, is a v ∧ y = .str (f a) u) (vs.filter (liftP is p)) ys → ∃ l, ys = strValues l ∧ l.map (·.1) = (as.filter p).map f
  | [], [], ys, _, _, h => by cases h; exact ⟨[], rfl, rfl⟩
  | [], _ :: _, _, h, _, _ => by cases h
  | _ :: _, [], _, h, _, _ => by cases h
  | v :: vs, a :: as, ys, hl, hg, h => by
    obtain ⟨a', ha', hv⟩ := hg 0 v rfl
    simp only [List.getElem?_cons_zero, Option.some.injEq] at ha'
    subst ha'
    have hg' : ∀ j u, vs[j]? = some u → ∃ b, as[j]? = some b ∧ is b u := fun j u hu => by simpa using hg (j + 1) u (by simpa using hu)
    have hl' : vs.length = as.length := by simpa using hl
    cases hp : p a with
    | false =>
      rw [List.filter_cons_of_neg (by rw [liftP_of inj hv, hp]; exact Bool.false_ne_true)] at h
      rw [List.filter_cons_of_neg (by simp [hp])]
      exact paired_strs inj p f vs as ys hl' hg' h
    | true =>
      rw [List.filter_cons_of_pos (by rw [liftP_of inj hv, hp])] at h
      rw [List.filter_cons_of_pos hp, List.map_cons]
      cases h with
      | cons hF ht =>
        obtain ⟨b, u, hb, rfl⟩ := hF
        obtain ⟨l, rfl, el⟩ := paired_strs inj p f vs as _ hl' hg' ht
        have e := inj b a v hb hv
        subst e
        exact ⟨(f b, u) :: l, rfl, by simp [el]⟩

abbrev testsOf (ifs : List Expr) (env : Env) : Sem Bool :=
  forIn ifs true fun c r => if r = true then do let ok ← isTrue c env (eval c env); pure (ForInStep.yield ok) else pure (ForInStep.yield r)

theorem comp_gen {α : Type} {elt iter : Expr} {nm : Str} {px : Pos} {ifs : List Expr} {scope : Scope} {pos : Pos} {Q : Value → Shared → Prop}
    (is : α → Value → Prop) (inj : ∀ a b v, is a v → is b v → a = b) (p : α → Bool) (f : α → Str)
    (hfree : ∀ y ∈ scope.names, y.2 ≠ .free) (hcell : ∀ y ∈ scope.names, y.2 ≠ .cell) (hkind : scope.kind = .function)
    (hnames : ∀ y ∈ scope.names, y.2 = .local → scope.names.lookup y.1 = some .local) (hx : scope.names.lookup nm = some .local)
    (h : wpAny (model prog w) A (eval iter env) (fun xv s₁ => wpAny (model prog w) A (pyIter xv) (fun it s₂ => ∃ (as : List α) (I : Addr) (fp wr : List Addr) (P : Nat → Value → Prop) (St : Nat → Heap → Prop),
      it = .ref I ∧ Walks prog w A I fp wr as.length P St ∧ as.length ≤ sizeLine ∧ St 0 s₂.heap ∧ (∀ b ∈ fp, b < s₂.heap.objs.size) ∧
      (∀ i v, P i v → ∃ a, as[i]? = some a ∧ is a v) ∧
      (∀ C a v s₃ m₃ E', a ∈ as → is a v → s₃.heap.Ns C m₃ → m₃ nm = some v → (∀ b o, b ∉ wr → s₂.heap.get? b = some o → s₃.heap.get? b = some o) →
        wpAny (model prog w) A (testsOf ifs (compEnv scope C env)) (fun ok s₄ => ok = p a ∧ Keeps s₃ s₄) E' s₃) ∧
      (∀ C a v s₃ m₃ E', a ∈ as → is a v → p a = true → s₃.heap.Ns C m₃ → m₃ nm = some v → (∀ b o, b ∉ wr → s₂.heap.get? b = some o → s₃.heap.get? b = some o) →
        wpAny (model prog w) A (eval elt (compEnv scope C env)) (fun y s₄ => (∃ u, y = .str (f a) u) ∧ Keeps s₃ s₄) E' s₃) ∧
      (∀ D l h' tk, s₂.heap.get? D = none → h'.PlainList D (strValues l).toArray → l.map (·.1) = (as.filter p).map f →
        (∀ b o, b ∉ wr → s₂.heap.get? b = some o → h'.get? b = some o) → Q (.ref D) { s₂ with heap := h', toks := tk })) E s₁) E s)
    (hs : ∀ x, foldedSetIterable iter env x = pure x := by intro _; rfl) :
    wpAny (model prog w) A (eval (.ListComp elt [⟨.Name nm px, iter, ifs, 0⟩] scope pos) env) Q E s := by
  refine wpAny_ListComp_walk (liftP is p) (fun v y => ∃ a u, is a v ∧ y = .str (f a) u) hfree hcell hkind hnames hx (wpAny_mono h (fun xv s₁ h₁ => wpAny_mono h₁ (fun it s₂ h₂ => ?_) fun _ _ e => e) fun _ _ e => e) hs
  obtain ⟨as, I, fp, wr, P, St, rfl, W, hsz, hst, hfp, hP, htests, helt, hQ⟩ := h₂
  refine ⟨I, fp, wr, as.length, P, St, rfl, W, hsz, hst, hfp, ⟨?_, ?_⟩, ?_⟩
  · intro C i v s₃ m₃ E' hv hn hm hk _
    obtain ⟨a, ha, hi⟩ := hP i v hv
    rw [liftP_of inj hi]
    exact htests C a v s₃ m₃ E' (List.mem_of_getElem? ha) hi hn hm hk
  · intro C i v s₃ m₃ E' hv hp hn hm hk _
    obtain ⟨a, ha, hi⟩ := hP i v hv
    rw [liftP_of inj hi] at hp
    refine wpAny_mono (helt C a v s₃ m₃ E' (List.mem_of_getElem? ha) hi hp hn hm hk) (fun y s₄ h₄ => ?_) fun _ _ e => e
    obtain ⟨⟨u, hu⟩, hk'⟩ := h₄
    exact ⟨⟨a, u, hi, hu⟩, hk'⟩
  · intro D h' tk ys vs hnew _ hlD hlen hPv hF hk
    obtain ⟨l, el, em⟩ := paired_strs inj p f vs as ys.toList hlen (fun j v hv => hP j v (hPv j v hv)) hF
    refine hQ D l h' tk hnew ?_ em hk
    rw [← el, Array.toArray_toList]
    exact hlD

def isSign (c : Nat) (v : Value) : Prop := ∃ u, v = .str ⟨#[c]⟩ u
theorem isSign_inj : ∀ a b v, isSign a v → isSign b v → a = b := by
  rintro a b v ⟨u, rfl⟩ ⟨u', h⟩
  simp at h
  exact h.1

/-- a comprehension over a text's signs -/
theorem comp_signs {elt iter : Expr} {nm : Str} {px : Pos} {ifs : List Expr} {scope : Scope} {pos : Pos} {Q : Value → Shared → Prop} (p : Nat → Bool) (f : Nat → Str)
    (hh : A.handled = none) (hfree : ∀ y ∈ scope.names, y.2 ≠ .free) (hcell : ∀ y ∈ scope.names, y.2 ≠ .cell) (hkind : scope.kind = .function)
    (hnames : ∀ y ∈ scope.names, y.2 = .local → scope.names.lookup y.1 = some .local) (hx : scope.names.lookup nm = some .local)
    (h : wpAny (model prog w) A (eval iter env) (fun xv s₁ => ∃ y t, xv = .str y t ∧ y.length ≤ sizeLine ∧
      (∀ C c u s₃ m₃ E', c ∈ y.cps.toList → s₃.heap.Ns C m₃ → m₃ nm = some (.str ⟨#[c]⟩ u) → (∀ b o, s₁.heap.get? b = some o → s₃.heap.get? b = some o) →
        wpAny (model prog w) A (testsOf ifs (compEnv scope C env)) (fun ok s₄ => ok = p c ∧ Keeps s₃ s₄) E' s₃) ∧
      (∀ C c u s₃ m₃ E', c ∈ y.cps.toList → p c = true → s₃.heap.Ns C m₃ → m₃ nm = some (.str ⟨#[c]⟩ u) → (∀ b o, s₁.heap.get? b = some o → s₃.heap.get? b = some o) →
        wpAny (model prog w) A (eval elt (compEnv scope C env)) (fun y s₄ => (∃ u, y = .str (f c) u) ∧ Keeps s₃ s₄) E' s₃) ∧
      (∀ D l h' tk, s₁.heap.get? D = none → h'.PlainList D (strValues l).toArray → l.map (·.1) = (y.cps.toList.filter p).map f →
        (∀ b o, s₁.heap.get? b = some o → h'.get? b = some o) → Q (.ref D) { s₁ with heap := h', toks := tk })) E s)
    (hs : ∀ x, foldedSetIterable iter env x = pure x := by intro _; rfl) :
    wpAny (model prog w) A (eval (.ListComp elt [⟨.Name nm px, iter, ifs, 0⟩] scope pos) env) Q E s := by
  refine comp_gen isSign isSign_inj p f hfree hcell hkind hnames hx (wpAny_mono h (fun xv s₁ h₁ => ?_) fun _ _ e => e) hs
  obtain ⟨y, t, rfl, hsz, htests, helt, hQ⟩ := h₁
  refine wpAny_pyIter_str fun o St W hst => ?_
  have up : ∀ (h' : Heap), (∀ b o', b ∉ [s₁.heap.objs.size] → (s₁.heap.push o).get? b = some o' → h'.get? b = some o') → ∀ b o', s₁.heap.get? b = some o' → h'.get? b = some o' :=
    fun h' hk b o' e => hk b o' (old_not_new e) (Heap.get?_push_of_some _ e)
  refine ⟨y.cps.toList, s₁.heap.objs.size, [s₁.heap.objs.size], [s₁.heap.objs.size], SignAt y, St, rfl, ?_, ?_, hst, ?_, ?_, ?_, ?_, ?_⟩
  · rw [Array.length_toList]; exact W A hh
  · rw [Array.length_toList]; exact hsz
  · intro b hb
    show b < (s₁.heap.push o).objs.size
    rw [Heap.size_push, List.mem_singleton.mp hb]
    exact Nat.lt_succ_self _
  · rintro i v ⟨c, u, hc, rfl⟩
    exact ⟨c, by simpa using hc, u, rfl⟩
  · rintro C c v s₃ m₃ E' hc ⟨u, rfl⟩ hn hm hk
    exact htests C c u s₃ m₃ E' hc hn hm (up _ hk)
  · rintro C c v s₃ m₃ E' hc ⟨u, rfl⟩ hp hn hm hk
    exact helt C c u s₃ m₃ E' hc hp hn hm (up _ hk)
  · intro D l h' tk hnew hl em hk
    refine hQ D l h' tk ?_ hl em (up _ hk)
    cases e : s₁.heap.get? D with
    | none => rfl
    | some o' => exact absurd (hnew.symm.trans (Heap.get?_push_of_some _ e)) (by simp)

def isStr (x : Str) (v : Value) : Prop := ∃ u, v = .str x u
theorem isStr_inj : ∀ a b v, isStr a v → isStr b v → a = b := by
  rintro a b v ⟨u, rfl⟩ ⟨u', h⟩
  simp at h
  exact h.1

def isInt (x : Int) (v : Value) : Prop := ∃ u, v = .int x u
theorem isInt_inj : ∀ a b v, isInt a v → isInt b v → a = b := by
  rintro a b v ⟨u, rfl⟩ ⟨u', h⟩
  simp at h
  exact h.1

/-- a comprehension over a list -/
theorem comp_list {α : Type} {elt iter : Expr} {nm : Str} {px : Pos} {ifs : List Expr} {scope : Scope} {pos : Pos} {Q : Value → Shared → Prop}
    (is : α → Value → Prop) (inj : ∀ a b v, is a v → is b v → a = b) (p : α → Bool) (f : α → Str)
    (hh : A.handled = none) (hfree : ∀ y ∈ scope.names, y.2 ≠ .free) (hcell : ∀ y ∈ scope.names, y.2 ≠ .cell) (hkind : scope.kind = .function)
    (hnames : ∀ y ∈ scope.names, y.2 = .local → scope.names.lookup y.1 = some .local) (hx : scope.names.lookup nm = some .local)
    (h : wpAny (model prog w) A (eval iter env) (fun xv s₁ => ∃ (ax : Addr) (vs : List Value) (as : List α), xv = .ref ax ∧ s₁.heap.IsList ax vs.toArray ∧ vs.length = as.length ∧ as.length ≤ sizeLine ∧
      (∀ (i : Nat) v, vs[i]? = some v → ∃ a, as[i]? = some a ∧ is a v) ∧
      (∀ C a v s₃ m₃ E', a ∈ as → is a v → s₃.heap.Ns C m₃ → m₃ nm = some v → (∀ b o, s₁.heap.get? b = some o → s₃.heap.get? b = some o) →
        wpAny (model prog w) A (testsOf ifs (compEnv scope C env)) (fun ok s₄ => ok = p a ∧ Keeps s₃ s₄) E' s₃) ∧
      (∀ C a v s₃ m₃ E', a ∈ as → is a v → p a = true → s₃.heap.Ns C m₃ → m₃ nm = some v → (∀ b o, s₁.heap.get? b = some o → s₃.heap.get? b = some o) →
        wpAny (model prog w) A (eval elt (compEnv scope C env)) (fun y s₄ => (∃ u, y = .str (f a) u) ∧ Keeps s₃ s₄) E' s₃) ∧
      (∀ D l h' tk, s₁.heap.get? D = none → h'.PlainList D (strValues l).toArray → l.map (·.1) = (as.filter p).map f →
        (∀ b o, s₁.heap.get? b = some o → h'.get? b = some o) → Q (.ref D) { s₁ with heap := h', toks := tk })) E s)
    (hs : ∀ x, foldedSetIterable iter env x = pure x := by intro _; rfl) :
    wpAny (model prog w) A (eval (.ListComp elt [⟨.Name nm px, iter, ifs, 0⟩] scope pos) env) Q E s := by
  refine comp_gen is inj p f hfree hcell hkind hnames hx (wpAny_mono h (fun xv s₁ h₁ => ?_) fun _ _ e => e) hs
  obtain ⟨ax, vs, as, rfl, hl, hlen, hsz, hP, htests, helt, hQ⟩ := h₁
  have hlt : ax < s₁.heap.objs.size := by obtain ⟨_, e, _⟩ := hl; exact Heap.lt_size e
  refine wpAny_pyIter_list hl ?_
  have up : ∀ (h' : Heap), (∀ b o, b ∉ [s₁.heap.objs.size] → (s₁.heap.push { cls := .type "list_iterator", data := .fields #[.ref ax, .int 0 0] }).get? b = some o → h'.get? b = some o) → ∀ b o, s₁.heap.get? b = some o → h'.get? b = some o :=
    fun h' hk b o' e => hk b o' (old_not_new e) (Heap.get?_push_of_some _ e)
  refine ⟨as, s₁.heap.objs.size, [s₁.heap.objs.size, ax], [s₁.heap.objs.size], (fun i v => vs.toArray[i]? = some v), (fun i h => h.IsListIter s₁.heap.objs.size ax i ∧ h.IsList ax vs.toArray), rfl, ?_, hsz, ⟨⟨_, Heap.get?_push_size _ rfl, rfl, rfl⟩, hl.push _⟩, ?_, ?_, ?_, ?_, ?_⟩
  · rw [← hlen, ← List.size_toArray]
    exact Walks.list hh _ _ (Nat.ne_of_lt hlt) vs.toArray
  · intro b hb
    show b < (s₁.heap.push _).objs.size
    rw [Heap.size_push]
    rcases List.mem_cons.mp hb with rfl | hb
    · exact Nat.lt_succ_self _
    · rw [List.mem_singleton.mp hb]; exact Nat.lt_succ_of_lt hlt
  · intro i v hv
    exact hP i v (by simpa using hv)
  · intro C a v s₃ m₃ E' ha hi hn hm hk
    exact htests C a v s₃ m₃ E' ha hi hn hm (up _ hk)
  · intro C a v s₃ m₃ E' ha hi hp hn hm hk
    exact helt C a v s₃ m₃ E' ha hi hp hn hm (up _ hk)
  · intro D l h' tk hnew hl' em hk
    refine hQ D l h' tk ?_ hl' em (up _ hk)
    cases e : s₁.heap.get? D with
    | none => rfl
    | some o' => exact absurd (hnew.symm.trans (Heap.get?_push_of_some _ e)) (by simp)
end
end Mine

namespace Mine

/-- a sign by its name -/
def wrS (c : Nat) : Str := if c = 38 then "&amp;" else if c = 60 then "&lt;" else if c = 62 then "&gt;" else ⟨#[c]⟩

theorem wrS_len (c : Nat) : (wrS c).length ≤ 5 := by
  unfold wrS
  split
  · decide
  · split
    · decide
    · split
      · decide
      · show (1 : Nat) ≤ 5; decide

theorem foldl_len_le (sep : Str) (k : Nat) : ∀ (l : List Str) (a : Nat), (∀ x ∈ l, x.length ≤ k) → l.foldl (fun x y => x + y.length + sep.length) a ≤ a + l.length * (k + sep.length)
  | [], a, _ => by simp
  | x :: l, a, h => by
    have h1 := h x (List.mem_cons_self ..)
    have h2 := foldl_len_le sep k l (a + x.length + sep.length) fun y hy => h y (List.mem_cons_of_mem _ hy)
    simp only [List.foldl_cons, List.length_cons]
    rw [Nat.succ_mul]
    omega

theorem joinOk_of {sep : Str} {l : List Str} (k n : Nat) (h : ∀ x ∈ l, x.length ≤ k) (hl : l.length ≤ n) (hb : n * (k + sep.length) ≤ 16777216) : JoinOk sep l = true := by
  unfold JoinOk
  rw [← Array.foldl_toList]
  have h1 := foldl_len_le sep k l 0 h
  have h2 : l.length * (k + sep.length) ≤ n * (k + sep.length) := Nat.mul_le_mul_right _ hl
  have : Builtin.Str.tooLong (l.foldl (fun x y => x + y.length + sep.length) 0) = false := by
    unfold Builtin.Str.tooLong sizeLine
    exact decide_eq_false (by omega)
  simpa using this

def writtenS (x : Str) : Str := Txt.join "" (x.cps.toList.map wrS)

theorem strEq {a b : Str} (h : a.cps = b.cps) : a = b := by
  cases a; cases b; simp at h; rw [h]

section
variable {prog : Program} {w : World} {A : Around} {E : Value → Shared → Prop} {s : Shared} {mg mb : Str → Option Value} {env : Env}

/-- the name of a comprehension -/
theorem ldC {scope : Scope} {C : Addr} {n : Str} {pos : Pos} {m : Str → Option Value} {v : Value} {Q : Value → Shared → Prop} (hn : s.heap.Ns C m) (hv : m n = some v) (h : Q v s)
    (hk : scope.kind = .function := by rfl) (hl : scope.names.lookup n = some .local := by rfl) (hd : (n == ("__debug__" : Str)) = false := by decide) :
    wpAny (model prog w) A (eval (.Name n pos) (compEnv scope C env)) Q E s :=
  wpAny_Name (wpAny_loadName_local (env := compEnv scope C env) hk hl hn hv h) hd

theorem occ_lit {c i : Nat} (h : c = 38 ∧ i = 0 ∨ c = 60 ∧ i = 1 ∨ c = 62 ∧ i = 2) : Builtin.Str.occurrences "&<>" ⟨#[c]⟩ 0 (Str.length "&<>") 1 = [i] := by
  rcases h with ⟨rfl, rfl⟩ | ⟨rfl, rfl⟩ | ⟨rfl, rfl⟩ <;> decide +kernel

theorem written_spec {x : Str} {t : Tok} (G : Gd w mg mb s.heap) (hroom : A.depth < recursionLimit) (hh : A.handled = none) (hx : x.length ≤ 100000) :
    wpAny (model prog w) A (call (.ref 66) [.str x t]) (fun v s' => (∃ u, v = .str (writtenS x) u) ∧ Keeps s s') E s := by
  refine call_of G hroom rfl rfl rfl rfl rfl rfl (fun s₁ X _ => ?_) rfl rfl rfl
  refine wpAny_execs_cons (wpAny_Return_some (join_call se_ListComp1 rfl ?_))
  rintro s₀ ⟨tk, rfl⟩
  have X' := X.tok tk
  refine comp_signs (fun _ => true) wrS hh (by decide) (by decide) rfl (by decide) rfl ?_
  refine ldI X' rfl rfl rfl ?_ rfl
  refine ⟨x, t, rfl, ?_, ?_, ?_, ?_⟩
  · unfold sizeLine; omega
  · intro C c u s₃ m₃ E' hc hn hm hk
    exact wpAny_pure ⟨rfl, keepsRefl _⟩
  · intro C c u s₃ m₃ E' hc _ hn hm hk
    refine wpAny_IfExp (wpAny_isTrue_Compare1 (ldC hn hm (wpAny_Constant_str (in_str ?_)) rfl rfl rfl) rfl)
    rw [StrLaws.found_one]
    refine wpAny_truthy_bool ?_
    by_cases hcc : c ∈ (Str.ofString "&<>").cps.toList
    · rw [if_pos (decide_eq_true hcc)]
      refine Subscript_ (wpAny_List ?_)
      refine wpAny_items_cons (wpAny_Constant_str (wpAny_items_cons (wpAny_Constant_str (wpAny_items_cons (wpAny_Constant_str (wpAny_items_nil ⟨by show 3 ≤ sizeLine; decide, ?_⟩)) se_Const)) se_Const)) se_Const
      have hcases : c = 38 ∨ c = 60 ∨ c = 62 := by
        have : (Str.ofString "&<>").cps.toList = [38, 60, 62] := by decide +kernel
        rw [this] at hcc
        simpa using hcc
      refine Call_method1 ?qa ?qb ?qc ?_
      case qa => exact ab_Const
      case qb => exact se_Name1
      case qc => exact rfl
      refine wpAny_Constant_str ?_
      refine ⟨"str", "str.index", F.plainAttrs_str, F.slot_str_index, F.type_str_index, typeIs_str _ _ _, (fun _ e => nomatch e), ?_⟩
      refine Calls.callWith_builtin rfl (Calls.evalArgs_plain (Calls.spliced_cons (ldC (m := m₃) ?_ hm (Calls.spliced_nil ?_) rfl rfl rfl)))
      · exact hn.keeps fun b o e => Heap.get?_push_of_some _ e
      obtain ⟨i, hi⟩ : ∃ i, c = 38 ∧ i = 0 ∨ c = 60 ∧ i = 1 ∨ c = 62 ∧ i = 2 := by
        rcases hcases with h | h | h
        · exact ⟨0, .inl ⟨h, rfl⟩⟩
        · exact ⟨1, .inr (.inl ⟨h, rfl⟩)⟩
        · exact ⟨2, .inr (.inr ⟨h, rfl⟩)⟩
      refine SC.index (occ_lit hi) ?_
      have hL : ∀ (tk : Nat) vs, ({ s₃ with heap := s₃.heap.push { cls := .type "list", data := .seq vs }, toks := tk } : Shared).heap.IsList s₃.heap.objs.size vs := fun tk vs =>
        ⟨_, Heap.get?_push_size _ rfl, rfl, _, rfl⟩
      refine tail_any (Heap.IsList.typeIs (hL _ _)) slot_list_getitem.lookup ?_ (by with_unfolding_all rfl)
      have fin : ∀ y u', y = .str (wrS c) u' → ∀ h' tk, (∀ b o, s₃.heap.get? b = some o → h'.get? b = some o) → (∃ u, y = Value.str (wrS c) u) ∧ Keeps s₃ { s₃ with heap := h', toks := tk } := fun y u' e h' tk hk => ⟨⟨_, e⟩, h', tk, rfl, hk⟩
      rcases hi with ⟨rfl, rfl⟩ | ⟨rfl, rfl⟩ | ⟨rfl, rfl⟩
      · exact wpAny_getItem_list (hL _ _) (by decide) (by decide) rfl (fin _ _ rfl _ _ fun b o e => Heap.get?_push_of_some _ e)
      · exact wpAny_getItem_list (hL _ _) (by decide) (by decide) rfl (fin _ _ rfl _ _ fun b o e => Heap.get?_push_of_some _ e)
      · exact wpAny_getItem_list (hL _ _) (by decide) (by decide) rfl (fin _ _ rfl _ _ fun b o e => Heap.get?_push_of_some _ e)
    · rw [if_neg (by rw [decide_eq_false hcc]; exact Bool.false_ne_true)]
      have : (Str.ofString "&<>").cps.toList = [38, 60, 62] := by decide +kernel
      rw [this] at hcc
      simp at hcc
      refine ldC (m := m₃) hn hm ⟨⟨u, ?_⟩, keepsTok _ _⟩ rfl rfl rfl
      unfold wrS
      rw [if_neg hcc.1, if_neg hcc.2.1, if_neg hcc.2.2]
  · intro D l h' tk' hnew hl em hk
    have em' : l.map (·.1) = x.cps.toList.map wrS := by rw [em, List.filter_eq_self.mpr fun _ _ => rfl]
    refine ⟨D, l, rfl, hl.isList, ?_, fun t' k => ?_⟩
    · rw [em']
      refine joinOk_of 5 100000 ?_ ?_ (by decide)
      · intro y hy
        obtain ⟨c, _, rfl⟩ := List.mem_map.mp hy
        exact wrS_len c
      · rw [List.length_map, Array.length_toList]; exact hx
    · rw [em']
      exact ⟨⟨t', rfl⟩, inCallKeeps X' ⟨h', k, rfl, hk⟩⟩
end
end Mine

namespace Mine

def toL (x : Str) : List Nat := x.cps.toList

theorem glued_toL (sep : Str) : ∀ (l : List Str) (a : Array Nat), (l.foldl (fun acc p => acc ++ sep.cps ++ p.cps) a).toList = a.toList ++ l.flatMap fun p => toL sep ++ toL p
  | [], a => by simp
  | p :: l, a => by
    rw [List.foldl_cons, glued_toL sep l]
    simp [toL]

theorem join_nil (sep : Str) : toL (Txt.join sep []) = [] := by
  unfold Txt.join Builtin.Str.glued toL
  rfl
theorem join_cons (sep x : Str) (l : List Str) : toL (Txt.join sep (x :: l)) = toL x ++ l.flatMap fun p => toL sep ++ toL p := by
  unfold Txt.join Builtin.Str.glued
  rw [List.drop_succ_cons, List.drop_zero]
  exact glued_toL sep l _

theorem toL_empty : toL (Str.ofString "") = [] := by decide +kernel

theorem join_empty : ∀ l : List Str, toL (Txt.join "" l) = l.flatMap toL
  | [] => join_nil _
  | x :: l => by
    rw [join_cons, toL_empty]
    simp

theorem toL_length (x : Str) : (toL x).length = x.length := by
  unfold toL
  rw [Array.length_toList]
  rfl

theorem toL_append (a b : Str) : toL (a ++ b) = toL a ++ toL b := by
  unfold toL
  rw [Str.cps_append]
  simp

theorem toL_inj {a b : Str} (h : toL a = toL b) : a = b := by
  apply Str.ext'
  exact Array.toList_inj.mp h

theorem toL_one (c : Nat) : toL ⟨#[c]⟩ = [c] := rfl

theorem flat_len {k : Nat} : ∀ l : List Str, (∀ x ∈ l, x.length ≤ k) → (l.flatMap toL).length ≤ l.length * k
  | [], _ => by simp
  | x :: l, h => by
    have h1 := h x (List.mem_cons_self ..)
    have h2 := flat_len l fun y hy => h y (List.mem_cons_of_mem _ hy)
    rw [List.flatMap_cons, List.length_append, toL_length, List.length_cons, Nat.succ_mul]
    omega

theorem join_empty_len {k : Nat} (l : List Str) (h : ∀ x ∈ l, x.length ≤ k) : (Txt.join "" l).length ≤ l.length * k := by
  rw [← toL_length, join_empty]
  exact flat_len l h
end Mine

namespace Mine

theorem slice1 (x : Str) : (Txt.slice x (some 1) none).cps.toList = x.cps.toList.drop 1 := by
  by_cases h : 1 ≤ x.length
  · have e : Builtin.Str.strSliceIndices (some 1) none 1 x.length = Builtin.Str.strSliceIndices (some ((1 : Nat) : Int)) (some ((x.length : Nat) : Int)) 1 x.length := by
      unfold Builtin.Str.strSliceIndices
      simp
      rw [if_neg (by omega)]
      congr 1
      omega
    unfold Txt.slice
    rw [e, StrLaws.strSliceIndices_plain h (Nat.le_refl _)]
    have hl : ((List.range (x.length - 1)).map fun k => 1 + k).length = x.length - 1 := by simp
    rw [hl, if_neg (by simp; omega)]
    show (List.filterMap (fun i => x.cps[i]?) _).toArray.toList = _
    rw [List.toList_toArray]
    have := StrLaws.picks x.cps.toList (x.length - 1) 1 (by rw [Array.length_toList]; show 1 + (x.length - 1) ≤ x.length; omega)
    simp only [Array.getElem?_toList] at this
    rw [this]
    rw [List.take_of_length_le]
    rw [List.length_drop, Array.length_toList]
    exact Nat.le_refl _
  · have h0 : x.length = 0 := by omega
    have hx : x.cps = #[] := Array.eq_empty_of_size_eq_zero h0
    have hle := Txt.slice_le x (some 1) none
    have h2 : (Txt.slice x (some 1) none).length = 0 := by omega
    have h3 : (Txt.slice x (some 1) none).cps = #[] := Array.eq_empty_of_size_eq_zero h2
    rw [h3, hx]
    rfl

/-- the first sign of a word, great -/
def gr0 (c : Nat) : Str := if c = 97 then "A" else ⟨#[c]⟩
/-- another sign of a word, small -/
def gr1 (c : Nat) : Str := if c = 66 then "b" else ⟨#[c]⟩
def greatS (x : Str) : Str := gr0 (x.cps.getD 0 0) ++ Txt.join "" ((x.cps.toList.drop 1).map gr1)

theorem gr1_len (c : Nat) : (gr1 c).length ≤ 1 := by
  unfold gr1
  split
  · decide
  · exact Nat.le_refl 1
theorem gr0_len (c : Nat) : (gr0 c).length ≤ 1 := by
  unfold gr0
  split
  · decide
  · exact Nat.le_refl 1

theorem one_beq (c d : Nat) : ((⟨#[c]⟩ : Str) == ⟨#[d]⟩) = decide (c = d) := by
  by_cases h : c = d
  · subst h; simp
  · rw [decide_eq_false h]
    simpa using h

theorem item0 {x : Str} (h : 0 < x.length) : Txt.item x 0 = ⟨#[x.cps.getD 0 0]⟩ := by
  unfold Txt.item Txt.charAt
  have h' : 0 < x.cps.size := h
  have : seqIndex? 0 x.length = some 0 := by
    unfold seqIndex?
    simp
    omega
  rw [this]
  simp [h']

theorem keptKeep (h₀ : Heap) : KeptH fun h => ∀ b o, h₀.get? b = some o → h.get? b = some o :=
  fun _ _ hk b o e => Heap.get?_push_of_some _ (hk b o e)

section
variable {prog : Program} {w : World} {A : Around} {E : Value → Shared → Prop} {s : Shared} {mg mb : Str → Option Value} {env : Env}

/-- v[1:] of a text -/
theorem slice_call {v : Expr} {k0 : Nat} {p0 p1 p2 : Pos} {Q : Value → Shared → Prop}
    (h : wpAny (model prog w) A (eval v env) (fun xv s₁ => ∃ x t, xv = .str x t ∧ x.length ≤ sizeLine ∧
      ∀ h' t' k, (∀ b o, s₁.heap.get? b = some o → h'.get? b = some o) → Q (.str (Txt.slice x (some 1) none) t') { s₁ with heap := h', toks := k }) E s)
    (ht : ∀ x t r, letTemporaryGo v (.str x t) r = pure ()) :
    wpAny (model prog w) A (eval (.Subscript v (.Slice (some (.Constant (.int 1) k0 p0)) none none p1) p2) env) Q E s := by
  refine Subscript_ (wpAny_mono h (fun xv s₁ h₁ => ?_) fun _ _ e => e)
  obtain ⟨x, t, rfl, hsz, hq⟩ := h₁
  refine wpAny_Slice ?_
  show wpAny (model prog w) A (eval (.Constant (.int 1) k0 p0) env) _ _ _
  refine wpAny_Constant_int ?_
  refine wpAny_pure ?_
  refine wpAny_pure ?_
  have hs : subscripted (.Slice (some (.Constant (.int 1) k0 p0)) none none p1) false (.str x t) (.ref s₁.heap.objs.size) = operate [.ref s₁.heap.objs.size, .str x t] (getItem (.str x t) (.ref s₁.heap.objs.size)) := by with_unfolding_all rfl
  exact tail_of_ItemOn (SBH.sliceItem_sn (s := { s₁ with toks := s₁.toks + 1 }) (P := fun h => ∀ b o, s₁.heap.get? b = some o → h.get? b = some o) (keptKeep _) (fun _ _ e => e) (fun h' t' k' hk => hq h' t' k' hk) hsz) hs (ht x t)

theorem great_spec {x : Str} {t : Tok} (G : Gd w mg mb s.heap) (hroom : A.depth < recursionLimit) (hh : A.handled = none) (hx : x.length ≤ 100000) (hpos : 0 < x.length) :
    wpAny (model prog w) A (call (.ref 61) [.str x t]) (fun v s' => (∃ u, v = .str (greatS x) u) ∧ Keeps s s') E s := by
  refine call_of G hroom rfl rfl rfl rfl rfl rfl (fun s₁ X _ => ?_) rfl rfl rfl
  refine wpAny_execs_cons (wpAny_Return_some ?_)
  refine wpAny_BinOp ?_
  -- the first sign
  have first : ∀ (s₂ : Shared) (Q : Value → Shared → Prop) (E' : Value → Shared → Prop) (k0 : Nat) (p0 p1 p2 : Pos), (∃ tk, s₂ = { s₁ with toks := tk }) →
      (∀ t' tk, Q (.str ⟨#[x.cps.getD 0 0]⟩ t') { s₁ with toks := tk }) →
      wpAny (model prog w) (A.deeper (callEnv (fnAt w.params 61) s.heap.objs.size 61)) (eval (.Subscript (.Name "word" p1) (.Constant (.int 0) k0 p0) p2) (callEnv (fnAt w.params 61) s.heap.objs.size 61)) Q E' s₂ := by
    rintro s₂ Q E' k0 p0 p1 p2 ⟨tk, rfl⟩ hq
    refine Subscript_ ?_
    refine ldI (X.tok tk) rfl rfl rfl ?_ rfl
    refine wpAny_Constant_int ?_
    refine item_str (by decide) (by omega) (by omega) (fun _ => ?_)
    rw [item0 hpos]
    exact hq _ _
  refine wpAny_mono (Q := fun v s₂ => (∃ u tk, v = .str (gr0 (x.cps.getD 0 0)) u ∧ s₂ = { s₁ with toks := tk })) ?_ (fun v s₂ h₂ => ?_) fun _ _ e => e
  · refine wpAny_IfExp ?_
    refine wpAny_isTrue_Compare1 ?_ rfl
    refine first s₁ _ _ _ _ _ _ ⟨_, rfl⟩ fun t' tk => ?_
    refine wpAny_Constant_str (eq_str ?_)
    refine wpAny_truthy_bool ?_
    have e : (Str.ofString "a") = ⟨#[97]⟩ := by decide +kernel
    rw [e, one_beq]
    by_cases hc : x.cps.getD 0 0 = 97
    · rw [if_pos (decide_eq_true hc)]
      have e0 : gr0 (x.cps.getD 0 0) = Str.ofString "A" := by rw [gr0, if_pos hc]
      rw [e0]
      exact wpAny_Constant_str ⟨_, _, rfl, rfl⟩
    · rw [if_neg (by rw [decide_eq_false hc]; exact Bool.false_ne_true)]
      have e0 : gr0 (x.cps.getD 0 0) = ⟨#[x.cps.getD 0 0]⟩ := by rw [gr0, if_neg hc]
      rw [e0]
      exact first _ _ _ _ _ _ _ ⟨_, rfl⟩ fun t' tk => ⟨_, _, rfl, rfl⟩
  obtain ⟨u, tk, rfl, rfl⟩ := h₂
  refine join_call se_ListComp1 rfl ?_
  rintro s₀ ⟨tk', rfl⟩
  have X' := X.tok tk'
  refine comp_signs (fun _ => true) gr1 hh (by decide) (by decide) rfl (by decide) rfl ?_
  refine slice_call ?_ (by intro _ _ _; rfl)
  refine ldI X' rfl rfl rfl ?_ rfl
  refine ⟨x, t, rfl, (by unfold sizeLine; omega), fun h' t' k hk => ?_⟩
  refine ⟨_, _, rfl, ?_, ?_, ?_, ?_⟩
  · have := Txt.slice_le x (some 1) none
    unfold sizeLine; omega
  · intro C c u s₃ m₃ E' hc hn hm hk
    exact wpAny_pure ⟨rfl, keepsRefl _⟩
  · intro C c u s₃ m₃ E' hc _ hn hm hk
    refine wpAny_IfExp ?_
    refine wpAny_isTrue_Compare1 ?_ rfl
    refine ldC hn hm ?_ rfl rfl rfl
    refine wpAny_Constant_str (eq_str ?_)
    have e : (Str.ofString "B") = ⟨#[66]⟩ := by decide +kernel
    rw [e, one_beq]
    refine wpAny_truthy_bool ?_
    by_cases hc : c = 66
    · rw [if_pos (decide_eq_true hc)]
      have e0 : gr1 c = Str.ofString "b" := by rw [gr1, if_pos hc]
      rw [e0]
      exact wpAny_Constant_str ⟨⟨_, rfl⟩, keepsTok _ _⟩
    · rw [if_neg (by rw [decide_eq_false hc]; exact Bool.false_ne_true)]
      have e0 : gr1 c = ⟨#[c]⟩ := by rw [gr1, if_neg hc]
      rw [e0]
      exact ldC (m := m₃) hn hm ⟨⟨_, rfl⟩, keepsTok _ _⟩ rfl rfl rfl
  · intro D l h'' tk'' hnew hl em hk'
    have em' : l.map (·.1) = (x.cps.toList.drop 1).map gr1 := by rw [em, List.filter_eq_self.mpr fun _ _ => rfl, slice1]
    have hk1 : ∀ y ∈ (x.cps.toList.drop 1).map gr1, y.length ≤ 1 := by
      intro y hy
      obtain ⟨c, _, rfl⟩ := List.mem_map.mp hy
      exact gr1_len c
    have hn1 : ((x.cps.toList.drop 1).map gr1).length ≤ 100000 := by
      rw [List.length_map, List.length_drop, Array.length_toList]
      have : x.cps.size ≤ 100000 := hx
      omega
    have hok : JoinOk "" ((x.cps.toList.drop 1).map gr1) = true := joinOk_of 1 100000 hk1 hn1 (by decide)
    refine ⟨D, l, rfl, hl.isList, ?_, fun t' k => ?_⟩
    · rw [em']; exact hok
    · rw [em']
      refine add_str (fun t'' k' => ?_) ?_
      · refine ⟨⟨_, rfl⟩, inCallKeeps X' ⟨h'', k', rfl, fun b o e => hk' b o (hk b o e)⟩⟩
      · have h1 := gr0_len (x.cps.getD 0 0)
        have h2 := join_empty_len _ hk1
        unfold sizeLine
        omega
end
end Mine

namespace Mine

section
variable {prog : Program} {w : World} {A : Around} {E : Value → Shared → Prop} {s s₀ : Shared} {mg mb : Str → Option Value} {L : Addr} {m : Str → Option Value}

theorem setItem_last {l : Addr} {items : Array Value} {t : Tok} {v : Value} {Q : Unit → Shared → Prop} (hl : s.heap.PlainList l items) (hpos : 0 < items.size)
    (hQ : ∀ h', h'.PlainList l (items.setIfInBounds (items.size - 1) v) → Heap.SameBut l s.heap h' → Q () { s with heap := h' }) :
    wpAny (model prog w) A (setItem (.ref l) (.int (-1) t) v) Q E s := by
  obtain ⟨n, ho⟩ := hl
  have hT : s.TypeIs (.ref l) "list" := ⟨_, ho, rfl⟩
  unfold setItem
  try with_reducible refine wpAny_holding ?_
  first | refine wpAny_bind (wpAny_pure ?_) | skip
  refine wpAny_bind (wpAny_sequenceKey hT (by decide) ?_)
  refine wpAny_bind (wpAny_callSpecial?_slot (name := Str.ofString "__setitem__") hT slot_list_setitem
    (wpAny_call_entry slot_list_setitem hT entry_list_setitem ?_ (args_list_setitem _ _ _)))
  show wpAny _ _ (Builtin.List.listSubscript? (.int (-1) t) >>= _) _ _ s
  refine wpAny_bind (wpAny_listSubscript_int (fitsIndex_neg (by decide) (by decide)) ?_)
  have hidx : seqIndex? (Int.negSucc 0) items.size = some (items.size - 1) := by
    have := seqIndex_neg (k := -1) (n := items.size) (by decide) (by omega)
    rw [show (Int.negSucc 0) = (-1 : Int) from rfl, this]
    congr 1
    omega
  show wpAny _ _ ((Builtin.List.listItems (.ref l) >>= fun xs => pure ((seqIndex? (Int.negSucc 0) xs.size).bind fun i => xs[i]?.map (i, ·))) >>= _) _ _ s
  refine wpAny_bind (wpAny_bind ?_)
  show wpAny _ _ (seqItems? (.ref l) >>= _) _ _ s
  refine wpAny_bind (wpAny_seqItems ho rfl (wpAny_pure (wpAny_pure ?_)))
  have hlt : items.size - 1 < items.size := by omega
  rw [hidx]
  simp only [Option.bind_some, Array.getElem?_eq_getElem hlt, Option.map_some]
  show wpAny _ _ (setSeqItemAt l (items.size - 1) v >>= _) _ _ s
  have hfin : (s.heap.update l (Obj.mapSeq (·.setIfInBounds (items.size - 1) v))).PlainList l (items.setIfInBounds (items.size - 1) v) := by
    exact ⟨_, Heap.get?_update_self _ ho (Obj.isFreed_of_seq rfl)⟩
  refine wpAny_bind (wpAny_setSeqItemAt ho rfl ?_)
  first
    | exact wpAny_bind (wpAny_pure (wpAny_pure ⟨.none, rfl, wpAny_pure (hQ _ hfin (Heap.SameBut.update ..))⟩))
    | exact wpAny_pure ⟨.none, rfl, wpAny_pure (hQ _ hfin (Heap.SameBut.update ..))⟩

theorem inCallBut {D : Addr} {h' : Heap} {tk : Nat} (x : InCall s₀ L m s) (hs : Heap.SameBut D s.heap h') (hL : L ≠ D) (hD : s₀.heap.get? D = none) : InCall s₀ L m { s with heap := h', toks := tk } := by
  refine ⟨let ⟨_, _, e⟩ := x.same; ⟨h', tk, by rw [e]⟩, x.ns.sameBut hs hL, fun b o e => hs.extBut b o ?_ (x.keep b o e), x.fresh⟩
  rintro rfl
  rw [hD] at e
  cases e

theorem stI2 {fd : FuncData} {a : Addr} {n : Str} {v : Value} {Q : Unit → Shared → Prop} (x : InCall s₀ L m s) (hl : (callEnv fd L a).kindOf n = some .local)
    (hp : ((callEnv fd L a).scope.kind == .class || ((callEnv fd L a).scope.kind == .module && (callEnv fd L a).locals != (callEnv fd L a).globals)) = false)
    (h : ∀ h' tk, InCall s₀ L (fun y => if y = n then some v else m y) { s with heap := h', toks := tk } → Heap.SameBut L s.heap h' → Q () { s with heap := h', toks := tk }) :
    wpAny (model prog w) A (storeName (callEnv fd L a) n v) Q E s := by
  refine wpAny_storeName_local (env := callEnv fd L a) hl x.ns (fun h' hn' hs' => h h' _ ⟨?_, hn', fun b o e => ?_, x.fresh⟩ hs') hp
  · obtain ⟨h₁, tk, e⟩ := x.same
    exact ⟨h', s.toks + 1, by rw [e]⟩
  · exact hs'.extBut b o (Nat.ne_of_lt (Nat.lt_of_lt_of_le (Heap.lt_size e) x.fresh)) (x.keep b o e)
end

theorem push_strs (l : List (Str × Tok)) (y : Str) (u : Tok) : (strValues l).toArray.push (.str y u) = (strValues (l ++ [(y, u)])).toArray := by
  unfold strValues
  simp

/-- the five white signs of the law -/
def wsL : List Nat := [32, 10, 13, 9, 12]

/-- one turn of _law_words -/
def stepW (p : List Str × Str) (c : Nat) : List Str × Str := if c ∈ wsL then (p.1 ++ [p.2], Str.ofString "") else (p.1, p.2 ++ ⟨#[c]⟩)
def foldW (cs : List Nat) : List Str × Str := cs.foldl stepW ([], Str.ofString "")
def wordsS (x : Str) : List Str := ((foldW x.cps.toList).1 ++ [(foldW x.cps.toList).2]).filter fun y => y != Str.ofString ""

theorem foldW_len : ∀ (cs : List Nat) (p : List Str × Str), (cs.foldl stepW p).1.length ≤ p.1.length + cs.length ∧ (cs.foldl stepW p).2.length ≤ p.2.length + cs.length
  | [], p => ⟨Nat.le_refl _, Nat.le_refl _⟩
  | c :: cs, p => by
    have h := foldW_len cs (stepW p c)
    rw [List.foldl_cons, List.length_cons]
    by_cases hc : c ∈ wsL
    · have e : stepW p c = (p.1 ++ [p.2], Str.ofString "") := if_pos hc
      rw [e] at h ⊢
      simp only [List.length_append, List.length_singleton] at h
      have h0 : (Str.ofString "").length = 0 := rfl
      rw [h0] at h
      omega
    · have e : stepW p c = (p.1, p.2 ++ ⟨#[c]⟩) := if_neg hc
      rw [e] at h ⊢
      rw [Str.length_append] at h
      have h0 : (⟨#[c]⟩ : Str).length = 1 := rfl
      rw [h0] at h
      dsimp only at h
      omega

section
variable {prog : Program} {w : World} {A : Around} {E : Value → Shared → Prop} {s : Shared} {mg mb : Str → Option Value} {env : Env}

theorem words_spec {x : Str} {t : Tok} (G : Gd w mg mb s.heap) (hroom : A.depth < recursionLimit) (hh : A.handled = none) (hx : x.length ≤ 100000) :
    wpAny (model prog w) A (call (.ref 56) [.str x t]) (fun v s' => ∃ D l, v = .ref D ∧ s'.heap.IsList D (strValues l).toArray ∧ l.map (·.1) = wordsS x ∧ Keeps s s') E s := by
  refine call_of G hroom rfl rfl rfl rfl rfl rfl (fun s₁ X _ => ?_) rfl rfl rfl
  refine wpAny_execs_cons ?_
  refine wpAny_Assign_Name ?_ rfl
  refine wpAny_List ?_
  refine wpAny_items_cons ?_ se_Const
  refine wpAny_Constant_str ?_
  refine wpAny_items_nil ⟨by show 1 ≤ sizeLine; decide, ?_⟩
  have X1 := InCall.pushedS X { cls := .type "list", data := .seq #[.str "" s₁.toks] } (s₁.toks + 1)
  have hD0 : ({ s₁ with heap := s₁.heap.push { cls := .type "list", data := .seq #[.str "" s₁.toks] }, toks := s₁.toks + 1 } : Shared).heap.PlainList s₁.heap.objs.size (strValues [((Str.ofString ""), s₁.toks)]).toArray := ⟨_, Heap.get?_push_size _ rfl⟩
  have hDL : s.heap.objs.size ≠ s₁.heap.objs.size := Nat.ne_of_lt X.ns.lt
  have hDs : s.heap.get? s₁.heap.objs.size = none := by
    cases e : s.heap.get? s₁.heap.objs.size with
    | none => rfl
    | some o => exact absurd (Heap.lt_size (X.keep _ _ e)) (Nat.lt_irrefl _)
  generalize s₁.heap.objs.size = D at hD0 hDL hDs ⊢
  refine stI2 X1 rfl rfl (fun h' tk X2 hs2 => ?_)
  have hD2 := Heap.PlainList.extBut hD0 hs2.extBut (Ne.symm hDL)
  refine wpAny_execs_cons ?_
  refine wpAny_For ?_ (by intro _; rfl)
  refine ldI X2 rfl rfl rfl ?_ rfl
  refine wpAny_pyIter_str fun o St W hst => ?_
  have X3 := InCall.pushedS X2 o tk
  have hD3 : (h'.push o).PlainList D (strValues [((Str.ofString ""), s₁.toks)]).toArray := by
    obtain ⟨n, hn⟩ := hD2
    exact ⟨n, Heap.get?_push_of_some _ hn⟩
  have hDI : D ≠ h'.objs.size := by
    obtain ⟨n, hn⟩ := hD2
    exact Nat.ne_of_lt (Heap.lt_size hn)
  have hLI : s.heap.objs.size ≠ h'.objs.size := Nat.ne_of_lt X2.ns.lt
  have hIs : s.heap.get? h'.objs.size = none := by
    cases e : s.heap.get? h'.objs.size with
    | none => rfl
    | some o => exact absurd (Heap.lt_size (X2.keep _ _ e)) (Nat.lt_irrefl _)
  have hLf : s.heap.objs.size ∉ [h'.objs.size] := fun h => hLI (List.mem_singleton.mp h)
  have hnew : ∀ b ∈ [h'.objs.size], s.heap.get? b = none := fun b hb => by rw [List.mem_singleton.mp hb]; exact hIs
  have W' := W (A.deeper (callEnv (fnAt w.params 56) s.heap.objs.size 56)) hh
  refine codeAny_forLoop (fun k s' => ∃ i m' l, i ≤ x.cps.size ∧ k = x.cps.size + 1 - i ∧ InCall s s.heap.objs.size m' s' ∧ m' (Str.ofString "words") = some (.ref D) ∧ St i s'.heap ∧
      s'.heap.PlainList D (strValues l).toArray ∧ l.map (·.1) = (foldW (x.cps.toList.take i)).1 ++ [(foldW (x.cps.toList.take i)).2]) ?_ (x.cps.size + 1)
      ⟨0, _, [((Str.ofString ""), s₁.toks)], Nat.zero_le _, rfl, X3, rfl, hst, hD3, rfl⟩ (by intro _; rfl)
  rintro k s' ⟨i, m', l, hi, rfl, X', hm', hst', hD', hl⟩
  by_cases hlt : i < x.cps.size
  · refine W'.item i _ _ _ hlt hst' fun v h₁ tk₁ hv hst₁ hk₁ => ?_
    obtain ⟨c, u, hc, rfl⟩ := hv
    have Y1 := X'.walked W' hLf hnew (tk₁ := tk₁) hk₁
    have hD₁ : h₁.PlainList D (strValues l).toArray := by
      obtain ⟨n, hn⟩ := hD'
      exact ⟨n, hk₁ _ _ (fun h => hDI (List.mem_singleton.mp h)) hn⟩
    refine wpAny_assign_Name ?_
    refine stI2 Y1 rfl rfl (fun h₂ tk₂ Y2 hs₂ => ?_)
    have hD₂ : h₂.PlainList D (strValues l).toArray := Heap.PlainList.extBut hD₁ hs₂.extBut (Ne.symm hDL)
    have hst₂ : St (i + 1) h₂ := W'.frame _ _ _ hst₁ fun b hb o e => hs₂.extBut b o (fun h => hLf (h ▸ hb)) e
    have hw₂ : (fun y => if y = Str.ofString "sign" then some (Value.str ⟨#[c]⟩ u) else m' y) (Str.ofString "words") = some (.ref D) := hm'
    have hsg₂ : (fun y => if y = Str.ofString "sign" then some (Value.str ⟨#[c]⟩ u) else m' y) (Str.ofString "sign") = some (Value.str ⟨#[c]⟩ u) := rfl
    generalize (fun y => if y = Str.ofString "sign" then some (Value.str ⟨#[c]⟩ u) else m' y) = m₂ at Y2 hw₂ hsg₂
    have htake : x.cps.toList.take (i + 1) = x.cps.toList.take i ++ [c] := by
      rw [List.take_add_one]
      have : x.cps.toList[i]? = some c := by simpa using hc
      rw [this]
      rfl
    have hfold : foldW (x.cps.toList.take (i + 1)) = stepW (foldW (x.cps.toList.take i)) c := by
      unfold foldW
      rw [htake, List.foldl_append]
      rfl
    have hlen := foldW_len (x.cps.toList.take i) ([], Str.ofString "")
    have hti : (x.cps.toList.take i).length ≤ 100000 := by
      rw [List.length_take, Array.length_toList]
      have : x.cps.size ≤ 100000 := hx
      omega
    change (foldW (x.cps.toList.take i)).1.length ≤ _ ∧ (foldW (x.cps.toList.take i)).2.length ≤ _ at hlen
    generalize hp : foldW (x.cps.toList.take i) = p at hl hfold hlen
    refine wpAny_execs_cons ?_
    refine wpAny_If ?_
    refine wpAny_isTrue_Compare1 ?_ rfl
    refine ldI Y2 rfl rfl hsg₂ ?_ rfl
    refine wpAny_Constant_str ?_
    refine in_str ?_
    rw [StrLaws.found_one]
    have ews : (Str.ofString " \n\r\t\x0c").cps.toList = wsL := by decide +kernel
    rw [ews]
    refine wpAny_truthy_bool ?_
    have hsz : (strValues l).toArray.size = p.1.length + 1 := by
      rw [List.size_toArray]
      have := congrArg List.length hl
      rw [List.length_map, List.length_append, List.length_singleton] at this
      unfold strValues
      rw [List.length_map, this]
    have hszL : (strValues l).toArray.size ≤ sizeLine := by
      rw [hsz]
      have := hlen.1
      simp only [List.length_nil] at this
      unfold sizeLine
      omega
    by_cases hcc : c ∈ wsL
    · rw [if_pos (decide_eq_true hcc)]
      have estep : stepW p c = (p.1 ++ [p.2], Str.ofString "") := if_pos hcc
      refine wpAny_execs_cons ?_
      refine wpAny_Expr ?_ rfl rfl
      refine Call_method1 ?qa ?qb ?qc ?_
      case qa => exact ab_Name
      case qb => exact se_Const1
      case qc => exact rfl
      refine ldI (Y2.tok _) rfl rfl hw₂ ?_ rfl
      refine ⟨"list", "list.append", F.plainAttrs_list, slot_list_append, type_list_append, ?_, ?_, ?_⟩
      · obtain ⟨n, hn⟩ := hD₂
        exact ⟨_, hn, rfl⟩
      · rintro a e
        cases e
        obtain ⟨n, hn⟩ := hD₂
        exact ⟨_, hn, rfl⟩
      refine Calls.callWith_builtin rfl (Calls.evalArgs_plain (Calls.spliced_cons ?_))
      refine wpAny_Constant_str ?_
      refine Calls.spliced_nil ?_
      refine wpAny_list_append_plain (s := { s' with heap := h₂, toks := _ }) hD₂ (fun h₃ hD₃ hs₃ => ?_) hszL
      rw [push_strs] at hD₃
      obtain ⟨u', hD₄⟩ : ∃ u', h₃.PlainList D (strValues (l ++ [(Str.ofString "", u')])).toArray := ⟨_, hD₃⟩
      refine wpAny_execs_nil ?_
      refine wpAny_execs_nil ?_
      refine ⟨x.cps.size + 1 - (i + 1), by omega, i + 1, m₂, l ++ [(Str.ofString "", u')], hlt, rfl, inCallBut (Y2.tok _) hs₃ hDL hDs, hw₂, ?_, hD₄, ?_⟩
      · exact W'.frame _ _ _ hst₂ fun b hb o e => hs₃.extBut b o (fun h => hDI (h ▸ List.mem_singleton.mp hb)) e
      · rw [hfold, estep, List.map_append, hl]
        rfl
    · rw [if_neg (by rw [decide_eq_false hcc]; exact Bool.false_ne_true)]
      have estep : stepW p c = (p.1, p.2 ++ ⟨#[c]⟩) := if_neg hcc
      obtain ⟨l₀, q, rfl⟩ : ∃ l₀ q, l = l₀ ++ [q] := by
        rcases List.eq_nil_or_concat l with h | ⟨l₀, q, h⟩
        · rw [h] at hl
          simp at hl
        · exact ⟨l₀, q, by rw [h, List.concat_eq_append]⟩
      obtain ⟨hl₀, hq⟩ : l₀.map (·.1) = p.1 ∧ q.1 = p.2 := by
        rw [List.map_append] at hl
        have := List.append_inj' hl rfl
        exact ⟨this.1, by simpa using this.2⟩
      have hlast : (strValues (l₀ ++ [q])).toArray[((-1 : Int) + ((strValues (l₀ ++ [q])).toArray.size : Int)).toNat]? = some (Value.str p.2 q.2) := by
        have e : ((-1 : Int) + ((strValues (l₀ ++ [q])).toArray.size : Int)).toNat = l₀.length := by
          unfold strValues
          simp
          omega
        rw [e]
        unfold strValues
        simp [hq]
      have hDL₂ : h₂.IsList D (strValues (l₀ ++ [q])).toArray := hD₂.isList
      refine wpAny_execs_cons ?_
      refine wpAny_Assign_Subscript ?_ rfl
      refine wpAny_BinOp ?_
      refine Subscript_ ?_
      refine ldI (Y2.tok _) rfl rfl hw₂ ?_ rfl
      refine wpAny_UnaryOp ?_
      refine wpAny_Constant_int ?_
      refine neg_int ?_
      refine tail_any (T := "list") ⟨_, hD₂.choose_spec, rfl⟩ slot_list_getitem.lookup ?_ (by with_unfolding_all rfl)
      refine wpAny_getItem_list_neg (s := { s' with heap := h₂, toks := _ }) hDL₂ (by decide) (by rw [hsz]; omega) (by decide) hlast ?_
      refine ldI (Y2.tok _) rfl rfl hsg₂ ?_ rfl
      refine add_str (fun t' tk' => ?_) ?_
      · refine ldI (Y2.tok _) rfl rfl hw₂ ?_ rfl
        refine wpAny_UnaryOp ?_
        refine wpAny_Constant_int ?_
        refine neg_int ?_
        refine setItem_last (s := { s' with heap := h₂, toks := _ }) hD₂ (by rw [hsz]; omega) (fun h₃ hD₃ hs₃ => ?_)
        refine wpAny_execs_nil ?_
        refine wpAny_execs_nil ?_
        refine ⟨x.cps.size + 1 - (i + 1), by omega, i + 1, m₂, l₀ ++ [(p.2 ++ ⟨#[c]⟩, t')], hlt, rfl, inCallBut (Y2.tok _) hs₃ hDL hDs, hw₂, ?_, ?_, ?_⟩
        · exact W'.frame _ _ _ hst₂ fun b hb o e => hs₃.extBut b o (fun h => hDI (h ▸ List.mem_singleton.mp hb)) e
        · have : ((strValues (l₀ ++ [q])).toArray.setIfInBounds ((strValues (l₀ ++ [q])).toArray.size - 1) (Value.str (p.2 ++ ⟨#[c]⟩) t')) = (strValues (l₀ ++ [(p.2 ++ ⟨#[c]⟩, t')])).toArray := by
            unfold strValues
            simp
          rw [← this]
          exact hD₃
        · rw [hfold, estep, List.map_append, hl₀]
          rfl
      · have := hlen.2
        have e0 : (Str.ofString "").length = 0 := rfl
        have e1 : (⟨#[c]⟩ : Str).length = 1 := rfl
        rw [e0] at this
        rw [e1]
        unfold sizeLine
        omega
  · have hin : i = x.cps.size := by omega
    subst hin
    refine W'.done _ _ _ hst' fun h₁ tk₁ hk₁ => wpAny_execs_nil ?_
    have Y1 := X'.walked W' hLf hnew (tk₁ := tk₁) hk₁
    have hD₁ : h₁.PlainList D (strValues l).toArray := by
      obtain ⟨n, hn⟩ := hD'
      exact ⟨n, hk₁ _ _ (fun h => hDI (List.mem_singleton.mp h)) hn⟩
    have hall : x.cps.toList.take x.cps.size = x.cps.toList := List.take_of_length_le (by rw [Array.length_toList]; exact Nat.le_refl _)
    rw [hall] at hl
    have hlen := foldW_len x.cps.toList ([], Str.ofString "")
    change (foldW x.cps.toList).1.length ≤ _ ∧ (foldW x.cps.toList).2.length ≤ _ at hlen
    have hll : l.length ≤ 100001 := by
      have := congrArg List.length hl
      rw [List.length_map, List.length_append, List.length_singleton] at this
      have h1 : (foldW x.cps.toList).1.length ≤ 0 + x.cps.toList.length := hlen.1
      rw [Array.length_toList] at h1
      have : x.cps.size ≤ 100000 := hx
      omega
    refine wpAny_execs_cons ?_
    refine wpAny_Return_some ?_
    refine comp_list isStr isStr_inj (fun y => y != Str.ofString "") id hh (by decide) (by decide) rfl (by decide) rfl ?_
    refine ldI Y1 rfl rfl hm' ?_ rfl
    refine ⟨D, strValues l, l.map (·.1), rfl, hD₁.isList, by unfold strValues; simp, ?_, ?_, ?_, ?_, ?_⟩
    · rw [List.length_map]
      unfold sizeLine
      omega
    · intro i v hv
      unfold strValues at hv
      rw [List.getElem?_map] at hv ⊢
      cases hq : l[i]? with
      | none => rw [hq] at hv; cases hv
      | some q =>
        rw [hq] at hv
        simp only [Option.map_some, Option.some.injEq] at hv
        exact ⟨q.1, rfl, q.2, hv.symm⟩
    · rintro C a v s₃ m₃ E' ha ⟨u, rfl⟩ hn hm hk
      refine wpAny_tests_one ?_
      refine wpAny_isTrue_Compare1 ?_ rfl
      refine ldC hn hm ?_ rfl rfl rfl
      refine wpAny_Constant_str ?_
      refine ne_str ?_
      exact wpAny_truthy_bool ⟨rfl, keepsTok _ _⟩
    · rintro C a v s₃ m₃ E' ha ⟨u, rfl⟩ hp hn hm hk
      exact ldC hn hm ⟨⟨u, rfl⟩, keepsRefl _⟩ rfl rfl rfl
    · intro D' l' h₂ tk₂ hnew' hl' em hk'
      refine ⟨D', l', rfl, hl'.isList, ?_, inCallKeeps Y1 ⟨h₂, tk₂, rfl, hk'⟩⟩
      rw [em, hl, List.map_id]
      rfl
end
end Mine

namespace Mine

namespace MF
theorem owner_map : Manifest.owners.lookup (String.ofList ['p', 'a', 'm'].reverse) = some Manifest.sig_map := by kernel_rfl
theorem slot_init : Slot "map" "__init__" "object.__init__" :=
  .of (owner := "object") (n := "__init__") (by rw [typeLookup_type, builtinLookup_eq_fast]; kernel_rfl) (by decide +kernel) (by decide +kernel) (by decide +kernel)
    (by first | exact .inl (by decide +kernel) | exact .inr (by decide +kernel)) (by rw [isSubtype_type]; kernel_rfl)
theorem slot_iter : Slot "map" "__iter__" "map.__iter__" :=
  .of (owner := "map") (n := "__iter__") (by rw [typeLookup_type, builtinLookup_eq_fast]; kernel_rfl) (by decide +kernel) (by decide +kernel) (by decide +kernel)
    (by first | exact .inl (by decide +kernel) | exact .inr (by decide +kernel)) (by rw [isSubtype_type]; kernel_rfl)
theorem slot_next : Slot "map" "__next__" "map.__next__" :=
  .of (owner := "map") (n := "__next__") (by rw [typeLookup_type, builtinLookup_eq_fast]; kernel_rfl) (by decide +kernel) (by decide +kernel) (by decide +kernel)
    (by first | exact .inl (by decide +kernel) | exact .inr (by decide +kernel)) (by rw [isSubtype_type]; kernel_rfl)
theorem args_iter (a : Value) : argsOk "map.__iter__" ⟨[a], []⟩ := by
  unfold argsOk; rw [signature?_of (id := "map.__iter__") (n := ['_', '_', 'r', 'e', 't', 'i', '_', '_']) (o := ['p', 'a', 'm']) (by kernel_rfl) owner_map]; kernel_rfl
theorem args_next (a : Value) : argsOk "map.__next__" ⟨[a], []⟩ := by
  unfold argsOk; rw [signature?_of (id := "map.__next__") (n := ['_', '_', 't', 'x', 'e', 'n', '_', '_']) (o := ['p', 'a', 'm']) (by kernel_rfl) owner_map]; kernel_rfl
theorem entry_next : entryFor table "map.__next__" = some Builtin.«map.__next__» := entryFor_of_tree (by kernel_rfl)
theorem entry_new : entryFor table "map.__new__" = some Builtin.«map.__new__» := entryFor_of_tree (by kernel_rfl)
theorem entry_iter : entryFor table "map.__iter__" = some Builtin.«dict_keyiterator.__iter__» :=
  entryFor_alias (id' := "dict_keyiterator.__iter__") (by kernel_rfl) (by first | rfl | decide +kernel | (unfold String.splitOn; simp +decide [String.splitOnAux])) (by decide +kernel) (by kernel_rfl)
theorem mro : mroOf (.type "map") = pure [.type "map", .type "object"] := by rw [mroOf_type]; kernel_rfl
theorem lookup_new : typeLookup (.type "map") "__new__" = pure (some (.builtin "map.__new__")) := by rw [typeLookup_type, builtinLookup_eq_fast]; kernel_rfl
theorem called : TypeCalled "map" "map.__new__" "object.__init__" :=
  ⟨by decide +kernel, by decide +kernel, ⟨_, _, mro⟩, madeBy_type mro lookup_new (by decide +kernel), by decide +kernel, by rw [isSubtype_type]; kernel_rfl, slot_init⟩
theorem typeCall (a b : Value) : checkTypeCall "map" ⟨[a, b], []⟩ = pure () := by kernel_rfl
theorem newCall (a b : Value) : checkBuiltinCall "map.__new__" ⟨[.type "map", a, b], []⟩ = pure () := by kernel_rfl
theorem sub : isSubtype (.type "map") (.type "map") = pure true := by rw [isSubtype_type]; kernel_rfl
theorem no_len : typeLookup (.type "map") "__len__" = pure none := by rw [typeLookup_type, builtinLookup_eq_fast]; kernel_rfl
theorem no_hint : typeLookup (.type "map") "__length_hint__" = pure none := by rw [typeLookup_type, builtinLookup_eq_fast]; kernel_rfl
end MF

abbrev IsMap (h : Heap) (M T : Addr) (f : Value) : Prop := h.get? M = some { cls := .type "map", data := .fields #[.ref T, f] }
abbrev IsOne (h : Heap) (T : Addr) (a : Value) : Prop := h.get? T = some { cls := .type "tuple", data := .seq #[a] }

abbrev mapH1 (h : Heap) (l : Addr) : Heap := h.push { cls := .type "list_iterator", data := .fields #[.ref l, .int 0 0] }
abbrev mapH2 (h : Heap) (l : Addr) : Heap := (mapH1 h l).push { cls := .type "tuple", data := .seq #[.ref h.objs.size] }
abbrev mapH3 (h : Heap) (l : Addr) (f : Value) : Heap := (mapH2 h l).push { cls := .type "map", data := .fields #[.ref (mapH1 h l).objs.size, f] }

theorem meets_map_new (f : Value) (l : Addr) (xs : Array Value) :
    Meets (Builtin.«map.__new__» ⟨[.type "map", f, .ref l], []⟩) (fun _ R s => s.heap.IsList l xs ∧
      R (.ok (.ret (.ref (mapH2 s.heap l).objs.size))) { s with heap := mapH3 s.heap l f }) :=
  .of_wp fun prog w A R s h => by
    obtain ⟨hp, g, d, tk, os⟩ := s; obtain ⟨hl, h⟩ := h
    have hsub := MF.sub
    have hL : Heap.IsList (Shared.heap ⟨hp, g, d, tk, os⟩) l xs := hl
    wp_walk using wpAny_pyIter_list hL
    exact ⟨_, rfl, h⟩

section
variable {prog : Program} {w : World} {A : Around} {E : Value → Shared → Prop} {s : Shared}

theorem call_map {f : Value} {l : Addr} {xs : Array Value} {Q : Value → Shared → Prop} (hl : s.heap.IsList l xs)
    (h : ∀ h', IsMap h' (s.heap.objs.size + 2) (s.heap.objs.size + 1) f → IsOne h' (s.heap.objs.size + 1) (.ref s.heap.objs.size) → h'.IsListIter s.heap.objs.size l 0 → h'.objs.size = s.heap.objs.size + 3 →
      (∀ c o, s.heap.get? c = some o → h'.get? c = some o) → Q (.ref (s.heap.objs.size + 2)) { s with heap := h' }) :
    wpAny (model prog w) A (call (.type "map") [f, .ref l]) Q E s := by
  refine callType_new MF.called (by decide) (MF.typeCall _ _) (MF.newCall _ _) (fun obj => F.args_object_init_3 obj _ _) MF.entry_new (meets_map_new f l xs) ⟨hl, ?_⟩
  have z1 : (mapH1 s.heap l).objs.size = s.heap.objs.size + 1 := Heap.size_push ..
  have z2 : (mapH2 s.heap l).objs.size = s.heap.objs.size + 2 := by rw [Heap.size_push, z1]
  have z3 : (mapH3 s.heap l f).objs.size = s.heap.objs.size + 3 := by rw [Heap.size_push, z2]
  have g3 : (mapH3 s.heap l f).get? (mapH2 s.heap l).objs.size = some _ := Heap.get?_push_size _ rfl
  have g2 : (mapH3 s.heap l f).get? (mapH1 s.heap l).objs.size = some _ := Heap.get?_push_of_some _ (Heap.get?_push_size _ rfl)
  have g1 : (mapH3 s.heap l f).get? s.heap.objs.size = some _ := Heap.get?_push_of_some _ (Heap.get?_push_of_some _ (Heap.get?_push_size _ rfl))
  show _ ∧ _
  rw [z1, z2] at g3
  rw [z1] at g2
  rw [z2]
  exact ⟨⟨_, g3, rfl⟩, h _ g3 g2 ⟨_, g1, rfl, rfl⟩ z3 fun c o x => Heap.get?_push_of_some _ (Heap.get?_push_of_some _ (Heap.get?_push_of_some _ x))⟩

theorem pyIter_map {M T : Addr} {f : Value} {Q : Value → Shared → Prop} (hz : IsMap s.heap M T f) (h : Q (.ref M) s) : wpAny (model prog w) A (pyIter (.ref M)) Q E s := by
  have hT : s.TypeIs (.ref M) "map" := ⟨_, hz, rfl⟩
  refine wpAny_pyIter_slot hT MF.slot_iter (wpAny_call_entry MF.slot_iter hT MF.entry_iter ?_ (MF.args_iter _))
  show wpAny _ _ (ret (.ref M)) _ _ s
  exact wpAny_pure ⟨_, rfl, "map", _, hT, MF.slot_next.lookup, h⟩
end
end Mine

namespace Mine

section
variable {prog : Program} {w : World} {A : Around} {E : Value → Shared → Prop} {s : Shared}

theorem next_map_item {M T I D : Addr} {k : Nat} {xs : Array Value} {y : Str} {u : Tok} {Q : Option Value → Shared → Prop}
    (hIM : I ≠ M) (hIT : I ≠ T) (hM : IsMap s.heap M T (.builtin "str.capitalize")) (hT : IsOne s.heap T (.ref I)) (hit : s.heap.IsListIter I D k) (hl : s.heap.IsList D xs) (hx : xs[k]? = some (.str y u))
    (hy : y.length ≤ 5592405)
    (hQ : ∀ h' t' tk, h'.IsListIter I D (k + 1) → Heap.SameBut I s.heap h' → Q (some (.str (Txt.capitalize y) t')) { s with heap := h', toks := tk }) :
    wpAny (model prog w) A (pyNext (.ref M)) Q E s := by
  have hTM : s.TypeIs (.ref M) "map" := ⟨_, hM, rfl⟩
  unfold pyNext
  refine wpAny_bind (wpAny_attempt (wpAny_callSpecial?_slot (name := Str.ofString "__next__") hTM MF.slot_next
    (wpAny_call_entry MF.slot_next hTM MF.entry_next ?_ (MF.args_next _))))
  show wpAny _ _ (field (.ref M) 0 >>= _) _ _ _
  refine wpAny_bind (wpAny_field hM rfl (x := .ref T) rfl ?_)
  refine wpAny_bind (wpAny_seqItems hT rfl ?_)
  dsimp only
  rw [← Array.forIn_toList]
  simp only [List.forIn_cons, List.forIn_nil]
  refine wpAny_bind (wpAny_bind (wpAny_bind (wpAny_holding ?_)))
  refine wpAny_nextOf_list_item hit hl hx fun h₁ hit₁ hs₁ => ?_
  refine wpAny_pure ?_
  refine wpAny_pure ?_
  have hM₁ : IsMap h₁ M T (.builtin "str.capitalize") := hs₁.extBut _ _ (Ne.symm hIM) hM
  refine wpAny_bind (wpAny_field hM₁ rfl (x := .builtin "str.capitalize") rfl ?_)
  refine wpAny_bind (wpAny_holding ?_)
  refine SCL.capitalize hy fun t' k' _ => ?_
  refine wpAny_bind (wpAny_letGo ?_)
  exact wpAny_pure ⟨_, rfl, wpAny_pure (hQ h₁ t' k' hit₁ hs₁)⟩

theorem next_map_end {M T I D : Addr} {k : Nat} {xs : Array Value} {f : Value} {Q : Option Value → Shared → Prop} (hh : A.handled = none)
    (hM : IsMap s.heap M T f) (hT : IsOne s.heap T (.ref I)) (hit : s.heap.IsListIter I D k) (hl : s.heap.IsList D xs) (hx : xs[k]? = none)
    (hQ : ∀ h', Heap.ExtBut I s.heap h' → Q none { s with heap := h' }) :
    wpAny (model prog w) A (pyNext (.ref M)) Q E s := by
  have hTM : s.TypeIs (.ref M) "map" := ⟨_, hM, rfl⟩
  unfold pyNext
  refine wpAny_bind (wpAny_attempt (wpAny_callSpecial?_slot (name := Str.ofString "__next__") hTM MF.slot_next
    (wpAny_call_entry MF.slot_next hTM MF.entry_next ?_ (MF.args_next _))))
  show wpAny _ _ (field (.ref M) 0 >>= _) _ _ _
  refine wpAny_bind (wpAny_field hM rfl (x := .ref T) rfl ?_)
  refine wpAny_bind (wpAny_seqItems hT rfl ?_)
  dsimp only
  rw [← Array.forIn_toList]
  simp only [List.forIn_cons, List.forIn_nil]
  refine wpAny_bind (wpAny_bind (wpAny_bind (wpAny_holding ?_)))
  refine wpAny_nextOf_list_end hh hit hl hx fun h₁ e hs₁ he => ?_
  obtain ⟨o, ho, hc⟩ := he
  refine wpAny_bind (wpAny_isInstance (T := "StopIteration") (b := true) ⟨o, ho, hc⟩ isSubtype_stop ?_)
  exact wpAny_pure (hQ _ hs₁)

theorem walksMap (hh : A.handled = none) (M T I D : Addr) (hIM : I ≠ M) (hIT : I ≠ T) (hID : I ≠ D) (l : List (Str × Tok)) (hy : ∀ p ∈ l, p.1.length ≤ 5592405) :
    Walks prog w A M [M, T, I, D] [I] l.length (fun i v => ∃ y u, (l.map (·.1))[i]? = some y ∧ v = .str (Txt.capitalize y) u)
      (fun i h => IsMap h M T (.builtin "str.capitalize") ∧ IsOne h T (.ref I) ∧ h.IsListIter I D i ∧ h.IsList D (strValues l).toArray) where
  sub := fun b hb => by simp at hb; simp [hb]
  frame := fun _ _ _ st hk => ⟨hk M (by simp) _ st.1, hk T (by simp) _ st.2.1, st.2.2.1.at fun o e => hk I (by simp) o e, st.2.2.2.at fun o e => hk D (by simp) o e⟩
  item := fun i s Q E hi st hQ => by
    obtain ⟨hM, hT, hit, hl⟩ := st
    have hx : (strValues l).toArray[i]? = some (.str l[i].1 l[i].2) := by
      unfold strValues
      simp [hi]
    refine next_map_item hIM hIT hM hT hit hl hx (hy _ (List.getElem_mem hi)) fun h' t' tk hit' hs' => ?_
    refine hQ _ h' tk ⟨l[i].1, t', by simp [hi], rfl⟩ ⟨hs'.extBut _ _ (Ne.symm hIM) hM, hs'.extBut _ _ (Ne.symm hIT) hT, hit', hl.extBut hs'.extBut (Ne.symm hID)⟩ fun b o hb e => hs'.extBut b o (fun h => hb (by simp [h])) e
  done := fun s Q E st hQ => by
    obtain ⟨hM, hT, hit, hl⟩ := st
    refine next_map_end hh hM hT hit hl (by unfold strValues; simp) fun h' he' => hQ h' s.toks fun b o hb e => he' b o (fun h => hb (by simp [h])) e
  self := fun _ _ _ _ st hQ => pyIter_map st.1 hQ
end
end Mine

namespace Mine

section
variable {prog : Program} {w : World} {A : Around} {E : Value → Shared → Prop} {s : Shared} {I : Addr} {fp wr : List Addr} {n : Nat} {P : Nat → Value → Prop} {St : Nat → Heap → Prop}

/-- a list of all that a map still hands out -/
theorem collect_map {Q : List Value → Shared → Prop} (W : Walks prog w A.in1 I fp wr n P St) (hT : ∀ i (s : Shared), St i s.heap → s.TypeIs (.ref I) "map") (hst : St 0 s.heap) (hfp : ∀ b ∈ fp, b < s.heap.objs.size) (hI : I ∈ fp)
    (hQ : ∀ s' acc, (∃ h' tk, s' = { s with heap := h', toks := tk } ∧ ∀ b o, b ∉ wr → s.heap.get? b = some o → h'.get? b = some o) → ItemsOf P acc n → Q acc.toList s') (hn : n ≤ sizeLine) :
    wpAny (model prog w) A (collect (.ref I)) Q E s := by
  have WS := W.toS
  have hnew : s.heap.objs.size ∉ fp := fun hm => Nat.lt_irrefl _ (hfp _ hm)
  have hne : s.heap.objs.size ≠ I := fun e => hnew (e ▸ hI)
  unfold collect
  refine wpAny_bind (wpAny_runValue (codeAny_builtin F.entry_proto_collect ?_))
  rw [Around.under_plainId F.plain_proto_collect _]
  show wpAny _ A.in1 (newList [] >>= fun l => again (.builtin "list.__iadd__" ⟨[l, .ref I], []⟩)) _ _ s
  refine wpAny_bind (wpAny_newObj_type ?_)
  refine wpAny_pure ⟨plainId_quiet F.plain_list_iadd _, codeAny_builtin F.entry_list_iadd ?_⟩
  rw [Around.under_plainId F.plain_list_iadd _]
  generalize hB : s.heap.push { cls := .type "list", data := .seq ([] : List Value).toArray } = B
  have old : ∀ b o, s.heap.get? b = some o → B.get? b = some o := fun b o e => hB ▸ Heap.get?_push_of_some _ e
  have hB0 : B.get? s.heap.objs.size = some { cls := .type "list", data := .seq ([] : List Value).toArray } := hB ▸ Heap.get?_push_size _ rfl
  have hstB : St 0 B := W.frame 0 _ _ hst fun b _ o e => old b o e
  have hTB : ∀ (tk : Nat), ({ s with heap := B, toks := tk } : Shared).TypeIs (.ref I) "map" := fun tk => hT 0 { s with heap := B, toks := tk } hstB
  show wpAny _ A.in1 (Builtin.List.listExtendWith (.ref s.heap.objs.size) (.ref I) (.ref s.heap.objs.size)) _ _ _
  unfold Builtin.List.listExtendWith
  refine wpAny_bind (wpAny_typeOf (hTB _) ?_)
  have h1 : Builtin.List.listSameRef (.ref s.heap.objs.size) (.ref I) = false := by simp [Builtin.List.listSameRef, hne]
  have h2 : (Value.type "map" == Value.type "list") = false := by decide
  have h3 : (Value.type "map" == Value.type "tuple") = false := by decide
  simp only [h1, h2, h3, Bool.or_false, Bool.false_eq_true, if_false]
  refine wpAny_bind (W.self 0 _ _ _ hstB ?_)
  refine wpAny_bind (wpAny_holding ?_)
  unfold Builtin.List.listLengthHint
  refine wpAny_bind (wpAny_specialOf (hTB _) MF.no_len ?_)
  show wpAny _ A.in1 (specialOf (Value.ref I) (Str.ofString "__length_hint__") >>= _) _ _ _
  refine wpAny_bind (wpAny_specialOf (hTB _) MF.no_hint ?_)
  refine wpAny_pure ?_
  show wpAny _ A.in1 (rule "list.extend.makes-room" >>= fun _ => Builtin.List.listTouch (.ref s.heap.objs.size) >>= fun _ =>
    again (.builtin "list.extend.loop" ⟨[.ref s.heap.objs.size, .ref I, .ref s.heap.objs.size], []⟩)) _ _ _
  refine wpAny_bind (wpAny_rule ?_)
  refine wpAny_bind ?_
  show wpAny _ A.in1 (updateSeq s.heap.objs.size (·.push .none) >>= fun _ => updateSeq s.heap.objs.size (·.pop)) _ _ _
  refine wpAny_bind (wpAny_updateSeq hB0 rfl ?_)
  have hB1 := Heap.get?_update_self (Obj.mapSeq (·.push Value.none)) hB0 rfl
  refine wpAny_updateSeq hB1 rfl ?_
  have hB2 := Heap.get?_update_self (Obj.mapSeq (·.pop)) hB1 rfl
  generalize hC : (B.update s.heap.objs.size (Obj.mapSeq (·.push Value.none))).update s.heap.objs.size (Obj.mapSeq (·.pop)) = C at hB2 ⊢
  have oth : ∀ b o, b ≠ s.heap.objs.size → B.get? b = some o → C.get? b = some o := fun b o hb e => by
    rw [← hC]
    exact (Heap.get?_update_other _ _ (Ne.symm hb)).trans ((Heap.get?_update_other _ _ (Ne.symm hb)).trans e)
  have hstC : St 0 C := W.frame 0 _ _ hstB fun b hb o e => oth b o (fun h => hnew (h ▸ hb)) e
  refine wpAny_pure ⟨plainId_quiet F.plain_extend_loop _, codeAny_extend_loopS WS hn _ hnew _ n 0 _ _ _ rfl (Nat.zero_le _) hstC hB2 (ItemsOf.nil P) fun s' acc' c' hm hS' hacc => ?_⟩
  show wpAny _ A (load s.heap.objs.size >>= _) _ _ s'
  refine wpAny_bind (wpAny_load hS' ?_)
  refine wpAny_pure (hQ s' acc' ⟨s'.heap, s'.toks, ?_, fun b o hb e => ?_⟩ hacc)
  · have h1 := hm.gens
    have h2 := hm.drawn
    have h3 := hm.os
    dsimp only at h1 h2 h3
    cases s'
    simp only at h1 h2 h3 ⊢
    rw [h1, h2, h3]
  · have hbs : b ≠ s.heap.objs.size := Nat.ne_of_lt (Heap.lt_size e)
    refine hm.heap b o (fun h => ?_) (oth b o hbs (old b o e))
    rcases List.mem_cons.mp h with h | h
    · exact hbs h
    · exact hb h

theorem items_strs {f : Str → Str} (l : List (Str × Tok)) (acc : Array Value) (h : ItemsOf (fun i v => ∃ y u, (l.map (·.1))[i]? = some y ∧ v = .str (f y) u) acc l.length) :
    ∃ l', strValues l' = acc.toList ∧ l'.map (·.1) = (l.map (·.1)).map f := by
  obtain ⟨hsz, hit⟩ := h
  have key : ∀ (ys : List Str) (vs : List Value), vs.length = ys.length → (∀ (i : Nat) v, vs[i]? = some v → ∃ y u, ys[i]? = some y ∧ v = .str (f y) u) → ∃ l', strValues l' = vs ∧ l'.map (·.1) = ys.map f := by
    intro ys
    induction ys with
    | nil =>
      intro vs hl _
      have : vs = [] := List.length_eq_zero_iff.mp hl
      subst this
      exact ⟨[], rfl, rfl⟩
    | cons y ys ih =>
      intro vs hl hg
      cases vs with
      | nil => cases hl
      | cons v vs =>
        obtain ⟨y', u, hy', rfl⟩ := hg 0 v rfl
        simp only [List.getElem?_cons_zero, Option.some.injEq] at hy'
        subst hy'
        obtain ⟨l', e1, e2⟩ := ih vs (by simpa using hl) fun i v hv => by simpa using hg (i + 1) v (by simpa using hv)
        exact ⟨(f y, u) :: l', by unfold strValues at e1 ⊢; simp [e1], by simp [e2]⟩
  refine key _ _ ?_ ?_
  · rw [Array.length_toList, hsz, List.length_map]
  · intro i v hv
    exact hit i v (by simpa using hv)

/-- sep.join(a map of capitalize) -/
theorem join_map {sep : Str} {t : Tok} {Q : Value → Shared → Prop} (hh : A.handled = none) {M T I D : Addr} (hIM : I ≠ M) (hIT : I ≠ T) (hID : I ≠ D) {l : List (Str × Tok)} (hy : ∀ p ∈ l, p.1.length ≤ 5592405)
    (hM : IsMap s.heap M T (.builtin "str.capitalize")) (hT : IsOne s.heap T (.ref I)) (hit : s.heap.IsListIter I D 0) (hl : s.heap.IsList D (strValues l).toArray) (hn : l.length ≤ sizeLine)
    (hok : JoinOk sep ((l.map (·.1)).map Txt.capitalize) = true)
    (hQ : ∀ h' t' tk, (∀ b o, b ≠ I → s.heap.get? b = some o → h'.get? b = some o) → Q (.str (Txt.join sep ((l.map (·.1)).map Txt.capitalize)) t') { s with heap := h', toks := tk }) :
    wpAny (model prog w) A (call (.builtin "str.join") [.str sep t, .ref M]) Q E s := by
  have hst : IsMap s.heap M T (.builtin "str.capitalize") ∧ IsOne s.heap T (.ref I) ∧ s.heap.IsListIter I D 0 ∧ s.heap.IsList D (strValues l).toArray := ⟨hM, hT, hit, hl⟩
  have hTy : s.TypeIs (.ref M) "map" := ⟨_, hM, rfl⟩
  refine wpAny_call (codeAny_call_builtin F.slot_str_join.plain F.entry_str_join (F.slot_str_join.check _ _ _ _ _ _ _ _ (typeIs_str _ _ _) (F.args_str_join_2 _ _) ?_))
  rw [join_tree_other]
  refine wpAny_bind (wpAny_typeOf hTy ?_)
  show wpAny _ A.in1 ((pyIter (.ref M)).tryCatch _ >>= fun it => collect it >>= fun items => joinTail sep items) _ _ s
  refine wpAny_bind (wpAny_tryCatch (pyIter_map hM ?_))
  refine wpAny_bind (collect_map (walksMap (A := A.in1.in1) hh M T I D hIM hIT hID l hy) (fun i s' h => ⟨_, h.1, rfl⟩) hst ?_ (by simp) (fun s' acc hs' hacc => ?_) hn)
  · intro b hb
    simp only [List.mem_cons, List.not_mem_nil, or_false] at hb
    rcases hb with rfl | rfl | rfl | rfl
    · exact Heap.lt_size hM
    · exact Heap.lt_size hT
    · obtain ⟨_, e, _⟩ := hit; exact Heap.lt_size e
    · obtain ⟨_, e, _⟩ := hl; exact Heap.lt_size e
  · obtain ⟨h', tk, rfl, hk⟩ := hs'
    obtain ⟨l', e1, e2⟩ := items_strs l acc hacc
    rw [← e1]
    have hok' : Builtin.Str.tooLong ((l'.map (·.1)).toArray.foldl (· + ·.length + sep.length) 0) = false := by
      unfold JoinOk at hok
      rw [e2]
      simpa using hok
    have g : Gives (joinTail sep (strValues l')) (joinMade sep l') := by
      have g0 := gives_joinTail sep l' hok'
      cases l' with
      | nil => exact g0
      | cons p r => cases r with
        | nil => exact g0
        | cons q r' => exact g0
    refine g prog w A (wants Q E) _ (post_join l' ⟨joinFit_length hok', fun t' k => ?_⟩)
    rw [e2]
    exact hQ h' t' k fun b o hb e => hk b o (fun h => hb (List.mem_singleton.mp h)) e
end
end Mine

namespace Mine

theorem capAttr : findCls [] (.type "str") (.type "type") "capitalize" = some (.val (.builtin "str.capitalize")) := by kernel_rfl

theorem back1 {pos : Pos} {a : Sem Value} : backTo pos [(false, a)] = [(false, a)] := rfl
theorem back2 {pos : Pos} {a b : Sem Value} : backTo pos [(false, a), (false, b)] = [(false, a), (false, b)] := rfl
theorem se_nil {env : Env} : starEach [] env = [] := rfl

section
variable {prog : Program} {w : World} {A : Around} {E : Value → Shared → Prop} {s : Shared} {mg mb : Str → Option Value}

theorem getAttr_cap {expr : Bool} {Q : Value → Shared → Prop} (h : ∀ tk, Q (.builtin "str.capitalize") { s with toks := tk }) : wpAny (model prog w) A (getAttr (.type "str") "capitalize" expr) Q E s := by
  have X : Frag.In [] s.heap := fun _ _ e => by cases e
  have hs : Manifest.isStub "str" = false := by kernel_rfl
  have hstub : opaqueClassAbove (.type "str") = pure none := by unfold opaqueClassAbove; dsimp only; rw [hs]; rfl
  have L0 : Looks (model prog w) s.heap (typeOf (.type "str")) (.type "type") := Looks.of_pure (kitMeta_of (by kernel_rfl))
  have LO : Looks (model prog w) s.heap (opaqueClassAbove (.type "str")) none := Looks.of_pure hstub
  refine cls_open X LO L0 type_tga (looks_hook X (r := none) (by rfl)) (by show subIn [] _ _ = _; rfl) capAttr ?_
  exact wpAny_pure (handed_on rfl (h _))

theorem split_none {x : Str} {t : Tok} {Q : Value → Shared → Prop} (hsz : x.length + 2 ≤ sizeLine)
    (h : ∀ l h' tk, l.map (·.1) = Txt.words x → h'.IsList s.heap.objs.size (strValues l).toArray → (∀ b o, s.heap.get? b = some o → h'.get? b = some o) → Q (.ref s.heap.objs.size) { s with heap := h', toks := tk }) :
    wpAny (model prog w) A (call (.builtin "str.split") [.str x t, .none]) Q E s := by
  have hn : (Builtin.Str.spaceWords x (x.length + 1)).length ≤ sizeLine := by
    have e1 := (StrLaws.sw_weight x).1
    have e2 := StrLaws.len_le_wsum (Builtin.Str.spaceWords x (x.length + 1))
    omega
  refine call_meets F.slot_str_split (typeIs_str _ _ _) F.entry_str_split (F.args_str_split_2 _ _) ((split_none_eq x t).symm ▸ meets_str_split_space x t (by omega) hn) ?_
  cases hw : Builtin.Str.spaceWords x (x.length + 1) == [(0, x.length)]
  · simp only [Bool.false_eq_true, if_false]
    rw [strsFrom_eq]
    exact h (numbered s.toks (PySem.wordsOf x)) _ _ ((numbered_texts _ _).trans (if_neg (ne_true_of_eq_false hw)).symm) ⟨_, Heap.get?_push_size _ rfl, rfl, _, rfl⟩ fun b o e => Heap.get?_push_of_some _ e
  · simp only [if_true]
    exact h [(x, t)] _ s.toks (if_pos hw).symm ⟨_, Heap.get?_push_size _ rfl, rfl, _, rfl⟩ fun b o e => Heap.get?_push_of_some _ e

def capS (x : Str) : Str := Txt.join " " ((Txt.words x).map Txt.capitalize)

theorem cap_spec {x : Str} {t : Tok} (G : Gd w mg mb s.heap) (hroom : A.depth < recursionLimit) (hh : A.handled = none) (hx : x.length ≤ 1000) :
    wpAny (model prog w) A (call (.ref 51) [.str x t]) (fun v s' => (∃ u, v = .str (capS x) u) ∧ Keeps s s') E s := by
  have ho := G.X 51 { cls := .type "function", data := .func (fnAt w.params 51) } rfl
  have h44 := G.X 44 { cls := .type "tuple", data := .seq #[.none] } rfl
  have hbind : BindsTo s (fnAt w.params 51) ⟨[.str x t], []⟩ [(Str.ofString "s", .str x t), (Str.ofString "sep", .none)] :=
    BindsTo.of_defaults (T := 44) rfl h44 rfl rfl rfl
  refine wpAny_call (codeAny_call_def hroom ho rfl G.lim (codeRec_of G.X rfl) rfl hbind ?hcell ?hloc (fun h₁ hns keep => ?_) rfl rfl rfl)
  case hcell =>
    intro y hy
    have := List.all_eq_true.mp (show ((fnAt w.params 51).scope.names.all fun x => x.2 != .cell) = true from rfl) y hy
    simpa using this
  case hloc =>
    intro y hy
    simp only [List.mem_cons, List.not_mem_nil, or_false] at hy
    rcases hy with rfl | rfl
    · rfl
    · rfl
  have X : InCall s s.heap.objs.size (fun y => [(Str.ofString "s", Value.str x t), (Str.ofString "sep", Value.none)].reverse.lookup y) { s with heap := h₁, toks := s.toks + [(Str.ofString "s", Value.str x t), (Str.ofString "sep", Value.none)].length } :=
    ⟨⟨h₁, _, rfl⟩, hns, keep, Nat.le_refl _⟩
  have G₁ : Gd w mg mb h₁ := G.keeps keep
  refine wpAny_mono (Q := fun f s' => (∃ u, retOf f = .str (capS x) u) ∧ Keeps s s') (E := fun _ _ => False) ?_ (fun f s' p => by cases f <;> exact p) (fun _ _ x => x.elim)
  generalize s.toks + [(Str.ofString "s", Value.str x t), (Str.ofString "sep", Value.none)].length = tk₁ at X ⊢
  refine wpAny_execs_cons ?_
  refine wpAny_Return_some ?_
  refine Call_method1 ?qa ?qb ?qc ?_
  case qa => exact ab_BoolOp
  case qb => exact se_Call1
  case qc => exact rfl
  refine wpAny_Or2 ?_
  refine ldI X rfl rfl rfl ?_ rfl
  refine wpAny_pure ?_
  rw [if_neg Bool.false_ne_true]
  refine wpAny_Constant_str ?_
  refine ⟨"str", "str.join", F.plainAttrs_str, F.slot_str_join, F.type_str_join, typeIs_str _ _ _, (fun _ e => nomatch e), ?_⟩
  refine Calls.callWith_builtin rfl (Calls.evalArgs_plain (Calls.spliced_cons ?_))
  refine Call_Name (trees := [(false, _), (false, _)]) (by rw [se_Attribute, se_Call, se_nil, back2]) ?_
  refine Calls.Name_function_global rfl rfl ?_ rfl
  refine Calls.loadGlobal_builtin G₁.g (mg_none_of G₁.X G₁.g rfl) G₁.b ((G₁.bi _ (by decide)).trans (show bootBuiltins "map" = some (.type "map") by kernel_rfl)) ?_
  refine PySem.callWith_type rfl ?_
  refine Calls.evalArgs_plain (Calls.spliced_cons ?_)
  refine Attribute_any_ ?_ rfl
  refine Calls.Name_function_global rfl rfl ?_ rfl
  refine Calls.loadGlobal_builtin G₁.g (mg_none_of G₁.X G₁.g rfl) G₁.b ((G₁.bi _ (by decide)).trans (show bootBuiltins "str" = some (.type "str") by kernel_rfl)) ?_
  refine getAttr_cap fun tk₂ => ?_
  refine Calls.spliced_cons ?_
  refine Call_method1 ?qa ?qb ?qc ?_
  case qa => exact ab_Name
  case qb => exact se_Name1
  case qc => exact rfl
  refine ldI (X.tok tk₂) rfl rfl rfl ?_ rfl
  refine ⟨"str", "str.split", F.plainAttrs_str, F.slot_str_split, F.type_str_split, typeIs_str _ _ _, (fun _ e => nomatch e), ?_⟩
  refine Calls.callWith_builtin rfl (Calls.evalArgs_plain (Calls.spliced_cons ?_))
  refine ldI (X.tok tk₂) rfl rfl rfl ?_ rfl
  refine Calls.spliced_nil ?_
  refine split_none (by unfold sizeLine; omega) fun l h₂ tk₃ hl hD hk₂ => ?_
  refine Calls.spliced_nil ?_
  have hDn : h₁.objs.size < h₂.objs.size := by
    obtain ⟨_, e, _⟩ := hD
    exact Heap.lt_size e
  refine call_map (s := { s with heap := h₂, toks := tk₃ }) hD fun h₃ hM hT hI hsz hk₃ => ?_
  refine Calls.spliced_nil ?_
  have hwl : ∀ a ∈ l.map (·.1), a.length ≤ 1000 := by
    intro a ha
    rw [hl] at ha
    exact Nat.le_trans (word_short ha) hx
  have hnl : l.length ≤ 1001 := by
    have h1 := StrLaws.words_weight x
    rw [← hl] at h1
    rw [List.length_map] at h1
    omega
  refine join_map (s := { s with heap := h₃, toks := tk₃ }) (l := l) (M := h₂.objs.size + 2) (T := h₂.objs.size + 1) (I := h₂.objs.size) (D := h₁.objs.size) (show (A.deeper (callEnv (fnAt w.params 51) s.heap.objs.size 51)).handled = none from hh) (Nat.ne_of_lt (by omega)) (Nat.ne_of_lt (by omega)) (Nat.ne_of_gt hDn) ?_ hM hT hI ?_ ?_ ?_ fun h₄ t' tk₄ hk₄ => ?_
  · intro p hp
    have := hwl p.1 (List.mem_map_of_mem hp)
    omega
  · exact hD.at fun o e => hk₃ _ o e
  · unfold sizeLine; omega
  · refine joinOk_of 3000 1001 ?_ ?_ (by decide)
    · intro y hy
      obtain ⟨a, ha, rfl⟩ := List.mem_map.mp hy
      have h1 := hwl a ha
      have h2 := len_capitalize a
      omega
    · rw [List.length_map, List.length_map]; exact hnl
  · rw [hl]
    refine ⟨⟨t', rfl⟩, h₄, tk₄, rfl, fun b o e => ?_⟩
    have e1 := hk₂ b o (keep b o e)
    exact hk₄ b o (Nat.ne_of_lt (Heap.lt_size e1)) (hk₃ b o e1)
end
end Mine

namespace Mine

/-- the words of the compiled pattern -/
def cdA : Array Nat := #[14, 14, 4, 1, 1, 9, 4294957567, 0, 0, 0, 0, 0, 0, 0, 0, 13, 11, 9, 4294957567, 0, 0, 0, 0, 0, 0, 0, 0, 1]

/-- the signs that the pattern takes -/
def ctl (c : Nat) : Bool := decide (c < 256) && (cdA.getD (6 + c / 32) 0).testBit (c % 32)

theorem ctl_eq (c : Nat) : (decide (c < 256) && (cdA.getD (18 + c / 32) 0).testBit (c % 32)) = ctl c := by
  unfold ctl
  by_cases h : c < 256
  · have h8 : c / 32 < 8 := by omega
    have : ∀ k, k < 8 → cdA.getD (18 + k) 0 = cdA.getD (6 + k) 0 := by decide
    rw [this _ h8]
  · rw [decide_eq_false h]; rfl

theorem inSet5 (c : Nat) (seen : Sre.Seen) : ∃ seen', Sre.inSet cdA c cdA.size 5 true seen = .ok (ctl c, seen') := by
  have e1 : Sre.ops[cdA.getD (5 + 0) 0]? = some .CHARSET := by rfl
  have e2 : Sre.ops[cdA.getD (5 + 9 + 0) 0]? = some .FAILURE := by rfl
  show ∃ seen', Sre.inSet cdA c 28 5 true seen = _
  unfold Sre.inSet
  dsimp only
  rw [e1]
  dsimp only
  have h : (decide (c < 256) && (cdA.getD (5 + (1 + c / 32)) 0).testBit (c % 32)) = ctl c := by
    unfold ctl
    rw [show 5 + (1 + c / 32) = 6 + c / 32 by omega]
  rw [h]
  cases hc : ctl c with
  | true => exact ⟨_, rfl⟩
  | false =>
    rw [if_neg Bool.false_ne_true]
    unfold Sre.inSet
    dsimp only
    rw [e2]
    exact ⟨_, rfl⟩

theorem inSet17 (c : Nat) (seen : Sre.Seen) : ∃ seen', Sre.inSet cdA c cdA.size 17 true seen = .ok (ctl c, seen') := by
  have e1 : Sre.ops[cdA.getD (17 + 0) 0]? = some .CHARSET := by rfl
  have e2 : Sre.ops[cdA.getD (17 + 9 + 0) 0]? = some .FAILURE := by rfl
  show ∃ seen', Sre.inSet cdA c 28 17 true seen = _
  unfold Sre.inSet
  dsimp only
  rw [e1]
  dsimp only
  have h : (decide (c < 256) && (cdA.getD (17 + (1 + c / 32)) 0).testBit (c % 32)) = ctl c := by
    rw [← ctl_eq, show 17 + (1 + c / 32) = 18 + c / 32 by omega]
  rw [h]
  cases hc : ctl c with
  | true => exact ⟨_, rfl⟩
  | false =>
    rw [if_neg Bool.false_ne_true]
    unfold Sre.inSet
    dsimp only
    rw [e2]
    exact ⟨_, rfl⟩

/-- the first admitted place -/
theorem admitted_run (m : Sre.M) (hm : m.code = cdA) : ∀ (fuel s : Nat) (seen : Sre.Seen), m.lim ≤ s + fuel →
    (∃ seen', Sre.M.admitted m fuel s seen = .ok (none, seen') ∧ ∀ j, s ≤ j → j < m.lim → ctl (m.text.getD j 0) = false) ∨
    (∃ k seen', Sre.M.admitted m fuel s seen = .ok (some k, seen') ∧ s ≤ k ∧ k < m.lim ∧ ctl (m.text.getD k 0) = true)
  | 0, s, seen, h => .inl ⟨seen, rfl, fun j h1 h2 => by omega⟩
  | fuel + 1, s, seen, h => by
    unfold Sre.M.admitted
    by_cases hs : s ≥ m.lim
    · rw [if_pos hs]
      exact .inl ⟨seen, rfl, fun j h1 h2 => by omega⟩
    · rw [if_neg hs, hm]
      obtain ⟨seen', e⟩ := inSet5 (m.text.getD s 0) seen
      rw [e]
      cases hc : ctl (m.text.getD s 0) with
      | true => exact .inr ⟨s, seen', rfl, Nat.le_refl _, by omega, hc⟩
      | false =>
        rcases admitted_run m hm fuel (s + 1) seen' (by omega) with ⟨s2, e2, h2⟩ | ⟨k, s2, e2, h1, h2, h3⟩
        · refine .inl ⟨s2, e2, fun j h1 h3 => ?_⟩
          by_cases hj : j = s
          · rw [hj]; exact hc
          · exact h2 j (by omega) h3
        · exact .inr ⟨k, s2, e2, by omega, h2, h3⟩

/-- the machine ahead of its first step -/
def M0 (text : Array Nat) (lim : Nat) : Sre.M := { code := cdA, text, lim, start := 0, pc := 15, pos := 0, handed := 0, marks := #[], seen := ({} : Sre.Seen).add 14 }

theorem forSearch_eq (text : Array Nat) (lim : Nat) : Sre.forSearch cdA text 0 0 lim false =
    if (decide (0 > lim) || decide (lim - 0 < 1)) = true then (M0 text lim).say false else Sre.M.attemptFrom { M0 text lim with lastStart := lim } 0 true := by rfl

theorem run_say (m : Sre.M) (h1 : m.outcome = none) (h2 : m.frames = []) : (Sre.M.runFor 4 (m.say false)).outcome = some .failed := by
  cases m
  simp only at h1 h2
  subst h1 h2
  rfl

/-- a machine that stands at a sign that the pattern takes -/
def M1 (text : Array Nat) (lim k : Nat) (seen : Sre.Seen) : Sre.M :=
  { code := cdA, text, lim, start := k, lastStart := lim, pc := 15, pos := k, handed := k, marks := #[], seen := seen, frames := [{ wait := .nextStart, pc := 15, pos := k, outermost := true }], weight := 1 }

theorem run_found (text : Array Nat) (lim k : Nat) (seen : Sre.Seen) (hk : k < lim) (hc : ctl (text.getD k 0) = true) : (Sre.M.runFor 4 (M1 text lim k seen)).outcome = some .matched := by
  obtain ⟨seen', e⟩ := inSet17 (text.getD k 0) (seen.add 13)
  have s1 : Sre.M.step (M1 text lim k seen) = { M1 text lim k seen with seen := seen', pc := 27, pos := k + 1 } := by
    show (if k ≥ lim then _ else (match Sre.inSet cdA (text.getD k 0) cdA.size 17 true (seen.add 13) with | .error why => _ | .ok (false, seen) => _ | .ok (true, seen) => _)) = _
    rw [if_neg (by omega), e, hc]
    rfl
  show (if (none : Option Sre.Outcome).isSome then _ else Sre.M.runFor 3 (Sre.M.step (M1 text lim k seen))).outcome = _
  rw [if_neg (by decide), s1]
  rfl

theorem attemptFrom_eq (text : Array Nat) (lim : Nat) : (∃ m : Sre.M, m.outcome = none ∧ m.frames = [] ∧ Sre.M.attemptFrom { M0 text lim with lastStart := lim } 0 true = m.say false ∧ ∀ j, j < lim → ctl (text.getD j 0) = false) ∨
    (∃ k seen, k < lim ∧ ctl (text.getD k 0) = true ∧ Sre.M.attemptFrom { M0 text lim with lastStart := lim } 0 true = M1 text lim k seen) := by
  rcases admitted_run { M0 text lim with lastStart := lim } rfl (lim + 1 - 0) 0 (({} : Sre.Seen).add 14) (by show lim ≤ _; omega) with ⟨seen', e, h⟩ | ⟨k, seen', e, _, h2, h3⟩
  · refine .inl ⟨{ M0 text lim with lastStart := lim, seen := seen' }, rfl, rfl, ?_, fun j hj => h j (Nat.zero_le _) hj⟩
    show (match Sre.M.admitted { M0 text lim with lastStart := lim } (lim + 1 - 0) 0 (({} : Sre.Seen).add 14) with | .ok (some s, seen) => _ | .ok (none, seen) => _ | .error why => _) = _
    rw [e]
  · refine .inr ⟨k, seen', h2, h3, ?_⟩
    show (match Sre.M.admitted { M0 text lim with lastStart := lim } (lim + 1 - 0) 0 (({} : Sre.Seen).add 14) with | .ok (some s, seen) => _ | .ok (none, seen) => _ | .error why => _) = _
    rw [e]
    rfl

/-- what the machine says of a text -/
theorem search_run (text : Array Nat) : (Sre.M.runFor 4 (Sre.forSearch cdA text 0 0 text.size false)).outcome = some (if (text.toList.any ctl) = true then .matched else .failed) := by
  rw [forSearch_eq]
  by_cases h0 : (decide (0 > text.size) || decide (text.size - 0 < 1)) = true
  · rw [if_pos h0]
    have hz : text.size = 0 := by
      rcases Bool.or_eq_true_iff.mp h0 with h | h
      · have := of_decide_eq_true h
        omega
      · have := of_decide_eq_true h
        omega
    have : text = #[] := Array.eq_empty_of_size_eq_zero hz
    subst this
    exact run_say _ rfl rfl
  · rw [if_neg h0]
    rcases attemptFrom_eq text text.size with ⟨m, h1, h2, e, h⟩ | ⟨k, seen, hk, hc, e⟩
    · rw [e, run_say m h1 h2, if_neg]
      intro ha
      obtain ⟨c, hc, hc'⟩ := List.any_eq_true.mp ha
      obtain ⟨j, hj, rfl⟩ := List.mem_iff_getElem.mp hc
      have hj' : j < text.size := by simpa using hj
      have := h j hj'
      rw [show text.getD j 0 = text.toList[j] by simp [hj']] at this
      rw [this] at hc'
      cases hc'
    · rw [e, run_found text text.size k seen hk hc, if_pos]
      refine List.any_eq_true.mpr ⟨text.getD k 0, ?_, hc⟩
      rw [show text.getD k 0 = text[k] by simp [hk]]
      exact Array.getElem_mem_toList hk
end Mine

namespace Mine
open Builtin Builtin.Re

namespace RF
theorem owner_pat : Manifest.owners.lookup (String.ofList ['n', 'r', 'e', 't', 't', 'a', 'P', '.', 'e', 'r'].reverse) = some Manifest.sig_re_Pattern := by kernel_rfl
theorem slot_search : Slot "re.Pattern" "search" "re.Pattern.search" :=
  .of (owner := "re.Pattern") (n := "search") (by rw [typeLookup_type, builtinLookup_eq_fast]; kernel_rfl) (by decide +kernel) (by decide +kernel) (by decide +kernel)
    (by first | exact .inl (by decide +kernel) | exact .inr (by decide +kernel)) (by rw [isSubtype_type]; kernel_rfl)
theorem type_search : typeOf (.builtin "re.Pattern.search") = pure (.type "method_descriptor") := by show builtinType _ = _; rw [builtinType_eq_fast]; kernel_rfl
theorem entry_search : entryFor table "re.Pattern.search" = some Builtin.«re.Pattern.search» := entryFor_of_tree (by kernel_rfl)
theorem plain_pat : PlainAttrs "re.Pattern" :=
  ⟨⟨"object.__getattribute__", by rw [typeLookup_type, builtinLookup_eq_fast]; kernel_rfl, by decide +kernel⟩, by rw [typeLookup_type, builtinLookup_eq_fast]; kernel_rfl⟩
theorem args_search (a b : Value) : argsOk "re.Pattern.search" ⟨[a, b], []⟩ := by
  unfold argsOk; rw [signature?_of (id := "re.Pattern.search") (n := ['h', 'c', 'r', 'a', 'e', 's']) (o := ['n', 'r', 'e', 't', 't', 'a', 'P', '.', 'e', 'r']) (by kernel_rfl) owner_pat]; kernel_rfl
end RF

theorem named (x : Str) (t : Tok) : reNamed "re.Pattern.search" "search" ["string", "pos", "endpos"] 1 [.str x t] [] = pure [some (.str x t), none, none] := rfl

/-- the objects of the pattern -/
abbrev patObj (p : Str) (a b : Tok) : Obj := { cls := .type "re.Pattern", data := .fields #[.str p a, .int 32 b, .int 0 0, .none, .none, .ref 35, .int 0 0] }
def codeVals : Array Value := #[.int 14 0, .int 14 0, .int 4 0, .int 1 0, .int 1 0, .int 9 0, .int 4294957567 0, .int 0 0, .int 0 0, .int 0 0, .int 0 0, .int 0 0, .int 0 0, .int 0 0, .int 0 0, .int 13 0, .int 11 0, .int 9 0, .int 4294957567 0, .int 0 0, .int 0 0, .int 0 0, .int 0 0, .int 0 0, .int 0 0, .int 0 0, .int 0 0, .int 1 0]
abbrev codeObj : Obj := { cls := .type "tuple", data := .seq codeVals }

theorem codeVals_eq : (codeVals.map reRawOf).map (·.toNat) = cdA := by
  unfold codeVals cdA
  simp [reRawOf]

section
variable {prog : Program} {w : World} {A : Around} {E : Value → Shared → Prop} {s : Shared} {mg mb : Str → Option Value}

theorem wpIfNot {α : Type} {c : Prop} [Decidable c] {a b : Sem α} {Q : α → Shared → Prop} (hc : ¬ c) (h : wpAny (model prog w) A b Q E s) : wpAny (model prog w) A (if c then a else b) Q E s := by
  rw [if_neg hc]; exact h

theorem pat_at (G : Gd w mg mb s.heap) : ∃ p a b, s.heap.get? 36 = some (patObj p a b) := ⟨_, _, _, G.X 36 _ rfl⟩
theorem code_at (G : Gd w mg mb s.heap) : s.heap.get? 35 = some codeObj := G.X 35 _ rfl

theorem drive_end {m : Sre.M} {Q : Sre.M → Shared → Prop} {o : Sre.Outcome} (ho : (Sre.M.runFor 4 m).outcome = some o) (h : Q (Sre.M.runFor 4 m) s) : wpAny (model prog w) A (reDrive (2 ^ 64) m) Q E s := by
  show wpAny _ _ (reDrive ((2 ^ 64 - 1) + 1) m) _ _ _
  unfold reDrive
  dsimp only
  rw [show reTurnSteps = 4 from rfl, ho]
  exact wpAny_pure h

theorem rules_none {l : List Nat} {p : Nat → Bool} {f : Nat → String} {Q : PUnit → Shared → Prop} (h : Q ⟨⟩ s) :
    wpAny (model prog w) A (forIn l PUnit.unit fun i _ => if p i = true then (do rule (f i); pure (ForInStep.yield PUnit.unit)) else pure (ForInStep.yield PUnit.unit)) Q E s := by
  induction l with
  | nil => exact wpAny_pure h
  | cons i l ih =>
    rw [List.forIn_cons]
    refine wpAny_bind ?_
    by_cases hp : p i = true
    · rw [if_pos hp]
      exact wpAny_bind (wpAny_rule (wpAny_pure ih))
    · rw [if_neg hp]
      exact wpAny_pure ih

theorem run_to_end {m : Sre.M} {Q : Option Sre.M → Shared → Prop} {b : Bool} (ho : (Sre.M.runFor 4 m).outcome = some (if b = true then .matched else .failed))
    (h : Q (if b = true then some (Sre.M.runFor 4 m) else none) s) : wpAny (model prog w) A (reRunToEnd m) Q E s := by
  unfold reRunToEnd
  refine wpAny_bind (drive_end ho ?_)
  refine wpAny_bind ?_
  refine rules_none ?_
  rw [ho]
  cases b with
  | true => exact wpAny_pure h
  | false => exact wpAny_pure h

theorem search_call {x : Str} {t : Tok} (G : Gd w mg mb s.heap) (hx : x.length ≤ 1000000) :
    wpAny (model prog w) A (call (.builtin "re.Pattern.search") [.ref 36, .str x t]) (fun v s' => (if x.cps.toList.any ctl = true then ∃ a, v = .ref a else v = .none) ∧ Keeps s s') E s := by
  obtain ⟨p, a, b, hp⟩ := pat_at G
  have hc := code_at G
  have hT : s.TypeIs (.ref 36) "re.Pattern" := ⟨_, hp, rfl⟩
  refine wpAny_call_entry RF.slot_search hT RF.entry_search ?_ (RF.args_search _ _)
  unfold Builtin.«re.Pattern.search» reTarget
  dsimp only
  rw [named]
  refine wpAny_bind (wpAny_bind (wpAny_pure ?_))
  dsimp only
  refine wpAny_bind (wpAny_pure ?_)
  refine wpAny_bind (wpAny_pure ?_)
  refine wpAny_bind (wpAny_fieldsOf hp rfl ?_)
  refine wpAny_bind (wpAny_of_eq (show reTextOf (.str x t) = pure (x.cps, 0) from rfl) ?_)
  refine wpIfNot Bool.false_ne_true ?_
  refine wpIfNot Bool.false_ne_true ?_
  refine wpAny_bind (wpAny_of_eq (show reNoCollectionInside (.str x t) 0 = pure () from rfl) ?_)
  have hitems : wpAny (model prog w) A.in1 (reRawItems (.ref 35)) (fun v s' => v = codeVals.map reRawOf ∧ s' = s) E s := by
    unfold reRawItems
    refine wpAny_bind (wpAny_seqItems hc rfl ?_)
    exact wpAny_pure ⟨rfl, rfl⟩
  refine wpAny_bind (wpAny_mono hitems (fun v s' hv => ?_) fun _ _ e => e)
  obtain ⟨rfl, rfl⟩ := hv
  refine wpAny_pure ?_
  rw [codeVals_eq]
  have hsz : x.cps.size ≤ 1000000 := hx
  have hlim : min ((2 : Int) ^ 63 - 1).toNat x.cps.size = x.cps.size := Nat.min_eq_right (by
    have : ((2 : Int) ^ 63 - 1).toNat = 9223372036854775807 := by decide
    omega)
  dsimp only
  rw [hlim]
  unfold reAnswer
  have ho := search_run x.cps
  refine wpAny_bind (run_to_end (b := x.cps.toList.any ctl) ho ?_)
  cases hb : x.cps.toList.any ctl with
  | false =>
    exact wpAny_pure ⟨_, rfl, rfl, keepsRefl _⟩
  | true =>
    generalize Sre.M.runFor 4 _ = mm
    show wpAny _ _ (reNewMatch (.ref 36) (.str x t) 0 (min (Int.toNat 0) x.cps.size) x.cps.size mm >>= _) _ _ _
    refine wpAny_bind ?_
    unfold reNewMatch
    refine wpIfNot Bool.false_ne_true ?_
    refine wpAny_bind (wpAny_newTuple ?_ (by show 2 ≤ sizeLine; decide))
    refine wpAny_newObj_type ?_ (by first | trivial | size_fits | (show (6 : Nat) ≤ sizeLine; decide))
    exact wpAny_pure ⟨_, rfl, ⟨_, rfl⟩, _, _, rfl, fun b o e => Heap.get?_push_of_some _ (Heap.get?_push_of_some _ e)⟩
end
end Mine

namespace Mine
open Builtin Builtin.Str

/-- a text with each y replaced by z; k signs are still to be passed over -/
def repS (y z : List Nat) : Nat → List Nat → List Nat
  | _, [] => []
  | k + 1, _ :: r => repS y z k r
  | 0, c :: r => if (c :: r).take y.length == y then z ++ repS y z (y.length - 1) r else c :: repS y z 0 r

def cutsFrom (x y : Str) : Nat → Nat → Nat → List Nat
  | 0, _, _ => []
  | m + 1, i, free => if (free ≤ i ∧ i + y.length ≤ x.length) ∧ subAt x y i = true then i :: cutsFrom x y m (i + 1) (i + y.length) else cutsFrom x y m (i + 1) free

theorem occ_cuts (x y : Str) (limit : Nat) : ∀ (m i free : Nat) (acc : Array Nat), acc.size + m ≤ limit →
    (forIn (List.range' i m) (acc, free) (StrLaws.occBody x y x.length limit)).run.fst.toList = acc.toList ++ cutsFrom x y m i free
  | 0, i, free, acc, _ => by
    rw [List.range'_zero, List.forIn_nil]
    simp [cutsFrom]
  | m + 1, i, free, acc, h => by
    rw [List.range'_succ, List.forIn_cons]
    unfold StrLaws.occBody cutsFrom
    by_cases hc : (free ≤ i ∧ i + y.length ≤ x.length) ∧ subAt x y i = true
    · rw [if_pos hc, if_pos (by exact ⟨⟨⟨by show acc.size < limit; omega, hc.1.1⟩, hc.1.2⟩, hc.2⟩)]
      have ih := occ_cuts x y limit m (i + 1) (i + y.length) (acc.push i) (by rw [Array.size_push]; omega)
      unfold StrLaws.occBody at ih
      exact Eq.trans rfl (ih.trans (by simp))
    · rw [if_neg hc, if_neg (by rintro ⟨⟨⟨_, h1⟩, h2⟩, h3⟩; exact hc ⟨⟨h1, h2⟩, h3⟩)]
      have ih := occ_cuts x y limit m (i + 1) free acc (by omega)
      unfold StrLaws.occBody at ih
      exact Eq.trans rfl ih

theorem occ_is (x y : Str) : occurrences x y 0 x.length (x.length + 1) = cutsFrom x y (x.length + 1) 0 0 := by
  rw [StrLaws.occ_eq, occ_cuts x y (x.length + 1) (x.length + 1 - 0) 0 0 #[] (by simp)]
  simp

def joinR (x z : Str) (w : Nat) : Nat → List Nat → List Nat
  | a, [] => (toL x).drop a
  | a, c :: r => ((toL x).drop a).take (c - a) ++ toL z ++ joinR x z w (c + w) r

theorem sub_toL (x : Str) (i j : Nat) : toL (strSub x i j) = ((toL x).drop i).take (j - i) := StrLaws.strSub_toList x i j

theorem flat_parts (x z : Str) (w : Nat) : ∀ (cuts : List Nat) (a : Nat), ∃ p r, StrLaws.partsFrom x w a cuts = p :: r ∧ toL p ++ (r.flatMap fun q => toL z ++ toL q) = joinR x z w a cuts
  | [], a => by
    refine ⟨_, _, rfl, ?_⟩
    rw [sub_toL]
    unfold joinR
    rw [List.take_of_length_le (by rw [List.length_drop, toL_length]; exact Nat.le_refl _)]
    simp
  | c :: cuts, a => by
    obtain ⟨p, r, e, h⟩ := flat_parts x z w cuts (c + w)
    refine ⟨_, _, rfl, ?_⟩
    rw [e, List.flatMap_cons, sub_toL]
    unfold joinR
    rw [← h]
    simp

theorem glued_is (x z : Str) (w : Nat) (cuts : List Nat) : toL (glued z (partsBetween x cuts w)) = joinR x z w 0 cuts := by
  rw [StrLaws.partsBetween_eq]
  obtain ⟨p, r, e, h⟩ := flat_parts x z w cuts 0
  rw [e, ← h]
  exact join_cons z p r

theorem take_succ_at {L : List Nat} {a i c : Nat} (h : L[i]? = some c) (ha : a ≤ i) : (L.drop a).take (i + 1 - a) = (L.drop a).take (i - a) ++ [c] := by
  rw [show i + 1 - a = (i - a) + 1 by omega, List.take_add_one]
  rw [List.getElem?_drop, show a + (i - a) = i by omega, h]
  rfl

theorem rep_step (x y z : Str) (hy : 0 < y.length) : ∀ (m i free : Nat), i + m = x.length + 1 → free ≤ x.length →
    joinR x z y.length free (cutsFrom x y m i free) = ((toL x).drop free).take (i - free) ++ repS (toL y) (toL z) (free - i) ((toL x).drop i)
  | 0, i, free, hi, hf => by
    unfold cutsFrom joinR
    rw [List.drop_eq_nil_of_le (i := i) (by rw [toL_length]; omega), List.take_of_length_le (by rw [List.length_drop, toL_length]; omega)]
    simp [repS]
  | m + 1, i, free, hi, hf => by
    unfold cutsFrom
    by_cases hc : (free ≤ i ∧ i + y.length ≤ x.length) ∧ subAt x y i = true
    · rw [if_pos hc]
      obtain ⟨⟨h1, h2⟩, h3⟩ := hc
      have ih := rep_step x y z hy m (i + 1) (i + y.length) (by omega) h2
      unfold joinR
      rw [ih, show i + 1 - (i + y.length) = 0 by omega, List.take_zero, List.nil_append, show i + y.length - (i + 1) = y.length - 1 by omega, show free - i = 0 by omega]
      have hlt : i < (toL x).length := by rw [toL_length]; omega
      rw [List.drop_eq_getElem_cons hlt]
      have hp : (((toL x)[i] :: (toL x).drop (i + 1)).take (toL y).length == toL y) = true := by
        rw [← List.drop_eq_getElem_cons hlt, toL_length]
        rw [StrLaws.subAt_eq] at h3
        exact h3
      conv => rhs; unfold repS
      rw [if_pos hp, toL_length]
      simp
    · rw [if_neg hc]
      have ih := rep_step x y z hy m (i + 1) free (by omega) hf
      rw [ih]
      by_cases hle : free ≤ i
      · rw [show free - (i + 1) = 0 by omega, show free - i = 0 by omega]
        by_cases hn : i < x.length
        · have hlt : i < (toL x).length := by rw [toL_length]; exact hn
          rw [take_succ_at (List.getElem?_eq_getElem hlt) hle]
          conv => rhs; rw [List.drop_eq_getElem_cons hlt]
          have hp : ¬ (((toL x)[i] :: (toL x).drop (i + 1)).take (toL y).length == toL y) = true := by
            rw [← List.drop_eq_getElem_cons hlt, toL_length]
            intro hp
            by_cases hw : i + y.length ≤ x.length
            · refine hc ⟨⟨hle, hw⟩, ?_⟩
              rw [StrLaws.subAt_eq]
              exact hp
            · have := congrArg List.length (eq_of_beq hp)
              rw [List.length_take, List.length_drop, toL_length, toL_length] at this
              omega
          conv => rhs; unfold repS
          rw [if_neg hp]
          simp
        · have hin : i = x.length := by omega
          rw [List.drop_eq_nil_of_le (i := i + 1) (by rw [toL_length]; omega), List.drop_eq_nil_of_le (i := i) (by rw [toL_length]; omega)]
          rw [List.take_of_length_le (i := i + 1 - free) (by rw [List.length_drop, toL_length]; omega), List.take_of_length_le (i := i - free) (by rw [List.length_drop, toL_length]; omega)]
      · have hlt : i < (toL x).length := by rw [toL_length]; omega
        rw [show i + 1 - free = 0 by omega, show i - free = 0 by omega, List.take_zero]
        conv => rhs; rw [List.drop_eq_getElem_cons hlt, show free - i = (free - (i + 1)) + 1 by omega]
        rfl

theorem replace_toL (x y z : Str) (hy : 0 < y.length) : toL (Txt.replace x y z) = repS (toL y) (toL z) 0 (toL x) := by
  have key : joinR x z y.length 0 (occurrences x y 0 x.length (x.length + 1)) = repS (toL y) (toL z) 0 (toL x) := by
    rw [occ_is, rep_step x y z hy (x.length + 1) 0 0 (by omega) (Nat.zero_le _)]
    simp
  unfold Txt.replace
  by_cases hc : ((occurrences x y 0 x.length (x.length + 1)).isEmpty || (y.length == 0 && z.length == 0)) = true
  · rw [if_pos hc]
    have hyz : (y.length == 0) = false := by simp; omega
    rw [hyz, Bool.false_and, Bool.or_false] at hc
    have he : occurrences x y 0 x.length (x.length + 1) = [] := List.isEmpty_iff.mp hc
    rw [he] at key
    rw [← key]
    unfold joinR
    simp
  · rw [if_neg hc, glued_is, key]

/-- one sign by a text -/
def sub1 (c : Nat) (z : List Nat) (d : Nat) : List Nat := if d = c then z else [d]

theorem repS_one (c : Nat) (z : List Nat) : ∀ l : List Nat, repS [c] z 0 l = l.flatMap (sub1 c z)
  | [] => rfl
  | d :: l => by
    unfold repS
    rw [List.flatMap_cons, ← repS_one c z l]
    unfold sub1
    by_cases h : d = c
    · subst h
      simp
    · rw [if_neg h]
      have : ¬ ((d :: l).take [c].length == [c]) = true := by
        simp [h]
      rw [if_neg this]
      rfl

theorem repS_len (y z : List Nat) : ∀ (l : List Nat) (k : Nat), (repS y z k l).length ≤ l.length * (z.length + 1)
  | [], _ => by simp [repS]
  | c :: l, k + 1 => by
    have := repS_len y z l k
    unfold repS
    rw [List.length_cons, Nat.succ_mul]
    omega
  | c :: l, 0 => by
    unfold repS
    rw [List.length_cons, Nat.succ_mul]
    split
    · have := repS_len y z l (y.length - 1)
      rw [List.length_append]
      omega
    · have := repS_len y z l 0
      rw [List.length_cons]
      omega

theorem replace_len (x y z : Str) (hy : 0 < y.length) : (Txt.replace x y z).length ≤ x.length * (z.length + 1) := by
  have := repS_len (toL y) (toL z) (toL x) 0
  rw [← replace_toL x y z hy, toL_length, toL_length, toL_length] at this
  exact this
end Mine

namespace Mine

def escS (x : Str) : Str :=
  Txt.replace (Txt.replace (Txt.replace (Txt.replace (Txt.replace x (Str.ofString "\r\n") (Str.ofString "\n")) (Str.ofString "\r") (Str.ofString "\n")) (Str.ofString "&") (Str.ofString "&amp;")) (Str.ofString "<") (Str.ofString "&lt;")) (Str.ofString ">") (Str.ofString "&gt;")

section
variable {prog : Program} {w : World} {A : Around} {E : Value → Shared → Prop} {s s₀ : Shared} {mg mb : Str → Option Value} {L : Addr} {m : Str → Option Value}

theorem stI3 {fd : FuncData} {a : Addr} {n : Str} {v : Value} {Q : Unit → Shared → Prop} (x : InCall s₀ L m s) (hl : (callEnv fd L a).kindOf n = some .local)
    (hp : ((callEnv fd L a).scope.kind == .class || ((callEnv fd L a).scope.kind == .module && (callEnv fd L a).locals != (callEnv fd L a).globals)) = false)
    (h : ∀ h' tk, InCall s₀ L (fun y => if y = n then some v else m y) { s with heap := h', toks := tk } → 0 < tk → Q () { s with heap := h', toks := tk }) :
    wpAny (model prog w) A (storeName (callEnv fd L a) n v) Q E s := by
  refine wpAny_storeName_local (env := callEnv fd L a) hl x.ns (fun h' hn' hs' => h h' _ ⟨?_, hn', fun b o e => ?_, x.fresh⟩ (Nat.succ_pos _)) hp
  · obtain ⟨h₁, tk, e⟩ := x.same
    exact ⟨h', s.toks + 1, by rw [e]⟩
  · exact hs'.extBut b o (Nat.ne_of_lt (Nat.lt_of_lt_of_le (Heap.lt_size e) x.fresh)) (x.keep b o e)

/-- text = text.replace(y, z) -/
theorem repl_stmt {fd : FuncData} {a : Addr} {x y z : Str} {t : Tok} {k1 k2 : Nat} {p0 p1 p2 p3 p4 p5 p6 : Pos} {Q : Flow → Shared → Prop} (X : InCall s₀ L m s) (hpos : 0 < s.toks) (hm : m (Str.ofString "text") = some (.str x t))
    (hk : fd.scope.kind = .function) (hl : (callEnv fd L a).kindOf (Str.ofString "text") = some .local)
    (hp : ((callEnv fd L a).scope.kind == .class || ((callEnv fd L a).scope.kind == .module && (callEnv fd L a).locals != (callEnv fd L a).globals)) = false)
    (hsw : swapsWith (.Call (.Attribute (.Name (Str.ofString "text") p2) (Str.ofString "replace") p3) [.Constant (.str y) k1 p4, .Constant (.str z) k2 p5] [] p6) (some (.Name (Str.ofString "text") p1)) p0.line (callEnv fd L a) = pure false)
    (hline : (p3.endLine == p6.line) = true) (hx : x.length ≤ 1048576) (hz : z.length ≤ 14) (hyz : (y == z) = false)
    (h : ∀ s' m' t', InCall s₀ L m' s' → 0 < s'.toks → m' (Str.ofString "text") = some (.str (Txt.replace x y z) t') → Q .next s') :
    wpAny (model prog w) A (exec (.Assign [.Name (Str.ofString "text") p1] (.Call (.Attribute (.Name (Str.ofString "text") p2) (Str.ofString "replace") p3) [.Constant (.str y) k1 p4, .Constant (.str z) k2 p5] [] p6) p0) (callEnv fd L a)) Q E s := by
  refine wpAny_Assign_Name ?_ hsw
  refine Call_method2 ab_Name se_Const2 hline ?_
  refine ldI X hk hl hm ?_ (by decide)
  refine ⟨"str", "str.replace", F.plainAttrs_str, F.slot_str_replace, F.type_str_replace, typeIs_str _ _ _, (fun _ e => nomatch e), ?_⟩
  refine Calls.callWith_builtin rfl (Calls.evalArgs_plain (Calls.spliced_cons ?_))
  refine wpAny_Constant_str ?_
  refine Calls.spliced_cons ?_
  refine wpAny_Constant_str ?_
  refine Calls.spliced_nil ?_
  refine SC.replaceW (Nat.ne_of_gt hpos) (Nat.succ_ne_zero _) (Nat.ne_of_lt (Nat.lt_succ_self _)) hyz hx hz fun t' k => ?_
  refine stI3 (X.tok k) hl hp fun h' tk X' htk => ?_
  exact h _ _ t' X' htk (by simp)

theorem escape_code {x : Str} {t : Tok} {base : Heap} {outer : List Env} (G : Gd w mg mb s.heap) (hroom : A.depth < recursionLimit) (hh : A.handled = none) (hx : x.length ≤ 1000) (B : Below A base outer s.heap) {R : Result → Shared → Prop}
    (hok : x.cps.toList.any ctl = false → ∀ u s', Keeps s s' → R (.ok (.ret (.str (escS x) u))) s')
    (herr : x.cps.toList.any ctl = true → ∀ e a0 h' tk, Heap.FlyingW base outer e (.type "ValueError") a0 h' → s.heap.UpToSlots h' → R (.error (.ref e)) { s with heap := h', toks := tk }) :
    codeAny (model prog w) A (.call (.ref 43) ⟨[.str x t], []⟩) R s := by
  refine codeAny_call_plain (a := 43) (o := { cls := .type "function", data := .func (fnAt w.params 43) }) hroom (G.X 43 _ rfl) rfl G.lim (codeRec_of G.X rfl) rfl (binds := [(Str.ofString "text", .str x t)]) rfl ?hcell ?hloc (fun h₁ hns keep => ?_) rfl rfl rfl
  case hcell =>
    intro y hy
    have := List.all_eq_true.mp (show ((fnAt w.params 43).scope.names.all fun x => x.2 != .cell) = true from rfl) y hy
    simpa using this
  case hloc =>
    intro y hy
    rw [List.mem_singleton.mp hy]
    rfl
  have X : InCall s s.heap.objs.size (fun y => [(Str.ofString "text", Value.str x t)].lookup y) { s with heap := h₁, toks := s.toks + 1 } := ⟨⟨h₁, _, rfl⟩, hns, keep, Nat.le_refl _⟩
  have G₁ : Gd w mg mb h₁ := G.keeps keep
  refine wpAny_mono (Q := fun f s' => R (.ok (.ret (retOf f))) s') ?_ (fun f s' p => by cases f <;> exact p) (fun _ _ x => x)
  refine wpAny_execs_cons ?_
  refine wpAny_Assign_Name ?_ rfl
  refine Call_method1 ?qa ?qb ?qc ?_
  case qa => exact ab_Name
  case qb => exact se_Name1
  case qc => exact rfl
  refine Calls.Name_function_global rfl rfl ?_ rfl
  refine Calls.loadGlobal_global G₁.g (mg_of G₁.X G₁.g (v := .ref 36) rfl) ?_
  obtain ⟨pp, pa, pb, hpat⟩ := pat_at (s := { s with heap := h₁, toks := s.toks + 1 }) G₁
  refine ⟨"re.Pattern", "re.Pattern.search", RF.plain_pat, RF.slot_search, RF.type_search, ⟨_, hpat, rfl⟩, (fun a e => by cases e; exact ⟨_, hpat, rfl⟩), ?_⟩
  refine Calls.callWith_builtin rfl (Calls.evalArgs_plain (Calls.spliced_cons ?_))
  refine ldI X rfl rfl rfl ?_ rfl
  refine Calls.spliced_nil ?_
  refine wpAny_mono (search_call (s := { s with heap := h₁, toks := s.toks + 1 }) G₁ (by omega)) (fun v s₂ hv => ?_) fun _ _ e => e
  obtain ⟨hv, hk₂⟩ := hv
  have X₂ := inCallMore X hk₂
  refine stI3 X₂ rfl rfl fun h₃ tk₃ X₃ htk₃ => ?_
  refine wpAny_execs_cons ?_
  refine wpAny_If ?_
  refine wpAny_isTrue_Compare1 ?_ rfl
  refine ldI X₃ rfl rfl rfl ?_ rfl
  refine wpAny_Constant_none ?_
  refine isNot_none ?_
  refine wpAny_truthy_bool ?_
  have X₄ : InCall s s.heap.objs.size (fun y => if y = Str.ofString "m" then some v else [(Str.ofString "text", Value.str x t)].lookup y) { s₂ with heap := h₃, toks := tk₃ } := X₃
  have hs₂ : ∃ h tk, s₂ = { s with heap := h, toks := tk } := X₂.same
  cases hany : x.cps.toList.any ctl with
  | true =>
    rw [hany, if_pos rfl] at hv
    obtain ⟨a, rfl⟩ := hv
    rw [if_pos (by rfl)]
    refine wpAny_execs_cons ?_
    refine wpAny_Raise_call F.excCall_ValueError F.excRaise_ValueError hh rfl ?_
    have G₃ : Gd w mg mb h₃ := G.keeps X₄.keep
    refine Calls.Name_function_global rfl rfl ?_ rfl
    refine Calls.loadGlobal_builtin G₃.g (mg_none_of G₃.X G₃.g rfl) G₃.b ((G₃.bi _ (by decide)).trans (show bootBuiltins "ValueError" = some (.type "ValueError") by kernel_rfl)) ⟨rfl, ?_⟩
    rw [se_Const1, back1]
    refine Calls.evalArgs_plain (Calls.spliced_cons ?_)
    refine wpAny_Constant_str ?_
    refine Calls.spliced_nil ⟨rfl, by show 1 ≤ sizeLine; decide, fun h₅ e hx₅ => ?_⟩
    obtain ⟨hh2, tk2, rfl⟩ := hs₂
    have hstays : base.StaysIn h₃ := fun b o e => X₄.keep b o (B.stays b o e)
    have hLnew : base.get? s.heap.objs.size = none := by
      cases hq : base.get? s.heap.objs.size with
      | none => rfl
      | some o => exact absurd (Heap.lt_size (B.stays _ o hq)) (Nat.lt_irrefl _)
    have hfr : h₃.FunFrames base (callEnv (fnAt w.params 43) s.heap.objs.size 43 :: outer) :=
      .cons (by show (fnAt w.params 43).scope.kind ≠ .module; exact (by decide : ScopeKind.function ≠ ScopeKind.module)) rfl X₄.ns hLnew (B.frames.of_keeps fun b o e _ => ⟨o, X₄.keep b o e, rfl⟩)
    refine wpAny_leaves_madeW (base := base) (h := h₃) (L := s.heap.objs.size) (Around.frames_deeper B.stack) rfl hstays hfr (cls := .type "ValueError") (args := _) ⟨hx₅.keeps, hx₅.new, hx₅.there⟩ fun h₆ tt hfl _ _ hup => ?_
    refine herr hany e (.ref tt) h₆ _ hfl ?_
    exact (Heap.UpToSlots.of_keeps fun b o e => hx₅.keeps b o (X₄.keep b o e)).trans hup
  | false =>
    rw [hany, if_neg Bool.false_ne_true] at hv
    subst hv
    rw [if_neg (by exact Bool.false_ne_true)]
    refine wpAny_execs_nil ?_
    refine wpAny_execs_cons ?_
    refine repl_stmt X₄ htk₃ rfl rfl rfl rfl rfl rfl (by omega) (by decide) (by decide) fun s5 m5 t5 X5 hp5 hm5 => ?_
    have l1 := replace_len x (Str.ofString "\r\n") (Str.ofString "\n") (by decide)
    have e1 : (Str.ofString "\n").length = 1 := by decide
    rw [e1] at l1
    refine wpAny_execs_cons ?_
    refine repl_stmt X5 hp5 hm5 rfl rfl rfl rfl rfl (by omega) (by decide) (by decide) fun s6 m6 t6 X6 hp6 hm6 => ?_
    have l2 := replace_len (Txt.replace x (Str.ofString "\r\n") (Str.ofString "\n")) (Str.ofString "\r") (Str.ofString "\n") (by decide)
    rw [e1] at l2
    refine wpAny_execs_cons ?_
    refine repl_stmt X6 hp6 hm6 rfl rfl rfl rfl rfl (by omega) (by decide) (by decide) fun s7 m7 t7 X7 hp7 hm7 => ?_
    have l3 := replace_len (Txt.replace (Txt.replace x (Str.ofString "\r\n") (Str.ofString "\n")) (Str.ofString "\r") (Str.ofString "\n")) (Str.ofString "&") (Str.ofString "&amp;") (by decide)
    have e3 : (Str.ofString "&amp;").length = 5 := by decide
    rw [e3] at l3
    refine wpAny_execs_cons ?_
    refine repl_stmt X7 hp7 hm7 rfl rfl rfl rfl rfl (by omega) (by decide) (by decide) fun s8 m8 t8 X8 hp8 hm8 => ?_
    have l4 := replace_len (Txt.replace (Txt.replace (Txt.replace x (Str.ofString "\r\n") (Str.ofString "\n")) (Str.ofString "\r") (Str.ofString "\n")) (Str.ofString "&") (Str.ofString "&amp;")) (Str.ofString "<") (Str.ofString "&lt;") (by decide)
    have e4 : (Str.ofString "&lt;").length = 4 := by decide
    rw [e4] at l4
    refine wpAny_execs_cons ?_
    refine repl_stmt X8 hp8 hm8 rfl rfl rfl rfl rfl (by omega) (by decide) (by decide) fun s9 m9 t9 X9 hp9 hm9 => ?_
    refine wpAny_execs_cons ?_
    refine wpAny_Return_some ?_
    refine ldI X9 rfl rfl hm9 ?_ rfl
    exact hok hany t9 s9 X9.done
end
end Mine

namespace Mine

/-- what a caught exception leaves: the base as it was, the rest up to the frames' notes -/
def K2 (base : Heap) (s s' : Shared) : Prop := ∃ h' tk, s' = { s with heap := h', toks := tk } ∧ base.StaysIn h' ∧ s.heap.UpToSlots h'

theorem K2.of_keeps {base : Heap} {s s' : Shared} (k : Keeps s s') (hb : base.StaysIn s.heap) : K2 base s s' := by
  obtain ⟨h', tk, rfl, hk⟩ := k
  exact ⟨h', tk, rfl, fun b o e => hk b o (hb b o e), Heap.UpToSlots.of_keeps hk⟩

def escdS (x : Str) : Str := if x.cps.toList.any ctl = true then Str.ofString "refused" else escS x

theorem sub_VE : isSubtype (.type "ValueError") (.type "ValueError") = pure true := by rw [isSubtype_type]; kernel_rfl
theorem notTup_VE : isSubtype (.type ((Manifest.find? "ValueError").elim "type" fun x => x.metatype)) (.type "tuple") = pure false := by
  rw [find?_eq_fast, isSubtype_type]; kernel_rfl

section
variable {prog : Program} {w : World} {A : Around} {E : Value → Shared → Prop} {s : Shared} {mg mb : Str → Option Value}

theorem exec_Try {env : Env} {body : List Stmt} {hs : List ExceptHandler} {pos : Pos} {Q : Flow → Shared → Prop} (h : wpAny (model prog w) A (tryStmt false (execs body env) hs (execs [] env) [] env) Q E s) :
    wpAny (model prog w) A (exec (.Try body hs [] [] pos) env) Q E s := by
  show wpAny (model prog w) A (standAt pos >>= fun _ => tryStmt false (execs body env) hs (execs [] env) [] env) Q E s
  exact wpAny_bind (wpAny_standAt h)

theorem escaped_spec {x : Str} {t : Tok} {base : Heap} {outer : List Env} (G : Gd w mg mb s.heap) (Gb : Gd w mg mb base) (hroom : A.depth + 1 < recursionLimit) (hh : A.handled = none) (hx : x.length ≤ 1000) (B : Below A base outer s.heap) :
    wpAny (model prog w) A (call (.ref 73) [.str x t]) (fun v s' => (∃ u, v = .str (escdS x) u) ∧ K2 base s s') E s := by
  refine call_of G (by omega) rfl rfl rfl rfl rfl rfl (fun s₁ X _ => ?_) rfl rfl rfl
  have G₁ : Gd w mg mb s₁.heap := G.keeps X.keep
  have hstays : base.StaysIn s₁.heap := fun b o e => X.keep b o (B.stays b o e)
  have hLnew : base.get? s.heap.objs.size = none := by
    cases hq : base.get? s.heap.objs.size with
    | none => rfl
    | some o => exact absurd (Heap.lt_size (B.stays _ o hq)) (Nat.lt_irrefl _)
  have B₁ : Below (A.deeper (callEnv (fnAt w.params 73) s.heap.objs.size 73)) base (callEnv (fnAt w.params 73) s.heap.objs.size 73 :: outer) s₁.heap :=
    ⟨Around.frames_deeper B.stack, hstays, .cons (by show (fnAt w.params 73).scope.kind ≠ .module; exact (by decide : ScopeKind.function ≠ ScopeKind.module)) rfl X.ns hLnew (B.frames.of_keeps fun b o e _ => ⟨o, X.keep b o e, rfl⟩)⟩
  refine wpAny_execs_cons ?_
  refine exec_Try ?_
  refine wpAny_tryStmt_except ?_
  refine wpAny_execs_cons ?_
  refine wpAny_Return_some ?_
  refine Call_Name (trees := [(false, _)]) (by rw [se_Name1, back1]) ?_
  refine Calls.Name_function_global rfl rfl ?_ rfl
  refine Calls.loadGlobal_global G₁.g (mg_of G₁.X G₁.g (v := .ref 43) rfl) ?_
  refine Calls.callWith_function (o := { cls := .type "function", data := .func (fnAt w.params 43) }) (fd := fnAt w.params 43) ?_
  refine Calls.evalArgs_plain (Calls.spliced_cons ?_)
  refine ldI X rfl rfl rfl ?_ rfl
  refine Calls.spliced_nil ⟨⟨G₁.X 43 _ rfl, rfl⟩, ?_⟩
  refine wpAny_call (escape_code (A := A.deeper (callEnv (fnAt w.params 73) s.heap.objs.size 73)) (x := x) (t := t) G₁ hroom hh hx B₁ (fun hno u s' hk => ?_) (fun hany e a0 h' tk hfl hup => ?_))
  · have e0 : escdS x = escS x := by rw [escdS, hno, if_neg Bool.false_ne_true]
    exact ⟨⟨u, by rw [e0]; rfl⟩, K2.of_keeps (inCallKeeps X hk) B.stays⟩
  · have e0 : escdS x = Str.ofString "refused" := by rw [escdS, hany, if_pos rfl]
    obtain ⟨hh1, tk1, rfl⟩ := X.same
    dsimp only
    refine wpAny_looks_onW (Around.frames_deeper B.stack) rfl hfl fun h₂ hheld hup₂ => ?_
    refine wpAny_landsW hheld fun h₃ hfl₃ hup₃ => ?_
    refine wpAny_handleBy_cons ?_ (by intro h; cases h)
    refine codeAny_handlers_test ?_
    have G₃ : Gd w mg mb h₃ := Gb.keeps hfl₃.1
    refine Calls.Name_function_global rfl rfl ?_ rfl
    refine Calls.loadGlobal_builtin G₃.g (mg_none_of G₃.X G₃.g rfl) G₃.b ((G₃.bi _ (by decide)).trans (show bootBuiltins "ValueError" = some (.type "ValueError") by kernel_rfl)) ?_
    refine wpAny_excMatches_type (X := "ValueError") (b := true) hfl₃.there F.excRaise_ValueError.isExc notTup_VE sub_VE ?_
    refine codeAny_handlers_suite ?_
    obtain ⟨f1, f2, f3, f4⟩ := hfl₃
    refine wpAny_setFlight_noneW f1 f3 f4.at fun h₄ k1 k2 k3 k4 => ?_
    refine wpAny_execs_cons ?_
    refine wpAny_Return_some ?_
    refine wpAny_Constant_str ?_
    refine ⟨⟨_, by rw [e0]; rfl⟩, h₄, _, rfl, k1, ?_⟩
    exact ((((Heap.UpToSlots.of_keeps X.keep).trans hup).trans hup₂).trans hup₃).trans fun b o e hn => ⟨o.slots, k4 b o e hn⟩
end
end Mine

namespace Mine

section
variable {prog : Program} {w : World} {A : Around} {E : Value → Shared → Prop} {s : Shared} {env : Env}

theorem strs_push (l : List (Str × Tok)) (y : Str) (u : Tok) : (strValues l).toArray.push (.str y u) = (strValues (l ++ [(y, u)])).toArray := by
  unfold strValues
  simp

/-- a comprehension over a zip of two lists, two names taken -/
theorem comp_zip {elt iter : Expr} {a b : Str} {pa pb tp : Pos} {kk : Nat} {scope : Scope} {pos : Pos} {Q : Value → Shared → Prop}
    (hh : A.handled = none) (hfree : ∀ y ∈ scope.names, y.2 ≠ .free) (hcell : ∀ y ∈ scope.names, y.2 ≠ .cell) (hkind : scope.kind = .function)
    (hnames : ∀ y ∈ scope.names, y.2 = .local → scope.names.lookup y.1 = some .local) (hxa : scope.names.lookup a = some .local) (hxb : scope.names.lookup b = some .local) (hab : a ≠ b)
    (h : wpAny (model prog w) A (eval iter env) (fun zv s₁ => ∃ (z TI TO i1 i2 l1 l2 : Addr) (xs ys : Array Value) (res : List Str), zv = .ref z ∧ ZipApart z TI TO i1 i2 l1 l2 ∧
      (IsZip s₁.heap z TI TO .none ∧ IsPair s₁.heap TI (.ref i1) (.ref i2) ∧ (∃ a b, IsPair s₁.heap TO a b) ∧ s₁.heap.IsListIter i1 l1 0 ∧ s₁.heap.IsListIter i2 l2 0 ∧ s₁.heap.IsList l1 xs ∧ s₁.heap.IsList l2 ys) ∧
      res.length = min xs.size ys.size ∧ res.length ≤ sizeLine ∧
      (∀ C (i : Nat) x y s₃ m₃ E', xs[i]? = some x → ys[i]? = some y → s₃.heap.Ns C m₃ → m₃ a = some x → m₃ b = some y → (∀ c o, c ∉ [z, TO, i1, i2] → s₁.heap.get? c = some o → s₃.heap.get? c = some o) →
        wpAny (model prog w) A (eval elt (compEnv scope C env)) (fun v s₄ => (∃ r u, res[i]? = some r ∧ v = .str r u) ∧ Keeps s₃ s₄) E' s₃) ∧
      (∀ D l h' tk, s₁.heap.get? D = none → h'.PlainList D (strValues l).toArray → l.map (·.1) = res →
        (∀ c o, c ∉ [z, TO, i1, i2] → s₁.heap.get? c = some o → h'.get? c = some o) → Q (.ref D) { s₁ with heap := h', toks := tk })) E s)
    (hs : ∀ x, foldedSetIterable iter env x = pure x := by intro _; rfl) :
    wpAny (model prog w) A (eval (.ListComp elt [⟨.Tuple [.Name a pa, .Name b pb] kk tp, iter, [], 0⟩] scope pos) env) Q E s := by
  refine wpAny_ListComp hfree hkind hnames (wpAny_mono h (fun zv s₁ h₁ => ?_) fun _ _ e => e) hs
  obtain ⟨z, TI, TO, i1, i2, l1, l2, xs, ys, res, rfl, D, hst, hlen, hsz, helt, hQ⟩ := h₁
  have W := WalksT.zip2 (prog := prog) (w := w) hh z TI TO i1 i2 l1 l2 D xs ys
  refine W.self 0 _ _ _ hst ?_
  refine wpAny_newObj_type (wpAny_newFunctionEnv hcell (by intro y hy; simp at hy) (fun h₂ hns hsb => ?_) hkind) (by size_fits)
  dsimp only at hns hsb ⊢
  generalize hH1 : s₁.heap.push { cls := .type "list", data := .seq ([] : List Value).toArray } = H1 at hns hsb ⊢
  have hH1s : H1.objs.size = s₁.heap.objs.size + 1 := by rw [← hH1, Heap.size_push]
  have hDC : s₁.heap.objs.size ≠ H1.objs.size := by rw [hH1s]; exact Nat.ne_of_lt (Nat.lt_succ_self _)
  have below : ∀ c, c < s₁.heap.objs.size → c ≠ H1.objs.size ∧ c ≠ s₁.heap.objs.size := fun c hc => ⟨by rw [hH1s]; exact Nat.ne_of_lt (Nat.lt_succ_of_lt hc), Nat.ne_of_lt hc⟩
  have old : ∀ c o, s₁.heap.get? c = some o → h₂.get? c = some o := fun c o e =>
    hsb.extBut c o (below c (Heap.lt_size e)).1 (Heap.get?_push_of_some _ (hH1 ▸ Heap.get?_push_of_some _ e))
  have hacc : h₂.PlainList s₁.heap.objs.size (strValues []).toArray := ⟨_, hsb.extBut _ _ hDC (Heap.get?_push_of_some _ (hH1 ▸ Heap.get?_push_size _ rfl))⟩
  have hst₂ := W.frame 0 s₁.heap h₂ hst fun c _ o e => old c o e
  have fplt : ∀ c ∈ [z, TI, TO, i1, i2, l1, l2], c < s₁.heap.objs.size := by
    obtain ⟨hz, hTI, ⟨ta, tb, hTO⟩, ⟨o1, h1, c1, _⟩, ⟨o2, h2, c2, _⟩, ⟨ol1, hl1, cl1, _⟩, ⟨ol2, hl2, cl2, _⟩⟩ := hst
    intro c hc
    simp only [List.mem_cons, List.not_mem_nil, or_false] at hc
    rcases hc with rfl | rfl | rfl | rfl | rfl | rfl | rfl
    · exact Heap.lt_size hz
    · exact Heap.lt_size hTI
    · exact Heap.lt_size hTO
    · exact Heap.lt_size h1
    · exact Heap.lt_size h2
    · exact Heap.lt_size hl1
    · exact Heap.lt_size hl2
  have hDf : s₁.heap.objs.size ∉ [z, TI, TO, i1, i2, l1, l2] := fun hm => Nat.lt_irrefl _ (fplt _ hm)
  have hCf : H1.objs.size ∉ [z, TI, TO, i1, i2, l1, l2] := fun hm => by
    have h1 := fplt _ hm
    rw [hH1s] at h1
    exact Nat.lt_irrefl _ (Nat.lt_of_succ_lt h1)
  have hDw : s₁.heap.objs.size ∉ [z, TO, i1, i2] := fun hm => hDf (W.sub _ hm)
  have hCw : H1.objs.size ∉ [z, TO, i1, i2] := fun hm => hCf (W.sub _ hm)
  have loop : ∀ s₂ : Shared, s₂ = { s₁ with heap := h₂, toks := s₁.toks + ([] : List (Str × Value)).length } →
      codeAny (model prog w) A (.compLoop (.ListComp elt [⟨.Tuple [.Name a pa, .Name b pb] kk tp, iter, [], 0⟩] scope pos) 0 (.ref z) (.ref s₁.heap.objs.size) (compEnv scope H1.objs.size env))
        (fun r s' => ∃ m, s'.heap.Ns H1.objs.size m ∧ ∀ h', Heap.SameBut H1.objs.size s'.heap h' →
          match r with | .ok _ => Q (.ref s₁.heap.objs.size) { s' with heap := h' } | .error x => wpAny (model prog w) A (passOn "comprehension.variables-let-go" x (compEnv scope H1.objs.size env)) Q E { s' with heap := h' }) s₂ := by
    rintro s₂ rfl
    refine kcp_loop (fun k s' => ∃ i h' tk m' l, s' = { s₁ with heap := h', toks := tk } ∧ i ≤ res.length ∧ k = res.length + 1 - i ∧
      (IsZip h' z TI TO .none ∧ IsPair h' TI (.ref i1) (.ref i2) ∧ (∃ a b, IsPair h' TO a b) ∧ h'.IsListIter i1 l1 i ∧ h'.IsListIter i2 l2 i ∧ h'.IsList l1 xs ∧ h'.IsList l2 ys) ∧
      h'.PlainList s₁.heap.objs.size (strValues l).toArray ∧ h'.Ns H1.objs.size m' ∧ l.map (·.1) = res.take i ∧
      (∀ c o, c ≠ H1.objs.size → c ∉ [z, TO, i1, i2] → c ≠ s₁.heap.objs.size → h₂.get? c = some o → h'.get? c = some o)) ?_ (res.length + 1)
      ⟨0, h₂, _, _, [], rfl, Nat.zero_le _, rfl, hst₂, hacc, hns, rfl, fun _ _ _ _ _ e => e⟩
    rintro k s' ⟨i, H, tk, m', l, rfl, hi, rfl, hst', hacc', hn', hl, hk⟩
    by_cases hlt : i < res.length
    · have hix : i < xs.size := by omega
      have hiy : i < ys.size := by omega
      refine W.item i _ _ _ (by omega) hst' fun T vals h₃ tk₃ hv hTn hT hmid hk₃ => ?_
      obtain ⟨x, y, hx, hy, rfl⟩ := hv
      have hTC : T ≠ H1.objs.size := Nat.ne_of_gt (Nat.lt_of_lt_of_le hn'.lt hTn)
      refine W.go _ _ _ i T _ _ _ hmid fun h₄ hst₄ hk₄ => ?_
      have hT₄ : h₄.IsTuple T #[x, y] := hT.at fun o e => hk₄ _ o (W.apart i T _ hmid) e
      have hn₄ : h₄.Ns H1.objs.size m' := (hn'.at' fun o e => hk₃ _ o hCw e).at' fun o e => hk₄ _ o hCw e
      refine kcp_assign (env := compEnv scope H1.objs.size env) hh hT₄ hxa hxb (by simp [compEnv, hkind]) hn₄ fun h₅ tk₅ hn₅ hk₅ => ?_
      have up₅ : ∀ c o, c ≠ H1.objs.size → c ∉ [z, TO, i1, i2] → H.get? c = some o → h₅.get? c = some o := fun c o hc hw e => hk₅ c o hc (hk₄ c o hw (hk₃ c o hw e))
      have hst₅ := W.frame (i + 1) h₄ h₅ hst₄ fun c hc o e => hk₅ c o (fun h => hCf (by rw [← show c = H1.objs.size from h]; exact hc)) e
      refine wpAny_mono (helt H1.objs.size i x y _ _ _ hx hy hn₅ ?_ ?_ ?_) (fun v s₆ h₆ => ?_) fun _ _ e => e
      · simp [hab]
      · simp
      · intro c o hw e
        have hc := below c (Heap.lt_size e)
        exact up₅ c o hc.1 hw (hk c o hc.1 hw hc.2 (old c o e))
      · obtain ⟨⟨r, u, hr, rfl⟩, h₇, tk₇, rfl, hk₇⟩ := h₆
        have hacc₇ : h₇.PlainList s₁.heap.objs.size (strValues l).toArray := hacc'.at fun o e => hk₇ _ o (up₅ _ o hDC hDw e)
        have hll : l.length = i := by
          have := congrArg List.length hl
          rw [List.length_map, List.length_take] at this
          omega
        refine wpAny_list_append_plain hacc₇ (fun h₈ hl₈ hs₈ => ?_) (by unfold strValues; rw [List.size_toArray, List.length_map]; omega)
        rw [strs_push] at hl₈
        refine ⟨res.length + 1 - (i + 1), by omega, i + 1, h₈, tk₇, _, l ++ [(r, u)], rfl, hlt, rfl, ?_, hl₈, (hn₅.keeps hk₇).sameBut hs₈ (Ne.symm hDC), ?_, ?_⟩
        · exact W.frame (i + 1) h₅ h₈ hst₅ fun c hc o e => hs₈.extBut c o (fun h => hDf (by rw [← show c = s₁.heap.objs.size from h]; exact hc)) (hk₇ c o e)
        · rw [List.map_append, hl, List.take_add_one, hr]
          rfl
        · intro c o hc hw hD' e
          exact hs₈.extBut c o hD' (hk₇ c o (up₅ c o hc hw (hk c o hc hw hD' e)))
    · have hin : i = res.length := by omega
      subst hin
      have hst'' := hst'
      rw [hlen] at hst''
      refine W.done _ _ _ hst'' fun h₃ tk₃ hk₃ => ?_
      refine ⟨m', hn'.at' fun o e => hk₃ _ o hCw e, fun h₄ hs₄ => ?_⟩
      refine hQ s₁.heap.objs.size l h₄ tk₃ ?_ ((hacc'.at fun o e => hk₃ _ o hDw e).extBut hs₄.extBut hDC) ?_ fun c o hw e => ?_
      · cases e : s₁.heap.get? s₁.heap.objs.size with
        | none => rfl
        | some o => exact absurd (Heap.lt_size e) (Nat.lt_irrefl _)
      · rw [hl, List.take_of_length_le (Nat.le_refl _)]
      · have hc := below c (Heap.lt_size e)
        exact hs₄.extBut c o hc.1 (hk₃ c o hw (hk c o hc.1 hw hc.2 (old c o e)))
  exact codeAny_compStart_list (loop _ rfl) (W.self 0 _ _ _ hst₂ (loop _ rfl))
end
end Mine

namespace Mine

theorem noPylong10 (a : Int) : Builtin.divisionGoesByPylong a 10 = false := by
  unfold Builtin.divisionGoesByPylong
  have : ¬ ((if (10 : Int) == 0 then 0 else (10 : Int).natAbs.log2 / 30 + 1) > 300) := by decide
  simp only [this, decide_false, Bool.false_and]

section
variable {prog : Program} {w : World} {A : Around} {E : Value → Shared → Prop} {s : Shared} {env : Env}

/-- v[:10] of a list -/
theorem slice10 {v : Expr} {k0 : Nat} {p0 p1 p2 : Pos} {Q : Value → Shared → Prop}
    (h : wpAny (model prog w) A (eval v env) (fun xv s₁ => ∃ l items, xv = .ref l ∧ s₁.heap.IsList l items ∧ items.size ≤ sizeLine ∧
      ∀ D h' k, s₁.heap.get? D = none → h'.PlainList D (slicePick items none (some 10) none) → (∀ b o, s₁.heap.get? b = some o → h'.get? b = some o) → Q (.ref D) { s₁ with heap := h', toks := k }) E s)
    (ht : ∀ l r, letTemporaryGo v (.ref l) r = pure ()) :
    wpAny (model prog w) A (eval (.Subscript v (.Slice none (some (.Constant (.int 10) k0 p0)) none p1) p2) env) Q E s := by
  refine Subscript_ (wpAny_mono h (fun xv s₁ h₁ => ?_) fun _ _ e => e)
  obtain ⟨l, items, rfl, hl, hsz, hq⟩ := h₁
  refine wpAny_Slice ?_
  refine wpAny_pure ?_
  show wpAny (model prog w) A (eval (.Constant (.int 10) k0 p0) env) _ _ _
  refine wpAny_Constant_int ?_
  refine wpAny_pure ?_
  have hs : subscripted (.Slice none (some (.Constant (.int 10) k0 p0)) none p1) false (.ref l) (.ref s₁.heap.objs.size) = operate [.ref s₁.heap.objs.size, .ref l] (getItem (.ref l) (.ref s₁.heap.objs.size)) := by with_unfolding_all rfl
  have hl' : (s₁.heap.push { cls := .type "slice", data := .fields #[.none, .int 10 s₁.toks, .none] }).IsList l items := hl.push _
  refine subscriptTail_ops (Heap.IsList.typeIs (s := { s₁ with heap := s₁.heap.push { cls := .type "slice", data := .fields #[.none, .int 10 s₁.toks, .none] }, toks := s₁.toks + 1 }) hl') list_getitem_lookup ?_ hs (ht l)
  refine wpAny_getItem_list_slice (s := { s₁ with heap := s₁.heap.push { cls := .type "slice", data := .fields #[.none, .int 10 s₁.toks, .none] }, toks := s₁.toks + 1 }) hl' (Heap.IsSliceOf.new ..) .none (.int 10 _) .none (by simp) ?_ hsz
  refine hq _ _ _ ?_ ⟨_, Heap.get?_push_size _ rfl⟩ fun b o e => Heap.get?_push_of_some _ (Heap.get?_push_of_some _ e)
  cases e : s₁.heap.get? (s₁.heap.push { cls := .type "slice", data := .fields #[.none, .int 10 s₁.toks, .none] }).objs.size with
  | none => rfl
  | some o =>
    have := Heap.lt_size e
    rw [Heap.size_push] at this
    exact absurd (Nat.lt_of_succ_lt this) (Nat.lt_irrefl _)

theorem mulList {l : Addr} {items : Array Value} {k : Nat} {x : Int} {u : Tok} {Q : Value → Shared → Prop}
    (hl : s.heap.get? l = some { cls := .type "list", data := .seq items k }) (hlo : -(2 ^ 63 : Int) ≤ x) (hhi : x < 2 ^ 63) (hsz : items.size * x.toNat ≤ 2 ^ 24)
    (h : Q (.ref s.heap.objs.size) { s with heap := s.heap.push { cls := .type "list", data := .seq (List.foldl (fun x1 x2 => x1 ++ x2) #[] (List.replicate (if items.isEmpty = true then 0 else x.toNat) items)) } }) :
    wpAny (model prog w) A (binaryOp .Mult (.ref l) (.int x u)) Q E s :=
  wpAny_binaryOp_repeat_ref (T := "list") (U := "int") (by decide) ⟨_, hl, rfl⟩ (fun s' => typeIs_int s' x u) noFill_list_mul F.fills_int_mul F.slot_int_rmul repeat_list F.slot_int_index.lookup
    (call_meets F.slot_int_rmul (typeIs_int s x u) F.entry_int_rmul (F.args_int_rmul_2 _ _) (int___rmul___int_list x u l items k)
      ⟨hl, rfl, ⟨_, hl, rfl⟩, call_meets F.slot_list_mul ⟨_, hl, rfl⟩ F.entry_list_mul (F.args_list_mul_2 _ _)
        (AutoListH.list___mul___list_int_3 l items k x u (by simp [Builtin.List.listFitsIndex]; omega) (by omega) (by simp [Builtin.List.listTooLong, sizeLine]; omega))
        ⟨hl, h⟩⟩)

theorem eqv_nil : ∀ l : List Str, PyData.eqv (.list (l.map .str)) (.list []) = l.isEmpty
  | [] => by decide +kernel
  | x :: l => by
    rfl

theorem canLay_strs : ∀ l : List Str, (∀ x ∈ l, PyData.strOk x = true) → PyData.canLayAll0 (l.map .str) = true
  | [], _ => rfl
  | x :: l, h => by
    have h1 := h x (List.mem_cons_self ..)
    have h2 := canLay_strs l fun y hy => h y (List.mem_cons_of_mem _ hy)
    rw [List.map_cons]
    simp [PyData.canLayAll0, PyData.canLay0, h1, h2]

theorem reads_strs {h : Heap} : ∀ l : List (Str × Tok), ReadsAll h (strValues l) ((l.map (·.1)).map .str) []
  | [] => .nil
  | (x, u) :: l => .cons (.str x u) (reads_strs l)

/-- a list of texts against an empty one -/
theorem ne_nil {D D' : Addr} {l : List (Str × Tok)} {Q : Value → Shared → Prop} (hu : A.units + 64 < cLine) (hD : s.heap.IsList D (strValues l).toArray) (hD' : s.heap.IsList D' #[]) (hok : ∀ x ∈ l.map (·.1), PyData.strOk x = true)
    (h : Q (.bool (!(l.map (·.1)).isEmpty)) s) : wpAny (model prog w) A (compareOp .NotEq (.ref D) (.ref D')) Q E s := by
  obtain ⟨o, ho, hc, n, hd⟩ := hD
  obtain ⟨o', ho', hc', n', hd'⟩ := hD'
  have ra : Reads s.heap (.ref D) (.list ((l.map (·.1)).map .str)) [D] := .list ho hc hd (by simpa using reads_strs l)
  have rb : Reads s.heap (.ref D') (.list []) [D'] := .list ho' hc' hd' .nil
  refine SeqAt.compareNe_reads ra rb (canLay_strs _ hok) (by decide) ?_ ?_
  · have : (PyData.list []).depth = 1 := by decide
    rw [this]
    omega
  · rw [eqv_nil]
    exact h
end
end Mine

namespace Mine

section
variable {prog : Program} {w : World} {A : Around} {E : Value → Shared → Prop} {s : Shared} {env : Env}

/-- z = [.. for nm in a text ..]: the store is made inside -/
theorem assign_signs {elt iter : Expr} {nm z : Str} {px pz : Pos} {ifs : List Expr} {scope : Scope} {pos spos : Pos} {Q : Flow → Shared → Prop} (p : Nat → Bool) (f : Nat → Str)
    (hsw : swapsWith (.ListComp elt [⟨.Name nm px, iter, ifs, 0⟩] scope pos) (some (.Name z pz)) spos.line env = pure true)
    (hh : A.handled = none) (hfree : ∀ y ∈ scope.names, y.2 ≠ .free) (hcell : ∀ y ∈ scope.names, y.2 ≠ .cell) (hkind : scope.kind = .function)
    (hnames : ∀ y ∈ scope.names, y.2 = .local → scope.names.lookup y.1 = some .local) (hx : scope.names.lookup nm = some .local)
    (hy : env.kindOf z = some .local) (hp : (env.scope.kind == .class || (env.scope.kind == .module && env.locals != env.globals)) = false)
    (h : wpAny (model prog w) A (eval iter env) (fun xv s₁ => ∃ y t m, xv = .str y t ∧ y.length ≤ sizeLine ∧ s₁.heap.Ns env.locals m ∧
      (∀ C c u s₃ m₃ E', c ∈ y.cps.toList → s₃.heap.Ns C m₃ → m₃ nm = some (.str ⟨#[c]⟩ u) →
        wpAny (model prog w) A (testsOf ifs (compEnv scope C env)) (fun ok s₄ => ok = p c ∧ Keeps s₃ s₄) E' s₃) ∧
      (∀ C c u s₃ m₃ E', c ∈ y.cps.toList → p c = true → s₃.heap.Ns C m₃ → m₃ nm = some (.str ⟨#[c]⟩ u) →
        wpAny (model prog w) A (eval elt (compEnv scope C env)) (fun y s₄ => (∃ u, y = .str (f c) u) ∧ Keeps s₃ s₄) E' s₃) ∧
      (∀ D l h' tk, s₁.heap.get? D = none → h'.IsList D (strValues l).toArray → l.map (·.1) = (y.cps.toList.filter p).map f →
        h'.Ns env.locals (fun q => if q = z then some (.ref D) else m q) → (∀ b o, b ≠ env.locals → s₁.heap.get? b = some o → h'.get? b = some o) → Q .next { s₁ with heap := h', toks := tk })) E s)
    (hs : ∀ x, foldedSetIterable iter env x = pure x := by intro _; rfl) :
    wpAny (model prog w) A (exec (.Assign [.Name z pz] (.ListComp elt [⟨.Name nm px, iter, ifs, 0⟩] scope pos) spos) env) Q E s := by
  refine wpAny_Assign_ListComp_walk (liftP isSign p) (fun v y => ∃ a u, isSign a v ∧ y = .str (f a) u) hsw hfree hcell hkind hnames hx hy hp (wpAny_mono h (fun xv s₁ h₁ => ?_) fun _ _ e => e) hs
  obtain ⟨y, t, m, rfl, hsz, hn, htests, helt, hQ⟩ := h₁
  refine wpAny_pyIter_str fun o St W hst => ?_
  have up : ∀ (h' : Heap) b o', b ≠ env.locals → (∀ b o', b ≠ env.locals → b ∉ [s₁.heap.objs.size] → (s₁.heap.push o).get? b = some o' → h'.get? b = some o') → s₁.heap.get? b = some o' → h'.get? b = some o' :=
    fun h' b o' hb hk e => hk b o' hb (old_not_new e) (Heap.get?_push_of_some _ e)
  refine ⟨s₁.heap.objs.size, [s₁.heap.objs.size], [s₁.heap.objs.size], y.cps.size, SignAt y, St, m, rfl, W A hh, hsz, hst, ?_, ?_, hn.push _, ⟨?_, ?_⟩, ?_⟩
  · intro b hb
    show b < (s₁.heap.push o).objs.size
    rw [Heap.size_push, List.mem_singleton.mp hb]
    exact Nat.lt_succ_self _
  · intro hm
    exact absurd hn.lt ((List.mem_singleton.mp hm) ▸ Nat.lt_irrefl _)
  · intro C i v s₃ m₃ E' hP hn hm _ _
    obtain ⟨c, u, hc, rfl⟩ := hP
    have ha : isSign c (.str ⟨#[c]⟩ u) := ⟨u, rfl⟩
    rw [liftP_of isSign_inj ha]
    exact htests C c u s₃ m₃ E' (List.mem_of_getElem? (by simpa using hc)) hn hm
  · intro C i v s₃ m₃ E' hP hp' hn hm _ _
    obtain ⟨c, u, hc, rfl⟩ := hP
    have ha : isSign c (.str ⟨#[c]⟩ u) := ⟨u, rfl⟩
    rw [liftP_of isSign_inj ha] at hp'
    refine wpAny_mono (helt C c u s₃ m₃ E' (List.mem_of_getElem? (by simpa using hc)) hp' hn hm) (fun y s₄ h₄ => ?_) fun _ _ e => e
    obtain ⟨⟨u', hu⟩, hk'⟩ := h₄
    exact ⟨⟨c, u', ha, hu⟩, hk'⟩
  · intro D h' tk ys vs hnew hlD _ hlen hPv hF hn' hk
    obtain ⟨l, el, em⟩ := paired_strs isSign_inj p f vs y.cps.toList ys.toList (by rw [hlen, Array.length_toList]) (fun j v hv => by
      obtain ⟨c, u, hc, rfl⟩ := hPv j v hv
      exact ⟨c, by simpa using hc, u, rfl⟩) hF
    refine hQ D l h' tk ?_ ?_ em hn' fun b o' hb e => up h' b o' hb (fun b o' hb hw e => hk b o' hb hw e) e
    · cases e : s₁.heap.get? D with
      | none => rfl
      | some o' => exact absurd (hnew.symm.trans (Heap.get?_push_of_some _ e)) (by simp)
    · rw [← el, Array.toArray_toList]
      exact hlD
end
end Mine

namespace Mine

noncomputable def fdL (P : Params) (cd : Value) : FuncData := { fnAt P 78 with code := cd }

theorem env_eq (P : Params) (L fa : Addr) (cd : Value) : envOf (Str.ofString "law") (fnAt P 78).scope L fa cd = callEnv (fdL P cd) L fa := rfl

def rowS (x : Int) : Str := Str.ofString " \n&aB<>\r\t" ++ Txt.item (Str.ofString "\x08\x0c") ((x.fdiv 10).fmod 2)
def row9 : Str := Str.ofString " \n&aB<>\r\t "
def rowsL (ns : List Int) : List Str := (ns.take 10).map rowS ++ List.replicate 12 row9
def tailL : List Int := [2, 3, 5, 0, 4, 6, 3, 1, 8, 4, 3, 0]
def xsL (ns : List Int) : List Int := ns.take 10 ++ tailL
def signsL (ns : List Int) : List Str := List.zipWith (fun r x => Txt.item r (x.fmod 10)) (rowsL ns) (xsL ns)
def textS (ns : List Int) : Str := Txt.join (Str.ofString "") (signsL ns)

theorem intsAre_get : ∀ {vs : List Value} {ns : List Int}, IntsAre vs ns → ∀ (i : Nat) v, vs[i]? = some v → ∃ a, ns[i]? = some a ∧ isInt a v
  | _, _, .nil, i, v, h => by cases i <;> cases h
  | _, _, .cons a t r, 0, v, h => by
    simp only [List.getElem?_cons_zero, Option.some.injEq] at h
    exact ⟨a, rfl, t, h.symm⟩
  | _, _, .cons a t r, i + 1, v, h => by
    simp only [List.getElem?_cons_succ] at h ⊢
    exact intsAre_get r i v h

theorem fmod2 (a : Int) : 0 ≤ a.fmod 2 ∧ a.fmod 2 < 2 := by
  rw [Int.fmod_eq_emod_of_nonneg _ (by decide)]
  omega
theorem fmod10 (a : Int) : 0 ≤ a.fmod 10 ∧ a.fmod 10 < 10 := by
  rw [Int.fmod_eq_emod_of_nonneg _ (by decide)]
  omega

theorem item_len (x : Str) (i : Int) : (Txt.item x i).length = 1 := rfl

theorem repl12 (v : Value) : List.foldl (fun x1 x2 => x1 ++ x2) #[] (List.replicate (if (#[v] : Array Value).isEmpty = true then 0 else (12 : Int).toNat) #[v]) = (List.replicate 12 v).toArray := by
  rfl

theorem values_append (l : List (Str × Tok)) (x : Str) (u : Tok) : (strValues l).toArray ++ (List.replicate 12 (Value.str x u)).toArray = (strValues (l ++ List.replicate 12 (x, u))).toArray := by
  unfold strValues
  simp

noncomputable def bodyL (P : Params) : List Stmt := match (fnAt P 78).body with | .stmts b => b | _ => []

section
variable {prog : Program} {w : World} {A : Around} {E : Value → Shared → Prop} {s s₀ : Shared} {mg mb : Str → Option Value} {L fa : Addr} {cd : Value}

/-- the first statement -/
theorem law_signs {ax : Addr} {vs : List Value} {ns : List Int} {Q : Flow → Shared → Prop} (hh : A.handled = none)
    (X : InCall s₀ L (fun y => [(Str.ofString "script", Value.ref ax)].lookup y) s) (hl : s₀.heap.IsList ax vs.toArray) (hI : IntsAre vs ns) (hlen : ns.length ≤ 63)
    (h : ∀ D l s' m', InCall s₀ L m' s' → m' (Str.ofString "script") = some (.ref ax) → m' (Str.ofString "signs") = some (.ref D) → s'.heap.IsList D (strValues l).toArray → l.map (·.1) = rowsL ns →
      wpAny (model prog w) A (execs ((bodyL w.params).drop 1) (callEnv (fdL w.params cd) L fa)) Q E s') :
    wpAny (model prog w) A (execs (bodyL w.params) (callEnv (fdL w.params cd) L fa)) Q E s := by
  have hvl : vs.length = ns.length := hI.length
  refine wpAny_execs_cons ?_
  refine wpAny_Assign_Name ?_ rfl
  refine wpAny_BinOp ?_
  refine comp_list isInt isInt_inj (fun _ => true) rowS hh (by decide) (by decide) rfl (by decide) rfl ?_
  refine slice10 ?_ (by intro _ _; rfl)
  refine ldI X rfl rfl rfl ?_ rfl
  refine ⟨ax, vs.toArray, rfl, hl.at fun o e => X.keep _ o e, (by rw [List.size_toArray]; unfold sizeLine; omega), fun D₁ h₁ tk₁ hnew₁ hD₁ hk₁ => ?_⟩
  have hI10 := slice_ints_uptoW hI (y := 10) (by decide)
  have e10 : (10 : Int).toNat = 10 := rfl
  rw [e10] at hI10
  refine ⟨D₁, (slicePick vs.toArray none (some 10) none).toList, ns.take 10, rfl, by rw [Array.toArray_toList]; exact hD₁.isList, hI10.length, ?_, intsAre_get hI10, ?_, ?_, ?_⟩
  · rw [List.length_take]; unfold sizeLine; omega
  · rintro C a v s₃ m₃ E' ha ⟨u, rfl⟩ hn hm hk
    exact wpAny_pure ⟨rfl, keepsRefl _⟩
  · rintro C a v s₃ m₃ E' ha ⟨u, rfl⟩ _ hn hm hk
    refine wpAny_BinOp ?_
    refine wpAny_Constant_str ?_
    refine Subscript_ ?_
    refine wpAny_Constant_str ?_
    refine wpAny_BinOp ?_
    refine wpAny_BinOp ?_
    refine ldC (m := m₃) hn hm ?_ rfl rfl rfl
    refine wpAny_Constant_int ?_
    refine floordiv_int (by decide) ?_ (.inl (noPylong10 a))
    refine wpAny_Constant_int ?_
    refine mod_int (by decide) ?_
    have h2 := fmod2 (a.fdiv 10)
    have hl2 : (Str.ofString "\x08\x0c").length = 2 := by decide
    refine item_str (by unfold fitsSsize; simp; omega) (by rw [hl2]; omega) (by rw [hl2]; omega) (fun _ => ?_)
    refine add_str (fun t' tk => ⟨⟨t', rfl⟩, keepsTok _ _⟩) ?_
    rw [item_len]
    decide
  · intro D₂ l₂ h₂ tk₂ hnew₂ hD₂ em₂ hk₂
    obtain ⟨n₂, hD₂⟩ := hD₂
    have X₂ : InCall s₀ L (fun y => [(Str.ofString "script", Value.ref ax)].lookup y) { s with heap := h₂, toks := tk₂ } := X.kept fun b o e => hk₂ b o (hk₁ b o e)
    refine wpAny_BinOp ?_
    refine wpAny_List ?_
    refine wpAny_items_cons ?_ se_Const
    refine wpAny_Constant_str ?_
    refine wpAny_items_nil ⟨by show 1 ≤ sizeLine; decide, ?_⟩
    refine wpAny_Constant_int ?_
    refine mulList (k := 0) (Heap.get?_push_size _ rfl) (by decide) (by decide) (show (1 : Nat) * 12 ≤ 2 ^ 24 by decide) ?_
    rw [repl12]
    have X₃ := (X₂.pushedS { cls := .type "list", data := .seq #[Value.str row9 tk₂] } (tk₂ + 1)).pushedS { cls := .type "list", data := .seq (List.replicate 12 (Value.str row9 tk₂)).toArray } (tk₂ + 1 + 1)
    have hlenl : l₂.length ≤ 10 := by
      have := congrArg List.length em₂
      rw [List.length_map, List.length_map, List.filter_eq_self.mpr fun _ _ => rfl, List.length_take] at this
      omega
    refine P.add_list (n := n₂) (n2 := 0) (Heap.get?_push_of_some _ (Heap.get?_push_of_some _ hD₂)) (Heap.get?_push_size _ rfl) ?_ (by
      unfold strValues
      rw [List.size_toArray, List.size_toArray, List.length_map, List.length_replicate]
      unfold sizeLine
      omega)
    rw [values_append]
    have X₄ := X₃.pushedS { cls := .type "list", data := .seq (strValues (l₂ ++ List.replicate 12 (row9, tk₂))).toArray } (tk₂ + 1 + 1)
    have hDn := Heap.get?_push_size ((h₂.push { cls := .type "list", data := .seq #[Value.str row9 tk₂] }).push { cls := .type "list", data := .seq (List.replicate 12 (Value.str row9 tk₂)).toArray }) (o := { cls := .type "list", data := .seq (strValues (l₂ ++ List.replicate 12 (row9, tk₂))).toArray }) rfl
    have hLD := Nat.ne_of_lt X₃.ns.lt
    refine stI2 X₄ rfl rfl fun h₅ tk₅ X₅ hs₅ => ?_
    refine h _ (l₂ ++ List.replicate 12 (row9, tk₂)) _ _ X₅ rfl rfl ?_ ?_
    · exact ⟨_, hs₅.extBut _ _ (Ne.symm hLD) hDn, rfl, _, rfl⟩
    · rw [List.map_append, em₂, List.filter_eq_self.mpr fun _ _ => rfl]
      unfold rowsL
      rw [List.map_replicate]
end
end Mine

namespace Mine

theorem rows_len (ns : List Int) : ∀ r ∈ rowsL ns, r.length = 10 := by
  intro r hr
  unfold rowsL at hr
  rcases List.mem_append.mp hr with h | h
  · obtain ⟨x, _, rfl⟩ := List.mem_map.mp h
    unfold rowS
    rw [Str.length_append, item_len]
    decide
  · rw [List.eq_of_mem_replicate h]
    decide

theorem signs_len1 (ns : List Int) : ∀ r ∈ signsL ns, r.length ≤ 1 := by
  intro r hr
  unfold signsL at hr
  obtain ⟨i, hi, rfl⟩ := List.mem_iff_getElem.mp hr
  simp only [List.getElem_zipWith]
  exact Nat.le_of_eq (item_len _ _)

theorem rowsL_length (ns : List Int) : (rowsL ns).length = (ns.take 10).length + 12 := by
  unfold rowsL
  rw [List.length_append, List.length_map, List.length_replicate]
theorem xsL_length (ns : List Int) : (xsL ns).length = (ns.take 10).length + 12 := by
  unfold xsL
  rw [List.length_append]
  rfl
theorem signsL_length (ns : List Int) : (signsL ns).length = (ns.take 10).length + 12 := by
  unfold signsL
  rw [List.length_zipWith, rowsL_length, xsL_length, Nat.min_self]

theorem intsAre_app : ∀ {vs ws : List Value} {ns ms : List Int}, IntsAre vs ns → IntsAre ws ms → IntsAre (vs ++ ws) (ns ++ ms)
  | _, _, _, _, .nil, h => h
  | _, _, _, _, .cons a t r, h => .cons a t (intsAre_app r h)

section
variable {prog : Program} {w : World} {A : Around} {E : Value → Shared → Prop} {s s₀ : Shared} {mg mb : Str → Option Value} {L fa : Addr} {cd : Value}

/-- a row of written ints -/
inductive IntLits : List Expr → List Int → Prop
  | nil : IntLits [] []
  | cons (a : Int) (k : Nat) (p : Pos) {es : List Expr} {ns : List Int} (r : IntLits es ns) : IntLits (.Constant (.int a) k p :: es) (a :: ns)

theorem ints_items {env : Env} {pos : Pos} : ∀ {es : List Expr} {ns : List Int}, IntLits es ns → ∀ {Q : List Value → Shared → Prop} {s : Shared}, (∀ vs tk, IntsAre vs ns → Q vs { s with toks := tk }) →
    wpAny (model prog w) A (spliced (backTo pos (starEach es env))) Q E s
  | _, _, .nil, Q, s, h => wpAny_items_nil (h [] s.toks .nil)
  | _, _, .cons a k p r, Q, s, h => by
    refine wpAny_items_cons ?_ se_Const
    refine wpAny_Constant_int ?_
    exact ints_items r fun vs tk hv => h _ tk (.cons _ _ hv)

/-- v[:10] + [ints] -/
theorem xs_list {env : Env} {v : Expr} {k0 : Nat} {p0 p1 p2 p3 p4 : Pos} {es : List Expr} {ms : List Int} {Q : Value → Shared → Prop} (hes : IntLits es ms) (hms : ms.length ≤ 100)
    (h : wpAny (model prog w) A (eval v env) (fun xv s₁ => ∃ l vs ns, xv = .ref l ∧ s₁.heap.IsList l vs.toArray ∧ IntsAre vs ns ∧ ns.length ≤ 63 ∧
      ∀ D ys h' k, h'.IsList D ys.toArray → IntsAre ys (ns.take 10 ++ ms) → (∀ b o, s₁.heap.get? b = some o → h'.get? b = some o) → Q (.ref D) { s₁ with heap := h', toks := k }) E s)
    (ht : ∀ l r, letTemporaryGo v (.ref l) r = pure ()) :
    wpAny (model prog w) A (eval (.BinOp (.Subscript v (.Slice none (some (.Constant (.int 10) k0 p0)) none p1) p2) .Add (.List es p3) p4) env) Q E s := by
  refine wpAny_BinOp ?_
  refine slice10 (wpAny_mono h (fun xv s₁ h₁ => ?_) fun _ _ e => e) ht
  obtain ⟨l, vs, ns, rfl, hl, hI, hlen, hq⟩ := h₁
  have hvl : vs.length = ns.length := hI.length
  refine ⟨l, vs.toArray, rfl, hl, (by rw [List.size_toArray]; unfold sizeLine; omega), fun D₁ h₁ tk₁ hnew₁ hD₁ hk₁ => ?_⟩
  obtain ⟨n₁, hD₁⟩ := hD₁
  have hI10 := slice_ints_uptoW hI (y := 10) (by decide)
  have e10 : (10 : Int).toNat = 10 := rfl
  rw [e10] at hI10
  refine wpAny_List (ints_items hes fun ws tk₂ hws => ?_)
  have hwl : ws.length = ms.length := hws.length
  have hws2 : ws.toArray.size = ms.length := by simpa using hwl
  refine ⟨by rw [hwl]; unfold sizeLine; omega, ?_⟩
  have hsl : (slicePick vs.toArray none (some 10) none).size ≤ 10 := by
    have := hI10.length
    rw [Array.length_toList, List.length_take] at this
    omega
  refine P.add_list (n := n₁) (n2 := 0) (Heap.get?_push_of_some _ hD₁) (Heap.get?_push_size _ rfl) ?_ (by
    rw [hws2]
    unfold sizeLine
    omega)
  refine hq _ ((slicePick vs.toArray none (some 10) none).toList ++ ws) _ _ ?_ (intsAre_app hI10 hws) fun b o e => Heap.get?_push_of_some _ (Heap.get?_push_of_some _ (hk₁ b o e))
  rw [← List.append_toArray, Array.toArray_toList]
  exact ⟨_, Heap.get?_push_size _ rfl, rfl, _, rfl⟩

theorem lits12 {k1 k2 k3 k4 k5 k6 k7 k8 k9 k10 k11 k12 : Nat} {p1 p2 p3 p4 p5 p6 p7 p8 p9 p10 p11 p12 : Pos} :
    IntLits [.Constant (.int 2) k1 p1, .Constant (.int 3) k2 p2, .Constant (.int 5) k3 p3, .Constant (.int 0) k4 p4, .Constant (.int 4) k5 p5, .Constant (.int 6) k6 p6, .Constant (.int 3) k7 p7, .Constant (.int 1) k8 p8, .Constant (.int 8) k9 p9, .Constant (.int 4) k10 p10, .Constant (.int 3) k11 p11, .Constant (.int 0) k12 p12] tailL :=
  .cons _ _ _ (.cons _ _ _ (.cons _ _ _ (.cons _ _ _ (.cons _ _ _ (.cons _ _ _ (.cons _ _ _ (.cons _ _ _ (.cons _ _ _ (.cons _ _ _ (.cons _ _ _ (.cons _ _ _ .nil)))))))))))

theorem strs_get (l : List (Str × Tok)) (i : Nat) (v : Value) (h : (strValues l).toArray[i]? = some v) : ∃ r u, (l.map (·.1))[i]? = some r ∧ v = .str r u := by
  unfold strValues at h
  rw [List.getElem?_toArray, List.getElem?_map] at h
  cases e : l[i]? with
  | none => rw [e] at h; cases h
  | some q =>
    rw [e] at h
    refine ⟨q.1, q.2, by rw [List.getElem?_map, e]; rfl, ?_⟩
    simpa using h.symm

/-- the second statement -/
theorem law_text {ax D : Addr} {vs : List Value} {ns : List Int} {l : List (Str × Tok)} {m : Str → Option Value} {Q : Flow → Shared → Prop} (G : Gd w mg mb s₀.heap) (hh : A.handled = none)
    (X : InCall s₀ L m s) (hm1 : m (Str.ofString "script") = some (.ref ax)) (hm2 : m (Str.ofString "signs") = some (.ref D)) (hD : s.heap.IsList D (strValues l).toArray) (hld : l.map (·.1) = rowsL ns)
    (hl : s₀.heap.IsList ax vs.toArray) (hI : IntsAre vs ns) (hlen : ns.length ≤ 63)
    (h : ∀ s' m' t, InCall s₀ L m' s' → m' (Str.ofString "text") = some (.str (textS ns) t) →
      wpAny (model prog w) A (execs ((bodyL w.params).drop 2) (callEnv (fdL w.params cd) L fa)) Q E s') :
    wpAny (model prog w) A (execs ((bodyL w.params).drop 1) (callEnv (fdL w.params cd) L fa)) Q E s := by
  refine wpAny_execs_cons ?_
  refine wpAny_Assign_Name ?_ rfl
  refine join_call se_ListComp1 rfl ?_
  rintro s' ⟨tk, rfl⟩
  have X' := X.tok tk
  have G' : Gd w mg mb s.heap := G.keeps X.keep
  refine comp_zip hh ?qa ?qb rfl ?qc rfl rfl ?qd ?_
  case qa => decide
  case qb => decide
  case qc => decide
  case qd => decide
  refine Call_Name (trees := [(false, _), (false, _)]) (by rw [se_Name, se_BinOp, se_nil, back2]) ?_
  refine Calls.Name_function_global rfl rfl ?_ rfl
  refine Calls.loadGlobal_builtin G'.g (mg_none_of G'.X G'.g rfl) G'.b ((G'.bi _ (by decide)).trans (show bootBuiltins "zip" = some (.type "zip") by kernel_rfl)) ?_
  refine PySem.callWith_type rfl ?_
  refine Calls.evalArgs_plain (Calls.spliced_cons ?_)
  refine ldI X' rfl rfl hm2 ?_ rfl
  refine Calls.spliced_cons ?_
  refine xs_list lits12 (by decide) ?_ (by intro _ _; rfl)
  refine ldI X' rfl rfl hm1 ?_ rfl
  refine ⟨ax, vs, ns, rfl, hl.at fun o e => X.keep _ o e, hI, hlen, fun D₂ ys h₂ tk₂ hD₂ hys hk₂ => ?_⟩
  refine Calls.spliced_nil ?_
  have hDl : h₂.IsList D (strValues l).toArray := hD.at fun o e => hk₂ _ o e
  have hlt1 : D < h₂.objs.size := by obtain ⟨_, e, _⟩ := hDl; exact Heap.lt_size e
  have hlt2 : D₂ < h₂.objs.size := by obtain ⟨_, e, _⟩ := hD₂; exact Heap.lt_size e
  refine call_zip_2 hDl hD₂ fun h₃ hz hTI hTO hi1 hi2 hsz hk₃ => ?_
  have hll : l.length = (ns.take 10).length + 12 := by
    have := congrArg List.length hld
    rwa [List.length_map, rowsL_length] at this
  have hyl : ys.length = (ns.take 10).length + 12 := by rw [hys.length, ← xsL_length]; rfl
  have ht10 : (ns.take 10).length ≤ 10 := by rw [List.length_take]; omega
  refine ⟨_, _, _, _, _, D, D₂, (strValues l).toArray, ys.toArray, signsL ns, rfl, zipApart_new hlt1 hlt2, ⟨hz, hTI, ⟨_, _, hTO⟩, hi1, hi2, hDl.at fun o e => hk₃ _ o e, hD₂.at fun o e => hk₃ _ o e⟩, ?_, ?_, ?_, ?_⟩
  · rw [signsL_length, List.size_toArray, List.size_toArray, hyl]
    unfold strValues
    rw [List.length_map, hll, Nat.min_self]
  · rw [signsL_length]; unfold sizeLine; omega
  · intro C i x y s₃ m₃ E' hx hy hn hma hmb hk
    obtain ⟨r, u, hr, rfl⟩ := strs_get l i x hx
    rw [hld] at hr
    obtain ⟨a, ha, ⟨u', rfl⟩⟩ := intsAre_get hys i y (by simpa using hy)
    have hrl := rows_len ns r (List.mem_of_getElem? hr)
    have h10 := fmod10 a
    refine Subscript_ ?_
    refine ldC (m := m₃) hn hma ?_ rfl rfl rfl
    refine wpAny_BinOp ?_
    refine ldC (m := m₃) hn hmb ?_ rfl rfl rfl
    refine wpAny_Constant_int ?_
    refine mod_int (by decide) ?_
    refine item_str (by unfold fitsSsize; simp; omega) (by rw [hrl]; omega) (by rw [hrl]; omega) (fun _ => ?_)
    refine ⟨⟨_, _, ?_, rfl⟩, keepsTok _ _⟩
    unfold signsL
    rw [List.getElem?_zipWith, hr, show (xsL ns)[i]? = some a from ha]
  · intro D₃ l₃ h₄ tk₄ hnew hD₃ em hk₄
    have hold : ∀ c o, h₂.get? c = some o → h₄.get? c = some o := fun c o e => hk₄ c o (by
      have hlt := Heap.lt_size e
      intro hm
      simp only [List.mem_cons, List.not_mem_nil, or_false] at hm
      rcases hm with hm | hm | hm | hm <;> (rw [hm] at hlt) 
      · exact absurd (Nat.lt_of_le_of_lt (Nat.le_add_right _ _) hlt) (Nat.lt_irrefl _)
      · exact absurd (Nat.lt_of_le_of_lt (Nat.le_add_right _ _) hlt) (Nat.lt_irrefl _)
      · exact Nat.lt_irrefl _ hlt
      · exact absurd (Nat.lt_of_le_of_lt (Nat.le_add_right _ _) hlt) (Nat.lt_irrefl _)) (hk₃ c o e)
    refine ⟨D₃, l₃, rfl, hD₃.isList, ?_, fun t' k => ?_⟩
    · rw [em]
      exact joinOk_of 1 63 (signs_len1 ns) (by rw [signsL_length]; omega) (by decide)
    · rw [em]
      have X₄ : InCall s₀ L m { s with heap := h₄, toks := k } := X.kept fun b o e => hold b o (hk₂ b o e)
      refine stI2 X₄ rfl rfl fun h₅ tk₅ X₅ hs₅ => ?_
      exact h _ _ t' X₅ rfl
end
end Mine

namespace Mine

def greatT (x : Str) : Str := Txt.join (Str.ofString " ") ((wordsS x).map greatS)

theorem fold_word_len (n : Nat) : ∀ (cs : List Nat) (p : List Str × Str), (∀ y ∈ p.1, y.length ≤ n) → p.2.length + cs.length ≤ n → (∀ y ∈ (cs.foldl stepW p).1, y.length ≤ n)
  | [], p, h, _ => h
  | c :: cs, p, h, hn => by
    rw [List.foldl_cons]
    rw [List.length_cons] at hn
    by_cases hc : c ∈ wsL
    · have e : stepW p c = (p.1 ++ [p.2], Str.ofString "") := if_pos hc
      rw [e]
      refine fold_word_len n cs _ ?_ ?_
      · intro y hy
        rcases List.mem_append.mp hy with hy | hy
        · exact h y hy
        · rw [List.mem_singleton.mp hy]; omega
      · have h0 : (Str.ofString "").length = 0 := rfl
        show (Str.ofString "").length + cs.length ≤ n
        omega
    · have e : stepW p c = (p.1, p.2 ++ ⟨#[c]⟩) := if_neg hc
      rw [e]
      refine fold_word_len n cs _ h ?_
      show (p.2 ++ ⟨#[c]⟩).length + cs.length ≤ n
      rw [Str.length_append]
      have h0 : (⟨#[c]⟩ : Str).length = 1 := rfl
      omega

theorem words_len (x : Str) : ∀ y ∈ wordsS x, y.length ≤ x.length ∧ 0 < y.length := by
  intro y hy
  unfold wordsS at hy
  obtain ⟨hy, hne⟩ := List.mem_filter.mp hy
  have hx : x.cps.toList.length = x.length := toL_length x
  have h0 : (Str.ofString "").length = 0 := rfl
  constructor
  · rcases List.mem_append.mp hy with hy | hy
    · exact fold_word_len x.length _ _ (fun _ h => by cases h) (by rw [h0, hx]; omega) y hy
    · have := (foldW_len x.cps.toList ([], Str.ofString "")).2
      rw [h0, hx] at this
      rw [List.mem_singleton.mp hy]
      unfold foldW
      omega
  · apply Nat.pos_of_ne_zero
    intro h
    have : y = Str.ofString "" := toL_inj (by rw [toL_empty]; exact List.eq_nil_of_length_eq_zero (by rw [toL_length]; exact h))
    rw [this] at hne
    exact absurd hne (by decide)

theorem words_count (x : Str) : (wordsS x).length ≤ x.length + 1 := by
  unfold wordsS
  refine Nat.le_trans (List.length_filter_le _ _) ?_
  have := (foldW_len x.cps.toList ([], Str.ofString "")).1
  have hx : x.cps.toList.length = x.length := toL_length x
  rw [hx] at this
  rw [List.length_append, List.length_singleton]
  unfold foldW
  have e0 : (([], Str.ofString "") : List Str × Str).1.length = 0 := rfl
  rw [e0] at this
  omega

theorem great_len (x : Str) : (greatS x).length ≤ 1 + x.length := by
  unfold greatS
  rw [Str.length_append]
  have h0 := gr0_len (x.cps.getD 0 0)
  have h1 := join_empty_len (k := 1) ((x.cps.toList.drop 1).map gr1) (by
    intro y hy
    obtain ⟨c, _, rfl⟩ := List.mem_map.mp hy
    exact gr1_len c)
  rw [List.length_map, List.length_drop] at h1
  have hx : x.cps.toList.length = x.length := toL_length x
  rw [hx] at h1
  have e : (Txt.join (Str.ofString "") ((x.cps.toList.drop 1).map gr1)) = Txt.join "" ((x.cps.toList.drop 1).map gr1) := rfl
  omega

theorem flat_sep_len (sep : Str) (k : Nat) : ∀ l : List Str, (∀ x ∈ l, x.length ≤ k) → (l.flatMap fun p => toL sep ++ toL p).length ≤ l.length * (sep.length + k)
  | [], _ => by simp
  | x :: l, h => by
    have h1 := h x (List.mem_cons_self ..)
    have h2 := flat_sep_len sep k l fun y hy => h y (List.mem_cons_of_mem _ hy)
    rw [List.flatMap_cons, List.length_append, List.length_append, toL_length, toL_length, List.length_cons, Nat.succ_mul]
    omega

theorem join_len (sep : Str) (k : Nat) (l : List Str) (h : ∀ x ∈ l, x.length ≤ k) : (Txt.join sep l).length ≤ l.length * (sep.length + k) := by
  rw [← toL_length]
  cases l with
  | nil => rw [join_nil]; exact Nat.zero_le _
  | cons x l =>
    have h1 := h x (List.mem_cons_self ..)
    have h2 := flat_sep_len sep k l fun y hy => h y (List.mem_cons_of_mem _ hy)
    rw [join_cons, List.length_append, toL_length, List.length_cons, Nat.succ_mul]
    omega

theorem text_len (ns : List Int) : (textS ns).length ≤ 22 := by
  unfold textS
  have := join_empty_len (k := 1) (signsL ns) (signs_len1 ns)
  rw [signsL_length, List.length_take] at this
  have e : Txt.join (Str.ofString "") (signsL ns) = Txt.join "" (signsL ns) := rfl
  omega

theorem greatT_len (x : Str) (hx : x.length ≤ 22) : (greatT x).length ≤ 1000 := by
  unfold greatT
  have h1 := join_len (Str.ofString " ") 23 ((wordsS x).map greatS) (by
    intro y hy
    obtain ⟨z, hz, rfl⟩ := List.mem_map.mp hy
    have := great_len z
    have := (words_len x z hz).1
    omega)
  rw [List.length_map] at h1
  have h2 := words_count x
  have h3 : (Str.ofString " ").length = 1 := by decide
  rw [h3] at h1
  omega

section
variable {prog : Program} {w : World} {A : Around} {E : Value → Shared → Prop} {s s₀ : Shared} {mg mb : Str → Option Value} {L fa : Addr} {cd : Value}

/-- the third statement -/
theorem law_great {x : Str} {t : Tok} {m : Str → Option Value} {Q : Flow → Shared → Prop} (G : Gd w mg mb s₀.heap) (hroom : A.depth < recursionLimit) (hh : A.handled = none)
    (X : InCall s₀ L m s) (hm : m (Str.ofString "text") = some (.str x t)) (hx : x.length ≤ 22)
    (h : ∀ s' m' t', InCall s₀ L m' s' → m' (Str.ofString "text") = some (.str x t) → m' (Str.ofString "great") = some (.str (greatT x) t') →
      wpAny (model prog w) A (execs ((bodyL w.params).drop 3) (callEnv (fdL w.params cd) L fa)) Q E s') :
    wpAny (model prog w) A (execs ((bodyL w.params).drop 2) (callEnv (fdL w.params cd) L fa)) Q E s := by
  refine wpAny_execs_cons ?_
  refine wpAny_Assign_Name ?_ rfl
  refine join_call se_ListComp1 rfl ?_
  rintro s' ⟨tk, rfl⟩
  have X' := X.tok tk
  have G' : Gd w mg mb s.heap := G.keeps X.keep
  refine comp_list isStr isStr_inj (fun _ => true) greatS hh ?qa ?qb rfl ?qc rfl ?_
  case qa => decide
  case qb => decide
  case qc => decide
  refine Call_Name (trees := [(false, _)]) (by rw [se_Name1, back1]) ?_
  refine Calls.Name_function_global rfl rfl ?_ rfl
  refine Calls.loadGlobal_global G'.g (mg_of G'.X G'.g (v := .ref 56) rfl) ?_
  refine Calls.callWith_function (o := { cls := .type "function", data := .func (fnAt w.params 56) }) (fd := fnAt w.params 56) ?_
  refine Calls.evalArgs_plain (Calls.spliced_cons ?_)
  refine ldI X' rfl rfl hm ?_ rfl
  refine Calls.spliced_nil ⟨⟨G'.X 56 _ rfl, rfl⟩, ?_⟩
  refine wpAny_mono (words_spec (A := A) (s := { s with toks := tk }) (x := x) (t := t) G' hroom hh (by omega)) (fun v s₁ hv => ?_) fun _ _ e => e
  obtain ⟨D, l, rfl, hD, hl, h₁, tk₁, rfl, hk₁⟩ := hv
  have hlen : l.length = (wordsS x).length := by rw [← hl, List.length_map]
  have hcnt := words_count x
  refine ⟨D, strValues l, wordsS x, rfl, hD, ?_, ?_, ?_, ?_, ?_, ?_⟩
  · unfold strValues; rw [List.length_map, hlen]
  · unfold sizeLine; omega
  · intro i v hv
    obtain ⟨r, u, hr, rfl⟩ := strs_get l i v (by simpa using hv)
    exact ⟨r, by rw [← hl]; exact hr, u, rfl⟩
  · rintro C a v s₃ m₃ E' ha ⟨u, rfl⟩ hn hm hk
    exact wpAny_pure ⟨rfl, keepsRefl _⟩
  · rintro C a v s₃ m₃ E' ha ⟨u, rfl⟩ _ hn hm' hk
    have G₃ : Gd w mg mb s₃.heap := G'.keeps fun b o e => hk b o (hk₁ b o e)
    have hal := words_len x a ha
    refine Call_Name (trees := [(false, _)]) (by rw [se_Name1, back1]) ?_
    refine Calls.Name_function_global rfl rfl ?_ rfl
    refine Calls.loadGlobal_global G₃.g (mg_of G₃.X G₃.g (v := .ref 61) rfl) ?_
    refine Calls.callWith_function (o := { cls := .type "function", data := .func (fnAt w.params 61) }) (fd := fnAt w.params 61) ?_
    refine Calls.evalArgs_plain (Calls.spliced_cons ?_)
    refine ldC (m := m₃) hn hm' ?_ rfl rfl rfl
    refine Calls.spliced_nil ⟨⟨G₃.X 61 _ rfl, rfl⟩, ?_⟩
    exact great_spec (A := A) (s := s₃) (x := a) (t := u) G₃ hroom hh (by omega) hal.2
  · intro D₂ l₂ h₂ tk₂ hnew₂ hD₂ em hk₂
    rw [List.filter_eq_self.mpr fun _ _ => rfl] at em
    refine ⟨D₂, l₂, rfl, hD₂.isList, ?_, fun t' k => ?_⟩
    · rw [em]
      refine joinOk_of 23 23 (fun y hy => ?_) (by rw [List.length_map]; omega) (by decide)
      obtain ⟨z, hz, rfl⟩ := List.mem_map.mp hy
      have := great_len z
      have := (words_len x z hz).1
      omega
    · rw [em]
      have X₂ : InCall s₀ L m { s with heap := h₂, toks := k } := X.kept fun b o e => hk₂ b o (hk₁ b o e)
      refine stI2 X₂ rfl rfl fun h₅ tk₅ X₅ hs₅ => ?_
      exact h _ _ t' X₅ hm rfl
end
end Mine

namespace Mine

def isBad (c : Nat) : Bool := decide (c ∈ [8, 12])
def badL (x : Str) : List Str := (x.cps.toList.filter isBad).map fun c => ⟨#[c]⟩

section
variable {prog : Program} {w : World} {A : Around} {E : Value → Shared → Prop} {s s₀ : Shared} {mg mb : Str → Option Value} {L fa : Addr} {cd : Value}

/-- the fourth statement -/
theorem law_bad {x g : Str} {t tg : Tok} {m : Str → Option Value} {Q : Flow → Shared → Prop} (hh : A.handled = none)
    (X : InCall s₀ L m s) (hm : m (Str.ofString "text") = some (.str x t)) (hg : m (Str.ofString "great") = some (.str g tg)) (hx : x.length ≤ 22)
    (h : ∀ s' m' D l, InCall s₀ L m' s' → m' (Str.ofString "text") = some (.str x t) → m' (Str.ofString "great") = some (.str g tg) → m' (Str.ofString "bad") = some (.ref D) →
      s'.heap.IsList D (strValues l).toArray → l.map (·.1) = badL x →
      wpAny (model prog w) A (execs ((bodyL w.params).drop 4) (callEnv (fdL w.params cd) L fa)) Q E s') :
    wpAny (model prog w) A (execs ((bodyL w.params).drop 3) (callEnv (fdL w.params cd) L fa)) Q E s := by
  refine wpAny_execs_cons ?_
  refine assign_signs isBad (fun c => ⟨#[c]⟩) ?qs hh ?qa ?qb rfl ?qc rfl rfl rfl ?_
  case qs => rfl
  case qa => decide
  case qb => decide
  case qc => decide
  refine ldI X rfl rfl hm ?_ rfl
  refine ⟨x, t, m, rfl, by unfold sizeLine; omega, X.ns, ?_, ?_, ?_⟩
  · intro C c u s₃ m₃ E' hc hn hm₃
    refine wpAny_tests_one ?_
    refine wpAny_isTrue_Compare1 ?_ rfl
    refine ldC hn hm₃ ?_ rfl rfl rfl
    refine wpAny_Constant_str ?_
    refine in_str ?_
    rw [StrLaws.found_one]
    have ews : (Str.ofString "\x08\x0c").cps.toList = [8, 12] := by decide +kernel
    rw [ews]
    exact wpAny_truthy_bool ⟨rfl, keepsTok _ _⟩
  · intro C c u s₃ m₃ E' hc hp hn hm₃
    exact ldC hn hm₃ ⟨⟨u, rfl⟩, keepsRefl _⟩ rfl rfl rfl
  · intro D l h' tk hnew hD em hns hk
    obtain ⟨h₁, tk₁, e₁⟩ := X.same
    have X' : InCall s₀ L (fun q => if q = Str.ofString "bad" then some (.ref D) else m q) { s with heap := h', toks := tk } :=
      ⟨⟨h', tk, by rw [e₁]⟩, hns, fun b o e => hk b o (Nat.ne_of_lt (Nat.lt_of_lt_of_le (Heap.lt_size e) X.fresh)) (X.keep b o e), X.fresh⟩
    exact h _ _ D l X' hm hg rfl hD em
end
end Mine

namespace Mine

theorem strsAre_of : ∀ l : List (Str × Tok), StrsAre (strValues l) (l.map (·.1))
  | [] => .nil
  | (x, u) :: l => .cons x u (strsAre_of l)

theorem isList_slots {h h' : Heap} {D : Addr} {xs : Array Value} (hD : h.IsList D xs) (k : h.UpToSlots h') : h'.IsList D xs := by
  obtain ⟨o, ho, hc, n, hd⟩ := hD
  obtain ⟨sl, hsl⟩ := k D o ho (by intro vs; rw [hd]; intro e; cases e)
  exact ⟨_, hsl, hc, n, hd⟩

section
variable {prog : Program} {w : World} {A : Around} {E : Value → Shared → Prop} {s s' s₀ : Shared} {mg mb : Str → Option Value} {L fa : Addr} {cd : Value} {m : Str → Option Value}

theorem K2.inCall (X : InCall s₀ L m s) (k : K2 s₀.heap s s') : InCall s₀ L m s' := by
  obtain ⟨h', tk, rfl, hs, hu⟩ := k
  obtain ⟨h₁, tk₁, e₁⟩ := X.same
  exact ⟨⟨h', tk, by rw [e₁]⟩, hu.ns X.ns, hs, X.fresh⟩

theorem below_law {P : Params} (hst : A.frames = some [callEnv (fdL P cd) L fa]) (X : InCall s₀ L m s) : Below A s₀.heap [callEnv (fdL P cd) L fa] s.heap := by
  have hLnew : s₀.heap.get? L = none := by
    cases hq : s₀.heap.get? L with
    | none => rfl
    | some o => exact absurd (Nat.lt_of_lt_of_le (Heap.lt_size hq) X.fresh) (Nat.lt_irrefl _)
  exact ⟨hst, X.keep, .cons (by show (fdL P cd).scope.kind ≠ .module; exact (by decide : ScopeKind.function ≠ ScopeKind.module)) rfl X.ns hLnew trivial⟩

/-- the fifth statement -/
theorem law_if {x g : Str} {t tg : Tok} {D : Addr} {l : List (Str × Tok)} {Q : Flow → Shared → Prop} (G : Gd w mg mb s₀.heap) (hroom : A.depth + 1 < recursionLimit) (hh : A.handled = none)
    (hst : A.frames = some [callEnv (fdL w.params cd) L fa])
    (X : InCall s₀ L m s) (hm : m (Str.ofString "text") = some (.str x t)) (hg : m (Str.ofString "great") = some (.str g tg)) (hbad : m (Str.ofString "bad") = some (.ref D))
    (hD : s.heap.IsList D (strValues l).toArray) (hx : x.length ≤ 22) (hgl : g.length ≤ 1000)
    (ha : capS x = g) (hb : escdS g = if (l.map (·.1)).any (· == Str.ofString "\x08") = true then Str.ofString "refused" else writtenS g)
    (h : ∀ s', InCall s₀ L m s' → s'.heap.IsList D (strValues l).toArray →
      wpAny (model prog w) A (execs ((bodyL w.params).drop 5) (callEnv (fdL w.params cd) L fa)) Q E s') :
    wpAny (model prog w) A (execs ((bodyL w.params).drop 4) (callEnv (fdL w.params cd) L fa)) Q E s := by
  have G' : Gd w mg mb s.heap := G.keeps X.keep
  refine wpAny_execs_cons ?_
  refine wpAny_If ?_
  refine wpAny_isTrue_BoolOp ?_
  refine wpAny_allTrue_Or_cons ?_
  refine wpAny_isTrue_Compare1 ?_ rfl
  refine Call_Name (trees := [(false, _)]) (by rw [se_Name1, back1]) ?_
  refine Calls.Name_function_global rfl rfl ?_ rfl
  refine Calls.loadGlobal_global G'.g (mg_of G'.X G'.g (v := .ref 51) rfl) ?_
  refine Calls.callWith_function (o := { cls := .type "function", data := .func (fnAt w.params 51) }) (fd := fnAt w.params 51) ?_
  refine Calls.evalArgs_plain (Calls.spliced_cons ?_)
  refine ldI X rfl rfl hm ?_ rfl
  refine Calls.spliced_nil ⟨⟨G'.X 51 _ rfl, rfl⟩, ?_⟩
  refine wpAny_mono (cap_spec (A := A) (s := s) (x := x) (t := t) G' (by omega) hh (by omega)) (fun v s₁ hv => ?_) fun _ _ e => e
  obtain ⟨⟨u, rfl⟩, k₁⟩ := hv
  have X₁ : InCall s₀ L m s₁ := inCallMore X k₁
  have hD₁ : s₁.heap.IsList D (strValues l).toArray := by
    obtain ⟨h₁, tk₁, rfl, hk₁⟩ := k₁
    exact hD.at fun o e => hk₁ _ o e
  have G₁ : Gd w mg mb s₁.heap := G.keeps X₁.keep
  refine ldI X₁ rfl rfl hg ?_ rfl
  refine ne_str ?_
  refine wpAny_truthy_bool ?_
  rw [ha, bne_self_eq_false, if_neg Bool.false_ne_true]
  refine wpAny_allTrue_Or_cons ?_
  refine wpAny_isTrue_Compare1 ?_ rfl
  refine Call_Name (trees := [(false, _)]) (by rw [se_Name1, back1]) ?_
  refine Calls.Name_function_global rfl rfl ?_ rfl
  refine Calls.loadGlobal_global G₁.g (mg_of G₁.X G₁.g (v := .ref 73) rfl) ?_
  refine Calls.callWith_function (o := { cls := .type "function", data := .func (fnAt w.params 73) }) (fd := fnAt w.params 73) ?_
  refine Calls.evalArgs_plain (Calls.spliced_cons ?_)
  refine ldI X₁ rfl rfl hg ?_ rfl
  refine Calls.spliced_nil ⟨⟨G₁.X 73 _ rfl, rfl⟩, ?_⟩
  refine wpAny_mono (escaped_spec (A := A) (s := s₁) (x := g) (t := tg) G₁ G hroom hh hgl (below_law hst X₁)) (fun v s₂ hv => ?_) fun _ _ e => e
  obtain ⟨⟨u₂, rfl⟩, k₂⟩ := hv
  have X₂ : InCall s₀ L m s₂ := k₂.inCall X₁
  have hD₂ : s₂.heap.IsList D (strValues l).toArray := by
    obtain ⟨h₂, tk₂, rfl, _, hk₂⟩ := k₂
    exact isList_slots hD₁ hk₂
  have G₂ : Gd w mg mb s₂.heap := G.keeps X₂.keep
  rw [hb]
  refine wpAny_IfExp ?_
  refine wpAny_isTrue_Compare1 ?_ rfl
  refine wpAny_Constant_str ?_
  refine ldI (X₂.tok _) rfl rfl hbad ?_ rfl
  refine in_list_strs (s := { s₂ with toks := s₂.toks + 1 }) hD₂ (strsAre_of l) ?_
  refine wpAny_truthy_bool ?_
  cases (l.map (·.1)).any (· == Str.ofString "\x08") with
  | true =>
    rw [if_pos rfl, if_pos rfl]
    refine wpAny_Constant_str ?_
    refine ne_str ?_
    refine wpAny_truthy_bool ?_
    rw [bne_self_eq_false, if_neg Bool.false_ne_true]
    refine wpAny_allTrue_Or_nil ?_
    rw [if_neg Bool.false_ne_true]
    refine wpAny_execs_nil ?_
    exact h _ (X₂.tok _) hD₂
  | false =>
    rw [if_neg Bool.false_ne_true, if_neg Bool.false_ne_true]
    refine Call_Name (trees := [(false, _)]) (by rw [se_Name1, back1]) ?_
    refine Calls.Name_function_global rfl rfl ?_ rfl
    refine Calls.loadGlobal_global G₂.g (mg_of G₂.X G₂.g (v := .ref 66) rfl) ?_
    refine Calls.callWith_function (o := { cls := .type "function", data := .func (fnAt w.params 66) }) (fd := fnAt w.params 66) ?_
    refine Calls.evalArgs_plain (Calls.spliced_cons ?_)
    refine ldI (X₂.tok _) rfl rfl hg ?_ rfl
    refine Calls.spliced_nil ⟨⟨G₂.X 66 _ rfl, rfl⟩, ?_⟩
    refine wpAny_mono (written_spec (A := A) (s := { s₂ with toks := s₂.toks + 1 }) (x := g) (t := tg) G₂ (by omega) hh (by omega)) (fun v s₃ hv => ?_) fun _ _ e => e
    obtain ⟨⟨u₃, rfl⟩, k₃⟩ := hv
    have X₃ : InCall s₀ L m s₃ := inCallMore (X₂.tok _) k₃
    have hD₃ : s₃.heap.IsList D (strValues l).toArray := by
      obtain ⟨h₁, tk₁, rfl, hk₁⟩ := k₃
      exact hD₂.at fun o e => hk₁ _ o e
    refine ne_str ?_
    refine wpAny_truthy_bool ?_
    rw [bne_self_eq_false, if_neg Bool.false_ne_true]
    refine wpAny_allTrue_Or_nil ?_
    rw [if_neg Bool.false_ne_true]
    refine wpAny_execs_nil ?_
    exact h _ X₃ hD₃
end
end Mine

namespace Mine

section
variable {prog : Program} {w : World} {A : Around} {E : Value → Shared → Prop} {s s' s₀ : Shared} {mg mb : Str → Option Value} {L fa : Addr} {cd : Value} {m : Str → Option Value}

/-- the last two statements -/
theorem law_end {x g : Str} {t tg : Tok} {D : Addr} {l : List (Str × Tok)} {Q : Flow → Shared → Prop} (G : Gd w mg mb s₀.heap) (hroom : A.depth + 1 < recursionLimit) (hh : A.handled = none) (hu : A.units + 64 < cLine)
    (hst : A.frames = some [callEnv (fdL w.params cd) L fa])
    (X : InCall s₀ L m s) (hm : m (Str.ofString "text") = some (.str x t)) (hg : m (Str.ofString "great") = some (.str g tg)) (hbad : m (Str.ofString "bad") = some (.ref D))
    (hD : s.heap.IsList D (strValues l).toArray) (hx : x.length ≤ 22) (hgl : g.length ≤ 1000) (hok : ∀ y ∈ l.map (·.1), PyData.strOk y = true)
    (hc : l.map (·.1) ≠ [] → escdS x = Str.ofString "refused") (hd : l.map (·.1) = [] → x.cps.toList.any ctl = false ∧ (escS x).length ≤ 1000 ∧ capS (escS x) = writtenS g)
    (hQ : ∀ s', InCall s₀ L m s' → Q (.ret (.bool true)) s') :
    wpAny (model prog w) A (execs ((bodyL w.params).drop 5) (callEnv (fdL w.params cd) L fa)) Q E s := by
  refine wpAny_execs_cons ?_
  refine wpAny_If ?_
  refine wpAny_isTrue_Compare1 ?_ rfl
  refine ldI X rfl rfl hbad ?_ rfl
  refine wpAny_List ?_
  refine wpAny_items_nil ⟨by show 0 ≤ sizeLine; exact Nat.zero_le _, ?_⟩
  have X₁ : InCall s₀ L m { s with heap := s.heap.push { cls := .type "list", data := .seq ([] : List Value).toArray } } := X.pushedS { cls := .type "list", data := .seq ([] : List Value).toArray } s.toks
  refine ne_nil hu (hD.push _) ⟨_, Heap.get?_push_size _ rfl, rfl, _, rfl⟩ hok ?_
  refine wpAny_truthy_bool ?_
  have G₁ : Gd w mg mb (s.heap.push { cls := .type "list", data := .seq ([] : List Value).toArray }) := G.keeps X₁.keep
  by_cases he : l.map (·.1) = []
  · obtain ⟨hno, hel, heq⟩ := hd he
    rw [he]
    rw [if_neg (by decide)]
    refine wpAny_execs_nil ?_
    refine wpAny_execs_cons ?_
    refine wpAny_Return_some ?_
    refine wpAny_Compare1 ?_ 
    refine Call_Name (trees := [(false, _)]) (by rw [se_Call1, back1]) ?_
    refine Calls.Name_function_global rfl rfl ?_ rfl
    refine Calls.loadGlobal_global G₁.g (mg_of G₁.X G₁.g (v := .ref 51) rfl) ?_
    refine Calls.callWith_function (o := { cls := .type "function", data := .func (fnAt w.params 51) }) (fd := fnAt w.params 51) ?_
    refine Calls.evalArgs_plain (Calls.spliced_cons ?_)
    refine Call_Name (trees := [(false, _)]) (by rw [se_Name1, back1]) ?_
    refine Calls.Name_function_global rfl rfl ?_ rfl
    refine Calls.loadGlobal_global G₁.g (mg_of G₁.X G₁.g (v := .ref 43) rfl) ?_
    refine Calls.callWith_function (o := { cls := .type "function", data := .func (fnAt w.params 43) }) (fd := fnAt w.params 43) ?_
    refine Calls.evalArgs_plain (Calls.spliced_cons ?_)
    refine ldI X₁ rfl rfl hm ?_ rfl
    refine Calls.spliced_nil ⟨⟨G₁.X 43 _ rfl, rfl⟩, ?_⟩
    refine wpAny_call (escape_code (A := A) (x := x) (t := t) G₁ (by omega) hh (by omega) (below_law hst X₁) (fun _ u s₂ hk => ?_) (fun hany e a0 h' tk hfl hup => ?_))
    · have X₂ : InCall s₀ L m s₂ := inCallMore X₁ hk
      have G₂ : Gd w mg mb s₂.heap := G.keeps X₂.keep
      refine Calls.spliced_nil ⟨⟨G₂.X 51 _ rfl, rfl⟩, ?_⟩
      refine wpAny_mono (cap_spec (A := A) (s := s₂) (x := escS x) (t := u) G₂ (by omega) hh hel) (fun v s₃ hv => ?_) fun _ _ e => e
      obtain ⟨⟨u₃, rfl⟩, k₃⟩ := hv
      have X₃ : InCall s₀ L m s₃ := inCallMore X₂ k₃
      have G₃ : Gd w mg mb s₃.heap := G.keeps X₃.keep
      refine Call_Name (trees := [(false, _)]) (by rw [se_Name1, back1]) ?_
      refine Calls.Name_function_global rfl rfl ?_ rfl
      refine Calls.loadGlobal_global G₃.g (mg_of G₃.X G₃.g (v := .ref 66) rfl) ?_
      refine Calls.callWith_function (o := { cls := .type "function", data := .func (fnAt w.params 66) }) (fd := fnAt w.params 66) ?_
      refine Calls.evalArgs_plain (Calls.spliced_cons ?_)
      refine ldI X₃ rfl rfl hg ?_ rfl
      refine Calls.spliced_nil ⟨⟨G₃.X 66 _ rfl, rfl⟩, ?_⟩
      refine wpAny_mono (written_spec (A := A) (s := s₃) (x := g) (t := tg) G₃ (by omega) hh (by omega)) (fun v s₄ hv => ?_) fun _ _ e => e
      obtain ⟨⟨u₄, rfl⟩, k₄⟩ := hv
      refine eq_str ?_
      rw [heq, beq_self_eq_true]
      exact hQ _ (inCallMore X₃ k₄)
    · rw [hno] at hany
      cases hany
  · have hb : (!(l.map (·.1)).isEmpty) = true := by
      cases hl : l.map (·.1) with
      | nil => exact absurd hl he
      | cons a r => rfl
    rw [hb, if_pos rfl]
    refine wpAny_execs_cons ?_
    refine wpAny_Return_some ?_
    refine wpAny_Compare1 ?_
    refine Call_Name (trees := [(false, _)]) (by rw [se_Name1, back1]) ?_
    refine Calls.Name_function_global rfl rfl ?_ rfl
    refine Calls.loadGlobal_global G₁.g (mg_of G₁.X G₁.g (v := .ref 73) rfl) ?_
    refine Calls.callWith_function (o := { cls := .type "function", data := .func (fnAt w.params 73) }) (fd := fnAt w.params 73) ?_
    refine Calls.evalArgs_plain (Calls.spliced_cons ?_)
    refine ldI X₁ rfl rfl hm ?_ rfl
    refine Calls.spliced_nil ⟨⟨G₁.X 73 _ rfl, rfl⟩, ?_⟩
    refine wpAny_mono (escaped_spec (A := A) (x := x) (t := t) G₁ G hroom hh (by omega) (below_law hst X₁)) (fun v s₂ hv => ?_) fun _ _ e => e
    obtain ⟨⟨u₂, rfl⟩, k₂⟩ := hv
    have X₂ : InCall s₀ L m s₂ := k₂.inCall X₁
    refine wpAny_Constant_str ?_
    refine eq_str ?_
    rw [hc he, beq_self_eq_true]
    exact hQ _ (X₂.tok _)
end
end Mine

namespace Mine

/-- the words of a row of signs -/
def lstep (sp : Nat → Bool) (st : List (List Nat) × List Nat) (c : Nat) : List (List Nat) × List Nat :=
  if sp c = true then (if st.2 = [] then st else (st.1 ++ [st.2], [])) else (st.1, st.2 ++ [c])
def lfin (st : List (List Nat) × List Nat) : List (List Nat) := if st.2 = [] then st.1 else st.1 ++ [st.2]
def wl (sp : Nat → Bool) (cs : List Nat) : List (List Nat) := lfin (cs.foldl (lstep sp) ([], []))
def wsp (c : Nat) : Bool := decide (c ∈ wsL)

theorem len0_iff (x : Str) : x.length = 0 ↔ toL x = [] := by
  rw [← toL_length, List.length_eq_zero_iff]

theorem scan_toL : ∀ (cs : List Nat) (p : List Str × Str), ((cs.foldl KWd.step p).1.map toL, toL (cs.foldl KWd.step p).2) = cs.foldl (lstep Unicode.isSpace) (p.1.map toL, toL p.2)
  | [], p => rfl
  | c :: cs, p => by
    rw [List.foldl_cons, List.foldl_cons, scan_toL cs]
    congr 1
    unfold KWd.step lstep
    by_cases hs : Unicode.isSpace c = true
    · rw [if_pos hs, if_pos hs]
      by_cases h0 : p.2.length = 0
      · rw [if_pos h0, if_pos ((len0_iff _).mp h0)]
      · rw [if_neg h0, if_neg fun h => h0 ((len0_iff _).mpr h), List.map_append]
        rfl
    · rw [if_neg hs, if_neg hs, toL_append, toL_one]

theorem words_toL (x : Str) : (Txt.words x).map toL = wl Unicode.isSpace (toL x) := by
  have h := scan_toL (toL x) ([], Str.empty)
  have e0 : (([], Str.empty) : List Str × Str).1.map toL = [] := rfl
  have e1 : toL (([], Str.empty) : List Str × Str).2 = [] := rfl
  rw [e0, e1] at h
  rw [KWd.words_scan]
  unfold wl lfin KWd.fin KWd.scan
  change (if ((toL x).foldl KWd.step ([], Str.empty)).2.length = 0 then _ else _ : List Str).map toL = _
  rw [← h]
  dsimp only
  by_cases h0 : ((toL x).foldl KWd.step ([], Str.empty)).2.length = 0
  · rw [if_pos h0, if_pos ((len0_iff _).mp h0)]
    rfl
  · rw [if_neg h0, if_neg fun h => h0 ((len0_iff _).mpr h), List.map_append]
    rfl

theorem ne_empty (y : Str) : (y != Str.ofString "") = !decide (toL y = []) := by
  by_cases h : toL y = []
  · have : y = Str.ofString "" := toL_inj (by rw [h, toL_empty])
    subst this
    decide
  · have : y ≠ Str.ofString "" := fun e => h (by rw [e, toL_empty])
    rw [decide_eq_false h]
    simpa using this

theorem foldW_toL : ∀ (cs : List Nat) (p : List Str × Str), ((cs.foldl stepW p).1.filter (fun y => y != Str.ofString "") |>.map toL, toL (cs.foldl stepW p).2) =
    cs.foldl (lstep wsp) ((p.1.filter fun y => y != Str.ofString "").map toL, toL p.2)
  | [], p => rfl
  | c :: cs, p => by
    rw [List.foldl_cons, List.foldl_cons, foldW_toL cs]
    congr 1
    unfold stepW lstep wsp
    by_cases hc : c ∈ wsL
    · rw [if_pos hc, if_pos (decide_eq_true hc)]
      dsimp only
      rw [List.filter_append, toL_empty]
      by_cases h0 : toL p.2 = []
      · rw [if_pos h0, List.filter_cons_of_neg (by rw [ne_empty, decide_eq_true h0]; decide), List.filter_nil, List.append_nil, h0]
      · rw [if_neg h0, List.filter_cons_of_pos (by rw [ne_empty, decide_eq_false h0]; rfl), List.filter_nil, List.map_append]
        rfl
    · rw [if_neg hc, if_neg (by rw [decide_eq_false hc]; exact Bool.false_ne_true)]
      dsimp only
      rw [toL_append, toL_one]

theorem wordsS_toL (x : Str) : (wordsS x).map toL = wl wsp (toL x) := by
  have h := foldW_toL (toL x) ([], Str.ofString "")
  have e0 : ((([], Str.ofString "") : List Str × Str).1.filter fun y => y != Str.ofString "").map toL = [] := rfl
  have e1 : toL (([], Str.ofString "") : List Str × Str).2 = [] := toL_empty
  rw [e0, e1] at h
  unfold wl lfin wordsS
  rw [← h]
  change (((foldW (toL x)).1 ++ [(foldW (toL x)).2]).filter _).map toL = if toL (foldW (toL x)).2 = [] then ((foldW (toL x)).1.filter _).map toL else ((foldW (toL x)).1.filter _).map toL ++ [toL (foldW (toL x)).2]
  rw [List.filter_append]
  by_cases h0 : toL (foldW (toL x)).2 = []
  · rw [if_pos h0, List.filter_cons_of_neg (by rw [ne_empty, decide_eq_true h0]; decide), List.filter_nil, List.append_nil]
  · rw [if_neg h0, List.filter_cons_of_pos (by rw [ne_empty, decide_eq_false h0]; rfl), List.filter_nil, List.map_append]
    rfl

theorem fold_congr (sp sp' : Nat → Bool) : ∀ (cs : List Nat) (p : List (List Nat) × List Nat), (∀ c ∈ cs, sp c = sp' c) → cs.foldl (lstep sp) p = cs.foldl (lstep sp') p
  | [], _, _ => rfl
  | c :: cs, p, h => by
    rw [List.foldl_cons, List.foldl_cons]
    have : lstep sp p c = lstep sp' p c := by
      unfold lstep
      rw [h c (List.mem_cons_self ..)]
    rw [this]
    exact fold_congr sp sp' cs _ fun d hd => h d (List.mem_cons_of_mem _ hd)
theorem wl_congr {sp sp' : Nat → Bool} {cs : List Nat} (h : ∀ c ∈ cs, sp c = sp' c) : wl sp cs = wl sp' cs := by
  unfold wl
  rw [fold_congr sp sp' cs _ h]

/-- what stands in a word -/
theorem fold_mem (sp : Nat → Bool) (P : Nat → Prop) : ∀ (cs : List Nat) (p : List (List Nat) × List Nat), (∀ c ∈ cs, sp c = false → P c) → (∀ w ∈ p.1, w ≠ [] ∧ ∀ c ∈ w, P c) → (∀ c ∈ p.2, P c) →
    (∀ w ∈ (cs.foldl (lstep sp) p).1, w ≠ [] ∧ ∀ c ∈ w, P c) ∧ ∀ c ∈ (cs.foldl (lstep sp) p).2, P c
  | [], _, _, h1, h2 => ⟨h1, h2⟩
  | c :: cs, p, hc, h1, h2 => by
    rw [List.foldl_cons]
    refine fold_mem sp P cs _ (fun d hd => hc d (List.mem_cons_of_mem _ hd)) ?_ ?_
    · unfold lstep
      split
      · split
        · exact h1
        · rename_i hne
          intro w hw
          rcases List.mem_append.mp hw with hw | hw
          · exact h1 w hw
          · rw [List.mem_singleton.mp hw]
            exact ⟨hne, h2⟩
      · exact h1
    · unfold lstep
      split
      · split
        · exact h2
        · intro d hd
          cases hd
      · rename_i hs
        intro d hd
        rcases List.mem_append.mp hd with hd | hd
        · exact h2 d hd
        · rw [List.mem_singleton.mp hd]
          exact hc c (List.mem_cons_self ..) (by simpa using hs)

theorem wl_mem {sp : Nat → Bool} {cs : List Nat} {w : List Nat} (hw : w ∈ wl sp cs) : w ≠ [] ∧ ∀ c ∈ w, c ∈ cs ∧ sp c = false := by
  have h := fold_mem sp (fun c => c ∈ cs ∧ sp c = false) cs ([], []) (fun c hc hs => ⟨hc, hs⟩) (fun _ h => by cases h) (fun _ h => by cases h)
  unfold wl lfin at hw
  split at hw
  · exact h.1 w hw
  · rename_i hne
    rcases List.mem_append.mp hw with hw | hw
    · exact h.1 w hw
    · rw [List.mem_singleton.mp hw]
      exact ⟨hne, h.2⟩

/-- a sign that is no white stands in some word -/
theorem fold_has (sp : Nat → Bool) (k : Nat) (hk : sp k = false) : ∀ (cs : List Nat) (p : List (List Nat) × List Nat), (k ∈ cs ∨ (∃ w ∈ p.1, k ∈ w) ∨ k ∈ p.2) →
    (∃ w ∈ (cs.foldl (lstep sp) p).1, k ∈ w) ∨ k ∈ (cs.foldl (lstep sp) p).2
  | [], _, h => by
    rcases h with h | h
    · cases h
    · exact h
  | c :: cs, p, h => by
    rw [List.foldl_cons]
    refine fold_has sp k hk cs _ ?_
    rcases h with h | h
    · rcases List.mem_cons.mp h with rfl | h
      · refine .inr (.inr ?_)
        unfold lstep
        rw [if_neg (by rw [hk]; exact Bool.false_ne_true)]
        exact List.mem_append_right _ (List.mem_singleton.mpr rfl)
      · exact .inl h
    · refine .inr ?_
      unfold lstep
      split
      · split
        · exact h
        · rcases h with ⟨w, hw, hkw⟩ | h
          · exact .inl ⟨w, List.mem_append_left _ hw, hkw⟩
          · exact .inl ⟨_, List.mem_append_right _ (List.mem_singleton.mpr rfl), h⟩
      · rcases h with h | h
        · exact .inl h
        · exact .inr (List.mem_append_left _ h)

theorem wl_has {sp : Nat → Bool} {cs : List Nat} {k : Nat} (hk : sp k = false) (hc : k ∈ cs) : ∃ w ∈ wl sp cs, k ∈ w := by
  have h := fold_has sp k hk cs ([], []) (.inl hc)
  unfold wl lfin
  rcases h with ⟨w, hw, hkw⟩ | h
  · refine ⟨w, ?_, hkw⟩
    split
    · exact hw
    · exact List.mem_append_left _ hw
  · refine ⟨_, ?_, h⟩
    rw [if_neg (fun e => by rw [e] at h; cases h)]
    exact List.mem_append_right _ (List.mem_singleton.mpr rfl)
end Mine

namespace Mine

/-- the written form of a sign -/
def wr (c : Nat) : List Nat := toL (wrS c)
theorem wr_eq (c : Nat) : wr c = if c = 38 then [38, 97, 109, 112, 59] else if c = 60 then [38, 108, 116, 59] else if c = 62 then [38, 103, 116, 59] else [c] := by
  unfold wr wrS
  split
  · decide +kernel
  · split
    · decide +kernel
    · split
      · decide +kernel
      · rfl

theorem written_toL (x : Str) : toL (writtenS x) = (toL x).flatMap wr := by
  unfold writtenS
  rw [join_empty, List.flatMap_map]
  rfl

/-- line ends made one -/
def nl : List Nat → List Nat
  | 13 :: 10 :: r => 10 :: nl r
  | c :: r => c :: nl r
  | [] => []

theorem nl_cons {c : Nat} {r : List Nat} (h : ¬ (c = 13 ∧ ∃ r', r = 10 :: r')) : nl (c :: r) = c :: nl r := by
  rw [nl]
  intro r' h1 h2
  exact h ⟨h1, r', h2⟩

theorem repS_skip (y z : List Nat) (c : Nat) (r : List Nat) : repS y z 1 (c :: r) = repS y z 0 r := by
  rw [repS]

theorem repS_nl : ∀ (n : Nat) (l : List Nat), l.length ≤ n → repS [13, 10] [10] 0 l = nl l
  | _, [], _ => rfl
  | 0, _ :: _, h => by simp at h
  | n + 1, [c], _ => by
    rw [repS, if_neg (by simp), nl_cons (by rintro ⟨_, r', h⟩; cases h)]
    rfl
  | n + 1, c :: d :: r, h => by
    rw [repS]
    by_cases hc : c = 13 ∧ d = 10
    · obtain ⟨rfl, rfl⟩ := hc
      rw [if_pos (by simp), nl]
      show [10] ++ repS [13, 10] [10] 1 (10 :: r) = _
      rw [repS_skip, repS_nl n r (by simp at h; omega)]
      rfl
    · have hn : ¬ (c = 13 ∧ ∃ r', d :: r = 10 :: r') := by
        rintro ⟨h1, r', h2⟩
        exact hc ⟨h1, by simpa using congrArg List.head? h2⟩
      rw [if_neg (by simpa using hc), repS_nl n (d :: r) (by simpa using h), nl_cons hn]

theorem nl_no13 : ∀ l : List Nat, 13 ∉ l → nl l = l
  | [], _ => rfl
  | c :: r, h => by
    rw [nl, nl_no13 r fun hm => h (List.mem_cons_of_mem _ hm)]
    intro r' h1 h2
    exact h (by rw [h1]; exact List.mem_cons_self ..)

theorem nl_len : ∀ (n : Nat) (l : List Nat), l.length ≤ n → (nl l).length ≤ l.length
  | _, [], _ => Nat.le_refl _
  | 0, _ :: _, h => by simp at h
  | n + 1, c :: r, h => by
    by_cases hc : c = 13 ∧ ∃ r', r = 10 :: r'
    · obtain ⟨rfl, r', rfl⟩ := hc
      rw [nl]
      have := nl_len n r' (by simp at h; omega)
      simp only [List.length_cons]
      omega
    · rw [nl]
      · have := nl_len n r (by simpa using h)
        simp only [List.length_cons]
        omega
      · intro r' h1 h2
        exact hc ⟨h1, r', h2⟩

def m13 (c : Nat) : List Nat := sub1 13 [10] c

theorem subs_wr (c : Nat) : ((sub1 38 [38, 97, 109, 112, 59] c).flatMap (sub1 60 [38, 108, 116, 59])).flatMap (sub1 62 [38, 103, 116, 59]) = wr c := by
  rw [wr_eq]
  by_cases h1 : c = 38
  · subst h1; decide
  · by_cases h2 : c = 60
    · subst h2; decide
    · by_cases h3 : c = 62
      · subst h3; decide
      · rw [if_neg h1, if_neg h2, if_neg h3]
        simp [sub1, h1, h2, h3]

theorem esc_toL (x : Str) : toL (escS x) = ((nl (toL x)).flatMap m13).flatMap wr := by
  unfold escS
  have l1 : toL (Str.ofString "\r\n") = [13, 10] := by decide +kernel
  have l2 : toL (Str.ofString "\n") = [10] := by decide +kernel
  have l3 : toL (Str.ofString "\r") = [13] := by decide +kernel
  have l4 : toL (Str.ofString "&") = [38] := by decide +kernel
  have l5 : toL (Str.ofString "&amp;") = [38, 97, 109, 112, 59] := by decide +kernel
  have l6 : toL (Str.ofString "<") = [60] := by decide +kernel
  have l7 : toL (Str.ofString "&lt;") = [38, 108, 116, 59] := by decide +kernel
  have l8 : toL (Str.ofString ">") = [62] := by decide +kernel
  have l9 : toL (Str.ofString "&gt;") = [38, 103, 116, 59] := by decide +kernel
  rw [replace_toL _ _ _ (by decide), replace_toL _ _ _ (by decide), replace_toL _ _ _ (by decide), replace_toL _ _ _ (by decide), replace_toL _ _ _ (by decide)]
  rw [l1, l2, l3, l4, l5, l6, l7, l8, l9]
  rw [repS_nl _ _ (Nat.le_refl _), repS_one, repS_one, repS_one, repS_one]
  rw [List.flatMap_assoc, List.flatMap_assoc]
  congr 1
  funext c
  rw [← List.flatMap_assoc]
  exact subs_wr c

theorem esc_no13 (x : Str) (h : 13 ∉ toL x) : toL (escS x) = (toL x).flatMap wr := by
  rw [esc_toL, nl_no13 _ h]
  congr 1
  have : ∀ l : List Nat, 13 ∉ l → l.flatMap m13 = l := by
    intro l
    induction l with
    | nil => intro _; rfl
    | cons c r ih =>
      intro hl
      rw [List.flatMap_cons, ih fun hm => hl (List.mem_cons_of_mem _ hm)]
      unfold m13 sub1
      rw [if_neg fun e => hl (by rw [e]; exact List.mem_cons_self ..)]
      rfl
  exact this _ h

theorem flatMap_len (f : Nat → List Nat) (k : Nat) (h : ∀ c, (f c).length ≤ k) : ∀ l : List Nat, (l.flatMap f).length ≤ l.length * k
  | [] => by simp
  | c :: r => by
    have h1 := h c
    have h2 := flatMap_len f k h r
    rw [List.flatMap_cons, List.length_append, List.length_cons, Nat.succ_mul]
    omega

theorem esc_len (x : Str) (hx : x.length ≤ 22) : (escS x).length ≤ 1000 := by
  rw [← toL_length, esc_toL]
  have h1 := flatMap_len wr 5 (fun c => by rw [wr_eq]; split; decide; split; decide; split; decide; exact (by decide : 1 ≤ 5)) ((nl (toL x)).flatMap m13)
  have h2 := flatMap_len m13 1 (fun c => by unfold m13 sub1; split <;> exact Nat.le_refl 1) (nl (toL x))
  have h3 := nl_len _ (toL x) (Nat.le_refl _)
  rw [toL_length] at h3
  omega

/-- the words of an escaped text -/
theorem fold_nl {sp : Nat → Bool} (h13 : sp 13 = true) (h10 : sp 10 = true) : ∀ (n : Nat) (l : List Nat) (p : List (List Nat) × List Nat), l.length ≤ n → (nl l).foldl (lstep sp) p = l.foldl (lstep sp) p
  | _, [], _, _ => rfl
  | 0, _ :: _, _, h => by simp at h
  | n + 1, c :: r, p, h => by
    by_cases hc : c = 13 ∧ ∃ r', r = 10 :: r'
    · obtain ⟨rfl, r', rfl⟩ := hc
      rw [nl, List.foldl_cons, List.foldl_cons, List.foldl_cons, fold_nl h13 h10 n r' _ (by simp at h; omega)]
      congr 1
      unfold lstep
      rw [if_pos h10, if_pos h13, if_pos h10]
      by_cases h0 : p.2 = []
      · rw [if_pos h0, if_pos h0]
      · rw [if_neg h0, if_pos rfl]
    · rw [nl]
      · rw [List.foldl_cons, List.foldl_cons, fold_nl h13 h10 n r _ (by simpa using h)]
      · intro r' h1 h2
        exact hc ⟨h1, r', h2⟩

theorem fold_m13 {sp : Nat → Bool} (h13 : sp 13 = true) (h10 : sp 10 = true) : ∀ (l : List Nat) (p : List (List Nat) × List Nat), (l.flatMap m13).foldl (lstep sp) p = l.foldl (lstep sp) p
  | [], _ => rfl
  | c :: r, p => by
    rw [List.flatMap_cons, List.foldl_append, List.foldl_cons, fold_m13 h13 h10 r]
    congr 1
    unfold m13 sub1
    by_cases hc : c = 13
    · subst hc
      rw [if_pos rfl, List.foldl_cons, List.foldl_nil]
      unfold lstep
      rw [if_pos h10, if_pos h13]
    · rw [if_neg hc]
      rfl

def wrW (w : List Nat) : List Nat := w.flatMap wr

theorem wr_ne (c : Nat) : wr c ≠ [] := by
  rw [wr_eq]
  split
  · decide
  · split
    · decide
    · split
      · decide
      · simp

theorem wrW_nil (w : List Nat) : wrW w = [] ↔ w = [] := by
  cases w with
  | nil => exact ⟨fun _ => rfl, fun _ => rfl⟩
  | cons c r =>
    constructor
    · intro h
      unfold wrW at h
      rw [List.flatMap_cons, List.append_eq_nil_iff] at h
      exact absurd h.1 (wr_ne c)
    · intro h; cases h

/-- no sign of a written sign is white, unless the sign itself is -/
def Dark (sp : Nat → Bool) : Prop := ∀ d ∈ [38, 60, 62, 97, 109, 112, 59, 108, 116, 103], sp d = false

theorem wr_white {sp : Nat → Bool} (hd : Dark sp) {c : Nat} (hc : sp c = true) : wr c = [c] := by
  rw [wr_eq]
  have h1 : c ≠ 38 := fun e => by have := hd 38 (by decide); rw [← e, hc] at this; cases this
  have h2 : c ≠ 60 := fun e => by have := hd 60 (by decide); rw [← e, hc] at this; cases this
  have h3 : c ≠ 62 := fun e => by have := hd 62 (by decide); rw [← e, hc] at this; cases this
  rw [if_neg h1, if_neg h2, if_neg h3]

theorem wr_dark {sp : Nat → Bool} (hd : Dark sp) {c : Nat} (hc : sp c = false) : ∀ d ∈ wr c, sp d = false := by
  rw [wr_eq]
  split
  · intro d hm
    refine hd d ?_
    revert d
    decide
  · split
    · intro d hm
      refine hd d ?_
      revert d
      decide
    · split
      · intro d hm
        refine hd d ?_
        revert d
        decide
      · intro d hm
        rw [List.mem_singleton.mp hm]
        exact hc

theorem fold_dark {sp : Nat → Bool} : ∀ (l : List Nat) (p : List (List Nat) × List Nat), (∀ d ∈ l, sp d = false) → l.foldl (lstep sp) p = (p.1, p.2 ++ l)
  | [], p, _ => by simp
  | c :: r, p, h => by
    rw [List.foldl_cons, fold_dark r _ fun d hd => h d (List.mem_cons_of_mem _ hd)]
    unfold lstep
    rw [if_neg (by rw [h c (List.mem_cons_self ..)]; exact Bool.false_ne_true)]
    simp

theorem fold_wr {sp : Nat → Bool} (hd : Dark sp) : ∀ (l : List Nat) (p : List (List Nat) × List Nat),
    (l.flatMap wr).foldl (lstep sp) (p.1.map wrW, wrW p.2) = ((l.foldl (lstep sp) p).1.map wrW, wrW (l.foldl (lstep sp) p).2)
  | [], _ => rfl
  | c :: r, p => by
    rw [List.flatMap_cons, List.foldl_append, List.foldl_cons, ← fold_wr hd r]
    congr 1
    by_cases hc : sp c = true
    · rw [wr_white hd hc, List.foldl_cons, List.foldl_nil]
      unfold lstep
      rw [if_pos hc, if_pos hc]
      dsimp only
      by_cases h0 : p.2 = []
      · rw [if_pos ((wrW_nil _).mpr h0), if_pos h0]
      · rw [if_neg (fun e => h0 ((wrW_nil _).mp e)), if_neg h0, List.map_append]
        rfl
    · have hc' : sp c = false := by simpa using hc
      rw [fold_dark _ _ (wr_dark hd hc')]
      unfold lstep
      rw [if_neg hc]
      dsimp only
      unfold wrW
      rw [List.flatMap_append, List.flatMap_cons, List.flatMap_nil, List.append_nil]

theorem wl_esc {sp : Nat → Bool} (h13 : sp 13 = true) (h10 : sp 10 = true) (hd : Dark sp) (x : Str) : wl sp (toL (escS x)) = (wl sp (toL x)).map wrW := by
  have h := fold_wr hd ((nl (toL x)).flatMap m13) ([], [])
  rw [fold_m13 h13 h10, fold_nl h13 h10 _ _ _ (Nat.le_refl _)] at h
  unfold wl
  rw [esc_toL]
  have e : ((([], []) : List (List Nat) × List Nat).1.map wrW, wrW (([], []) : List (List Nat) × List Nat).2) = ([], []) := rfl
  rw [e] at h
  rw [h]
  unfold lfin
  dsimp only
  by_cases h0 : ((toL x).foldl (lstep sp) ([], [])).2 = []
  · rw [if_pos ((wrW_nil _).mpr h0), if_pos h0]
  · rw [if_neg (fun e => h0 ((wrW_nil _).mp e)), if_neg h0, List.map_append]
    rfl
end Mine

namespace Mine
open PySem.Builtin PySem.Builtin.Str

def tit (c : Nat) : Nat := if c = 97 then 65 else c
def low (c : Nat) : Nat := if c = 66 then 98 else c
def capL : List Nat → List Nat
  | [] => []
  | c :: r => tit c :: r.map low

/-- the signs of the law's texts, and those that stand in words -/
def sig : List Nat := [32, 10, 38, 97, 66, 60, 62, 13, 9, 8, 12]
def dark : List Nat := [38, 97, 66, 60, 62, 8]
def dark2 : List Nat := [38, 97, 66, 60, 62, 8, 109, 112, 59, 108, 116, 103]

theorem sig_space : ∀ c ∈ sig, Unicode.isSpace c = wsp c := by decide +kernel
theorem sig_dark : ∀ c ∈ sig, wsp c = false → c ∈ dark := by decide +kernel
theorem dark_low : ∀ c ∈ dark2, Unicode.lowerOf c = [low c] ∧ c < 128 := by decide +kernel
theorem dark_tit : ∀ c ∈ dark, Unicode.titleOf c = [tit c] := by decide +kernel
theorem dark_sub : ∀ c ∈ dark, c ∈ dark2 := by decide +kernel
theorem dark_wr : ∀ c ∈ dark, ∀ d ∈ wr c, d ∈ dark2 := by
  intro c hc d hd
  rw [wr_eq] at hd
  revert d
  revert c
  decide +kernel
theorem dark_head : ∀ c ∈ dark, (wr c).headD 0 ∈ dark := by
  intro c hc
  rw [wr_eq]
  revert c
  decide +kernel
theorem dark_capwr : ∀ c ∈ dark, capL (wr c) = wr (tit c) := by
  intro c hc
  rw [wr_eq, wr_eq]
  revert c
  decide +kernel
theorem dark_lowwr : ∀ c ∈ dark, (wr c).map low = wr (low c) := by
  intro c hc
  rw [wr_eq, wr_eq]
  revert c
  decide +kernel
theorem dark_ctl : ∀ c ∈ dark, (ctl (tit c) || ctl (low c)) = true → c = 8 := by decide +kernel
theorem dark_13 : ∀ c ∈ dark, tit c ≠ 13 ∧ low c ≠ 13 := by decide +kernel
theorem sig_ctl : ∀ c ∈ sig, ctl c = isBad c := by decide +kernel

theorem great_toL (y : Str) (h : toL y ≠ []) : toL (greatS y) = capL (toL y) := by
  unfold greatS
  rw [toL_append]
  have h1 : toL (Txt.join "" ((y.cps.toList.drop 1).map gr1)) = (y.cps.toList.drop 1).map low := by
    rw [join_empty, List.flatMap_map]
    have : ∀ l : List Nat, (l.flatMap fun c => toL (gr1 c)) = l.map low := by
      intro l
      induction l with
      | nil => rfl
      | cons c r ih =>
        rw [List.flatMap_cons, ih, List.map_cons]
        have : toL (gr1 c) = [low c] := by
          unfold gr1 low
          split
          · decide +kernel
          · rfl
        rw [this]
        rfl
    exact this _
  have h2 : ∀ c, toL (gr0 c) = [tit c] := by
    intro c
    unfold gr0 tit
    split
    · decide +kernel
    · rfl
  rw [h2]
  have h3 : (toL y).getD 0 0 = y.cps.getD 0 0 := by
    unfold toL
    rw [List.getD_eq_getElem?_getD, Array.getElem?_toList]
    simp [Array.getD_eq_getD_getElem?]
  rw [← h3]
  have h1' : toL (Txt.join "" ((y.cps.toList.drop 1).map gr1)) = ((toL y).drop 1).map low := h1
  rw [h1']
  cases hy : toL y with
  | nil => exact absurd hy h
  | cons c r => rfl

theorem cap_toL (y : Str) (h : toL y ≠ []) (h0 : (toL y).headD 0 ∈ dark) (hr : ∀ c ∈ toL y, c ∈ dark2) : toL (Txt.capitalize y) = capL (toL y) := by
  have hl : ¬ (y.length == 0) = true := by
    intro e
    exact h ((len0_iff y).mp (by simpa using e))
  unfold Txt.capitalize
  rw [if_neg hl]
  unfold Txt.capitalized
  have e : toL ⟨placed y fun i c => if (i == 0) = true then Unicode.titleOf c else Unicode.lowerAt y.cps i⟩ = ((toL y).mapIdx fun i c => if (i == 0) = true then Unicode.titleOf c else Unicode.lowerAt y.cps i).flatten := by
    unfold toL
    simp only [placed, Array.toList_flatten, Array.toList_mapIdx]
    rw [map_toList_mapIdx]
  rw [e]
  have hat : ∀ (i d : Nat), (toL y)[i]? = some d → y.cps[i]? = some d := by
    intro i d hd
    unfold toL at hd
    simpa using hd
  revert h h0 hr hat
  cases toL y with
  | nil => intro h; exact absurd rfl h
  | cons c r =>
    intro _ h0 hr hat
    rw [List.mapIdx_cons, List.flatten_cons, flatten_mapIdx_single low]
    · rw [show ((0 : Nat) == 0) = true from rfl, if_pos rfl, dark_tit c h0]
      rfl
    · intro i d hd
      have hm := hr d (List.mem_cons_of_mem _ (List.mem_of_getElem? hd))
      obtain ⟨hlo, hlt⟩ := dark_low d hm
      rw [if_neg (by simp)]
      unfold Unicode.lowerAt
      rw [hat (i + 1) d (by simpa using hd)]
      have hne : (d == 0x3A3) = false := by rw [beq_eq_false_iff_ne]; omega
      simp only [hne, Bool.false_and, Bool.false_eq_true, if_false]
      exact hlo

/-- words joined by a space -/
def jL : List (List Nat) → List Nat
  | [] => []
  | w :: r => w ++ r.flatMap fun p => [32] ++ p

theorem join_toL : ∀ l : List Str, toL (Txt.join (Str.ofString " ") l) = jL (l.map toL)
  | [] => join_nil _
  | x :: l => by
    rw [join_cons, List.map_cons]
    show _ = toL x ++ (l.map toL).flatMap fun p => [32] ++ p
    rw [List.flatMap_map, show toL (Str.ofString " ") = [32] by decide +kernel]

theorem jL_mem {ws : List (List Nat)} {c : Nat} (h : c ∈ jL ws) : c = 32 ∨ ∃ w ∈ ws, c ∈ w := by
  cases ws with
  | nil => cases h
  | cons w r =>
    unfold jL at h
    rcases List.mem_append.mp h with h | h
    · exact .inr ⟨w, List.mem_cons_self .., h⟩
    · obtain ⟨p, hp, hc⟩ := List.mem_flatMap.mp h
      rcases List.mem_append.mp hc with hc | hc
      · exact .inl (List.mem_singleton.mp hc)
      · exact .inr ⟨p, List.mem_cons_of_mem _ hp, hc⟩

theorem jL_has {ws : List (List Nat)} {w : List Nat} {c : Nat} (hw : w ∈ ws) (hc : c ∈ w) : c ∈ jL ws := by
  cases ws with
  | nil => cases hw
  | cons v r =>
    unfold jL
    rcases List.mem_cons.mp hw with rfl | hw
    · exact List.mem_append_left _ hc
    · exact List.mem_append_right _ (List.mem_flatMap.mpr ⟨w, hw, List.mem_append_right _ hc⟩)

theorem jL_wr (ws : List (List Nat)) : (jL ws).flatMap wr = jL (ws.map wrW) := by
  cases ws with
  | nil => rfl
  | cons w r =>
    show (w ++ r.flatMap fun p => [32] ++ p).flatMap wr = wrW w ++ (r.map wrW).flatMap fun p => [32] ++ p
    rw [List.flatMap_append, List.flatMap_assoc, List.flatMap_map]
    congr 2

theorem capL_mem {w : List Nat} {c : Nat} (h : c ∈ capL w) : ∃ d ∈ w, c = tit d ∨ c = low d := by
  cases w with
  | nil => cases h
  | cons a r =>
    unfold capL at h
    rcases List.mem_cons.mp h with h | h
    · exact ⟨a, List.mem_cons_self .., .inl h⟩
    · obtain ⟨d, hd, rfl⟩ := List.mem_map.mp h
      exact ⟨d, List.mem_cons_of_mem _ hd, .inr rfl⟩

theorem capL_has {w : List Nat} (h : 8 ∈ w) : 8 ∈ capL w := by
  cases w with
  | nil => cases h
  | cons a r =>
    unfold capL
    rcases List.mem_cons.mp h with rfl | h
    · exact List.mem_cons_self ..
    · exact List.mem_cons_of_mem _ (List.mem_map.mpr ⟨8, h, rfl⟩)

theorem capL_wr : ∀ w : List Nat, (∀ c ∈ w, c ∈ dark) → capL (wrW w) = wrW (capL w)
  | [], _ => rfl
  | c :: r, h => by
    have hc := h c (List.mem_cons_self ..)
    have h1 := dark_capwr c hc
    have h2 : (r.flatMap wr).map low = (r.map low).flatMap wr := by
      have : ∀ l : List Nat, (∀ c ∈ l, c ∈ dark) → (l.flatMap wr).map low = (l.map low).flatMap wr := by
        intro l
        induction l with
        | nil => intro _; rfl
        | cons d l ih =>
          intro hl
          rw [List.flatMap_cons, List.map_append, List.map_cons, List.flatMap_cons, ih fun e he => hl e (List.mem_cons_of_mem _ he), dark_lowwr d (hl d (List.mem_cons_self ..))]
      exact this r fun d hd => h d (List.mem_cons_of_mem _ hd)
    unfold wrW
    rw [List.flatMap_cons]
    show _ = (tit c :: r.map low).flatMap wr
    rw [List.flatMap_cons, ← h1, ← h2]
    cases hw : wr c with
    | nil => exact absurd hw (wr_ne c)
    | cons a t =>
      show tit a :: (t ++ r.flatMap wr).map low = _
      rw [List.map_append]
      rfl

section
variable {x : Str} (hx : ∀ c ∈ toL x, c ∈ sig)
include hx

theorem wl_same : wl Unicode.isSpace (toL x) = wl wsp (toL x) := wl_congr fun c hc => sig_space c (hx c hc)

theorem wl_dark {w : List Nat} (hw : w ∈ wl wsp (toL x)) : w ≠ [] ∧ ∀ c ∈ w, c ∈ dark := by
  obtain ⟨h1, h2⟩ := wl_mem hw
  exact ⟨h1, fun c hc => sig_dark c (hx c (h2 c hc).1) (h2 c hc).2⟩

theorem words_same : Txt.words x = wordsS x := by
  refine (List.map_inj_right fun a b h => toL_inj h).mp ?_
  rw [words_toL, wordsS_toL, wl_same hx]

theorem greatT_toL : toL (greatT x) = jL ((wl wsp (toL x)).map capL) := by
  unfold greatT
  rw [join_toL, ← wordsS_toL, List.map_map, List.map_map]
  congr 1
  refine List.map_congr_left fun y hy => ?_
  have : toL y ∈ wl wsp (toL x) := by rw [← wordsS_toL]; exact List.mem_map.mpr ⟨y, hy, rfl⟩
  exact great_toL y (wl_dark hx this).1

omit hx in
theorem head_dark {w : List Nat} (h : w ≠ []) (hd : ∀ c ∈ w, c ∈ dark) : w.headD 0 ∈ dark := by
  cases w with
  | nil => exact absurd rfl h
  | cons c r => exact hd c (List.mem_cons_self ..)

/-- (a) -/
theorem cap_great : capS x = greatT x := by
  apply toL_inj
  rw [greatT_toL hx]
  show toL (Txt.join (Str.ofString " ") ((Txt.words x).map Txt.capitalize)) = _
  rw [join_toL, words_same hx, ← wordsS_toL, List.map_map, List.map_map]
  congr 1
  refine List.map_congr_left fun y hy => ?_
  have hm : toL y ∈ wl wsp (toL x) := by rw [← wordsS_toL]; exact List.mem_map.mpr ⟨y, hy, rfl⟩
  obtain ⟨h1, h2⟩ := wl_dark hx hm
  exact cap_toL y h1 (head_dark h1 h2) fun c hc => dark_sub c (h2 c hc)

theorem great_any : (toL (greatT x)).any ctl = decide (8 ∈ toL x) := by
  rw [Bool.eq_iff_iff, List.any_eq_true, decide_eq_true_eq, greatT_toL hx]
  constructor
  · rintro ⟨c, hc, hctl⟩
    rcases jL_mem hc with rfl | ⟨v, hv, hcv⟩
    · exact absurd hctl (by decide)
    · obtain ⟨w, hw, rfl⟩ := List.mem_map.mp hv
      obtain ⟨d, hd, hcd⟩ := capL_mem hcv
      have hdd := (wl_dark hx hw).2 d hd
      have : d = 8 := dark_ctl d hdd (by
        rcases hcd with rfl | rfl
        · rw [hctl]; rfl
        · rw [hctl, Bool.or_true])
      subst this
      exact ((wl_mem hw).2 _ hd).1
  · intro h8
    obtain ⟨w, hw, h⟩ := wl_has (sp := wsp) (k := 8) (by decide) h8
    exact ⟨8, jL_has (List.mem_map.mpr ⟨w, hw, rfl⟩) (capL_has h), by decide⟩

theorem great_13 : 13 ∉ toL (greatT x) := by
  rw [greatT_toL hx]
  intro hc
  rcases jL_mem hc with h | ⟨v, hv, hcv⟩
  · cases h
  · obtain ⟨w, hw, rfl⟩ := List.mem_map.mp hv
    obtain ⟨d, hd, hcd⟩ := capL_mem hcv
    have hdd := dark_13 d ((wl_dark hx hw).2 d hd)
    rcases hcd with h | h
    · exact hdd.1 h.symm
    · exact hdd.2 h.symm

omit hx in
theorem bad_any : (badL x).any (· == Str.ofString "\x08") = decide (8 ∈ toL x) := by
  rw [Bool.eq_iff_iff, List.any_eq_true, decide_eq_true_eq]
  have e8 : Str.ofString "\x08" = ⟨#[8]⟩ := by decide +kernel
  rw [e8]
  constructor
  · rintro ⟨y, hy, he⟩
    unfold badL at hy
    obtain ⟨c, hc, rfl⟩ := List.mem_map.mp hy
    rw [one_beq, decide_eq_true_eq] at he
    subst he
    exact (List.mem_filter.mp hc).1
  · intro h8
    refine ⟨⟨#[8]⟩, ?_, by rw [one_beq]; rfl⟩
    unfold badL
    exact List.mem_map.mpr ⟨8, List.mem_filter.mpr ⟨h8, by decide⟩, rfl⟩

/-- (b) -/
theorem esc_great : escdS (greatT x) = if (badL x).any (· == Str.ofString "\x08") = true then Str.ofString "refused" else writtenS (greatT x) := by
  unfold escdS
  have h : (greatT x).cps.toList.any ctl = decide (8 ∈ toL x) := great_any hx
  rw [h, bad_any]
  by_cases h8 : 8 ∈ toL x
  · rw [decide_eq_true h8, if_pos rfl, if_pos rfl]
  · rw [decide_eq_false h8, if_neg Bool.false_ne_true, if_neg Bool.false_ne_true]
    apply toL_inj
    rw [esc_no13 _ (great_13 hx), written_toL]

theorem any_bad : (toL x).any ctl = !(badL x).isEmpty := by
  unfold badL
  rw [List.isEmpty_map]
  have : ∀ l : List Nat, (∀ c ∈ l, c ∈ sig) → l.any ctl = !(l.filter isBad).isEmpty := by
    intro l
    induction l with
    | nil => intro _; rfl
    | cons c r ih =>
      intro hl
      rw [List.any_cons, sig_ctl c (hl c (List.mem_cons_self ..))]
      cases hb : isBad c with
      | true => rw [List.filter_cons_of_pos hb]; rfl
      | false => rw [List.filter_cons_of_neg (by rw [hb]; exact Bool.false_ne_true), Bool.false_or]; exact ih fun d hd => hl d (List.mem_cons_of_mem _ hd)
  exact this _ hx

/-- (c) -/
theorem bad_refused (h : badL x ≠ []) : escdS x = Str.ofString "refused" := by
  unfold escdS
  have h1 := any_bad hx
  unfold toL at h1
  rw [h1]
  cases hb : badL x with
  | nil => exact absurd hb h
  | cons a r => rfl

theorem good_any (h : badL x = []) : x.cps.toList.any ctl = false := by
  have h1 := any_bad hx
  unfold toL at h1
  rw [h1, h]
  rfl

/-- (d) -/
theorem cap_esc : capS (escS x) = writtenS (greatT x) := by
  apply toL_inj
  rw [written_toL, greatT_toL hx, jL_wr]
  show toL (Txt.join (Str.ofString " ") ((Txt.words (escS x)).map Txt.capitalize)) = _
  have hw : (Txt.words (escS x)).map toL = (wl wsp (toL x)).map wrW := by
    rw [words_toL, wl_esc (by decide +kernel) (by decide +kernel) (by unfold Dark; decide +kernel), wl_same hx]
  rw [join_toL, List.map_map, List.map_map]
  congr 1
  have h1 : (Txt.words (escS x)).map (toL ∘ Txt.capitalize) = ((Txt.words (escS x)).map toL).map capL := by
    rw [List.map_map]
    refine List.map_congr_left fun y hy => ?_
    have hm : toL y ∈ (wl wsp (toL x)).map wrW := by rw [← hw]; exact List.mem_map.mpr ⟨y, hy, rfl⟩
    obtain ⟨w, hwm, hwy⟩ := List.mem_map.mp hm
    obtain ⟨hne, hdk⟩ := wl_dark hx hwm
    refine cap_toL y ?_ ?_ ?_
    · rw [← hwy]
      exact fun e => hne ((wrW_nil w).mp e)
    · rw [← hwy]
      cases w with
      | nil => exact absurd rfl hne
      | cons c r =>
        have := dark_head c (hdk c (List.mem_cons_self ..))
        unfold wrW
        rw [List.flatMap_cons]
        cases hc : wr c with
        | nil => exact absurd hc (wr_ne c)
        | cons a t =>
          rw [hc] at this
          exact this
    · rw [← hwy]
      intro d hd
      obtain ⟨c, hc, hdc⟩ := List.mem_flatMap.mp hd
      exact dark_wr c (hdk c hc) d hdc
  rw [h1, hw, List.map_map]
  refine List.map_congr_left fun w hwm => ?_
  exact capL_wr w (wl_dark hx hwm).2
end
end Mine

namespace Mine

theorem item_mem {x : Str} {i : Int} (h0 : 0 ≤ i) (h1 : i < x.length) : ∀ c ∈ toL (Txt.item x i), c ∈ toL x := by
  intro c hc
  unfold Txt.item Txt.charAt at hc
  have hi : seqIndex? i x.length = some i.toNat := by
    unfold seqIndex?
    simp
    omega
  rw [hi] at hc
  have hlt : i.toNat < x.cps.size := by
    have : x.length = x.cps.size := rfl
    omega
  simp only [Option.bind_some, Array.getElem?_eq_getElem hlt, Option.getD_some] at hc
  have hc' : c ∈ [x.cps[i.toNat]] := hc
  rw [List.mem_singleton.mp hc']
  unfold toL
  exact Array.mem_toList_iff.mpr (Array.getElem_mem hlt)

theorem row_sig (ns : List Int) : ∀ r ∈ rowsL ns, ∀ c ∈ toL r, c ∈ sig := by
  intro r hr
  unfold rowsL at hr
  have e1 : toL (Str.ofString " \n&aB<>\r\t") = [32, 10, 38, 97, 66, 60, 62, 13, 9] := by decide +kernel
  have e2 : toL row9 = [32, 10, 38, 97, 66, 60, 62, 13, 9, 32] := by decide +kernel
  have e3 : toL (Str.ofString "\x08\x0c") = [8, 12] := by decide +kernel
  rcases List.mem_append.mp hr with h | h
  · obtain ⟨x, _, rfl⟩ := List.mem_map.mp h
    unfold rowS
    rw [toL_append, e1]
    intro c hc
    rcases List.mem_append.mp hc with hc | hc
    · exact (by decide : ∀ c ∈ [32, 10, 38, 97, 66, 60, 62, 13, 9], c ∈ sig) c hc
    · have h2 := fmod2 (x.fdiv 10)
      have hl2 : (Str.ofString "\x08\x0c").length = 2 := by decide
      have := item_mem (x := Str.ofString "\x08\x0c") h2.1 (by rw [hl2]; omega) c hc
      rw [e3] at this
      exact (by decide : ∀ c ∈ [8, 12], c ∈ sig) c this
  · rw [List.eq_of_mem_replicate h, e2]
    decide

theorem text_sig (ns : List Int) : ∀ c ∈ toL (textS ns), c ∈ sig := by
  intro c hc
  have e : toL (textS ns) = (signsL ns).flatMap toL := join_empty (signsL ns)
  rw [e] at hc
  obtain ⟨y, hy, hcy⟩ := List.mem_flatMap.mp hc
  unfold signsL at hy
  obtain ⟨i, hi, rfl⟩ := List.mem_iff_getElem.mp hy
  rw [List.getElem_zipWith] at hcy
  have hi1 : i < (rowsL ns).length := by
    rw [List.length_zipWith] at hi
    omega
  have hm : (rowsL ns)[i] ∈ rowsL ns := List.getElem_mem hi1
  have hl := rows_len ns _ hm
  have h10 := fmod10 ((xsL ns)[i]'(by rw [List.length_zipWith] at hi; omega))
  exact row_sig ns _ hm c (item_mem h10.1 (by rw [hl]; omega) c hcy)

theorem bad_ok (x : Str) : ∀ y ∈ badL x, PyData.strOk y = true := by
  intro y hy
  unfold badL at hy
  obtain ⟨c, hc, rfl⟩ := List.mem_map.mp hy
  have hb := (List.mem_filter.mp hc).2
  unfold isBad at hb
  rw [decide_eq_true_eq] at hb
  rcases List.mem_cons.mp hb with rfl | hb
  · decide +kernel
  · rw [List.mem_singleton.mp hb]; decide +kernel

section
variable {prog : Program} {w : World} {A : Around} {E : Value → Shared → Prop} {s s₀ : Shared} {mg mb : Str → Option Value} {L fa : Addr} {cd : Value}

/-- the whole body -/
theorem law_spec {ax : Addr} {vs : List Value} {ns : List Int} {Q : Flow → Shared → Prop} (G : Gd w mg mb s₀.heap) (hroom : A.depth + 1 < recursionLimit) (hh : A.handled = none) (hu : A.units + 64 < cLine)
    (hst : A.frames = some [callEnv (fdL w.params cd) L fa])
    (X : InCall s₀ L (fun y => [(Str.ofString "script", Value.ref ax)].lookup y) s) (hl : s₀.heap.IsList ax vs.toArray) (hI : IntsAre vs ns) (hlen : ns.length ≤ 63)
    (hQ : ∀ s' m', InCall s₀ L m' s' → Q (.ret (.bool true)) s') :
    wpAny (model prog w) A (execs (bodyL w.params) (callEnv (fdL w.params cd) L fa)) Q E s := by
  refine law_signs hh X hl hI hlen fun D l s₁ m₁ X₁ hm1 hm2 hD hld => ?_
  refine law_text G hh X₁ hm1 hm2 hD hld hl hI hlen fun s₂ m₂ t X₂ hm => ?_
  have hx := text_len ns
  have hs := text_sig ns
  refine law_great G (by omega) hh X₂ hm hx fun s₃ m₃ tg X₃ hm₃ hg₃ => ?_
  refine law_bad hh X₃ hm₃ hg₃ hx fun s₄ m₄ D₄ l₄ X₄ hm₄ hg₄ hb₄ hD₄ em => ?_
  have hgl := greatT_len _ hx
  refine law_if G hroom hh hst X₄ hm₄ hg₄ hb₄ hD₄ hx hgl (cap_great hs) ?_ fun s₅ X₅ hD₅ => ?_
  · rw [em]
    exact esc_great hs
  · refine law_end G hroom hh hu hst X₅ hm₄ hg₄ hb₄ hD₅ hx hgl ?_ ?_ ?_ fun s' X' => hQ s' _ X'
    · rw [em]
      exact bad_ok _
    · rw [em]
      exact bad_refused hs
    · rw [em]
      intro h
      exact ⟨good_any hs h, esc_len _ hx, cap_esc hs⟩
end
end Mine

set_option maxHeartbeats 8000000 in
theorem PySem.Challenge.cw_mj0041_01_holds : PySem.Challenge.rw_mj0041_01.Holds :=
  Mine.hd (by
  k_go0
  rename_i w s₀ s₁ mg mb _ _ fa o pm doc kV ho hg KX _ _ _ T _ _ _ _ _ _ cd _ _ ns _ _ _ _ _ _ _ ax vs _ hL _ _ _ hI _ hc _ K0 _ h₁ F _
  have G : Mine.Gd w mg mb s₁.heap := ⟨KX, T.g, T.b, T.builtins, T.nolimit⟩
  have hlen : ns.length ≤ 63 := by omega
  refine Mine.law_spec (s₀ := s₁) (L := s₁.heap.objs.size) (fa := fa) (cd := Value.ref cd) (ax := ax) (vs := vs) (ns := ns) G ?qa rfl ?qb rfl ⟨⟨_, _, rfl⟩, F.ns, F.keep, Nat.le_refl _⟩ hL hI hlen fun s' m' X' => ?_
  case qa => exact (by decide : callerA.depth + 1 + 1 < recursionLimit)
  case qb => exact (by decide : callerA.units + 3 + 64 < cLine)
  obtain ⟨h', tk, rfl⟩ := X'.same
  exact goodW_bool (Fr.mk X'.ns X'.keep X'.fresh) hg (fun _ => rfl) (by with_unfolding_all rfl))
