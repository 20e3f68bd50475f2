import PyProof.Rows.All
import Wide.All
import OpenK.AllK
import Wide.FinOn
import PySem.Challenge.RW_pg0046_02
set_option Elab.async false
section
open PySem PySem.W PyProof.Rows PySem.Calls
set_option maxRecDepth 100000
namespace Mine
/-! ### framework: no program in sight -/
/-- a call of the text's own def, from any state: the callee's base heap is the caller's heap -/
theorem call_own {prog : Program} {w : World} {A : Around} {s : Shared} {K : Frag} {p : Program} {loose : List Str} {mean : ExcName → Option Value} {mg mb : Str → Option Value}
    {Q : Value → Shared → Prop} {E : Value → Shared → Prop} {name qual : Str} {params : Arguments} {body : List Stmt} {scope : Scope} {dV kV doc pm cdv ct oc : Value} {an od : Option Addr} {osl : Array (Option Value)} {f : Addr} {vals : List Value} (binds : List (Str × Value))
    (X : K.In s.heap) (T : Top p loose mean mg mb s.heap)
    (ho : K.lookup f = some ⟨oc, od, .func (fnOf name qual params body scope dV kV doc pm an cdv ct), osl⟩) (hcd : codeIn K cdv qual = true) (hroom : A.depth < recursionLimit)
    (hbind : BindsTo s (fnOf name qual params body scope dV kV doc pm an cdv ct) ⟨vals, []⟩ binds) (hloc : ∀ y ∈ binds, scope.names.lookup y.1 = some .local)
    (h : ∀ h₁, Fr s.heap s.heap.objs.size h₁ (fun y => binds.lookup y) → News s.heap s.heap.objs.size h₁ [] →
      wpAny (model prog w) (A.deeper (envOf qual scope s.heap.objs.size f cdv)) (execs body (envOf qual scope s.heap.objs.size f cdv))
        (fun fl s' => Q (match fl with | .ret v => v | _ => .none) s') (fun _ _ => False)
        { s with heap := h₁, toks := s.toks + binds.length })
    (hrev : ∀ y, binds.reverse.lookup y = binds.lookup y)
    (hco : scope.isCoroutine = false := by rfl) (hgen : scope.isGenerator = false := by rfl) (hk : scope.kind = .function := by rfl)
    (hcell : ∀ x ∈ scope.names, x.2 ≠ .cell := by decide) : wpAny (model prog w) A (call (.ref f) vals) Q E s := by
  refine wpAny_call (codeAny_call_def (fd := fnOf name qual params body scope dV kV doc pm an cdv ct) (body := body) (binds := binds) hroom (X _ _ ho) rfl T.nolimit (codeRec_of X hcd) rfl hbind hcell hloc (fun h₁ hns hk₁ => ?_) hco hgen hk)
  exact wpAny_mono (h h₁ ⟨(funext hrev : (fun y => binds.reverse.lookup y) = _) ▸ hns, hk₁, Nat.le_refl _⟩ News.nil) (fun _ _ x => x) (fun _ _ x => x.elim)
theorem lookup_rev1 {a : Str} {v : Value} (y : Str) : [(a, v)].reverse.lookup y = [(a, v)].lookup y := rfl
theorem lookup_rev2 {a b : Str} {v u : Value} (hab : a ≠ b) (y : Str) : [(a, v), (b, u)].reverse.lookup y = [(a, v), (b, u)].lookup y := by
  show (match y == b with | true => some u | false => (match y == a with | true => some v | false => none)) = (match y == a with | true => some v | false => (match y == b with | true => some u | false => none))
  cases h1 : y == a <;> cases h2 : y == b <;> try rfl
  exact absurd ((beq_iff_eq.mp h1).symm.trans (beq_iff_eq.mp h2)) hab
/-- a mark at which the walk stops -/
def Halt (P : Prop) : Prop := P
theorem halt {P : Prop} (h : Halt P) : P := h
theorem unhalt {P : Prop} (h : P) : Halt P := h
/-- the frame's map with a known name ahead -/
theorem fr_at {h₀ h : Heap} {L : Addr} {m : Str → Option Value} {x : Str} {v : Value} (F : Fr h₀ L h m) (hx : m x = some v) : Fr h₀ L h (fun y => if y = x then some v else m y) := by
  have e : (fun y => if y = x then some v else m y) = m := by
    funext y
    by_cases hy : y = x
    · rw [if_pos hy, hy, hx]
    · rw [if_neg hy]
  rw [e]; exact F
theorem fr_keeps {h₀ h h' : Heap} {L : Addr} {m : Str → Option Value} (F : Fr h₀ L h m) (hk : ∀ b o, h.get? b = some o → h'.get? b = some o) : Fr h₀ L h' m :=
  ⟨F.ns.keeps hk, fun b o e => hk b o (F.keep b o e), F.above⟩
theorem news_keeps {h₀ h h' : Heap} {L : Addr} {news : List (Addr × Obj)} (N : News h₀ L h news) (hk : ∀ b o, h.get? b = some o → h'.get? b = some o) : News h₀ L h' news :=
  fun p hp => ⟨hk _ _ (N p hp).1, (N p hp).2⟩
theorem get_none_of_keeps {h h' : Heap} {a : Addr} (hk : ∀ b o, h.get? b = some o → h'.get? b = some o) (e : h'.get? a = none) : h.get? a = none := by
  cases q : h.get? a with
  | none => rfl
  | some o => rw [hk a o q] at e; cases e
theorem news_more {h₀ h h' : Heap} {L D : Addr} {m : Str → Option Value} {o : Obj} {news : List (Addr × Obj)} (F : Fr h₀ L h m) (N : News h₀ L h news) (hk : ∀ b o, h.get? b = some o → h'.get? b = some o)
    (hD : h.get? D = none) (ho : h'.get? D = some o) : News h₀ L h' ((D, o) :: news) := by
  intro p hp
  rcases List.mem_cons.mp hp with rfl | hp
  · refine ⟨ho, ?_, ?_⟩
    · rintro rfl
      obtain ⟨oL, _, _, hL, _⟩ := F.ns
      rw [hL] at hD; cases hD
    · cases q : h₀.get? D with
      | none => rfl
      | some o' => rw [F.keep _ _ q] at hD; cases hD
  · exact news_keeps N hk p hp
theorem news_lt {h₀ h : Heap} {L D : Addr} {news : List (Addr × Obj)} (N : News h₀ L h news) (hD : h.get? D = none) : ∀ p ∈ news, p.1 ≠ D := by
  intro p hp e
  have := (N p hp).1
  rw [e, hD] at this; cases this
theorem fresh_size (h : Heap) : h.get? h.objs.size = none := by
  cases q : h.get? h.objs.size with
  | none => rfl
  | some o => exact absurd (Heap.lt_size q) (Nat.lt_irrefl _)
/-- what pyIter makes of xv: n values, the i-th one meets P i -/
def Src (prog : Program) (w : World) (A : Around) (s : Shared) (xv : Value) (n : Nat) (P : Nat → Value → Prop) (srcs : List Addr) : Prop :=
  ∀ (Q : Value → Shared → Prop) (E : Value → Shared → Prop),
    (∀ (o : Obj) (St : Nat → Heap → Prop), Walks prog w A s.heap.objs.size (s.heap.objs.size :: srcs) [s.heap.objs.size] n P St → St 0 (s.heap.push o) → Q (.ref s.heap.objs.size) { s with heap := s.heap.push o }) →
    wpAny (model prog w) A (pyIter xv) Q E s
theorem Src.str {prog : Program} {w : World} {A : Around} {s : Shared} {x : Str} {t : Tok} (hh : A.handled = none) : Src prog w A s (.str x t) x.cps.size (SignAt x) [] :=
  fun _ _ h => wpAny_pyIter_str fun o St hW hst => h o St (hW A hh) hst
theorem Src.bytes {prog : Program} {w : World} {A : Around} {s : Shared} {b : Array UInt8} {t : Tok} (hh : A.handled = none) :
    Src prog w A s (.bytes b t) b.size (fun i v => ∃ c u, b[i]? = some c ∧ v = .int (c.toNat : Int) u) [] :=
  fun _ _ h => KBw.pyIter_bytes (h _ _ (KBw.walks hh _ b t) ⟨_, Heap.get?_push_size _ rfl, rfl, rfl⟩)
theorem Src.list {prog : Program} {w : World} {A : Around} {s : Shared} {l : Addr} {items : Array Value} (hh : A.handled = none) (hl : s.heap.IsList l items) :
    Src prog w A s (.ref l) items.size (fun i v => items[i]? = some v) [l] := fun _ _ h => by
  obtain ⟨ol, hol, _⟩ := id hl
  exact wpAny_pyIter_list hl (h _ _ (Walks.list hh _ l (Nat.ne_of_lt (Heap.lt_size hol)) items) ⟨⟨_, Heap.get?_push_size _ rfl, rfl, rfl⟩, hl.at fun o e => Heap.get?_push_of_some _ e⟩)
theorem Src.range {prog : Program} {w : World} {A : Around} {s : Shared} {r : Addr} {a b c : Int} {t u v : Tok} {n : Nat} (hh : A.handled = none) (hr : IsRange s.heap r a b c t u v) (hs : Builtin.Range.small a b c = true)
    (hn : Builtin.Range.rangeSize a b c = (n : Int)) : Src prog w A s (.ref r) n (fun i v => ∃ t, v = .int (a + i * c) t) [] := fun _ _ h => by
  refine wpAny_pyIter_range hr hs (h _ _ (Walks.range hh _ a c n) ?_)
  show IsRangeIter _ _ _ _ _
  rw [hn]
  simpa using Heap.get?_push_size _ rfl
/-- a list comprehension with one clause and no test, its source at hand -/
def CompAt (prog : Program) (w : World) (A : Around) (env : Env) (scope : Scope) (x : Str) (elt : Expr) (Q : Value → Shared → Prop) (xv : Value) (s₁ : Shared) : Prop :=
  ∃ (n : Nat) (P : Nat → Value → Prop) (srcs : List Addr) (G : Value → Value → Prop), Src prog w A s₁ xv n P srcs ∧ (∀ b ∈ srcs, b < s₁.heap.objs.size) ∧ n ≤ sizeLine ∧
    (∀ C i v s₂ m₂ E', P i v → s₂.heap.Ns C m₂ → m₂ x = some v → (∀ b o, s₁.heap.get? b = some o → s₂.heap.get? b = some o) →
      wpAny (model prog w) A (eval elt (compEnv scope C env)) (fun y s₃ => G v y ∧ Keeps s₂ s₃) E' s₂) ∧
    (∀ D h' tk ys k (vs : List Value), s₁.heap.get? D = none → h'.get? D = some (listOf ys.toArray k) → vs.length = n → (∀ j v, vs[j]? = some v → P j v) → Paired G vs ys →
      (∀ b o, s₁.heap.get? b = some o → h'.get? b = some o) → Q (.ref D) { s₁ with heap := h', toks := tk })
theorem filter_tt (vs : List Value) : vs.filter (fun _ => true) = vs := List.filter_eq_self.mpr fun _ _ => rfl
theorem comp_eval {prog : Program} {w : World} {A : Around} {E : Value → Shared → Prop} {env : Env} {s : Shared} {elt iter : Expr} {x : Str} {px : Pos} {scope : Scope} {pos : Pos} {Q : Value → Shared → Prop}
    (h : wpAny (model prog w) A (eval iter env) (fun xv s₁ => CompAt prog w A env scope x elt Q xv s₁) E s)
    (hfree : ∀ y ∈ scope.names, y.2 ≠ .free := by decide) (hcell : ∀ y ∈ scope.names, y.2 ≠ .cell := by decide) (hkind : scope.kind = .function := by rfl)
    (hnames : ∀ y ∈ scope.names, y.2 = .local → scope.names.lookup y.1 = some .local := by decide) (hx : scope.names.lookup x = some .local := by rfl)
    (hs : ∀ x, foldedSetIterable iter env x = pure x := by intro _; rfl) :
    wpAny (model prog w) A (eval (.ListComp elt [⟨.Name x px, iter, [], 0⟩] scope pos) env) Q E s := by
  refine wpAny_ListComp hfree hkind hnames (wpAny_mono h (fun xv s₁ h₁ => ?_) fun _ _ e => e) hs
  obtain ⟨n, P, srcs, G, S, hsr, hsz, helt, hQ⟩ := h₁
  refine S _ _ fun o St W hst => ?_
  have up : ∀ b o', s₁.heap.get? b = some o' → (s₁.heap.push o).get? b = some o' := fun b o' e => Heap.get?_push_of_some _ e
  have hlt : ∀ b o', s₁.heap.get? b = some o' → b ∉ [s₁.heap.objs.size] := fun b o' e hb => absurd (Heap.lt_size e) (by rw [List.mem_singleton.mp hb]; exact Nat.lt_irrefl _)
  refine comp_block_walk (RR := fun acc cenv r s' => ∃ m, s'.heap.Ns cenv.locals m ∧ ∀ h', Heap.SameBut cenv.locals s'.heap h' →
    match r with | .ok _ => Q acc { s' with heap := h' } | .error x => wpAny (model prog w) A (passOn "comprehension.variables-let-go" x cenv) Q E { s' with heap := h' }) W hsz (fun _ => true) G hcell hkind hx hst ?_ ⟨?_, ?_⟩ ?_
  · intro b hb
    show b < (s₁.heap.push o).objs.size
    rw [Heap.size_push]
    rcases List.mem_cons.mp hb with rfl | hb
    · exact Nat.lt_succ_self _
    · exact Nat.lt_succ_of_lt (hsr b hb)
  · intro C i v s₃ m₃ E' _ _ _ _ _
    exact wpAny_pure ⟨rfl, s₃.heap, s₃.toks, rfl, fun _ _ e => e⟩
  · intro C i v s₃ m₃ E' hP _ hns hm hk _
    exact helt C i v s₃ m₃ E' hP hns hm fun b o' e => hk b o' (hlt b o' e) (up b o' e)
  · intro D C h' tk m' ys vs hD hC hDC hn hl hpl hlen hP hF hk
    refine ⟨m', hn, fun h'' hs'' => ?_⟩
    have hpl' := hpl.extBut hs''.extBut hDC
    obtain ⟨k, hk'⟩ := hpl'
    rw [filter_tt] at hF
    refine hQ D h'' tk ys.toList k vs (get_none_of_keeps up hD) (by simpa using hk') hlen hP hF fun b o' e => ?_
    exact hs''.extBut b o' (by rintro rfl; have := up _ _ e; rw [hC] at this; cases this) (hk b o' (hlt b o' e) (up b o' e))
/-- the same, bound to a name of the frame's -/
theorem comp_assign {prog : Program} {w : World} {A : Around} {E : Value → Shared → Prop} {env : Env} {s : Shared} {elt iter : Expr} {x y : Str} {px py : Pos} {scope : Scope} {pos spos : Pos} {Q : Flow → Shared → Prop} {h₀ : Heap} (G : Value → Value → Prop)
    (h : wpAny (model prog w) A (eval iter env) (fun xv s₁ => ∃ (m : Str → Option Value) (news : List (Addr × Obj)) (n : Nat) (P : Nat → Value → Prop) (srcs : List Addr),
      Fr h₀ env.locals s₁.heap m ∧ News h₀ env.locals s₁.heap news ∧ Src prog w A s₁ xv n P srcs ∧ (∀ b ∈ srcs, b < s₁.heap.objs.size) ∧ n ≤ sizeLine ∧
      (∀ C i v s₂ m₂ E', P i v → s₂.heap.Ns C m₂ → m₂ x = some v → (∀ b o, s₁.heap.get? b = some o → s₂.heap.get? b = some o) →
        wpAny (model prog w) A (eval elt (compEnv scope C env)) (fun y s₃ => G v y ∧ Keeps s₂ s₃) E' s₂) ∧
      (∀ D h' tk ys k (vs : List Value), vs.length = n → (∀ j v, vs[j]? = some v → P j v) → Paired G vs ys → (∀ p ∈ news, p.1 ≠ D) →
        Fr h₀ env.locals h' (fun z => if z = y then some (.ref D) else m z) → News h₀ env.locals h' ((D, listOf ys.toArray k) :: news) → Q .next { s₁ with heap := h', toks := tk })) E s)
    (hsw : swapsWith (.ListComp elt [⟨.Name x px, iter, [], 0⟩] scope pos) (some (.Name y py)) spos.line env = pure true := by rfl)
    (hfree : ∀ y ∈ scope.names, y.2 ≠ .free := by decide) (hcell : ∀ y ∈ scope.names, y.2 ≠ .cell := by decide) (hkind : scope.kind = .function := by rfl)
    (hnames : ∀ y ∈ scope.names, y.2 = .local → scope.names.lookup y.1 = some .local := by decide) (hx : scope.names.lookup x = some .local := by rfl)
    (hy : env.kindOf y = some .local := by rfl) (hp : (env.scope.kind == .class || (env.scope.kind == .module && env.locals != env.globals)) = false := by rfl)
    (hs : ∀ x, foldedSetIterable iter env x = pure x := by intro _; rfl) :
    wpAny (model prog w) A (exec (.Assign [.Name y py] (.ListComp elt [⟨.Name x px, iter, [], 0⟩] scope pos) spos) env) Q E s := by
  refine wpAny_Assign_ListComp_walk (fun _ => true) G hsw hfree hcell hkind hnames hx hy hp (wpAny_mono h (fun xv s₁ h₁ => ?_) fun _ _ e => e) hs
  obtain ⟨m, news, n, P, srcs, F, N, S, hsr, hsz, helt, hQ⟩ := h₁
  refine S _ _ fun o St W hst => ?_
  have up : ∀ b o', s₁.heap.get? b = some o' → (s₁.heap.push o).get? b = some o' := fun b o' e => Heap.get?_push_of_some _ e
  have hlt : ∀ b o', s₁.heap.get? b = some o' → b ∉ [s₁.heap.objs.size] := fun b o' e hb => absurd (Heap.lt_size e) (by rw [List.mem_singleton.mp hb]; exact Nat.lt_irrefl _)
  have hL : env.locals ∉ [s₁.heap.objs.size] := by
    obtain ⟨oL, _, _, hL, _⟩ := F.ns
    exact hlt _ _ hL
  refine ⟨_, _, _, n, P, St, m, rfl, W, hsz, hst, ?_, hL, F.ns.push _, ⟨?_, ?_⟩, ?_⟩
  · intro b hb
    show b < (s₁.heap.push o).objs.size
    rw [Heap.size_push]
    rcases List.mem_cons.mp hb with rfl | hb
    · exact Nat.lt_succ_self _
    · exact Nat.lt_succ_of_lt (hsr b hb)
  · intro C i v s₃ m₃ E' _ _ _ _ _
    exact wpAny_pure ⟨rfl, s₃.heap, s₃.toks, rfl, fun _ _ e => e⟩
  · intro C i v s₃ m₃ E' hP _ hns hm hk _
    exact helt C i v s₃ m₃ E' hP hns hm fun b o' e => hk b o' (hlt b o' e) (up b o' e)
  · intro D h' tk ys vs hD _ hpl hlen hP hF hns hk
    obtain ⟨k, hk'⟩ := hpl
    rw [filter_tt] at hF
    have hD' := get_none_of_keeps up hD
    have hk2 : ∀ b o', b ≠ env.locals → s₁.heap.get? b = some o' → h'.get? b = some o' := fun b o' hb e => hk b o' hb (hlt b o' e) (up b o' e)
    have F' : Fr h₀ env.locals h' (fun z => if z = y then some (.ref D) else m z) :=
      ⟨hns, fun b o' e => hk2 b o' (Nat.ne_of_lt (Nat.lt_of_lt_of_le (Heap.lt_size e) F.above)) (F.keep b o' e), F.above⟩
    refine hQ D h' tk ys.toList k vs hlen hP hF (news_lt N hD') F' ?_
    intro p hp
    rcases List.mem_cons.mp hp with rfl | hp
    · refine ⟨by simpa using hk', ?_, ?_⟩
      · rintro rfl
        obtain ⟨oL, _, _, hL', _⟩ := F.ns
        rw [hL'] at hD'; cases hD'
      · cases q : h₀.get? D with
        | none => rfl
        | some o' => rw [F.keep _ _ q] at hD'; cases hD'
    · exact ⟨hk2 _ _ (N p hp).2.1 (N p hp).1, (N p hp).2⟩
/-- a for over a source that lies outside the ledger -/
theorem for_own {prog : Program} {w : World} {A : Around} {E : Value → Shared → Prop} {s : Shared} {env : Env} {h₀ : Heap} {x : Str} {body : List Stmt} {Q : Flow → Shared → Prop} {xv : Value} {n : Nat} {P : Nat → Value → Prop} {m₀ : Str → Option Value} {news : List (Addr × Obj)}
    (J : Nat → (Str → Option Value) → List (Addr × Obj) → Prop) (S : Src prog w A s xv n P []) (F : Fr h₀ env.locals s.heap m₀) (N : News h₀ env.locals s.heap news) (hj : J 0 m₀ news)
    (turn : ∀ i v m₁ nx h tk own, i < n → P i v → OwnOff own (news.map (·.1)) → nx.map (·.1) = news.map (·.1) → J i m₁ nx → Fr h₀ env.locals h (fun y => if y = x then some v else m₁ y) → News h₀ env.locals h (nx ++ own) →
      wpAny (model prog w) A (execs body env) (InvPostN h₀ env.locals (J (i + 1)) own (news.map (·.1)) { s with heap := h, toks := tk } Q) E { s with heap := h, toks := tk })
    (done : ∀ m₁ nx h tk, nx.map (·.1) = nx.map (·.1) → J n m₁ nx → Fr h₀ env.locals h m₁ → News h₀ env.locals h nx → Q .next { s with heap := h, toks := tk }) :
    wpAny (model prog w) A (pyIter xv) (fun it s₂ => LoopAtV prog w A h₀ env x body Q E it s₂) E s := by
  refine S _ _ fun o St W hst => ?_
  refine loop_invN J W ?_ ?_ ?_ ?_ hst (F.push _) (fun p hp => ⟨Heap.get?_push_of_some _ (N p hp).1, (N p hp).2⟩) hj ?_ ?_
  · intro hm
    exact absurd F.ns.lt ((List.mem_singleton.mp hm) ▸ Nat.lt_irrefl _)
  · intro b' hb
    rw [List.mem_singleton.mp hb]
    exact next_is_new F
  · intro p hp hI
    exact absurd (Heap.lt_size (N p hp).1) ((List.mem_singleton.mp hI) ▸ Nat.lt_irrefl _)
  · intro p hp hI
    exact absurd (Heap.lt_size (N p hp).1) ((List.mem_singleton.mp hI) ▸ Nat.lt_irrefl _)
  · intro i v m₁ nx h tk own hi hP ha ho hJ F₁ N₁
    exact turn i v m₁ nx h tk own hi hP ho ha hJ F₁ N₁
  · intro m₁ nx h tk hJ F₁ N₁
    exact done m₁ nx h tk rfl hJ F₁ N₁
theorem append_own {prog : Program} {w : World} {A : Around} {E : Value → Shared → Prop} {s : Shared} {h₀ : Heap} {L D : Addr} {m : Str → Option Value} {own : List (Addr × Obj)} {us : List Value} {n : Nat} {x : Value} {Q : Value → Shared → Prop}
    (F : Fr h₀ L s.heap m) (N : News h₀ L s.heap ((D, listOf us.toArray n) :: own)) (hne : ∀ p ∈ own, p.1 ≠ D) (hsz : us.length ≤ sizeLine)
    (h : ∀ h', Fr h₀ L h' m → News h₀ L h' ((D, listOf (us ++ [x]).toArray (n + 1)) :: own) → Q .none { s with heap := h' }) :
    wpAny (model prog w) A (call (.builtin "list.append") [.ref D, x]) Q E s :=
  append_K F N (Upd.head hne) (fun h' F' N' => h h' F' (by simpa using N')) (by simpa using hsz)
theorem strs_snoc {us : List Value} {ws : List Str} {x : Str} {t : Tok} (h : StrsAre us ws) : StrsAre (us ++ [.str x t]) (ws ++ [x]) := KStt.strs_snoc h
end Mine
end
section
open PySem PySem.W PyProof.Rows PySem.Calls
set_option maxRecDepth 100000
namespace Mine
open Sem (wp)
/-! ### a wpAny over stacks that hold no bytearray -/
def heldIds : List String := ["bytearray.__contains__", "bytearray.__mod__", "bytearray.__rmod__", "_struct.pack_into.held", "bytearray.find.held"] ++ Builtin.Bytes.decodersThatHold
def cleanB : Code → Bool
  | .builtin id _ => !heldIds.contains id
  | _ => true
def NoHold (Γ : Ctx) : Prop := cleanB Γ.code = true ∧ ∀ x ∈ Γ.below, cleanB x.1 = true
def wpN {α : Type} (M : Model) (A : Around) (t : Sem α) (Q : α → Shared → Prop) (E : Value → Shared → Prop) (s : Shared) : Prop :=
  ∀ Γ p, Γ.In A → NoHold Γ → wp M Γ t (fun a _ s' => Q a s') (fun e _ s' => E e s') p s
def codeN (M : Model) (A : Around) (c : Code) (R : Result → Shared → Prop) (s : Shared) : Prop :=
  ∀ Γ p, Γ.code = c → Γ.Below A → NoHold Γ → wpCode M Γ R p s
section
variable {α β : Type} {M : Model} {A : Around} {E : Value → Shared → Prop} {s : Shared}
theorem wpN.of {t : Sem α} {Q : α → Shared → Prop} (h : wpAny M A t Q E s) : wpN M A t Q E s := fun Γ p hΓ _ => h Γ p hΓ
theorem codeN.of {c : Code} {R : Result → Shared → Prop} (h : codeAny M A c R s) : codeN M A c R s := fun Γ p hc hΓ _ => h Γ p hc hΓ
theorem wpN_mono {t : Sem α} {Q Q' : α → Shared → Prop} {E' : Value → Shared → Prop} (h : wpN M A t Q E s)
    (hQ : ∀ a s, Q a s → Q' a s) (hE : ∀ e s, E e s → E' e s) : wpN M A t Q' E' s :=
  fun Γ p hΓ hN => Sem.wp_mono M Γ t (fun a _ s => hQ a s) (fun e _ s => hE e s) p s (h Γ p hΓ hN)
theorem wpN_bind {m : Sem α} {f : α → Sem β} {Q : β → Shared → Prop} (h : wpN M A m (fun a s' => wpN M A (f a) Q E s') E s) :
    wpN M A (m >>= f) Q E s := fun Γ p hΓ hN => by
  rw [Sem.wp_bind']
  exact Sem.wp_mono M Γ m (fun a p' s' h' => h' Γ p' hΓ hN) (fun _ _ _ h' => h') p s (h Γ p hΓ hN)
theorem wpN_pure {a : α} {Q : α → Shared → Prop} (h : Q a s) : wpN M A (pure a) Q E s := fun _ _ _ _ => h
theorem wpN_standAt {pos : Pos} {Q : Unit → Shared → Prop} (h : Q () s) : wpN M A (standAt pos) Q E s := .of (wpAny_standAt h)
theorem wpN_holding {vs : List Value} {m : Sem α} {Q : α → Shared → Prop} (h : wpN M A m Q E s) : wpN M A (holding vs m) Q E s :=
  fun Γ p hΓ hN => by rw [Sem.wp_holding]; exact h Γ p hΓ hN
theorem wpN_onRaise {m : Sem α} {k : Value → Sem Unit} {Q : α → Shared → Prop}
    (h : wpN M A m Q (fun _ _ => False) s) : wpN M A (m.onRaise k) Q E s := fun Γ p hΓ hN => by
  rw [Sem.wp_onRaise]
  exact Sem.wp_mono M Γ m (fun _ _ _ h' => h') (fun e p' s' h' => h'.elim) p s (h Γ p hΓ hN)
theorem wpN_ite {c : Prop} [Decidable c] {a b : Sem α} {Q : α → Shared → Prop} (h : if c then wpN M A a Q E s else wpN M A b Q E s) :
    wpN M A (if c then a else b) Q E s := by split <;> simp_all
theorem noHold_enter {Γ : Ctx} {c : Code} {h : Option Value} {p : Pos} (hN : NoHold Γ) (hc : cleanB c = true) : NoHold (Γ.enter c h p) :=
  ⟨hc, fun x hx => by
    rcases List.mem_cons.mp hx with rfl | hx
    · exact hN.1
    · exact hN.2 x hx⟩
theorem wpN_run {c : Code} {Q : Flow → Shared → Prop} (hcl : cleanB c = true)
    (hc : codeN M A c (fun r s' => match r with | .ok f => Q f s' | .error e => E e s') s) :
    wpN M A (run c none) Q E s :=
  fun Γ p hΓ hN => by rw [Sem.wp_run]; exact hc _ p rfl (hΓ.enter c none p (by intro x; cases x)) (noHold_enter hN hcl)
theorem wpN_runValue {c : Code} {Q : Value → Shared → Prop} (hcl : cleanB c = true)
    (hc : codeN M A c (fun r s' => match r with | .ok (.ret v) => Q v s' | .ok _ => False | .error e => E e s') s) :
    wpN M A (runValue c) Q E s := fun Γ p hΓ hN => by rw [Sem.wp_runValue]; exact hc _ p rfl (hΓ.enter c none p (by intro x; cases x)) (noHold_enter hN hcl)
theorem wpN_call {f : Value} {pos : List Value} {kw : List (Str × Value)} {Q : Value → Shared → Prop}
    (hc : codeN M A (.call f ⟨pos, kw⟩) (fun r s' => match r with | .ok (.ret v) => Q v s' | .ok _ => False | .error e => E e s') s) :
    wpN M A (call f pos kw) Q E s := wpN_runValue rfl hc
theorem codeN_mono {c : Code} {R R' : Result → Shared → Prop} (h : codeN M A c R s) (hR : ∀ r s, R r s → R' r s) : codeN M A c R' s :=
  fun Γ p hc hΓ hN => wpCode_mono hR (h Γ p hc hΓ hN)
theorem codeN_of_tree {c : Code} {R : Result → Shared → Prop}
    (h : wpN M (A.under c) (M.den c) (fun fin s' => match fin with | .done f => R (.ok f) s' | .again c' => c'.quiet = true ∧ cleanB c' = true ∧ codeN M A c' R s')
      (fun e s' => R (.error e) s') s) : codeN M A c R s := fun Γ p hc hΓ hN => by
  rw [wpCode_iff_wp, hc]
  refine Sem.wp_mono M Γ _ (fun fin p' s' h' => ?_) (fun _ _ _ h' => h') p s (h Γ p (hc ▸ hΓ.in) hN)
  cases fin with
  | done f => exact h'
  | again c' => exact ⟨h'.1, h'.2.2 (Γ.goto c') p' rfl (hΓ.goto c') ⟨h'.2.1, hN.2⟩⟩
theorem codeN_loop {c : Code} {R : Result → Shared → Prop} (hq : c.quiet = true) (hcl : cleanB c = true) (I : Nat → Shared → Prop)
    (turn : ∀ n s, I n s → wpN M (A.under c) (M.den c)
      (fun fin s' => match fin with
        | .done f => R (.ok f) s'
        | .again c' => (c' = c ∧ ∃ m, m < n ∧ I m s') ∨ (c'.quiet = true ∧ cleanB c' = true ∧ codeN M A c' R s')) (fun e s' => R (.error e) s') s)
    (n : Nat) (h : I n s) : codeN M A c R s := by
  induction n using Nat.strongRecOn generalizing s with
  | ind n ih =>
    refine codeN_of_tree (wpN_mono (turn n s h) (fun fin s' hf => ?_) fun _ _ h' => h')
    cases fin with
    | done f => exact hf
    | again c' =>
      rcases hf with ⟨rfl, m, hm, hI⟩ | hf
      · exact ⟨hq, hcl, ih m hm hI⟩
      · exact hf
theorem wpN_execs_cons {env : Env} {st : Stmt} {rest : List Stmt} {Q : Flow → Shared → Prop}
    (h : wpN M A (exec st env) (fun f s' => match f with | .next => wpN M A (execs rest env) Q E s' | f => Q f s') E s) :
    wpN M A (execs (st :: rest) env) Q E s := fun Γ p hΓ hN => by
  rw [execs_cons, Sem.wp_bind']
  refine Sem.wp_mono M Γ _ (fun f p' s' h' => ?_) (fun _ _ _ h' => h') _ _ (h Γ p hΓ hN)
  cases f <;> first | exact h' Γ p' hΓ hN | exact h'
/-- a leaf ahead -/
theorem wpN_execs_leaf {env : Env} {st : Stmt} {rest : List Stmt} {Q : Flow → Shared → Prop}
    (h : wpAny M A (exec st env) (fun f s' => match f with | .next => wpN M A (execs rest env) Q E s' | f => Q f s') E s) :
    wpN M A (execs (st :: rest) env) Q E s := wpN_execs_cons (.of h)
theorem wpN_Assign_Name {env : Env} {x : Str} {pos' : Pos} {value : Expr} {pos : Pos} {Q : Flow → Shared → Prop}
    (h : wpN M A (eval value env) (fun v s₁ => wpAny M A (storeName env x v) (fun _ => Q .next) E s₁) E s)
    (hs : swapsWith value (some (.Name x pos')) pos.line env = pure false := by rfl) :
    wpN M A (exec (.Assign [.Name x pos'] value pos) env) Q E s := fun Γ p hΓ hN => by
  simp only [exec_Assign_Name env x pos' value pos hs, Sem.wp_bind', Sem.wp_cmd_standAt, Sem.wp_bindName, Sem.wp_pure']
  exact Sem.wp_mono M Γ _ (fun v _ s₁ h₁ => h₁ Γ _ hΓ) (fun _ _ _ h' => h') _ _ (h Γ _ hΓ hN)
theorem wpN_For {env : Env} {target : Expr} {iter : Expr} {body orelse : List Stmt} {pos : Pos} {Q : Flow → Shared → Prop}
    (h : wpAny M A (eval iter env) (fun x s₁ => wpAny M A (pyIter x) (fun it s₂ =>
      codeN M A (.forLoop target it body orelse env) (fun r s' => match r with | .ok f => Q f s' | .error _ => False) s₂) E s₁) E s)
    (hs : ∀ x, foldedSetIterable iter env x = pure x := by intro _; rfl) :
    wpN M A (exec (.For target iter body orelse pos) env) Q E s := by
  rw [exec_For]
  refine wpN_bind (wpN_standAt (wpN_bind (.of (wpAny_mono h (fun x s₁ h₁ => ?_) fun _ _ h' => h'))))
  refine wpN_bind (.of (wpAny_of_eq (hs x) (wpN_bind (wpN_standAt (wpN_bind (.of (wpAny_holding (wpAny_mono h₁ (fun it s₂ h₂ => ?_) fun _ _ h' => h'))))))))
  unfold runOwn
  refine wpN_onRaise (wpN_run rfl (codeN_mono h₂ fun r s' hr => ?_))
  cases r with
  | ok f => exact hr
  | error e => exact hr
theorem wpN_While {env : Env} {test : Expr} {body orelse : List Stmt} {pos : Pos} {Q : Flow → Shared → Prop}
    (h : codeN M A (.whileLoop test body orelse env) (fun r s' => match r with | .ok f => Q f s' | .error _ => False) s) :
    wpN M A (exec (.While test body orelse pos) env) Q E s := by
  rw [exec_While]
  refine wpN_bind (wpN_standAt ?_)
  unfold runOwn
  refine wpN_onRaise (wpN_run rfl (codeN_mono h fun r s' hr => ?_))
  cases r with
  | ok f => exact hr
  | error e => exact hr
theorem wpN_Call {env : Env} {func : Expr} {args : List Expr} {pos : Pos} {Q : Value → Shared → Prop}
    (h : wpAny M A (eval func env) (fun f s₁ => wpN M A (callWith pos f [] (backTo pos (starEach args env)) []) Q E s₁) E s)
    (he : eval (.Call func args [] pos) env = (do callWith pos (← eval func env) [] (backTo pos (starEach args env)) (backToKw pos (keywordEach [] env))) := by rfl) :
    wpN M A (eval (.Call func args [] pos) env) Q E s := by
  rw [he]; exact wpN_bind (.of h)
theorem wpN_tail {t : Sem Value} {Q : Value → Shared → Prop} (ht : wpN M A t Q E s) : wpN M A (t >>= fun r => holding [r] point >>= fun _ => pure r) Q E s :=
  wpN_bind (wpN_mono ht (fun r _ hr => wpN_bind (wpN_holding (.of (wpAny_point (wpN_pure hr))))) fun _ _ x => x)
theorem wpN_keep {t : Sem α} {vs : List Value} {Q : α → Shared → Prop} (h : wpN M A t Q E s) : wpN M A (t.keep vs) Q E s := fun Γ p hΓ hN => by
  rw [Sem.wp_keep]; exact h Γ p hΓ hN
end
section
variable {prog : Program} {w : World} {A : Around} {R : Result → Shared → Prop} {s : Shared}
theorem codeN_func {body : List Stmt} {env : Env}
    (h : wpN (model prog w) (A.deeper env) (execs body env) (fun f s' => R (.ok (.ret (match f with | .ret v => v | _ => .none))) s') (fun _ _ => False) s) :
    codeN (model prog w) A (.func body env) R s := by
  refine codeN_of_tree ?_
  show wpN _ (A.deeper env) (do point; match ← (execs body env).onRaise (leaving env) with | .ret v => ret v | _ => ret .none) _ _ s
  refine wpN_bind (.of (wpAny_point (wpN_bind (wpN_onRaise (wpN_mono h (fun f s' h' => ?_) fun _ _ h' => h')))))
  cases f <;> exact wpN_pure h'
theorem codeN_forLoop {target : Expr} {it : Value} {body orelse : List Stmt} {env : Env} (I : Nat → Shared → Prop)
    (turn : ∀ n s, I n s → wpAny (model prog w) A (pyNext it) (fun r s₁ => match r with
      | none => wpAny (model prog w) A (execs orelse env) (fun f s₃ => R (.ok f) s₃) (fun _ _ => False) s₁
      | some v => wpAny (model prog w) A (assign target env v) (fun _ s₂ => wpN (model prog w) A (execs body env) (fun f s₃ => match f with
          | .next | .cont => ∃ m, m < n ∧ I m s₃
          | .brk => R (.ok .next) s₃
          | .ret v => R (.ok (.ret v)) s₃) (fun _ _ => False) s₂) (fun _ _ => False) s₁) (fun _ _ => False) s)
    (n : Nat) (h : I n s) (ht : ∀ v, letOwnedTupleGo target it v = pure () := by intro _; rfl) : codeN (model prog w) A (.forLoop target it body orelse env) R s := by
  refine codeN_loop rfl rfl I (fun n s hI => ?_) n h
  show wpN _ _ ((forTurn target it body orelse env).onRaise (fun x => do noteFrame x env; theTreesLotGoes x)) _ _ s
  refine wpN_onRaise ?_
  simp only [forTurn]
  refine wpN_bind (wpN_standAt (wpN_bind (wpN_onRaise (wpN_mono (.of (turn n s hI)) (fun r s₁ h₁ => ?_) fun _ _ h' => h'))))
  cases r with
  | none => exact wpN_pure (.inr ⟨rfl, rfl, codeN.of (codeAny_block (wpAny_mono h₁ (fun _ _ x => x) fun _ _ x => x.elim))⟩)
  | some v =>
    refine wpN_bind (.of (wpAny_of_eq (ht v) ?_))
    refine wpN_bind (wpN_mono (.of h₁) (fun _ s₂ h₂ => wpN_bind (wpN_mono h₂ (fun f s₃ h₃ => ?_) fun _ _ h' => h')) fun _ _ h' => h')
    cases f with
    | next => exact wpN_pure (.inl ⟨rfl, h₃⟩)
    | cont => exact wpN_pure (.inl ⟨rfl, h₃⟩)
    | brk => exact wpN_pure h₃
    | ret v => exact wpN_pure h₃
theorem codeN_whileLoop {test : Expr} {body orelse : List Stmt} {env : Env} (I : Nat → Shared → Prop)
    (turn : ∀ n s, I n s →
      wpAny (model prog w) A (isTrue test env (eval test env)) (fun b s₂ =>
        if b then wpN (model prog w) A (execs body env) (fun f s₃ => match f with
            | .next | .cont => ∃ m, m < n ∧ I m s₃
            | .brk => R (.ok .next) s₃
            | .ret v => R (.ok (.ret v)) s₃) (fun _ _ => False) s₂
        else wpAny (model prog w) A (execs orelse env) (fun f s₃ => R (.ok f) s₃) (fun _ _ => False) s₂)
        (fun _ _ => False) s)
    (n : Nat) (h : I n s) : codeN (model prog w) A (.whileLoop test body orelse env) R s := by
  refine codeN_loop rfl rfl I (fun n s hI => ?_) n h
  show wpN _ A ((whileTurn test body orelse env).onRaise (fun x => do noteFrame x env; theTreesLotGoes x)) _ _ s
  refine wpN_onRaise ?_
  simp only [whileTurn]
  refine wpN_bind (wpN_mono (.of (turn n s hI)) (fun b s₂ h₂ => ?_) fun _ _ h' => h')
  cases b with
  | false =>
    simp only [Bool.false_eq_true, if_false] at h₂ ⊢
    exact wpN_bind (wpN_mono (.of h₂) (fun f s₃ h₃ => wpN_pure h₃) fun _ _ h' => h')
  | true =>
    simp only [if_true] at h₂ ⊢
    refine wpN_bind (wpN_mono h₂ (fun f s₃ h₃ => ?_) fun _ _ h' => h')
    cases f with
    | next => exact wpN_pure (.inl ⟨rfl, h₃⟩)
    | cont => exact wpN_pure (.inl ⟨rfl, h₃⟩)
    | brk => exact wpN_pure h₃
    | ret v => exact wpN_pure h₃
theorem codeN_call_function {a : Addr} {args : Args} {o : Obj} {fd : FuncData} {body : List Stmt} (hroom : A.depth < recursionLimit)
    (ho : s.heap.get? a = some o)
    (hd' : o.data = .func fd) (hco : fd.scope.isCoroutine = false) (hgen : fd.scope.isGenerator = false) (hbody : fd.body = .stmts body) (hcd : s.heap.CodeRec fd.code fd.qualname)
    (h : wpAny (model prog w) A.in1 (bindArgs fd args) (fun binds s₁ =>
      wpAny (model prog w) A.in1 (newFunctionEnv fd.scope fd.globals fd.closure binds (fd.qualname ++ ".<locals>.") (some a) fd.code none fd.builtins)
        (fun env s₂ => s₂.heap.NoLimit ∧ codeN (model prog w) A (.func body env) R s₂) (fun _ _ => False) s₁) (fun _ _ => False) s) :
    codeN (model prog w) A (.call (.ref a) args) R s := by
  refine codeN_of_tree ?_
  show wpN _ A.in1 (callAny (.ref a) args) _ _ s
  simp only [callAny]
  refine wpN_bind (.of (wpAny_load ho ?_))
  obtain ⟨c, oc, vs, tq, hc, hoc, hdc, hq⟩ := hcd
  simp only [hd', callFunction, hco, hgen, hbody, hc]
  rw [hc] at h
  refine .of (wpAny_bind (m := field (.ref c) 1) (wpAny_field hoc hdc hq (wpAny_bind (wpAny_pure ?_))))
  exact wpAny_bind (wpAny_mono h (fun binds s₁ h₁ => wpAny_bind (wpAny_mono h₁ (fun env s₂ h₂ => wpAny_bind (wpAny_enterFrame h₂.1 hroom
    (wpAny_pure ⟨rfl, rfl, h₂.2⟩))) fun _ _ h' => h'.elim)) fun _ _ h' => h'.elim)
end
/-- call_own for a body that makes a bytearray -/
theorem call_ownN {prog : Program} {w : World} {A : Around} {s : Shared} {K : Frag} {p : Program} {loose : List Str} {mean : ExcName → Option Value} {mg mb : Str → Option Value}
    {Q : Value → Shared → Prop} {E : Value → Shared → Prop} {name qual : Str} {params : Arguments} {body : List Stmt} {scope : Scope} {dV kV doc pm cdv ct oc : Value} {an od : Option Addr} {osl : Array (Option Value)} {f : Addr} {vals : List Value} (binds : List (Str × Value))
    (X : K.In s.heap) (T : Top p loose mean mg mb s.heap)
    (ho : K.lookup f = some ⟨oc, od, .func (fnOf name qual params body scope dV kV doc pm an cdv ct), osl⟩) (hcd : codeIn K cdv qual = true) (hroom : A.depth < recursionLimit)
    (hbind : BindsTo s (fnOf name qual params body scope dV kV doc pm an cdv ct) ⟨vals, []⟩ binds) (hloc : ∀ y ∈ binds, scope.names.lookup y.1 = some .local)
    (h : ∀ h₁, Fr s.heap s.heap.objs.size h₁ (fun y => binds.lookup y) → News s.heap s.heap.objs.size h₁ [] →
      wpN (model prog w) (A.deeper (envOf qual scope s.heap.objs.size f cdv)) (execs body (envOf qual scope s.heap.objs.size f cdv))
        (fun fl s' => Q (match fl with | .ret v => v | _ => .none) s') (fun _ _ => False)
        { s with heap := h₁, toks := s.toks + binds.length })
    (hrev : ∀ y, binds.reverse.lookup y = binds.lookup y)
    (hco : scope.isCoroutine = false := by rfl) (hgen : scope.isGenerator = false := by rfl) (hk : scope.kind = .function := by rfl)
    (hcell : ∀ x ∈ scope.names, x.2 ≠ .cell := by decide) : wpN (model prog w) A (call (.ref f) vals) Q E s := by
  refine wpN_call (codeN_call_function (fd := fnOf name qual params body scope dV kV doc pm an cdv ct) (body := body) hroom (X _ _ ho) rfl hco hgen rfl (codeRec_of X hcd) (hbind _ _ _ _ ?_))
  refine wpAny_newFunctionEnv hcell hloc (fun h₀ hns₀ hsb₀ => ⟨T.nolimit.fresh _ hsb₀, codeN_func (wpN_mono (h h₀ ⟨(funext hrev : (fun y => binds.reverse.lookup y) = _) ▸ hns₀, ?_, Nat.le_refl _⟩ News.nil) (fun _ _ x => x) fun _ _ x => x)⟩) hk
  exact fun b o e => hsb₀.extBut b o (Nat.ne_of_lt (Heap.lt_size e)) (Heap.get?_push_of_some _ e)
end Mine
end
section
open PySem PySem.W PyProof.Rows PySem.Calls
set_option maxRecDepth 100000
namespace Mine
open Sem (wp)
abbrev Γc : Ctx := ⟨.builtin "claim.caller" {}, none, none, [], none⟩
theorem noHold_c : NoHold Γc := ⟨by decide +kernel, fun _ h => nomatch h⟩
theorem wp_at {M : Model} {t : Sem Fin} {R : Result → Shared → Prop} {s : Shared}
    (h : wpN M callerA t (fun fin s' => ∃ f, fin = .done f ∧ R (.ok f) s') (fun e s' => R (.error e) s') s) (p : Pos) :
    wp M Γc t (Sem.finPost M Γc R) (fun e _ s' => R (.error e) s') p s := by
  refine Sem.wp_mono M Γc t (fun fin p' s' h' => ?_) (fun _ _ _ h' => h') p s (h Γc p caller_in noHold_c)
  obtain ⟨f, rfl, hf⟩ := h'
  exact hf
theorem callFrom_N {c : ClaimW} {tree : List Value → Sem Fin} {w : World} {s : Shared} {free : Addr → Prop} {gens : Prop} {kept : Heap → Prop} (hz : s.asleep) (hgens : s.gens = #[])
    (hspec : ∀ args, c.pre args = true → WData.layableAll args = true → ∀ ord : List DictEntry → List DictEntry, (∀ l, (ord l).Perm l) →
      ∃ vs s₁, layAllW c.records (classAt s.heap) w.params ord args s = some (vs, s₁) ∧
        wpN (model c.prog w) callerA (tree vs) (fun fin s' => ∃ f, fin = .done f ∧ (c.Ends s args vs s₁ (.ok f) s' ∧ s'.os = s.os ∧ kept s'.heap) ∧ leftWithCleanup s'.gens = false)
          (fun e s' => (c.Ends s args vs s₁ (.error e) s' ∧ s'.os = s.os ∧ kept s'.heap) ∧ leftWithCleanup s'.gens = false) s₁) :
    c.CallFrom (fun vs => ⟨tree vs, .builtin "claim.caller" {}, default, []⟩) w free gens kept s := by
  intro args hpre hlay ord hord
  obtain ⟨vs, s₁, hlaid, hcode⟩ := hspec args hpre hlay ord hord
  have hal := layAllW_rest _ _ _ hlaid
  obtain ⟨k, r, s'', s', hsched, hrun, hfo, hcase, hos, hkp⟩ := wp_halts_full (M := model c.prog w) (R := fun r s' => c.Ends s args vs s₁ r s' ∧ s'.os = s.os ∧ kept s'.heap)
    (Shared.asleep_of_life hal.2.2.2 hz) (wp_at (R := fun r s' => (c.Ends s args vs s₁ r s' ∧ s'.os = s.os ∧ kept s'.heap) ∧ leftWithCleanup s'.gens = false) hcode default)
  obtain ⟨eh, _, _, eo, _⟩ := Shared.forget_eq hfo
  have hcase := hcase.congr eh
  have hkp : kept s'.heap := by rw [eh]; exact hkp
  rw [← eo] at hos
  have hlife : s'.heap.life = s.heap.life := (runN_life _ _ _ hrun).trans hal.2.2.2
  refine ⟨vs, s₁, hlaid, k, _, s', hsched, ?_, (fun _ i x hx => by rw [hgens] at hx; simp at hx), hkp, by rw [hlife], Shared.rest_eq hos⟩
  rcases hcase with ⟨v, rfl, d1, d2, d3, d4, d5⟩ | ⟨e, ob, cls, rfl, d1, d2, d3, d4, d5⟩
  · exact .inl ⟨v, rfl, d1, d2, d3, fun b o y _ => d4 b o y, d5⟩
  · exact .inr ⟨e, ob, cls, rfl, d1, d2, d3, d4, fun b o y _ => d5 b o y⟩
/-- what is left of the head: the call, over the clean stacks alone -/
abbrev WalkC (q : Program) (loose : List Str) (XP : (Str → Option Value) → Heap → Prop) (YP : World → Heap → Prop) (r : RowW) (d : DefRec) (kwd : List (Str × Expr)) : Prop :=
  ∀ (w : World) (s₀ s₁ : Shared) (mg mb : Str → Option Value), Ground q loose r.records XP w s₀ mg mb s₁.heap → YP w s₁.heap → ∀ (a : Addr) (o : Obj) (pm cd doc dV kV : Value), s₁.heap.get? a = some o →
    o.data = .func { docDef d.name d.params d.body d.scope pm cd doc with defaults := dV, kwdefaults := kV } → s₁.heap.CodeRec cd d.name → Dflts mg s₁.heap d.params kwd dV kV → mg d.name = some (.ref a) → s₁.gens = #[] →
    ∀ (args : List WData) (vals : List Value) (as : List Addr), r.claim.pre args = true → WData.layableAll args = true → ReadsAllW r.records (classAt s₀.heap) s₁.heap vals args as → WellAll w.params s₁.heap vals args → (∀ a ∈ as, (a == sysModules) = false) →
      wpN (model r.prog w) callerA (call (.ref a) vals) (fun v s' => GoodWG r.claim (classAt s₀.heap) (ExcName.means s₀.heap) args s₁ (.ok (.ret v)) s')
        (fun e s' => GoodWG r.claim (classAt s₀.heap) (ExcName.means s₀.heap) args s₁ (.error e) s') s₁
theorem PySem.W.holds_open {r : OpenRow} {q : Program} {loose : List Str} {Xt : Shared → Bool} {XP : (Str → Option Value) → Heap → Prop} {α : Type} {Yf : Shared → α} {Ya : World → α} {YP : World → Heap → Prop} {d : DefRec} {kwd : List (Str × Expr)} {N : Nat}
    (left : LeftO r.prog q loose Xt Yf Ya N) (hY : ∀ w s, Yf s = Ya w → YP w s.heap) (hYk : ∀ w h h', YP w h → (∀ b o, h.get? b = some o → h'.get? b = some o) → YP w h')
    (hX : ∀ s, Xt s = true → XP (s.heap.nsMap mainGlobals) s.heap) (hXk : ∀ mg h h', XP mg h → (∀ b o, h.get? b = some o → h'.get? b = some o) → XP mg h')
    (hdef : defOf q r.name = some (d, kwd)) (hp : r.prog.theDef r.name = some (d.params, d.body, d.scope)) (hk : kwWritten? d.params.kwonlyargs d.params.kw_defaults = some kwd) (hRf : ∀ s, Xt s = true → RecFacts r.records s.heap) (hwr : (!r.writes || r.records.isEmpty) = true)
    (k1 : r.wellSaid = true) (ok : (chainsOk q && opensWell r.prog && (frees r.toRowW && r.within.isEmpty)) = true) (hb : r.prog.bare) (hw : r.toRowW.promised)
    (call : WalkC q loose XP YP r.toRowW d kwd) : r.Holds := by
  obtain ⟨ok, k5⟩ := Bool.and_eq_true_iff.mp ok
  obtain ⟨hch, o1⟩ := Bool.and_eq_true_iff.mp ok
  obtain ⟨k5, k6⟩ := Bool.and_eq_true_iff.mp k5
  obtain ⟨hsame, hu, ha, hap, hm⟩ := frees_parts k5
  refine ⟨k1, hw, ⟨hb, o1, by show r.makers.map _ = []; rw [hm]; rfl⟩, hw.witness, fun w => ⟨(left.behind hX hch w).1, fun s' hs' => ?_⟩⟩
  obtain ⟨s₀, hf, hg0, s, hT, hz, hgens, hg, GX, y⟩ := (left.behind (XP := fun mg h => XP mg h ∧ RecFacts r.records h) (fun s hs => ⟨hX s hs, hRf s hs⟩) hch w).2 s' hs'
  have G0 : Ground q loose [] XP w s (s.heap.nsMap mainGlobals) (s.heap.nsMap builtinsNs) s.heap := { GX with X := GX.X.1 }
  have RF := GX.X.2
  refine ⟨s₀, hf, hg0, s, hT, fun n hn => ?_, RF.1, RF.2.1, ?_⟩
  · obtain rfl : n = r.name := by split at hn <;> simp_all
    exact pinned_of_view hg G0 hdef hp hk
  have hgens : s.gens = #[] := Array.eq_empty_of_size_eq_zero (beq_iff_eq.mp hgens)
  have G : Ground q loose r.records XP w s _ _ s.heap := RF.ground G0
  refine callFrom_N (c := r.toRowW.claim) hz hgens fun args hpre hlay ord hord => ?_
  obtain ⟨⟨vs, s₁⟩, hlaid⟩ := Option.isSome_iff_exists.mp (layAllW_isSome (P := w.params) (ord := ord) G.has args r.args s (pre_splitW hpre).1)
  have keeps := layAllW_keeps _ _ _ hlaid
  have hal := layAllW_rest _ _ _ hlaid
  obtain ⟨as, hrd, hin, hold⟩ := reads_layAllW hord _ _ _ hlaid hlay s₁.heap (fun _ _ e => e)
  have L : Laid r.records w s s₁ args vs as := ⟨⟨ord, hord, hlaid⟩, hrd, hin, hold, keeps, hal.1.trans hgens, hal.2.2.1⟩
  have G₁ := G.keeps hXk keeps
  obtain ⟨a, o, pm, cd, doc, dV, kV, h1, h2, h3, h4, h5⟩ := G₁.fn hdef
  have h := call w s s₁ _ _ G₁ (hYk _ _ _ (hY w s y) keeps) a o pm cd doc dV kV h2 h3 h4 h5 (defOf_name hdef ▸ h1) L.gens args vs as hpre hlay L.reads L.well (L.low G.low)
  have hi := ident_freeW hu ha hap
  have hwi : r.toRowW.claim.within = [] := List.isEmpty_iff.mp k6
  have fin : ∀ (res : Result) (s' : Shared), GoodWG r.toRowW.claim (classAt s.heap) (ExcName.means s.heap) args s₁ res s' →
      (r.toRowW.claim.Ends s args vs s₁ res s' ∧ s'.os = s.os ∧ (r.writes = true → namesKept r.prog r.keeps s.heap s'.heap ∧ ∀ x ∈ r.records, ∀ a, classAt s.heap x.1 = some a → recordClass s'.heap a x.1 (x.2.map (·.1)) = true)) ∧ leftWithCleanup s'.gens = false := fun res s' g => by
    have z := g.laid (c := r.toRowW.claim) hsame hwi hi L
    exact ⟨⟨z.1, z.2.1, fun q => ⟨namesKept_of hT hg r.keeps keeps g.2.1.old, noTable hwr q⟩⟩, leftWithCleanup_false_of_bare z.2.2⟩
  refine ⟨vs, s₁, hlaid, wpN_bind (.of (wpAny_nsGet G₁.T.g ?_))⟩
  rw [h1]
  exact wpN_bind (wpN_mono h (fun v s' g => wpN_pure ⟨_, rfl, fin _ _ g⟩) fun e s' g => fin _ _ g)
end Mine
end
section
open PySem PySem.W PyProof.Rows
namespace Mine
set_option maxRecDepth 100000 in
set_option maxHeartbeats 8000000 in
open_top hd for PySem.Challenge.rw_pg0046_02
end Mine
end
section
open PySem PySem.W PyProof.Rows PySem.Calls
set_option maxRecDepth 100000
namespace Mine
open Sem (wp)
theorem ba_mro : mroOf (.type "bytearray") = pure [.type "bytearray", .type "object"] := by rw [mroOf_type]; kernel_rfl
theorem ba_lookup_new : typeLookup (.type "bytearray") "__new__" = pure (some (.builtin "bytearray.__new__")) := by rw [typeLookup_type, builtinLookup_eq_fast]; kernel_rfl
theorem ba_made : Bind.madeBy (.type "bytearray") = pure (some "bytearray.__new__") := madeBy_type ba_mro ba_lookup_new (by decide +kernel)
theorem ba_slot_init : Slot "bytearray" "__init__" "bytearray.__init__" :=
  .of (owner := "bytearray") (n := "__init__") (by rw [typeLookup_type, builtinLookup_eq_fast]; kernel_rfl) (by decide +kernel) (by decide +kernel) (by decide +kernel)
    (by first | exact .inl (by decide +kernel) | exact .inr (by decide +kernel)) (by rw [isSubtype_type]; kernel_rfl)
theorem ba_typeCall (a : Value) : checkTypeCall "bytearray" ⟨[a], []⟩ = pure () := by kernel_rfl
theorem ba_newCall (a : Value) : checkBuiltinCall "bytearray.__new__" ⟨[.type "bytearray", a], []⟩ = pure () := by kernel_rfl
theorem ba_plain_new : plainId "bytearray.__new__" = true := by decide +kernel
theorem ba_plain_init : plainId "bytearray.__init__" = true := by decide +kernel
theorem ba_entry_new : entryFor table "bytearray.__new__" = some Builtin.«list.__new__» := entryFor_alias (id' := "list.__new__") (by kernel_rfl) rfl (by decide +kernel) (by kernel_rfl)
theorem ba_entry_init : entryFor table "bytearray.__init__" = some Builtin.«bytearray.__init__» := by first | exact entryFor_of_fast (by kernel_rfl) | exact entryFor_of_tree (by kernel_rfl)
theorem ba_sub : isSubtype (.type "bytearray") (.type "bytearray") = pure true := by rw [isSubtype_type]; kernel_rfl
theorem ba_args_init (a b : Value) : argsOk "bytearray.__init__" ⟨[a, b], []⟩ := by unfold argsOk; kernel_rfl
theorem ba_lookup_release : typeLookup (.type "bytearray") "__release_buffer__" = pure (some (.builtin "bytearray.__release_buffer__")) := by rw [typeLookup_type, builtinLookup_eq_fast]; kernel_rfl
theorem ba_lookup_buffer : typeLookup (.type "bytearray") "__buffer__" = pure (some (.builtin "bytearray.__buffer__")) := by rw [typeLookup_type, builtinLookup_eq_fast]; kernel_rfl
theorem ba_no_bytes : typeLookup (.type "bytearray") "__bytes__" = pure none := by rw [typeLookup_type, builtinLookup_eq_fast]; kernel_rfl
theorem ba_no_index : typeLookup (.type "bytearray") "__index__" = pure none := by rw [typeLookup_type, builtinLookup_eq_fast]; kernel_rfl
theorem ba_lookup_setitem : Slot "bytearray" "__setitem__" "bytearray.__setitem__" :=
  .of (owner := "bytearray") (n := "__setitem__") (by rw [typeLookup_type, builtinLookup_eq_fast]; kernel_rfl) (by decide +kernel) (by decide +kernel) (by decide +kernel)
    (by first | exact .inl (by decide +kernel) | exact .inr (by decide +kernel)) (by rw [isSubtype_type]; kernel_rfl)
theorem ba_entry_setitem : entryFor table "bytearray.__setitem__" = some Builtin.«bytearray.__setitem__» := by first | exact entryFor_of_fast (by kernel_rfl) | exact entryFor_of_tree (by kernel_rfl)
theorem ba_args_setitem (a b c : Value) : argsOk "bytearray.__setitem__" ⟨[a, b, c], []⟩ := by unfold argsOk; kernel_rfl
theorem ba_bind (v : Value) : Builtin.Bytes.bindOptional "bytearray.__init__" "bytearray" ["source", "encoding", "errors"] [v] [] = pure [some v, none, none] := by kernel_rfl
theorem ba_int_index : typeLookup (.type "int") "__index__" = pure (some (.builtin "int.__index__")) := by rw [typeLookup_type, builtinLookup_eq_fast]; kernel_rfl
set_option maxRecDepth 1000000 in
set_option maxHeartbeats 4000000 in
theorem ba_owner : ("bytearray.__new__".splitOn ".__new__").headD "" = "bytearray" := by simp +decide [String.splitOn, String.splitOnAux]
abbrev baObj (b : Array UInt8) : Obj := { cls := .type "bytearray", data := .bytearray b }
theorem ba_typeIs {s : Shared} {l : Addr} {b : Array UInt8} (h : s.heap.get? l = some (baObj b)) : s.TypeIs (.ref l) "bytearray" := ⟨_, h, rfl⟩
section
variable {prog : Program} {w : World} {A : Around} {E : Value → Shared → Prop} {s : Shared}
theorem ba_new (a : Value) {Q₁ : Value → Shared → Prop}
    (h : Q₁ (.ref s.heap.objs.size) { s with heap := s.heap.push (baObj #[]) }) :
    codeAny (model prog w) A (.call (.builtin "bytearray.__new__") ⟨[.type "bytearray", a], []⟩) (wants Q₁ E) s := by
  refine codeAny_of_tree ?_
  show wpAny _ A.in1 (do checkBuiltinCall "bytearray.__new__" ⟨[.type "bytearray", a], []⟩; again (.builtin "bytearray.__new__" ⟨[.type "bytearray", a], []⟩)) _ _ s
  refine wpAny_bind (wpAny_of_eq (ba_newCall a) (wpAny_pure ⟨plainId_quiet ba_plain_new _, codeAny_builtin_stack ba_entry_new rfl fun p st => ?_⟩))
  rw [Around.under_plainId ba_plain_new _]
  have hsub := ba_sub
  have hown := ba_owner
  obtain ⟨hp, g, d, tk, os⟩ := s
  simp only [hown]
  wp_walk
  exact h
theorem ba_own_release {l : Addr} {b : Array UInt8} {Q : Bool → Shared → Prop} (hl : s.heap.get? l = some (baObj b)) (h : Q false s) :
    wpAny (model prog w) A (Builtin.Bytes.ownRelease (.ref l)) Q E s := by
  unfold Builtin.Bytes.ownRelease Builtin.Bytes.slotIsOwn
  refine wpAny_bind (wpAny_bind (wpAny_specialOf (ba_typeIs hl) ba_lookup_release ?_))
  dsimp only
  refine bm_if_false (by decide +kernel) ?_
  have e : ("bytearray.__release_buffer__" : String).dropRight (("__release_buffer__" : String).length + 1) = "bytearray" := by decide +kernel
  rw [e]
  refine wpAny_isInstance (ba_typeIs hl) ba_sub ?_
  exact wpAny_pure h
end
end Mine
end
section
open PySem PySem.W PyProof.Rows PySem.Calls
set_option maxRecDepth 100000
namespace Mine
open Sem (wp)
section
variable {prog : Program} {w : World} {A : Around} {E : Value → Shared → Prop} {s : Shared}
theorem held_1 : (!heldIds.contains "bytearray.__contains__") = false := by decide +kernel
theorem held_2 : (!heldIds.contains "bytearray.__mod__") = false := by decide +kernel
theorem held_3 : (!heldIds.contains "bytearray.__rmod__") = false := by decide +kernel
theorem held_4 : (!heldIds.contains "_struct.pack_into.held") = false := by decide +kernel
theorem held_5 : (!heldIds.contains "bytearray.find.held") = false := by decide +kernel
theorem not_held {id : String} (h : (!heldIds.contains id) = true) : Builtin.Bytes.decodersThatHold.contains id = false := by
  have h1 : heldIds.contains id = false := by simpa using h
  cases hc : Builtin.Bytes.decodersThatHold.contains id with
  | false => rfl
  | true =>
    have : heldIds.contains id = true := by
      unfold heldIds
      rw [List.contains_iff_mem] at hc ⊢
      exact List.mem_append_right _ hc
    rw [this] at h1; cases h1
theorem no_both {b : Bool} (h1 : b = true) (h2 : b = false) : False := by rw [h1] at h2; cases h2
theorem exported_N {v : Value} {Q : Bool → Shared → Prop} (h : Q false s) : wpN (model prog w) A (Builtin.Bytes.exported v) Q E s := fun Γ p _ hN => by
  unfold Builtin.Bytes.exported
  show Q (((Γ.code, p) :: Γ.below).any _) s
  rw [show ((Γ.code, p) :: Γ.below).any _ = false from List.any_eq_false.mpr fun x hx => by
    have hc : cleanB x.1 = true := by
      rcases List.mem_cons.mp hx with rfl | hx
      · exact hN.1
      · exact hN.2 x hx
    intro hh
    split at hh
    · exact no_both hc held_1
    · exact no_both hc held_2
    · exact no_both hc held_3
    · exact no_both hc held_4
    · exact no_both hc held_5
    · have := not_held hc
      rw [this, Bool.and_false] at hh; cases hh
    · cases hh]
  exact h
theorem write_ba {l : Addr} {b : Array UInt8} {f : Array UInt8 → Array UInt8} {Q : Unit → Shared → Prop} (hl : s.heap.get? l = some (baObj b)) (hsz : (f b).size ≤ sizeLine)
    (h : ∀ h', h'.get? l = some (baObj (f b)) → Heap.SameBut l s.heap h' → Q () { s with heap := h' }) : wpAny (model prog w) A (Builtin.Bytes.write (.ref l) f) Q E s := by
  show wpAny _ _ (updateBytearray l f) _ _ _
  unfold updateBytearray
  refine wpAny_bind (wpAny_load hl ?_)
  show wpAny _ _ (update l (Obj.mapBytearray f) >>= fun _ => lookBehind l) _ _ _
  refine wpAny_bind (wpAny_update hl ?_)
  have hS : (s.heap.update l (Obj.mapBytearray f)).get? l = some (baObj (f b)) := Heap.get?_update_self (Obj.mapBytearray f) hl rfl
  refine wpAny_lookBehind hS ?_ (h _ hS (Heap.SameBut.update ..))
  show (if (f b).size > sizeLine then some "bytearray:memory" else none) = none
  rw [if_neg (Nat.not_lt.mpr hsz)]
theorem payload_ba {l : Addr} {b : Array UInt8} {Q : Array UInt8 → Shared → Prop} (hl : s.heap.get? l = some (baObj b)) (h : Q b s) : wpAny (model prog w) A (Builtin.Bytes.payload (.ref l)) Q E s := by
  unfold Builtin.Bytes.payload Builtin.Bytes.payload?
  exact wpAny_bind (wpAny_bind (wpAny_load hl (wpAny_pure (wpAny_pure h))))
theorem ba_init {l : Addr} {n : Int} {t : Tok} {Q : Fin → Shared → Prop} (hl : s.heap.get? l = some (baObj #[])) (h0 : 0 < n) (h1 : n ≤ 100000)
    (h : ∀ h', h'.get? l = some (baObj (Array.replicate n.toNat 0)) → Heap.SameBut l s.heap h' → Q (.done (.ret .none)) { s with heap := h' }) :
    wpN (model prog w) A (Builtin.«bytearray.__init__» ⟨[.ref l, .int n t], []⟩) Q E s := by
  unfold Builtin.«bytearray.__init__»
  refine wpN_bind (.of (ba_own_release hl ?_))
  simp only [Bool.false_eq_true, if_false]
  refine wpN_bind (.of (wpAny_of_eq (ba_bind _) ?_))
  dsimp only
  refine wpN_bind (.of (wpAny_of_eq (a := ()) rfl ?_))
  refine wpN_bind (.of (wpAny_of_eq (a := ()) rfl ?_))
  refine wpN_bind ?_
  unfold orM
  refine wpN_bind (exported_N ?_)
  refine .of ?_
  show wpAny _ _ (Builtin.Bytes.exportsOf (.ref l) >>= fun k => pure (decide (k > 0))) _ _ _
  unfold Builtin.Bytes.exportsOf
  refine wpAny_bind (wpAny_bind (wpAny_load hl (wpAny_pure (wpAny_pure ?_))))
  simp only [show decide ((0:Nat) > 0) = false from rfl, Bool.false_eq_true, if_false]
  refine wpN_bind (.of (write_ba hl (by simp [sizeLine_eq]) fun h₁ hl₁ hs₁ => ?_))
  refine wpN_bind (.of (wpAny_of_eq (a := none) rfl ?_))
  simp only [Option.isSome_none, Bool.false_eq_true, if_false]
  refine .of (wpAny_bind (wpAny_pure ?_))
  refine wpAny_bind (wpAny_specialOf (typeIs_int _ _ _) ba_int_index ?_)
  refine bm_if_true rfl ?_
  refine wpAny_bind (wpAny_attempt (wpAny_of_eq (rfl : asIndex (.int n t) = pure n) ?_))
  dsimp only
  have e1 : (!Builtin.Bytes.fitsIndex n) = false := by
    simp only [Builtin.Bytes.fitsIndex, Bool.not_eq_false', Bool.and_eq_true, decide_eq_true_eq]
    omega
  have e2 : ¬ n < 0 := by omega
  have e3 : (n == 2 ^ 63 - 1) = false := by
    rw [beq_eq_false_iff_ne]; omega
  have e4 : Builtin.Bytes.tooLong n.toNat = false := by
    show decide (n.toNat > sizeLine) = false
    rw [sizeLine_eq]; simp; omega
  refine bm_if_false e1 ?_
  rw [if_neg e2]
  refine bm_if_false e3 ?_
  refine bm_if_false e4 ?_
  refine wpAny_bind (wpAny_rule ?_)
  rw [if_pos h0]
  refine wpAny_bind (write_ba hl₁ (by rw [Array.size_replicate, sizeLine_eq]; omega) fun h₂ hl₂ hs₂ => ?_)
  exact wpAny_pure (h h₂ hl₂ (hs₁.trans hs₂))
end
end Mine
end
section
open PySem PySem.W PyProof.Rows PySem.Calls
set_option maxRecDepth 100000
namespace Mine
open Sem (wp)
section
variable {prog : Program} {w : World} {A : Around} {E : Value → Shared → Prop} {s : Shared}
theorem ba_canCreate : ((Manifest.find? "bytearray").bind (·.mro.findSome? fun t => (Manifest.find? t).bind fun b => if b.noNew then some true else if b.attrs.any (·.1 == "__new__") then some false else none)).getD false = false := by decide +kernel
theorem codeN_builtin {id : String} {args : Args} {b : Builtin} {R : Result → Shared → Prop} (hb : entryFor table id = some b)
    (h : wpN (model prog w) (A.under (.builtin id args)) (b args)
      (fun fin s' => match fin with | .done f => R (.ok f) s' | .again c' => c'.quiet = true ∧ cleanB c' = true ∧ codeN (model prog w) A c' R s') (fun e s' => R (.error e) s') s) :
    codeN (model prog w) A (.builtin id args) R s := by
  refine codeN_of_tree ?_
  show wpN _ _ (match entryFor table id with | some b => b args | none => unsupported ((withoutEnding? id "#data").getD id)) _ _ s
  rw [hb]; exact h
theorem ifN_false {α : Type} {c : Bool} {a b : Sem α} {Q : α → Shared → Prop} (hc : c = false) (h : wpN (model prog w) A b Q E s) : wpN (model prog w) A (if c = true then a else b) Q E s := by
  subst hc; exact h
theorem clean_call : (!heldIds.contains "type.__call__") = true := by decide +kernel
theorem clean_init : (!heldIds.contains "bytearray.__init__") = true := by decide +kernel
theorem codeN_call_builtin {id : String} {args : Args} {b : Builtin} {R : Result → Shared → Prop} (hq : plainId id = true) (hcl : (!heldIds.contains id) = true) (hb : entryFor table id = some b)
    (h : wpAny (model prog w) A.in1 (checkBuiltinCall id args) (fun _ s₁ => wpN (model prog w) A.in1 (b args)
      (fun fin s' => match fin with | .done f => R (.ok f) s' | .again c' => c'.quiet = true ∧ cleanB c' = true ∧ codeN (model prog w) A c' R s') (fun e s' => R (.error e) s') s₁) (fun e s' => R (.error e) s') s) :
    codeN (model prog w) A (.call (.builtin id) args) R s := by
  refine codeN_of_tree ?_
  show wpN _ A.in1 (do checkBuiltinCall id args; again (.builtin id args)) _ _ s
  refine wpN_bind (.of (wpAny_mono h (fun _ s₁ h₁ => wpN_pure ⟨plainId_quiet hq _, hcl, codeN_builtin hb ?_⟩) fun _ _ x => x))
  rw [Around.under_plainId hq _]
  exact h₁
theorem call_bytearray {n : Int} {t : Tok} {Q : Value → Shared → Prop} (h0 : 0 < n) (h1 : n ≤ 100000)
    (h : ∀ h' l, (∀ b o, s.heap.get? b = some o → h'.get? b = some o) → s.heap.get? l = none → h'.get? l = some (baObj (Array.replicate n.toNat 0)) → Q (.ref l) { s with heap := h' }) :
    wpN (model prog w) A (call (.type "bytearray") [.int n t]) Q E s := by
  refine wpN_call (codeN_of_tree ?_)
  show wpN _ _ (callAny (.type "bytearray") _) _ _ _
  refine wpN_pure ⟨Code.quiet_builtin _ (by decide +kernel), clean_call, codeN_builtin F.entry_type_call ?_⟩
  rw [Around.under_plain (weight_type_call_type "bytearray" [.int n t] []) rfl]
  unfold Builtin.«type.__call__»
  dsimp only
  refine ifN_false (by decide +kernel) ?_
  refine ifN_false ba_canCreate ?_
  refine wpN_bind (.of (wpAny_of_eq (ba_typeCall _) ?_))
  refine wpN_bind (.of (wpAny_of_eq ba_mro ?_))
  refine ifN_false rfl ?_
  refine wpN_bind (.of (wpAny_of_eq ba_made ?_))
  dsimp only
  refine wpN_bind (wpN_pure ?_)
  refine wpN_bind (wpN_holding (wpN_call (codeN.of ?_)))
  refine codeAny_mono (ba_new (A := A.in1) (E := fun _ _ => False) (.int n t) (Q₁ := fun v s' => v = .ref s.heap.objs.size ∧ s' = { s with heap := s.heap.push (baObj #[]) }) ⟨rfl, rfl⟩) fun r s' hr => ?_
  cases r with
  | error e => exact hr.elim
  | ok fl =>
    cases fl with
    | ret obj =>
      obtain ⟨rfl, rfl⟩ := hr
      have hl : (s.heap.push (baObj #[])).get? s.heap.objs.size = some (baObj #[]) := Heap.get?_push_size _ rfl
      dsimp only
      refine wpN_bind (.of (wpAny_isInstance (T := "bytearray") ⟨_, hl, rfl⟩ ba_sub ?_))
      refine ifN_false rfl ?_
      refine wpN_bind (wpN_holding ?_)
      unfold callSpecial?
      refine wpN_bind (.of (wpAny_specialOf (T := "bytearray") ⟨_, hl, rfl⟩ ba_slot_init.lookup ?_))
      dsimp only
      rw [ba_slot_init.bind]
      refine wpN_holding (wpN_bind (wpN_pure (wpN_bind (wpN_call (codeN_call_builtin ba_plain_init clean_init ba_entry_init (ba_slot_init.check _ _ _ _ _ _ _ _ ⟨_, hl, rfl⟩ (ba_args_init _ _) ?_))))))
      refine ba_init hl h0 h1 fun h' hl' hs' => ?_
      refine wpN_pure ?_
      refine ifN_false (by decide +kernel) (wpN_pure ?_)
      refine h h' _ (fun b o e => ?_) (fresh_size _) hl'
      exact (hs'.2 b (Nat.ne_of_lt (Heap.lt_size e))).trans (Heap.get?_push_of_some _ e)
    | _ => exact hr.elim
end
end Mine
end
section
open PySem PySem.W PyProof.Rows PySem.Calls
set_option maxRecDepth 100000
namespace Mine
open Sem (wp)
section
variable {prog : Program} {w : World} {A : Around} {E : Value → Shared → Prop} {s : Shared}
theorem setItem_ba {l : Addr} {b : Array UInt8} {k v : Int} {t u : Tok} {Q : Unit → Shared → Prop} (hl : s.heap.get? l = some (baObj b)) (hb : b.size ≤ 100000)
    (h0 : 0 ≤ k) (hk : k < b.size) (v0 : 0 ≤ v) (v1 : v < 256)
    (h : ∀ h', h'.get? l = some (baObj (b.setIfInBounds k.toNat v.toNat.toUInt8)) → Heap.SameBut l s.heap h' → Q () { s with heap := h' }) :
    wpAny (model prog w) A (setItem (.ref l) (.int k t) (.int v u)) Q E s := by
  unfold setItem
  refine wpAny_holding ?_
  refine wpAny_bind (wpAny_sequenceKey (ba_typeIs hl) (by decide) ?_)
  refine wpAny_bind (wpAny_callSpecial?_slot (name := Str.ofString "__setitem__") (ba_typeIs hl) ba_lookup_setitem
    (wpAny_call_entry ba_lookup_setitem (ba_typeIs hl) ba_entry_setitem ?_ (ba_args_setitem _ _ _)))
  unfold Builtin.«bytearray.__setitem__»
  dsimp only
  refine bm_if_false rfl ?_
  refine wpAny_bind ?_
  unfold Builtin.Bytes.subscript?
  refine wpAny_bind (wpAny_specialOf (typeIs_int _ _ _) ba_int_index ?_)
  refine bm_if_false rfl ?_
  refine wpAny_bind (wpAny_of_eq (rfl : asIndex (.int k t) = pure k) ?_)
  have e1 : (!Builtin.Bytes.fitsIndex k) = false := by
    simp only [Builtin.Bytes.fitsIndex, Bool.not_eq_false', Bool.and_eq_true, decide_eq_true_eq]
    omega
  refine bm_if_false e1 (wpAny_pure ?_)
  dsimp only
  refine wpAny_bind ?_
  unfold Builtin.Bytes.byteValue
  refine wpAny_bind (wpAny_of_eq (rfl : asIndex (.int v u) = pure v) ?_)
  refine bm_if_false (by simp only [Bool.or_eq_false_iff, decide_eq_false_iff_not]; omega) ?_
  refine wpAny_pure ?_
  refine wpAny_bind (payload_ba hl ?_)
  have e2 : seqIndex? k b.size = some k.toNat := by
    unfold seqIndex?
    simp
    omega
  rw [e2]
  dsimp only
  refine wpAny_bind (write_ba hl (by rw [Array.size_setIfInBounds, sizeLine_eq]; omega) fun h' hl' hs' => ?_)
  exact wpAny_pure ⟨_, rfl, wpAny_pure (h h' hl' hs')⟩
theorem bytes_ba_new {l : Addr} {b : Array UInt8} {Q : Value → Shared → Prop} (hl : s.heap.get? l = some (baObj b)) (hb : b.size ≤ 100000)
    (hQ : ∀ t k, Q (.bytes b t) { s with toks := k }) :
    codeAny (model prog w) A (.call (.builtin "bytes.__new__") ⟨[.type "bytes", .ref l], []⟩) (wants Q E) s := by
  refine codeAny_of_tree ?_
  show wpAny _ A.in1 (do checkBuiltinCall "bytes.__new__" ⟨[.type "bytes", .ref l], []⟩; again (.builtin "bytes.__new__" ⟨[.type "bytes", .ref l], []⟩)) _ _ s
  refine wpAny_bind (wpAny_of_eq (F.bm_newCall _) (wpAny_pure ⟨plainId_quiet F.bm_plain _, codeAny_builtin F.bm_entry ?_⟩))
  rw [Around.under_plainId F.bm_plain _]
  have hT : s.TypeIs (.ref l) "bytearray" := ba_typeIs hl
  unfold Builtin.«bytes.__new__»
  refine wpAny_bind (wpAny_of_eq (a := true) rfl ?_)
  refine bm_if_false rfl ?_
  refine wpAny_bind (wpAny_of_eq F.bm_sub ?_)
  refine bm_if_false rfl ?_
  refine wpAny_bind (wpAny_of_eq (F.bm_bind _) ?_)
  refine wpAny_bind (wpAny_of_eq (a := ()) rfl ?_)
  refine wpAny_bind (wpAny_of_eq (a := ()) rfl ?_)
  refine bm_if_false rfl ?_
  refine wpAny_bind (wpAny_specialOf hT ba_no_bytes ?_)
  refine wpAny_bind (wpAny_bind ?_)
  show wpAny _ _ (load l >>= _) _ _ _
  refine wpAny_bind (wpAny_load hl ?_)
  refine wpAny_pure (wpAny_pure ?_)
  refine bm_if_false rfl ?_
  refine wpAny_bind (wpAny_specialOf hT ba_no_index ?_)
  refine bm_if_true rfl ?_
  first
    | show wpAny _ _ (Builtin.Bytes.buffer? "bytes.__new__" (.ref l) true >>= _) _ _ _
    | (refine wpAny_bind ?_; show wpAny _ _ (Builtin.Bytes.buffer? "bytes.__new__" (.ref l) true >>= _) _ _ _)
  refine wpAny_bind ?_
  unfold Builtin.Bytes.buffer?
  refine wpAny_bind (wpAny_specialOf hT ba_lookup_buffer ?_)
  dsimp only
  refine wpAny_bind ?_
  unfold Builtin.Bytes.slotIsOwn
  refine wpAny_bind (wpAny_specialOf hT ba_lookup_buffer ?_)
  dsimp only
  refine bm_if_false (by decide +kernel) ?_
  have e : ("bytearray.__buffer__" : String).dropRight (("__buffer__" : String).length + 1) = "bytearray" := by decide +kernel
  rw [e]
  refine wpAny_isInstance hT ba_sub ?_
  refine bm_if_false rfl ?_
  refine wpAny_bind (wpAny_specialOf hT ba_lookup_buffer ?_)
  refine wpAny_bind (ba_own_release hl ?_)
  refine bm_if_false rfl ?_
  refine wpAny_bind (payload_ba hl (wpAny_pure ?_))
  dsimp only
  refine wpAny_bind (wpAny_rule ?_)
  refine wpAny_bind (wpAny_mkBytes ?_ (by rw [sizeLine_eq]; omega))
  show wpAny _ _ (if (Value.type "bytes" == Value.type "bytes") = true then _ else _) _ _ _
  refine bm_if_true (by decide) ?_
  first
    | exact wpAny_pure (hQ _ _)
    | exact wpAny_bind (wpAny_pure (wpAny_pure (hQ _ _)))
theorem call_bytes_ba {l : Addr} {b : Array UInt8} {Q : Value → Shared → Prop} (hl : s.heap.get? l = some (baObj b)) (hb : b.size ≤ 100000)
    (hQ : ∀ t k, Q (.bytes b t) { s with toks := k }) : wpAny (model prog w) A (call (.type "bytes") [.ref l]) Q E s := by
  refine callType_codes (Q₁ := fun obj s₁ => s₁.TypeIs obj "bytes" ∧ Q obj s₁) F.bm_called (F.bm_typeCall _) F.entry_object_init
    (bytes_ba_new hl hb fun t k => ⟨PySem.W.typeIs_bytes _ _ _, hQ t k⟩) fun obj s₁ h₁ => ?_
  exact ⟨h₁.1, F.args_object_init_2 obj _, object_init_meets F.bm_called.init.lookup F.bm_called.made (by decide) prog w A.in1 _ s₁ ⟨h₁.1, rfl, h₁.2⟩⟩
end
end Mine
end
section
open PySem PySem.W PyProof.Rows PySem.Calls
set_option maxRecDepth 100000
namespace Mine
open Sem (wp)
section
variable {M : Model} {A : Around} {E : Value → Shared → Prop} {s : Shared} {env : Env}
theorem wpN_callWith_type {pos : Pos} {T : String} {args : List (Bool × Sem Value)} {Q : Value → Shared → Prop} (hplain : args.any (·.1) = false)
    (h : wpAny M A (evalArgs (.type T) true args []) (fun a s₁ => wpN M A (call (.type T) ([] ++ a.pos) a.kw) Q E s₁) E s) : wpN M A (callWith pos (.type T) [] args []) Q E s := by
  unfold callWith
  refine wpN_bind (wpN_holding (.of (wpAny_mono h (fun a s₁ h₁ => wpN_bind (wpN_standAt ?_)) fun _ _ x => x)))
  simp only [hplain, List.any_nil, Bool.or_false]
  refine wpN_bind (wpN_pure ?_)
  exact wpN_tail h₁
theorem wpN_callWith_type1 {pos : Pos} {T : String} {e : Expr} {rest : List Expr} {Q : Value → Shared → Prop}
    (h : wpAny M A (spliced (backTo pos (starEach (e :: rest) env))) (fun vs s₁ => wpN M A (call (.type T) vs) Q E s₁) E s)
    (he : starEach (e :: rest) env = (false, eval e env) :: starEach rest env := by rfl)
    (hplain : (backTo pos (starEach rest env)).any (·.1) = false := by rfl) :
    wpN M A (callWith pos (.type T) [] (backTo pos (starEach (e :: rest) env)) []) Q E s := by
  rw [he] at h ⊢
  exact wpN_callWith_type (by show (false || (backTo pos (starEach rest env)).any (·.1)) = false; rw [hplain]; rfl) (evalArgs_plain h)
theorem wpN_callWith_fn {pos : Pos} {a : Addr} {fd : FuncData} {args : List (Bool × Sem Value)} {Q : Value → Shared → Prop} (hplain : args.any (·.1) = false) (hlen : args.length ≤ 30)
    (h : wpAny M A (evalArgs (.ref a) true args []) (fun x s₁ => (∃ o, s₁.heap.get? a = some o ∧ o.data = .func fd) ∧ wpN M A (call (.ref a) ([] ++ x.pos) x.kw) Q E s₁) E s) : wpN M A (callWith pos (.ref a) [] args []) Q E s := by
  unfold callWith
  refine wpN_bind (wpN_holding (.of (wpAny_mono h (fun x s₁ h₁ => wpN_bind (wpN_standAt ?_)) fun _ _ x => x)))
  obtain ⟨⟨o, ho, hd⟩, h₁⟩ := h₁
  simp only [hplain, List.any_nil, Bool.or_false]
  refine wpN_bind (m := keeperOf (.ref a)) (.of ?_)
  unfold keeperOf
  refine wpAny_bind (wpAny_load ho ?_)
  rw [hd]
  refine wpAny_pure ?_
  show wpN M A (if args.length + 2 * ([] : List (Option Str × Sem Value)).length > 30 then _ else _) _ _ _
  rw [if_neg (by simp; omega)]
  exact wpN_tail (by unfold callMarked; exact wpN_keep h₁)
theorem wpN_callWith_fn1 {pos : Pos} {a : Addr} {fd : FuncData} {e : Expr} {rest : List Expr} {Q : Value → Shared → Prop}
    (h : wpAny M A (spliced (backTo pos (starEach (e :: rest) env))) (fun vs s₁ => (∃ o, s₁.heap.get? a = some o ∧ o.data = .func fd) ∧ wpN M A (call (.ref a) vs) Q E s₁) E s)
    (he : starEach (e :: rest) env = (false, eval e env) :: starEach rest env := by rfl)
    (hplain : (backTo pos (starEach rest env)).any (·.1) = false := by rfl) (hlen : (backTo pos (starEach (e :: rest) env)).length ≤ 30 := by decide) :
    wpN M A (callWith pos (.ref a) [] (backTo pos (starEach (e :: rest) env)) []) Q E s := by
  rw [he] at h hlen ⊢
  exact wpN_callWith_fn (fd := fd) (by show (false || (backTo pos (starEach rest env)).any (·.1)) = false; rw [hplain]; rfl) hlen (evalArgs_plain h)
end
end Mine
end
section
open PySem PySem.W PyProof.Rows PySem.Calls
set_option maxRecDepth 100000
namespace Mine
/-- names in any frame of a function's kind (a comprehension's too) -/
theorem nm_local {M : Model} {A : Around} {E : Value → Shared → Prop} {s : Shared} {env : Env} {m : Str → Option Value} {x : Str} {v : Value} {pos : Pos} {Q : Value → Shared → Prop} (hns : s.heap.Ns env.locals m) (hm : m x = some v) (h : Q v s)
    (hk : env.scope.kind = .function := by rfl) (hl : env.kindOf x = some .local := by rfl) (hd : (x == ("__debug__" : Str)) = false := by decide) : wpAny M A (eval (.Name x pos) env) Q E s :=
  wpAny_Name (wpAny_loadName_local hk hl hns hm h) hd
theorem nm_builtin {M : Model} {A : Around} {E : Value → Shared → Prop} {s : Shared} {env : Env} {K : Frag} {p : Program} {loose : List Str} {mean : ExcName → Option Value} {mg mb : Str → Option Value} {x : Str} {v : Value} {pos : Pos} {Q : Value → Shared → Prop}
    (X : K.In s.heap) (T : Top p loose mean mg mb s.heap) (e : nsIn K mainGlobals x = some none) (hv : bootBuiltins x = some v) (hn : x ≠ "__name__") (h : Q v s)
    (hk : env.scope.kind = .function := by rfl) (hx : env.kindOf x = some .globalImplicit := by rfl) (hg : env.globals = mainGlobals := by rfl) (hb : env.builtins = builtinsNs := by rfl) (hd : (x == ("__debug__" : Str)) = false := by decide) : wpAny M A (eval (.Name x pos) env) Q E s :=
  Calls.Name_function_global hk hx (Calls.loadGlobal_builtin (env := env) (hg ▸ T.g) (mg_none_of X T.g e) (hb ▸ T.b) ((T.builtins x hn).trans hv) h) hd
theorem nm_own {M : Model} {A : Around} {E : Value → Shared → Prop} {s : Shared} {env : Env} {K : Frag} {p : Program} {loose : List Str} {mean : ExcName → Option Value} {mg mb : Str → Option Value} {x : Str} {v : Value} {pos : Pos} {Q : Value → Shared → Prop}
    (X : K.In s.heap) (T : Top p loose mean mg mb s.heap) (e : nsIn K mainGlobals x = some (some v)) (h : Q v s)
    (hk : env.scope.kind = .function := by rfl) (hx : env.kindOf x = some .globalImplicit := by rfl) (hg : env.globals = mainGlobals := by rfl) (hd : (x == ("__debug__" : Str)) = false := by decide) : wpAny M A (eval (.Name x pos) env) Q E s :=
  Calls.Name_function_global hk hx (Calls.loadGlobal_global (env := env) (hg ▸ T.g) (mg_of X T.g e) h) hd
theorem newTuple_push {M : Model} {A : Around} {E : Value → Shared → Prop} {s : Shared} {vs : List Value} {Q : Value → Shared → Prop} (hsz : vs.length ≤ 100)
    (h : Q (.ref s.heap.objs.size) { s with heap := s.heap.push { cls := .type "tuple", data := .seq vs.toArray } }) : wpAny M A (newTuple vs) Q E s :=
  wpAny_newObj_type h (by show vs.toArray.size ≤ sizeLine; rw [List.size_toArray, sizeLine_eq]; omega)
theorem in_tuple_push {prog : Program} {w : World} {A : Around} {E : Value → Shared → Prop} {s : Shared} {h : Heap} {vs : List Value} {ns : List Int} {x : Int} {u : Tok} {Q : Value → Shared → Prop}
    (hs : s.heap = h.push { cls := .type "tuple", data := .seq vs.toArray }) (hi : IntsAre vs ns) (hq : Q (.bool (ns.any (· == x))) s) :
    wpAny (model prog w) A (compareOp .In (.int x u) (.ref h.objs.size)) Q E s :=
  in_tuple_ints ⟨_, by rw [hs]; exact Heap.get?_push_size _ rfl, rfl, 0, rfl⟩ hi hq
end Mine
end
section
open PySem PySem.W PyProof.Rows PySem.Calls
set_option maxRecDepth 100000
namespace Mine
structure PS where
  res : List (List Nat)
  part : List Nat
  esc : Bool
  quo : Bool
def pstep (s : PS) (c : Nat) : PS :=
  if s.esc then ⟨s.res, s.part ++ [c], false, s.quo⟩
  else if s.quo then
    if c = 92 then ⟨s.res, s.part, true, s.quo⟩
    else if c = 34 then ⟨s.res, s.part ++ [c], s.esc, false⟩
    else ⟨s.res, s.part ++ [c], s.esc, s.quo⟩
  else if c = 44 then ⟨s.res ++ [s.part], [], s.esc, s.quo⟩
  else if c = 34 then ⟨s.res, s.part ++ [c], s.esc, true⟩
  else ⟨s.res, s.part ++ [c], s.esc, s.quo⟩
def prun (l : List Nat) : PS := l.foldl pstep ⟨[], [], false, false⟩
def parseL (l : List Nat) : List (List Nat) := if (prun l).part = [] then (prun l).res else (prun l).res ++ [(prun l).part]
def S (l : List Nat) : Str := ⟨l.toArray⟩
theorem S_length (l : List Nat) : (S l).length = l.length := by simp [S, Str.length]
theorem S_snoc (l : List Nat) (c : Nat) : S l ++ ⟨#[c]⟩ = S (l ++ [c]) := by
  refine Str.ext' ?_
  rw [Str.cps_append]
  simp [S]
theorem prun_snoc (l : List Nat) (c : Nat) : prun (l ++ [c]) = pstep (prun l) c := by simp [prun]
theorem prun_len (l : List Nat) : (prun l).part.length + (prun l).res.length ≤ l.length := by
  suffices h : ∀ (l : List Nat) (s : PS), (l.foldl pstep s).part.length + (l.foldl pstep s).res.length ≤ s.part.length + s.res.length + l.length by
    have := h l ⟨[], [], false, false⟩
    simpa [prun] using this
  intro l
  induction l with
  | nil => intro s; simp
  | cons c l ih =>
    intro s
    have := ih (pstep s c)
    have h2 : (pstep s c).part.length + (pstep s c).res.length ≤ s.part.length + s.res.length + 1 := by
      unfold pstep
      (repeat' split) <;> simp <;> omega
    simp only [List.foldl_cons, List.length_cons]
    omega
theorem ofs_nil : Str.ofString "" = S [] := by decide +kernel
theorem prun_parts (l : List Nat) : ∀ p ∈ (prun l).res, p.length ≤ l.length := by
  suffices h : ∀ (l : List Nat) (s : PS) (n : Nat), (∀ p ∈ s.res, p.length ≤ n) → s.part.length ≤ n → (∀ p ∈ (l.foldl pstep s).res, p.length ≤ n + l.length) by
    have := h l ⟨[], [], false, false⟩ 0 (by simp) (by simp)
    simpa [prun] using this
  intro l
  induction l with
  | nil => intro s n h1 h2; simpa using h1
  | cons c l ih =>
    intro s n h1 h2 p hp
    have key : (∀ p ∈ (pstep s c).res, p.length ≤ n + 1) ∧ (pstep s c).part.length ≤ n + 1 := by
      unfold pstep
      (repeat' split) <;> (refine ⟨?_, by simp <;> omega⟩) <;> intro q hq <;> (try (have := h1 q (by simpa using hq); omega))
      simp only [List.mem_append, List.mem_singleton] at hq
      rcases hq with hq | rfl
      · have := h1 q hq; omega
      · omega
    have := ih (pstep s c) (n + 1) key.1 key.2 p (by simpa using hp)
    simp only [List.length_cons]; omega
theorem parseL_len (l : List Nat) : ∀ p ∈ parseL l, p.length ≤ l.length := by
  intro p hp
  have h1 := prun_parts l
  have h2 := prun_len l
  unfold parseL at hp
  split at hp
  · exact h1 p hp
  · simp only [List.mem_append, List.mem_singleton] at hp
    rcases hp with hp | rfl
    · exact h1 p hp
    · omega
theorem one_length (c : Nat) : (Str.mk #[c]).length = 1 := rfl
theorem vs_eq {us vs : List Value} (h1 : vs.length = us.toArray.size) (h2 : ∀ (j : Nat) (v : Value), vs[j]? = some v → us.toArray[j]? = some v) : vs = us := by
  refine List.ext_getElem? fun j => ?_
  cases e : vs[j]? with
  | some v => have := h2 j v e; simpa using this.symm
  | none =>
    have : vs.length ≤ j := List.getElem?_eq_none_iff.mp e
    have h3 : us.length ≤ j := by simpa [h1] using this
    exact (List.getElem?_eq_none_iff.mpr h3).symm
theorem S_append (a b : List Nat) : S a ++ S b = S (a ++ b) := by
  refine Str.ext' ?_
  rw [Str.cps_append]
  simp [S]
theorem S_inj {a b : List Nat} (h : S a = S b) : a = b := by
  have e4 : a.toArray = b.toArray := by injection h
  simpa using congrArg Array.toList e4
def joinS (sep : List Nat) : List (List Nat) → List Nat
  | [] => []
  | [x] => x
  | x :: y :: r => x ++ sep ++ joinS sep (y :: r)
theorem str_join (sep : List Nat) : ∀ ps : List (List Nat), Str.join (S sep) (ps.map S) = S (joinS sep ps)
  | [] => rfl
  | [x] => rfl
  | x :: y :: r => by
    show S x ++ S sep ++ Str.join (S sep) ((y :: r).map S) = S (x ++ sep ++ joinS sep (y :: r))
    rw [str_join sep (y :: r), S_append, S_append]
theorem txt_join (sep : List Nat) (ps : List (List Nat)) : Txt.join (S sep) (ps.map S) = S (joinS sep ps) :=
  (StrLaws.glued_eq_join _ _).trans (str_join sep ps)
theorem joinS_len (sep : List Nat) (k : Nat) : ∀ ps : List (List Nat), (∀ p ∈ ps, p.length ≤ k) → (joinS sep ps).length ≤ ps.length * (k + sep.length)
  | [], _ => by simp [joinS]
  | [x], h => by have := h x (.head _); simp [joinS]; omega
  | x :: y :: r, h => by
    have h1 := h x (.head _)
    have h2 := joinS_len sep k (y :: r) fun p hp => h p (.tail _ hp)
    simp only [joinS, List.length_append, List.length_cons] at h2 ⊢
    rw [Nat.succ_mul]
    omega
theorem sum_len (k : Nat) : ∀ ps : List (List Nat), (∀ p ∈ ps, p.length ≤ k) → ((ps.map S).map (·.length)).sum ≤ ps.length * k
  | [], _ => by simp
  | x :: r, h => by
    have h1 := h x (.head _)
    have h2 := sum_len k r fun p hp => h p (.tail _ hp)
    simp only [List.map_cons, List.sum_cons, List.length_cons, S_length] at h2 ⊢
    rw [Nat.succ_mul]
    omega
/-- join over a list of texts that the ledger (or the heap) bears -/
theorem join_own {prog : Program} {w : World} {A : Around} {E : Value → Shared → Prop} {s : Shared} {D : Addr} {us : List Value} {n : Nat} {sep : List Nat} {ps : List (List Nat)} {t : Tok} {Q : Value → Shared → Prop} (k : Nat)
    (hl : s.heap.get? D = some (listOf us.toArray n)) (hi : StrsAre us (ps.map S)) (hsep : sep.length ≤ 16) (hk : ∀ p ∈ ps, p.length ≤ k) (hw : ps.length * k + ps.length ≤ 1048576)
    (h : ∀ t' tk, Q (.str (S (joinS sep ps)) t') { s with toks := tk }) : wpAny (model prog w) A (call (.builtin "str.join") [.str (S sep) t, .ref D]) Q E s := by
  refine join_listW (ys := ps.map S) ⟨_, hl, rfl, n, rfl⟩ (by simpa using hi) (by rw [S_length]; exact hsep) ?_ ?_
  · have := sum_len k ps hk
    rw [List.length_map]
    omega
  · intro t' tk
    rw [txt_join]
    exact h t' tk
theorem ofs_com : Str.ofString "," = S [44] := by decide +kernel
theorem ofs_quo : Str.ofString "\"" = S [34] := by decide +kernel
theorem paired_strs {f : List Nat → Str} : ∀ {us ys : List Value} {ps : List (List Nat)}, StrsAre us (ps.map S) → Paired (fun v y => ∃ p t t', v = .str (S p) t ∧ y = .str (f p) t') us ys → StrsAre ys (ps.map f) := by
  intro us ys ps hs hp
  induction hp generalizing ps with
  | nil => cases ps with
    | nil => exact .nil
    | cons _ _ => cases hs
  | cons h _ ih =>
    cases ps with
    | nil => cases hs
    | cons q ps =>
      cases hs with
      | cons _ _ hs' =>
        obtain ⟨p, t, t', e1, e2⟩ := h
        have : q = p := S_inj (by injection e1)
        subst this
        subst e2
        exact .cons _ _ (ih hs')
theorem strs_get {us : List Value} {ws : List Str} (h : StrsAre us ws) : ∀ (i : Nat) (v : Value), us[i]? = some v → ∃ w t, ws[i]? = some w ∧ v = Value.str w t := by
  induction h with
  | nil => intro i v e; simp at e
  | cons y t _ ih =>
    intro i v e
    cases i with
    | zero => simp at e; exact ⟨y, t, rfl, e.symm⟩
    | succ i => simp at e; obtain ⟨w, t', h1, h2⟩ := ih i v e; exact ⟨w, t', by simpa using h1, h2⟩
theorem ints_get {us : List Value} {ws : List Int} (h : IntsAre us ws) : ∀ (i : Nat) (v : Value), us[i]? = some v → ∃ w t, ws[i]? = some w ∧ v = Value.int w t := by
  induction h with
  | nil => intro i v e; simp at e
  | cons y t _ ih =>
    intro i v e
    cases i with
    | zero => simp at e; exact ⟨y, t, rfl, e.symm⟩
    | succ i => simp at e; obtain ⟨w, t', h1, h2⟩ := ih i v e; exact ⟨w, t', by simpa using h1, h2⟩
/-- texts made of ints, one by one -/
theorem paired_ints {f : Int → List Nat} : ∀ {us ys : List Value} {ns : List Int}, IntsAre us ns → Paired (fun v y => ∃ n t t', v = .int n t ∧ y = .str (S (f n)) t') us ys → StrsAre ys ((ns.map f).map S) := by
  intro us ys ns hs hp
  induction hp generalizing ns with
  | nil => cases ns with
    | nil => exact .nil
    | cons _ _ => cases hs
  | cons h _ ih =>
    cases ns with
    | nil => cases hs
    | cons q ns =>
      cases hs with
      | cons _ _ hs' =>
        obtain ⟨p, t, t', e1, e2⟩ := h
        have : q = p := by injection e1
        subst this
        subst e2
        exact .cons _ _ (ih hs')
end Mine
end
section
open PySem PySem.W PyProof.Rows PySem.Calls
set_option maxRecDepth 100000
namespace Mine
/-! slices and items, their results told plainly -/
theorem pick_take (vs : List Value) (y : Nat) : (slicePick vs.toArray none (some (y : Int)) none).toList = vs.take y := by
  rw [show slicePick vs.toArray none (some (y : Int)) none = _ from slicePick_plain _ _ _]
  simp only [Option.elim, clipAt_nat, List.drop_zero, Nat.sub_zero, List.size_toArray]
  exact kmk_take_min vs y
theorem pick_drop (vs : List Value) (x : Nat) : (slicePick vs.toArray (some (x : Int)) none none).toList = vs.drop x := by
  rw [show slicePick vs.toArray (some (x : Int)) none none = _ from slicePick_plain _ _ _]
  simp only [Option.elim, clipAt_nat, List.size_toArray]
  rw [kmk_drop_min, List.take_of_length_le (by rw [List.length_drop]; omega)]
theorem pick_mid (vs : List Value) (x y : Nat) (hy : y ≤ vs.length) : (slicePick vs.toArray (some (x : Int)) (some (y : Int)) none).toList = (vs.drop x).take (y - x) := by
  rw [show slicePick vs.toArray (some (x : Int)) (some (y : Int)) none = _ from slicePick_plain _ _ _]
  simp only [Option.elim, clipAt_nat, List.size_toArray]
  rw [kmk_drop_min]
  congr 1
  omega
section
variable {prog : Program} {w : World} {A : Around} {E : Value → Shared → Prop} {s : Shared} {h₀ : Heap} {L l : Addr} {m : Str → Option Value} {news : List (Addr × Obj)} {value slice : Expr} {vs zs : List Value} {vl vu : Value} {lo hi : Option Int} {Q : Value → Shared → Prop}
theorem sl_list (F : Fr h₀ L s.heap m) (N : News h₀ L s.heap news) (hl : s.heap.IsList l vs.toArray) (pl : IsPart vl lo) (pu : IsPart vu hi) (e : (slicePick vs.toArray lo hi none).toList = zs) (hz : vs.length ≤ 100000)
    (h : ∀ D h', Fr h₀ L h' m → News h₀ L h' ((D, listOf zs.toArray 0) :: news) → (∀ p ∈ news, p.1 ≠ D) → Q (.ref D) { s with heap := h' })
    (hs : subscripted slice false (.ref l) (.ref s.heap.objs.size) = operate [.ref s.heap.objs.size, .ref l] (getItem (.ref l) (.ref s.heap.objs.size)) := by with_unfolding_all rfl) :
    wpAny (model prog w) A (subscriptTail value slice (.ref l) (.ref s.heap.objs.size)) Q E { s with heap := s.heap.push { cls := .type "slice", data := .fields #[vl, vu, .none] } } :=
  kba_turn (value' := .Name (Str.ofString "a") ⟨0, 0, 0, 0⟩) (fun _ => rfl) (kmk_slice_lit F N hl pl pu e (fun D h' F' N' hlt => h D h' F' N' fun p hp => Nat.ne_of_lt (hlt p hp)) hs (fun _ => rfl) (by rw [List.size_toArray, sizeLine_eq]; omega))
theorem sl_take {y : Nat} {ty : Tok} (F : Fr h₀ L s.heap m) (N : News h₀ L s.heap news) (hl : s.heap.IsList l vs.toArray) (hz : vs.length ≤ 100000)
    (h : ∀ D h', Fr h₀ L h' m → News h₀ L h' ((D, listOf (vs.take y).toArray 0) :: news) → (∀ p ∈ news, p.1 ≠ D) → Q (.ref D) { s with heap := h' })
    (hs : subscripted slice false (.ref l) (.ref s.heap.objs.size) = operate [.ref s.heap.objs.size, .ref l] (getItem (.ref l) (.ref s.heap.objs.size)) := by with_unfolding_all rfl) :
    wpAny (model prog w) A (subscriptTail value slice (.ref l) (.ref s.heap.objs.size)) Q E { s with heap := s.heap.push { cls := .type "slice", data := .fields #[.none, .int (y : Int) ty, .none] } } :=
  sl_list F N hl .none (.int _ _) (pick_take vs y) hz h hs
theorem sl_drop {x : Nat} {tx : Tok} (F : Fr h₀ L s.heap m) (N : News h₀ L s.heap news) (hl : s.heap.IsList l vs.toArray) (hz : vs.length ≤ 100000)
    (h : ∀ D h', Fr h₀ L h' m → News h₀ L h' ((D, listOf (vs.drop x).toArray 0) :: news) → (∀ p ∈ news, p.1 ≠ D) → Q (.ref D) { s with heap := h' })
    (hs : subscripted slice false (.ref l) (.ref s.heap.objs.size) = operate [.ref s.heap.objs.size, .ref l] (getItem (.ref l) (.ref s.heap.objs.size)) := by with_unfolding_all rfl) :
    wpAny (model prog w) A (subscriptTail value slice (.ref l) (.ref s.heap.objs.size)) Q E { s with heap := s.heap.push { cls := .type "slice", data := .fields #[.int (x : Int) tx, .none, .none] } } :=
  sl_list F N hl (.int _ _) .none (pick_drop vs x) hz h hs
theorem sl_mid {x y : Nat} {tx ty : Tok} (F : Fr h₀ L s.heap m) (N : News h₀ L s.heap news) (hl : s.heap.IsList l vs.toArray) (hy : y ≤ vs.length) (hz : vs.length ≤ 100000)
    (h : ∀ D h', Fr h₀ L h' m → News h₀ L h' ((D, listOf ((vs.drop x).take (y - x)).toArray 0) :: news) → (∀ p ∈ news, p.1 ≠ D) → Q (.ref D) { s with heap := h' })
    (hs : subscripted slice false (.ref l) (.ref s.heap.objs.size) = operate [.ref s.heap.objs.size, .ref l] (getItem (.ref l) (.ref s.heap.objs.size)) := by with_unfolding_all rfl) :
    wpAny (model prog w) A (subscriptTail value slice (.ref l) (.ref s.heap.objs.size)) Q E { s with heap := s.heap.push { cls := .type "slice", data := .fields #[.int (x : Int) tx, .int (y : Int) ty, .none] } } :=
  sl_list F N hl (.int _ _) (.int _ _) (pick_mid vs x y hy) hz h hs
theorem sl_rev {tk : Tok} (F : Fr h₀ L s.heap m) (N : News h₀ L s.heap news) (hl : s.heap.IsList l vs.toArray) (hz : vs.length ≤ 100000)
    (h : ∀ D h', Fr h₀ L h' m → News h₀ L h' ((D, listOf vs.reverse.toArray 0) :: news) → (∀ p ∈ news, p.1 ≠ D) → Q (.ref D) { s with heap := h' })
    {ops : List Value} (hs : subscripted slice false (.ref l) (.ref s.heap.objs.size) = operate ops (getItem (.ref l) (.ref s.heap.objs.size)) := by with_unfolding_all rfl) :
    wpAny (model prog w) A (subscriptTail value slice (.ref l) (.ref s.heap.objs.size)) Q E { s with heap := s.heap.push { cls := .type "slice", data := .fields #[.none, .none, .int (-1) tk] } } :=
  kba_turn (value' := .Name (Str.ofString "a") ⟨0, 0, 0, 0⟩) (fun _ => rfl) (krv_lit (zs := vs.reverse) F N hl (.int _ _) rfl (fun D h' F' N' hlt => h D h' F' N' fun p hp => Nat.ne_of_lt (hlt p hp)) hs (fun _ => rfl) (by rw [List.size_toArray, sizeLine_eq]; omega))
theorem it_list {k : Nat} {u : Tok} {v : Value} (hl : s.heap.IsList l vs.toArray) (hx : vs[k]? = some v) (hk : k < 100000) (h : Q v s)
    (hs : subscripted slice false (.ref l) (.int (k : Int) u) = operate [.ref l, .int (k : Int) u] (getItem (.ref l) (.int (k : Int) u)) := by with_unfolding_all rfl) :
    wpAny (model prog w) A (subscriptTail value slice (.ref l) (.int (k : Int) u)) Q E s :=
  kba_turn (value' := .Name (Str.ofString "a") ⟨0, 0, 0, 0⟩) (fun _ => rfl) (tail_any hl.typeIs slot_list_getitem.lookup (wpAny_getItem_list hl (by omega) (by omega) (by simpa using hx) h) hs)
/-- a text from a place on -/
theorem slice_S (x : List Nat) (i : Nat) (hi : i ≤ x.length) : Txt.slice (S x) (some (i : Int)) none = S (x.drop i) := by
  rw [slice_from_eq (b := (x.length : Int)) (by omega) (by rw [S_length]; omega) (by rw [S_length])]
  refine Str.ext' ?_
  show (List.take _ (List.drop _ x.toArray.toList)).toArray = (x.drop i).toArray
  rw [show ((i : Int).toNat) = i by omega, List.take_of_length_le (by rw [List.length_drop]; show x.toArray.toList.length - i ≤ _; simp)]
theorem sl_str {x : List Nat} {i : Nat} {t ti : Tok} (F : Fr h₀ L s.heap m) (N : News h₀ L s.heap news) (hz : x.length ≤ 100000) (hix : i ≤ x.length)
    (h : ∀ h' t' k, Fr h₀ L h' m → News h₀ L h' news → Q (.str (S (x.drop i)) t') { s with heap := h', toks := k })
    (hs : subscripted slice false (.str (S x) t) (.ref s.heap.objs.size) = operate [.ref s.heap.objs.size, .str (S x) t] (getItem (.str (S x) t) (.ref s.heap.objs.size)) := by with_unfolding_all rfl) :
    wpAny (model prog w) A (subscriptTail value slice (.str (S x) t) (.ref s.heap.objs.size)) Q E { s with heap := s.heap.push { cls := .type "slice", data := .fields #[.int (i : Int) ti, .none, .none] } } :=
  kba_turn (value' := .Name (Str.ofString "a") ⟨0, 0, 0, 0⟩) (fun _ => rfl) (slice_strN_sn F N (fun h' t' k F' N' => by rw [slice_S _ _ hix]; exact h h' t' k F' N') hs (fun _ => rfl) (by rw [S_length, sizeLine_eq]; omega))
theorem rev_S (x : List Nat) (u : Tok) : Txt.sliceBy (S x) none none (-1, u) = S x.reverse := by
  refine Str.ext' (Array.toList_inj.mp ?_)
  rw [step_rev_list]
  show (List.range x.toArray.size).map (fun k => x.toArray.getD (x.toArray.size - 1 - k) 0) = x.reverse.toArray.toList
  refine List.ext_getElem (by simp) fun i h1 h2 => ?_
  simp only [List.length_map, List.length_range, List.size_toArray] at h1
  rw [List.getElem_map, List.getElem_range, List.getElem_reverse, Array.getD, dif_pos (by rw [List.size_toArray]; omega)]
  simp
theorem sl_strRev {x : List Nat} {t tk : Tok} (F : Fr h₀ L s.heap m) (N : News h₀ L s.heap news) (hz : x.length ≤ 100000)
    (h : ∀ h' t' k, Fr h₀ L h' m → News h₀ L h' news → Q (.str (S x.reverse) t') { s with heap := h', toks := k })
    (hs : subscripted slice false (.str (S x) t) (.ref s.heap.objs.size) = operate [.ref s.heap.objs.size, .str (S x) t] (getItem (.str (S x) t) (.ref s.heap.objs.size)) := by with_unfolding_all rfl) :
    wpAny (model prog w) A (subscriptTail value slice (.str (S x) t) (.ref s.heap.objs.size)) Q E { s with heap := s.heap.push { cls := .type "slice", data := .fields #[.none, .none, .int (-1) tk] } } :=
  kba_turn (value' := .Name (Str.ofString "a") ⟨0, 0, 0, 0⟩) (fun _ => rfl) (slice_strK_nn F N rfl (fun h' t' k F' N' => by rw [rev_S]; exact h h' t' k F' N') hs (fun _ => rfl) (by rw [S_length, sizeLine_eq]; omega))
theorem picked_take (b : List UInt8) (y : Nat) : KBy.picked b.toArray none (some (y : Int)) = (b.take y).toArray := by
  rw [KBc.picked_eq]
  simp only [Option.elim, clipAt_nat, List.drop_zero, Nat.sub_zero, List.size_toArray]
  rw [kmk_take_min]
theorem picked_drop (b : List UInt8) (y : Nat) : KBy.picked b.toArray (some (y : Int)) none = (b.drop y).toArray := by
  rw [KBc.picked_eq]
  simp only [Option.elim, clipAt_nat, List.size_toArray]
  rw [kmk_drop_min, List.take_of_length_le (by rw [List.length_drop]; omega)]
theorem sl_bytesTo {b : List UInt8} {y : Nat} {t ty : Tok} (F : Fr h₀ L s.heap m) (N : News h₀ L s.heap news) (hz : b.length ≤ 100000)
    (h : ∀ h' t' k, Fr h₀ L h' m → News h₀ L h' news → Q (.bytes (b.take y).toArray t') { s with heap := h', toks := k })
    (hs : subscripted slice false (.bytes b.toArray t) (.ref s.heap.objs.size) = operate [.ref s.heap.objs.size, .bytes b.toArray t] (getItem (.bytes b.toArray t) (.ref s.heap.objs.size)) := by with_unfolding_all rfl) :
    wpAny (model prog w) A (subscriptTail value slice (.bytes b.toArray t) (.ref s.heap.objs.size)) Q E { s with heap := s.heap.push { cls := .type "slice", data := .fields #[.none, .int (y : Int) ty, .none] } } :=
  kba_turn (value' := .Name (Str.ofString "a") ⟨0, 0, 0, 0⟩) (fun _ => rfl) (KBc.slice_K F N rfl .none (.int _ _) (by rw [KBw.ints_length, List.size_toArray]; omega) (fun h' t' k F' N' _ => by rw [picked_take]; exact h h' t' k F' N') hs (fun _ => rfl))
theorem sl_bytesFrom {b : List UInt8} {y : Nat} {t ty : Tok} (F : Fr h₀ L s.heap m) (N : News h₀ L s.heap news) (hz : b.length ≤ 100000)
    (h : ∀ h' t' k, Fr h₀ L h' m → News h₀ L h' news → Q (.bytes (b.drop y).toArray t') { s with heap := h', toks := k })
    (hs : subscripted slice false (.bytes b.toArray t) (.ref s.heap.objs.size) = operate [.ref s.heap.objs.size, .bytes b.toArray t] (getItem (.bytes b.toArray t) (.ref s.heap.objs.size)) := by with_unfolding_all rfl) :
    wpAny (model prog w) A (subscriptTail value slice (.bytes b.toArray t) (.ref s.heap.objs.size)) Q E { s with heap := s.heap.push { cls := .type "slice", data := .fields #[.int (y : Int) ty, .none, .none] } } :=
  kba_turn (value' := .Name (Str.ofString "a") ⟨0, 0, 0, 0⟩) (fun _ => rfl) (KBc.slice_K F N rfl (.int _ _) .none (by rw [KBw.ints_length, List.size_toArray]; omega) (fun h' t' k F' N' _ => by rw [picked_drop]; exact h h' t' k F' N') hs (fun _ => rfl))
end
end Mine
end
section
open PySem PySem.W PyProof.Rows PySem.Calls PySem.Spec
set_option maxRecDepth 100000
namespace Mine
section
variable {prog : Program} {w : World} {A : Around} {s : Shared} {env : Env} {h₀ : Heap}
theorem codeN_forLoop_frV {R : Result → Shared → Prop} {x : Str} {px : Pos} {body : List Stmt} {I : Addr} {fp wr : List Addr} {n : Nat} {P : Nat → Value → Prop} {St : Nat → Heap → Prop} {m : Str → Option Value}
    {news : List (Addr × Obj)} (W : Walks prog w A I fp wr n P St) (hx : env.kindOf x = some .local)
    (hp : (env.scope.kind == .class || (env.scope.kind == .module && env.locals != env.globals)) = false)
    (hLf : env.locals ∉ fp) (hwr : ∀ b ∈ wr, h₀.get? b = none) (hnw : ∀ p ∈ news, p.1 ∉ wr)
    (hst : St 0 s.heap) (F : Fr h₀ env.locals s.heap m) (N : News h₀ env.locals s.heap news)
    (J : Nat → (Str → Option Value) → List (Addr × Obj) → Prop) (h0 : J 0 m news)
    (step : ∀ i v m₁ news₁ s₁ own, (∃ h tk, s₁ = { s with heap := h, toks := tk }) → i < n → P i v → J i m₁ news₁ → (∀ p ∈ news₁, p.1 ∉ wr) → (∀ p ∈ own, p.1 ∈ fp) → (∀ p ∈ own, s₁.heap.get? p.1 = some p.2) → (∀ b ∈ fp, h₀.get? b = none → ∀ o, s₁.heap.get? b = some o → (b, o) ∈ own) → St (i + 1) s₁.heap →
      Fr h₀ env.locals s₁.heap (fun y => if y = x then some v else m₁ y) → News h₀ env.locals s₁.heap (own ++ news₁) →
      wpN (model prog w) A (execs body env) (LoopStepV h₀ env.locals wr own (J (i + 1)) s₁ (fun v s' => R (.ok (.ret v)) s') fun s' => R (.ok .next) s') (fun _ _ => False) s₁)
    (hR : ∀ h' tk m' news', Fr h₀ env.locals h' m' → News h₀ env.locals h' news' → (∀ p ∈ news', p.1 ∉ wr) → J n m' news' → R (.ok .next) { s with heap := h', toks := tk }) :
    codeN (model prog w) A (.forLoop (.Name x px) (.ref I) body [] env) R s := by
  have hLw : env.locals ∉ wr := fun h => hLf (W.sub _ h)
  have old : ∀ b o, h₀.get? b = some o → b ∉ wr := fun b o e hb => by rw [hwr b hb] at e; cases e
  refine codeN_forLoop
    (fun k s' => ∃ h' tk m' news' i, s' = { s with heap := h', toks := tk } ∧ St i h' ∧ Fr h₀ env.locals h' m' ∧ News h₀ env.locals h' news' ∧ (∀ p ∈ news', p.1 ∉ wr) ∧ J i m' news' ∧ i ≤ n ∧ k = n + 1 - i) ?_ (n + 1)
    ⟨s.heap, s.toks, m, news, 0, rfl, hst, F, N, hnw, h0, Nat.zero_le _, rfl⟩
  rintro k s' ⟨h', tk, m', news', i, rfl, hst', F', N', hnw', hJ, hi, rfl⟩
  have next : ∀ h₁ : Heap, (∀ b o, b ∉ wr → h'.get? b = some o → h₁.get? b = some o) → Fr h₀ env.locals h₁ m' ∧ News h₀ env.locals h₁ news' := fun h₁ hk₁ =>
    ⟨⟨F'.ns.at' fun o e => hk₁ _ o hLw e, fun b o e => hk₁ b o (old b o e) (F'.keep b o e), F'.above⟩, fun p hp => ⟨hk₁ _ _ (hnw' p hp) (N' p hp).1, (N' p hp).2⟩⟩
  by_cases hlt : i < n
  · refine W.item i _ _ _ hlt hst' fun v h₁ tk₁ hP hst₁ hk₁ => ?_
    obtain ⟨F₁, N₁⟩ := next h₁ hk₁
    refine wpAny_assign_Name (wpAny_storeName_local hx F₁.ns (fun h₂ hn₂ hs₂ => ?_) hp)
    have F₂ := F₁.set hn₂ hs₂
    have Nown : News h₀ env.locals h₂ (ownOf h₀ fp h₂) := news_ownOf hLf
    have hst₂ : St (i + 1) h₂ := W.frame _ _ _ hst₁ fun b hb o e => (hs₂.2 b fun q => hLf (q ▸ hb)).trans e
    refine wpN_mono (step i v m' news' _ (ownOf h₀ fp h₂) ⟨_, _, rfl⟩ hlt hP hJ hnw' ownOf_sub (fun p hp => (Nown p hp).1) (fun b hb hn o e => mem_ownOf hb hn e) hst₂ F₂ (Nown.append (N₁.set hs₂))) (fun f s₃ h₃ => ?_) fun _ _ e => e
    cases f with
    | ret v => exact h₃
    | brk => exact h₃
    | cont =>
      obtain ⟨_, h₃', tk₃, m₂, news₂, rfl, F₃, N₃, ha₃, hJ₃⟩ := h₃
      refine ⟨n + 1 - (i + 1), by omega, h₃', tk₃, m₂, news₂, i + 1, rfl, ?_, F₃, N₃.right, ha₃, hJ₃, hlt, rfl⟩
      refine W.frame _ _ _ hst₁ fun b hb o e => ?_
      have e₂ : h₂.get? b = some o := (hs₂.2 b fun q => hLf (q ▸ hb)).trans e
      cases hn : h₀.get? b with
      | some o₀ =>
        have : o₀ = o := by have := F₂.keep b o₀ hn; rw [e₂] at this; exact (Option.some.inj this).symm
        exact this ▸ F₃.keep b o₀ hn
      | none => exact (N₃ _ (List.mem_append_left _ (mem_ownOf hb hn e₂))).1
    | next =>
      obtain ⟨_, h₃', tk₃, m₂, news₂, rfl, F₃, N₃, ha₃, hJ₃⟩ := h₃
      refine ⟨n + 1 - (i + 1), by omega, h₃', tk₃, m₂, news₂, i + 1, rfl, ?_, F₃, N₃.right, ha₃, hJ₃, hlt, rfl⟩
      refine W.frame _ _ _ hst₁ fun b hb o e => ?_
      have e₂ : h₂.get? b = some o := (hs₂.2 b fun q => hLf (q ▸ hb)).trans e
      cases hn : h₀.get? b with
      | some o₀ =>
        have : o₀ = o := by have := F₂.keep b o₀ hn; rw [e₂] at this; exact (Option.some.inj this).symm
        exact this ▸ F₃.keep b o₀ hn
      | none => exact (N₃ _ (List.mem_append_left _ (mem_ownOf hb hn e₂))).1
  · have hin : i = n := by omega
    subst hin
    refine W.done _ _ _ hst' fun h₁ tk₁ hk₁ => wpAny_execs_nil ?_
    obtain ⟨F₁, N₁⟩ := next h₁ hk₁
    exact hR h₁ tk₁ m' news' F₁ N₁ hnw' hJ
theorem loop_invNN {x : Str} {px : Pos} {body : List Stmt} {Q : Flow → Shared → Prop} {I : Addr} {fp wr : List Addr} {n : Nat} {P : Nat → Value → Prop} {St : Nat → Heap → Prop} {m₀ : Str → Option Value} {news : List (Addr × Obj)} (J : Nat → (Str → Option Value) → List (Addr × Obj) → Prop)
    (W : Walks prog w A I fp wr n P St) (hx : env.kindOf x = some .local) (hp : (env.scope.kind == .class || (env.scope.kind == .module && env.locals != env.globals)) = false)
    (hLf : env.locals ∉ fp) (hwr : ∀ b ∈ wr, h₀.get? b = none) (hnw : ∀ p ∈ news, p.1 ∉ wr) (hfp : ∀ q ∈ news, q.1 ∉ fp) (hst : St 0 s.heap) (F : Fr h₀ env.locals s.heap m₀) (N : News h₀ env.locals s.heap news) (hj : J 0 m₀ news)
    (turn : ∀ i v m₁ news₁ h tk own, i < n → P i v → news₁.map (·.1) = news.map (·.1) → OwnOff own (news.map (·.1)) → J i m₁ news₁ → Fr h₀ env.locals h (fun y => if y = x then some v else m₁ y) → News h₀ env.locals h (news₁ ++ own) →
      wpN (model prog w) A (execs body env) (InvPostN h₀ env.locals (J (i + 1)) own (news.map (·.1)) { s with heap := h, toks := tk } Q) (fun _ _ => False) { s with heap := h, toks := tk })
    (done : ∀ m₁ news₁ h tk, J n m₁ news₁ → Fr h₀ env.locals h m₁ → News h₀ env.locals h news₁ → Q .next { s with heap := h, toks := tk }) :
    codeN (model prog w) A (.forLoop (.Name x px) (.ref I) body [] env) (fun r s' => match r with | .ok f => Q f s' | .error _ => False) s := by
  let J' : Nat → (Str → Option Value) → List (Addr × Obj) → Prop := fun i m₁ news₁ => news₁.map (·.1) = news.map (·.1) ∧ J i m₁ news₁
  refine codeN_forLoop_frV W hx hp hLf hwr hnw hst F N J' ⟨rfl, hj⟩ ?_ ?_
  · rintro i v m₁ news₁ s₁ own ⟨hh', tk', rfl⟩ hin hP ⟨hadr, hJ⟩ hoff hown _ _ _ F₁ N₁
    have hsep : OwnOff own (news.map (·.1)) := by
      intro p hp b hb e
      obtain ⟨q, hq, rfl⟩ := List.mem_map.mp hb
      exact hfp q hq (e ▸ hown p hp)
    have N₂ : News h₀ env.locals hh' (news₁ ++ own) := fun p hp => N₁ p ((List.mem_append.mp hp).elim (fun h => List.mem_append.mpr (.inr h)) fun h => List.mem_append.mpr (.inl h))
    refine wpN_mono (turn i v m₁ news₁ hh' tk' own hin hP hadr hsep hJ F₁ N₂) (fun f s₂ p => ?_) fun _ _ e => e
    have fin : InvEndN h₀ env.locals (J (i + 1)) own (news.map (·.1)) { s with heap := hh', toks := tk' } s₂ → LoopStepU h₀ env.locals wr own (J' (i + 1)) { s with heap := hh', toks := tk' } .next s₂ := by
      rintro ⟨h', tk, m', news', nx, e, F', N', hn, ho, ha, hm⟩
      refine ⟨rfl, h', tk, m', nx, e, F', fun p hp => N' p ((List.mem_append.mp hp).elim (ho p) (hn p)), fun p hp hq => ?_, ha, hm⟩
      have h1 : p.1 ∈ nx.map (·.1) := List.mem_map.mpr ⟨p, hp, rfl⟩
      rw [ha, ← hadr] at h1
      obtain ⟨q, hq1, hq2⟩ := List.mem_map.mp h1
      exact hoff q hq1 (by rw [hq2]; exact hq)
    cases f with
    | ret v => exact .ret p
    | brk => exact .brk p
    | next => exact .next (fin p)
    | cont => exact .cont (fin p)
  · rintro h' tk m' news' F' N' _ ⟨_, hJ⟩
    exact done m' news' h' tk hJ F' N'
theorem for_ownN {E : Value → Shared → Prop} {x : Str} {px : Pos} {body : List Stmt} {Q : Flow → Shared → Prop} {xv : Value} {n : Nat} {P : Nat → Value → Prop} {m₀ : Str → Option Value} {news : List (Addr × Obj)}
    (hx : env.kindOf x = some .local) (hp : (env.scope.kind == .class || (env.scope.kind == .module && env.locals != env.globals)) = false)
    (J : Nat → (Str → Option Value) → List (Addr × Obj) → Prop) (S : Src prog w A s xv n P []) (F : Fr h₀ env.locals s.heap m₀) (N : News h₀ env.locals s.heap news) (hj : J 0 m₀ news)
    (turn : ∀ i v m₁ nx h tk own, i < n → P i v → OwnOff own (news.map (·.1)) → nx.map (·.1) = news.map (·.1) → J i m₁ nx → Fr h₀ env.locals h (fun y => if y = x then some v else m₁ y) → News h₀ env.locals h (nx ++ own) →
      wpN (model prog w) A (execs body env) (InvPostN h₀ env.locals (J (i + 1)) own (news.map (·.1)) { s with heap := h, toks := tk } Q) (fun _ _ => False) { s with heap := h, toks := tk })
    (done : ∀ m₁ nx h tk, nx.map (·.1) = nx.map (·.1) → J n m₁ nx → Fr h₀ env.locals h m₁ → News h₀ env.locals h nx → Q .next { s with heap := h, toks := tk }) :
    wpAny (model prog w) A (pyIter xv) (fun it s₂ => codeN (model prog w) A (.forLoop (.Name x px) it body [] env) (fun r s' => match r with | .ok f => Q f s' | .error _ => False) s₂) E s := by
  refine S _ _ fun o St W hst => ?_
  refine loop_invNN J W hx hp ?_ ?_ ?_ ?_ hst (F.push _) (fun p hp => ⟨Heap.get?_push_of_some _ (N p hp).1, (N p hp).2⟩) hj ?_ ?_
  · intro hm
    exact absurd F.ns.lt ((List.mem_singleton.mp hm) ▸ Nat.lt_irrefl _)
  · intro b' hb
    rw [List.mem_singleton.mp hb]
    exact next_is_new F
  · intro p hp hI
    exact absurd (Heap.lt_size (N p hp).1) ((List.mem_singleton.mp hI) ▸ Nat.lt_irrefl _)
  · intro p hp hI
    exact absurd (Heap.lt_size (N p hp).1) ((List.mem_singleton.mp hI) ▸ Nat.lt_irrefl _)
  · intro i v m₁ nx h tk own hi hP ha ho hJ F₁ N₁
    exact turn i v m₁ nx h tk own hi hP ho ha hJ F₁ N₁
  · intro m₁ nx h tk hJ F₁ N₁
    exact done m₁ nx h tk rfl hJ F₁ N₁
end
end Mine
end
section
open PySem PySem.W PyProof.Rows PySem.Calls
set_option maxRecDepth 100000
namespace Mine
abbrev PR : Program := PySem.Challenge.rw_pg0046_02.row.prog
/-- no global of the text -/
theorem ns_len (w : World) : nsIn (Mine.hd.heap_39 w.params) mainGlobals (Str.ofString "len") = some none := by rfl
theorem ns_range (w : World) : nsIn (Mine.hd.heap_39 w.params) mainGlobals (Str.ofString "range") = some none := by rfl
theorem ns_bytearray (w : World) : nsIn (Mine.hd.heap_39 w.params) mainGlobals (Str.ofString "bytearray") = some none := by rfl
theorem ns_bytes (w : World) : nsIn (Mine.hd.heap_39 w.params) mainGlobals (Str.ofString "bytes") = some none := by rfl
theorem ns_chr (w : World) : nsIn (Mine.hd.heap_39 w.params) mainGlobals (Str.ofString "chr") = some none := by rfl
theorem ns_ord (w : World) : nsIn (Mine.hd.heap_39 w.params) mainGlobals (Str.ofString "ord") = some none := by rfl
theorem ns_isinstance (w : World) : nsIn (Mine.hd.heap_39 w.params) mainGlobals (Str.ofString "isinstance") = some none := by rfl
theorem ns_parse (w : World) : nsIn (Mine.hd.heap_39 w.params) mainGlobals (Str.ofString "parse_http_list") = some (some (.ref 19)) := by rfl
theorem ns_swap (w : World) : nsIn (Mine.hd.heap_39 w.params) mainGlobals (Str.ofString "_byteswap") = some (some (.ref 26)) := by rfl
theorem bo_len : bootBuiltins (Str.ofString "len") = some (.builtin "len") := boot_len
theorem bo_range : bootBuiltins (Str.ofString "range") = some (.type "range") := boot_range
theorem bo_bytearray : bootBuiltins (Str.ofString "bytearray") = some (.type "bytearray") := by decide +kernel
theorem bo_bytes : bootBuiltins (Str.ofString "bytes") = some (.type "bytes") := by decide +kernel
theorem bo_chr : bootBuiltins (Str.ofString "chr") = some (.builtin "chr") := by decide +kernel
theorem bo_ord : bootBuiltins (Str.ofString "ord") = some (.builtin "ord") := by decide +kernel
theorem bo_isinstance : bootBuiltins (Str.ofString "isinstance") = some (.builtin "isinstance") := by decide +kernel
theorem ns_max (w : World) : nsIn (Mine.hd.heap_39 w.params) mainGlobals (Str.ofString "max") = some none := by rfl
theorem ns_law (w : World) : nsIn (Mine.hd.heap_39 w.params) mainGlobals (Str.ofString "law") = some (some (.ref 31)) := by rfl
theorem bo_max : bootBuiltins (Str.ofString "max") = some (.builtin "max") := by decide +kernel
end Mine
end
section
open PySem PySem.W PyProof.Rows PySem.Calls
set_option maxRecDepth 100000
namespace Mine
def PJ (cps : List Nat) (l : Addr) (i : Nat) (m : Str → Option Value) (nx : List (Addr × Obj)) : Prop :=
  ∃ res part esc quo tp us n, prun (cps.take i) = ⟨res, part, esc, quo⟩ ∧ m (Str.ofString "part") = some (.str (S part) tp) ∧ m (Str.ofString "escape") = some (.bool esc) ∧
    m (Str.ofString "quote") = some (.bool quo) ∧ m (Str.ofString "res") = some (.ref l) ∧ nx = [(l, listOf us.toArray n)] ∧ StrsAre us (res.map S)
theorem pj_end {h₀ : Heap} {L : Addr} {x : Str} {l : Addr} {i : Nat} {own : List (Addr × Obj)} {us : List Value} {n : Nat} {h' : Heap} {tk : Nat} {s₁ : Shared} {m' : Str → Option Value} {res' : List (List Nat)} {part' : List Nat} {esc' quo' : Bool} {p' : Str} {tp' : Tok} {c : Nat} {ps : PS}
    (hn : x.cps[i]? = some c) (hpr : prun (x.cps.toList.take i) = ps) (F : Fr h₀ L h' m') (N : News h₀ L h' ((l, listOf us.toArray n) :: own))
    (h1 : m' (Str.ofString "part") = some (.str p' tp')) (h2 : m' (Str.ofString "escape") = some (.bool esc')) (h3 : m' (Str.ofString "quote") = some (.bool quo')) (h4 : m' (Str.ofString "res") = some (.ref l))
    (hp : p' = S part') (hs : StrsAre us (res'.map S)) (hst : pstep ps c = ⟨res', part', esc', quo'⟩) :
    InvEndN h₀ L (fun m nx => PJ x.cps.toList l (i + 1) m nx) own [l] s₁ { s₁ with heap := h', toks := tk } := by
  subst hp
  refine InvEndN.intro F N (nx := [(l, listOf us.toArray n)]) ?_ rfl (fun p hp => by simp at hp; simp [hp]) (fun p hp => List.mem_cons_of_mem _ hp)
  refine ⟨res', part', esc', quo', tp', us, n, ?_, h1, h2, h3, h4, rfl, hs⟩
  have hn' : x.cps.toList[i]? = some c := by simpa using hn
  rw [List.take_add_one, hn', Option.toList_some, prun_snoc, hpr, hst]
theorem one_beq (c d : Nat) : (Str.mk #[c] == Str.mk #[d]) = decide (c = d) := by
  by_cases h : c = d
  · subst h; simp
  · have : Str.mk #[c] ≠ Str.mk #[d] := by simpa using h
    simp [h, beq_eq_false_iff_ne.mpr this]
theorem beq_back (c : Nat) : (Str.mk #[c] == Str.ofString "\\") = decide (c = 92) := by
  rw [show Str.ofString "\\" = Str.mk #[92] from by decide +kernel]; exact one_beq c 92
theorem beq_quo (c : Nat) : (Str.mk #[c] == Str.ofString "\"") = decide (c = 34) := by
  rw [show Str.ofString "\"" = Str.mk #[34] from by decide +kernel]; exact one_beq c 34
theorem beq_com (c : Nat) : (Str.mk #[c] == Str.ofString ",") = decide (c = 44) := by
  rw [show Str.ofString "," = Str.mk #[44] from by decide +kernel]; exact one_beq c 44
theorem strs_snoc' {us : List Value} {ws : List (List Nat)} {x : List Nat} {t : Tok} (h : StrsAre us (ws.map S)) : StrsAre (us ++ [.str (S x) t]) ((ws ++ [x]).map S) := by
  rw [List.map_append]; exact strs_snoc h
theorem strip_comp {prog : Program} {w : World} {A : Around} {env : Env} {scope : Scope} {p1 p2 p3 : Pos} {Q : Value → Shared → Prop} {l : Addr} {s₁ : Shared} {us : List Value} {n : Nat} {ps : List (List Nat)}
    (hh : A.handled = none) (hl : s₁.heap.get? l = some (listOf us.toArray n)) (hs : StrsAre us (ps.map S)) (hn : us.length ≤ 100000) (hp : ∀ p ∈ ps, p.length ≤ 100000)
    (hk : scope.kind = .function) (hy : ∀ C, (compEnv scope C env).kindOf (Str.ofString "part") = some .local)
    (he : ∀ C, ∃ pl : Sem Bool, eval (.Call (.Attribute (.Name (Str.ofString "part") p1) (Str.ofString "strip") p2) [] [] p3) (compEnv scope C env) = (do
      let ov ← eval (.Name (Str.ofString "part") p1) (compEnv scope C env)
      standAt p2.atName
      let (f, first) ← holding [ov] (getMethod ov (Str.ofString "strip") pl)
      callWith p3 f first (backTo p3 (starEach [] (compEnv scope C env))) []))
    (hQ : ∀ D h' tk ys k, s₁.heap.get? D = none → h'.get? D = some (listOf ys.toArray k) → StrsAre ys (ps.map fun p => Txt.strip (S p)) → (∀ b o, s₁.heap.get? b = some o → h'.get? b = some o) → Q (.ref D) { s₁ with heap := h', toks := tk }) :
    CompAt prog w A env scope (Str.ofString "part") (.Call (.Attribute (.Name (Str.ofString "part") p1) (Str.ofString "strip") p2) [] [] p3) Q (.ref l) s₁ := by
  refine ⟨_, _, _, fun v y => ∃ p t t', v = .str (S p) t ∧ y = .str (Txt.strip (S p)) t', Src.list hh ⟨_, hl, rfl, _, rfl⟩, ?_, ?_, ?_, ?_⟩
  · intro b hb
    rw [List.mem_singleton.mp hb]
    exact Heap.lt_size hl
  · rw [List.size_toArray, sizeLine_eq]; omega
  · intro C i v s₂ m₂ E' hP hns hm hk'
    obtain ⟨w', t, hw, rfl⟩ := strs_get hs i v (by simpa using hP)
    obtain ⟨p, hp1, rfl⟩ : ∃ p, p ∈ ps ∧ S p = w' := by
      have := List.mem_of_getElem? hw
      simpa using this
    obtain ⟨pl, he'⟩ := he C
    refine MethodCall_ (wpAny_Name (wpAny_loadName_local hk (hy C) hns hm ?_) (by decide)) he'
    refine GM.strip ?_
    walk1
    refine SC.strip (fun t' k => ⟨⟨p, t, t', rfl, rfl⟩, s₂.heap, k, rfl, fun _ _ e => e⟩) ?_
    have := hp p hp1
    rw [S_length, sizeLine_eq]; omega
  · intro D h' tk ys k vs hD hD' hlen hv hG hkk
    have hvs : vs = us := vs_eq hlen hv
    subst hvs
    exact hQ D h' tk ys k hD hD' (paired_strs hs hG) hkk
local macro_rules | `(tactic| size_fits) => `(tactic| (simp only [Mine.S_length, Mine.one_length, sizeLine_eq, List.size_toArray]; omega))
local macro_rules | `(tactic| walk_at "call builtin:list.append") => `(tactic| (refine append_own (by assumption) (by assumption) (by first | assumption | exact fun _ h => nomatch h) (by size_fits) ?_; intro _ _ _))
local macro_rules | `(tactic| walk_at "truthy str") => `(tactic| (refine SBL.truthy (by rw [S_length]; omega) ?_))
local macro_rules | `(tactic| walk_at "eval ListComp") => `(tactic| (refine halt ?_))
local macro_rules | `(tactic| walk_at "exec For") => `(tactic| (refine halt ?_))
local macro_rules | `(tactic| walk_at "exec For Name Name cons nil") => `(tactic| (refine halt ?_))
set_option maxHeartbeats 8000000 in
theorem parse_spec {w : World} {A : Around} {s : Shared} {loose : List Str} {mean : ExcName → Option Value} {mg mb : Str → Option Value} {Q : Value → Shared → Prop} {E : Value → Shared → Prop}
    {x : Str} {t : Tok} (hh : A.handled = none) (X : (Mine.hd.heap_39 w.params).In s.heap) (T : Top Mine.hd.view_39 loose mean mg mb s.heap) (hroom : A.depth < 500) (hx : x.length ≤ 1000)
    (hQ : ∀ h' tk l us n, (∀ b o, s.heap.get? b = some o → h'.get? b = some o) → s.heap.get? l = none → h'.get? l = some (listOf us.toArray n) → StrsAre us ((parseL x.cps.toList).map (fun p => Txt.strip (S p))) → Q (.ref l) { s with heap := h', toks := tk }) : wpAny (model PR w) A (call (.ref 19) [.str x t]) Q E s := by
  obtain ⟨hd0, d0, fr0, gs0, u0⟩ := A
  obtain rfl : hd0 = none := hh
  refine call_own [(Str.ofString "s", .str x t)] X T rfl (by rfl) (by simp only [recursionLimit]; have : d0 < 500 := hroom; omega) (BindsTo.of_eq rfl) (locs rfl) ?_ lookup_rev1
  intro h₁ F N
  w_on
  (try k_fold)
  k_steps
  refine unhalt ?_
  rename Fr _ _ _ _ => F1
  rename News _ _ _ _ => N1
  refine For_invVF F1 rfl rfl ?_
  refine ld F1 rfl ?_
  refine for_own (fun i m nx => PJ x.cps.toList _ i m nx) (Src.str (by rfl)) F1 N1 ⟨[], [], false, false, _, [], 0, rfl, rfl, rfl, rfl, rfl, rfl, .nil⟩ ?_ ?_
  · rintro i v m₁ nx h tk own hi ⟨c, u, hn, rfl⟩ hoff _ ⟨res, part, esc, quo, tp, us, n, hpr, hp, he, hq, hr, rfl, hs⟩ F₂ N₂
    have F3 := fr_at (fr_at (fr_at (fr_at F₂ (x := Str.ofString "res") (hr)) (x := Str.ofString "quote") (hq)) (x := Str.ofString "escape") (he)) (x := Str.ofString "part") (hp)
    have hb1 := prun_len (x.cps.toList.take i)
    rw [hpr] at hb1
    have hb2 : us.length = res.length := by have := hs.length; simpa using this
    have hb3 : x.cps.toList.length = x.length := by simp [Str.length]
    have hb4 : (x.cps.toList.take i).length ≤ x.length := by rw [List.length_take, hb3]; omega
    dsimp only at hb1
    have hne : ∀ p ∈ own, p.1 ≠ _ := hoff.ne (.head _)
    have N3 : News _ _ h ((_, listOf us.toArray n) :: own) := N₂
    clear F₂ F1 N1 hr hq he hp N₂
    (try k_fold)
    k_steps
    all_goals (simp only [beq_back, beq_quo, beq_com, decide_eq_true_eq, decide_eq_false_iff_not] at *)
    all_goals (refine pj_end hn hpr (by assumption) (by assumption) rfl rfl rfl rfl (by first | exact S_snoc _ _ | exact ofs_nil | exact (rfl : S _ = S _)) (by first | exact strs_snoc' hs | exact hs) ?_)
    all_goals (subst_vars; simp [pstep, *]; done)
  · rintro m₁ nx h tk _ ⟨res, part, esc, quo, tp, us, n, hpr, hp, he, hq, hr, rfl, hs⟩ F₂ N₂
    rw [show x.cps.toList.take x.cps.size = x.cps.toList from List.take_of_length_le (by simp)] at hpr
    have F3 := fr_at (fr_at F₂ (x := Str.ofString "res") hr) (x := Str.ofString "part") hp
    clear F₂ F1 N1 hr hp
    have hb1 := prun_len x.cps.toList
    rw [hpr] at hb1
    have hb2 : us.length = res.length := by have := hs.length; simpa using this
    have hb3 : x.cps.toList.length = x.length := by simp [Str.length]
    dsimp only at hb1
    have hb5 : ∀ p ∈ parseL x.cps.toList, p.length ≤ 100000 := by
      intro p hp
      have := parseL_len _ p hp
      omega
    (try k_fold)
    k_steps
    all_goals (refine unhalt ?_; refine comp_eval ?_)
    all_goals (rename Fr _ _ _ _ => F4; rename News _ _ _ _ => N4; refine ld F4 rfl ?_)
    · rename (¬ _) => hz
      have e : parseL x.cps.toList = res ++ [part] := by
        rw [S_length] at hz
        have : part ≠ [] := by intro e; subst e; exact hz rfl
        simp [parseL, hpr, this]
      rw [e] at hQ hb5
      refine strip_comp (ps := res ++ [part]) (by rfl) ((N4 _ (.head _)).1) (strs_snoc' hs) (by simp; omega) hb5 rfl (fun _ => rfl) (fun _ => ⟨_, rfl⟩) ?_
      intro D h' tk ys k hD hD' hys hkk
      exact hQ _ _ _ _ _ (fun b o e => hkk b o (F4.keep b o e)) (get_none_of_keeps F4.keep hD) hD' hys
    · rename (_ = (0 : Int)) => hz
      have e : parseL x.cps.toList = res := by
        rw [S_length] at hz
        have : part = [] := by cases part with | nil => rfl | cons a l => simp at hz; omega
        simp [parseL, hpr, this]
      rw [e] at hQ hb5
      refine strip_comp (ps := res) (by rfl) ((N4 _ (.head _)).1) hs (by omega) hb5 rfl (fun _ => rfl) (fun _ => ⟨_, rfl⟩) ?_
      intro D h' tk ys k hD hD' hys hkk
      exact hQ _ _ _ _ _ (fun b o e => hkk b o (F4.keep b o e)) (get_none_of_keeps F4.keep hD) hD' hys
end Mine
end
section
open PySem PySem.W PyProof.Rows PySem.Calls
set_option maxRecDepth 100000
namespace Mine
/-- the bytearray behind q words -/
def sw (d : List UInt8) (n : Nat) : Nat → List UInt8
  | 0 => List.replicate (n + n) 0
  | 1 => (d.take n).reverse ++ List.replicate n 0
  | _ => (d.take n).reverse ++ (d.drop n).reverse
theorem sw_word (d : List UInt8) (n q : Nat) (hd : d.length = n + n) (hq : q < 2) :
    ∃ P W R : List UInt8, P.length = q * n ∧ W.length = n ∧ (P.length + n + R.length = n + n) ∧ sw d n q = P ++ List.replicate n 0 ++ R ∧ sw d n (q + 1) = P ++ W.reverse ++ R ∧ ∀ j, j < n → d[q * n + j]? = W[j]? := by
  rcases (by omega : q = 0 ∨ q = 1) with rfl | rfl
  · refine ⟨[], d.take n, List.replicate n 0, by simp, by simp; omega, by simp, ?_, ?_, ?_⟩
    · simp [sw, List.replicate_append_replicate]
    · simp [sw]
    · intro j hj; simp [List.getElem?_take, hj]
  · refine ⟨(d.take n).reverse, d.drop n, [], by simp; omega, by simp; omega, by simp; omega, ?_, ?_, ?_⟩
    · simp [sw]
    · simp [sw]
    · intro j hj; simp [List.getElem?_drop]
theorem set_word (P X R : List UInt8) (m : Nat) (v : UInt8) : (P ++ List.replicate (m + 1) 0 ++ X ++ R).set (P.length + m) v = P ++ List.replicate m 0 ++ (v :: X) ++ R := by
  rw [List.replicate_succ']
  simp [List.set_append]
def J1 (d : List UInt8) (n : Nat) (t u : Tok) (l : Addr) (q : Nat) (m : Str → Option Value) (nx : List (Addr × Obj)) : Prop :=
  nx = [(l, baObj (sw d n q).toArray)] ∧ m (Str.ofString "swapped_data") = some (.ref l) ∧ m (Str.ofString "data") = some (.bytes d.toArray t) ∧ m (Str.ofString "width") = some (.int n u)
def J2 (d : List UInt8) (n : Nat) (t u t' : Tok) (l : Addr) (i : Int) (own : List (Addr × Obj)) (P W R : List UInt8) (j : Nat) (m : Str → Option Value) (nx : List (Addr × Obj)) : Prop :=
  nx = (l, baObj (P ++ List.replicate (n - j) 0 ++ (W.take j).reverse ++ R).toArray) :: own ∧ m (Str.ofString "swapped_data") = some (.ref l) ∧ m (Str.ofString "data") = some (.bytes d.toArray t) ∧ m (Str.ofString "width") = some (.int n u) ∧ m (Str.ofString "i") = some (.int i t')
theorem rs_two (n : Nat) (hn : 0 < n) : Builtin.Range.rangeSize 0 ((n + n : Nat) : Int) (n : Int) = ((2 : Nat) : Int) := by
  unfold Builtin.Range.rangeSize
  rw [if_pos (by omega), if_pos (by omega)]
  have e : (((n + n : Nat) : Int) - 0 - 1) = ((n : Int) - 1) + (n : Int) * 1 := by omega
  rw [e, Int.add_mul_ediv_left _ _ (by omega), Int.ediv_eq_zero_of_lt (by omega) (by omega)]
  rfl
theorem small_two (n : Nat) (hn : 0 < n) (hn2 : n ≤ 100000) : Builtin.Range.small 0 ((n + n : Nat) : Int) (n : Int) = true := by
  unfold Builtin.Range.small
  rw [rs_two n hn]
  simp only [Builtin.Range.rangeFitsLong, Bool.and_eq_true, Bool.or_eq_true, decide_eq_true_eq, beq_iff_eq, show ((n : Int) > 0) by omega, if_true]
  omega
theorem setItem_baN {prog : Program} {w : World} {A : Around} {E : Value → Shared → Prop} {s : Shared} {h₀ : Heap} {L l : Addr} {m : Str → Option Value} {rest : List (Addr × Obj)} {c : List UInt8} {k v : Int} {t u : Tok} {Q : Unit → Shared → Prop}
    (F : Fr h₀ L s.heap m) (N : News h₀ L s.heap ((l, baObj c.toArray) :: rest)) (hne : ∀ p ∈ rest, p.1 ≠ l) (hb : c.length ≤ 100000)
    (h0 : 0 ≤ k) (hk : k < c.length) (v0 : 0 ≤ v) (v1 : v < 256)
    (h : ∀ h', Fr h₀ L h' m → News h₀ L h' ((l, baObj (c.set k.toNat v.toNat.toUInt8).toArray) :: rest) → Q () { s with heap := h' }) :
    wpAny (model prog w) A (setItem (.ref l) (.int k t) (.int v u)) Q E s := by
  have hm := N (l, baObj c.toArray) (.head _)
  refine setItem_ba hm.1 (by simpa using hb) h0 (by simpa using hk) v0 v1 fun h' hl hs => ?_
  refine h h' (F.change hs hm.2.1 hm.2.2) ?_
  intro p hp
  rcases List.mem_cons.mp hp with rfl | hp
  · refine ⟨?_, hm.2⟩
    rw [hl]
    simp
  · have P := N p (.tail _ hp)
    exact ⟨(hs.2 p.1 (hne p hp)).trans P.1, P.2⟩
local macro_rules | `(tactic| walk_at "eval Name") => `(tactic| first
  | (refine name_B (by assumption) (by assumption) (topRead_of (by assumption)) (ns_len _) bo_len (by decide) ?_)
  | (refine name_B (by assumption) (by assumption) (topRead_of (by assumption)) (ns_range _) bo_range (by decide) ?_)
  | (refine name_B (by assumption) (by assumption) (topRead_of (by assumption)) (ns_bytearray _) bo_bytearray (by decide) ?_)
  | (refine name_B (by assumption) (by assumption) (topRead_of (by assumption)) (ns_bytes _) bo_bytes (by decide) ?_))
local macro_rules | `(tactic| walk_at "subscriptTail") => `(tactic| ((with_reducible show wpAny _ _ (subscriptTail _ _ (Value.bytes _ _) (Value.int _ _)) _ _ _); refine subscriptTail_builtin (typeIs_bytes _ _ _) FB.slot_bytes_getitem.lookup (getItem_bytes (by omega) (by omega) (by omega) ?_)))
local macro_rules | `(tactic| walk_at "exec For") => `(tactic| (refine halt ?_))
local macro_rules | `(tactic| walk_at "exec For Name Call cons nil") => `(tactic| (refine halt ?_))
local macro_rules | `(tactic| walk_at "call type:bytes") => `(tactic| (refine halt ?_))
local macro_rules | `(tactic| walk_at "setItem") => `(tactic| (refine halt ?_))
local macro_rules | `(tactic| walk_at "pyIter ref") => `(tactic| (refine halt ?_))
set_option maxHeartbeats 8000000 in
theorem swap_spec {w : World} {A : Around} {s : Shared} {loose : List Str} {mean : ExcName → Option Value} {mg mb : Str → Option Value} {Q : Value → Shared → Prop} {E : Value → Shared → Prop}
    {d : List UInt8} {n : Nat} {t u : Tok} (hh : A.handled = none) (X : (Mine.hd.heap_39 w.params).In s.heap) (T : Top Mine.hd.view_39 loose mean mg mb s.heap) (hroom : A.depth < 500) (hn : 0 < n) (hd : d.length = n + n) (hn2 : n ≤ 10000)
    (hQ : ∀ h' tk t', (∀ b o, s.heap.get? b = some o → h'.get? b = some o) → Q (.bytes ((d.take n).reverse ++ (d.drop n).reverse).toArray t') { s with heap := h', toks := tk }) : wpN (model PR w) A (call (.ref 26) [.bytes d.toArray t, .int n u]) Q E s := by
  obtain ⟨hd0, d0, fr0, gs0, u0⟩ := A
  obtain rfl : hd0 = none := hh
  refine call_ownN [(Str.ofString "data", .bytes d.toArray t), (Str.ofString "width", .int n u)] X T rfl (by rfl) (by simp only [recursionLimit]; have : d0 < 500 := hroom; omega) (BindsTo.of_eq rfl) (locs rfl) ?_ (lookup_rev2 (by decide))
  intro h₁ F N
  w_on
  refine wpN_execs_cons (wpN_Assign_Name (wpN_Call ?_))
  (try k_fold)
  k_steps
  refine wpN_callWith_type1 ?_
  (try k_fold)
  k_steps
  have hds : d.toArray.size = n + n := by simpa using hd
  rw [hds]
  refine call_bytearray (by omega) (by omega) ?_
  intro h₂ l hk₂ hl₂ ho₂
  rename Fr _ _ _ _ => Fz
  rename News _ _ _ _ => Nz
  have F2 := fr_keeps Fz hk₂
  have N2 := news_more Fz Nz hk₂ hl₂ ho₂
  clear Fz Nz
  refine stN F2 N2 ?_
  intro h₃ F3 N3
  clear F2 N2 hk₂ hl₂ ho₂
  refine .of ?_
  (try k_fold)
  k_steps
  refine unhalt ?_
  refine For_invVF F3 rfl rfl ?_
  (try k_fold)
  k_steps
  refine unhalt ?_
  rename IsRange _ _ _ _ _ _ _ _ => hr
  rename Fr _ _ _ _ => F4
  rename News _ _ _ _ => N4
  rw [hds] at hr
  refine for_own (J1 d n t u l) (Src.range (by rfl) hr (small_two n hn (by omega)) (rs_two n hn)) F4 N4 ⟨by rw [show (((n + n : Nat) : Int)).toNat = n + n by omega]; simp [sw], rfl, rfl, rfl⟩ ?_ ?_
  · rintro q v m₁ nx h tk' own hq ⟨t', rfl⟩ hoff _ ⟨rfl, m1, m2, m3⟩ F5 N5
    obtain ⟨P, W, R, hP, hW, hR, e0, e1, e2⟩ := sw_word d n q hd hq
    have hqn : (0 + (q : Int) * (n : Int)) = (P.length : Int) := by rw [hP]; simp
    rw [hqn] at F5
    have F6 := fr_at (fr_at (fr_at F5 (x := Str.ofString "width") m3) (x := Str.ofString "data") m2) (x := Str.ofString "swapped_data") m1
    rw [e0] at N5
    have N6 : News _ _ h ((l, baObj (P ++ List.replicate n 0 ++ R).toArray) :: own) := N5
    clear F5 N5 m1 m2 m3 hr F4 N4
    (try k_fold)
    k_steps
    refine unhalt ?_
    refine For_invVF F6 rfl rfl ?_
    (try k_fold)
    k_steps
    refine unhalt ?_
    rename IsRange _ _ _ _ _ _ _ _ => hr
    rename Fr _ _ _ _ => F7
    rename News _ _ _ _ => N7
    have hne : ∀ p ∈ own, p.1 ≠ l := hoff.ne (.head _)
    refine for_own (J2 d n t u t' l P.length own P W R) (Src.range (by rfl) hr (small_one (by omega) (by omega) (by omega) (by omega)) (by exact rangeSize_nat 0 n)) F7 N7 ⟨by simp, rfl, rfl, rfl, rfl⟩ ?_ ?_
    · rintro j v m₂ nx2 h'' tk'' own2 hj ⟨t2, rfl⟩ hoff2 _ ⟨rfl, m1, m2, m3, m4⟩ F8 N8
      have hj' : j < n := by omega
      have hji : (0 + (j : Int) * 1) = (j : Int) := by omega
      rw [hji] at F8
      have F9 := fr_at (fr_at (fr_at (fr_at F8 (x := Str.ofString "i") m4) (x := Str.ofString "width") m3) (x := Str.ofString "data") m2) (x := Str.ofString "swapped_data") m1
      have N9 : News _ _ h'' ((l, baObj (P ++ List.replicate (n - j) 0 ++ (W.take j).reverse ++ R).toArray) :: (own ++ own2)) := N8
      clear F8 N8 m1 m2 m3 m4 hr F7 N7
      have hdl : P.length + j < d.length := by rw [hd]; omega
      have hlen : (P ++ List.replicate (n - j) 0 ++ (W.take j).reverse ++ R).length = n + n := by
        simp; omega
      have hset : (P ++ List.replicate (n - j) 0 ++ (W.take j).reverse ++ R).set ((P.length : Int) + (n : Int) - 1 - (j : Int)).toNat (((d.getD ((P.length : Int) + (j : Int)).toNat 0).toNat : Int)).toNat.toUInt8 =
          P ++ List.replicate (n - (j + 1)) 0 ++ (W.take (j + 1)).reverse ++ R := by
        have hw : W[j]? = some (d.getD (P.length + j) 0) := by
          rw [← e2 j hj', ← hP, List.getD_eq_getElem?_getD, List.getElem?_eq_getElem hdl]
          rfl
        rw [show n - j = (n - (j + 1)) + 1 by omega, show ((P.length : Int) + (n : Int) - 1 - (j : Int)).toNat = P.length + (n - (j + 1)) by omega, set_word,
          show ((P.length : Int) + (j : Int)).toNat = P.length + j by omega, List.take_add_one, hw]
        simp
      (try k_fold)
      k_steps
      refine unhalt ?_
      have hne2 : ∀ p ∈ own ++ own2, p.1 ≠ l := by
        intro p hp
        rcases List.mem_append.mp hp with hp | hp
        · exact hne p hp
        · exact hoff2 p hp l (.head _)
      refine setItem_baN F9 N9 hne2 ?_ ?_ ?_ ?_ ?_ ?_
      · rw [hlen]; omega
      · omega
      · rw [hlen]; omega
      · omega
      · have := (d.getD ((P.length : Int) + (j : Int)).toNat 0).toNat_lt
        omega
      · intro h3 F10 N10
        rw [hset] at N10
        refine wpAny_execs_nil ?_
        refine InvEndN.intro F10 N10 (nx := (l, baObj (P ++ List.replicate (n - (j + 1)) 0 ++ (W.take (j + 1)).reverse ++ R).toArray) :: own) ⟨rfl, rfl, rfl, rfl, rfl⟩ rfl ?_ ?_
        · intro p hp
          rcases List.mem_cons.mp hp with rfl | hp
          · exact .head _
          · exact .tail _ (List.mem_append_left _ hp)
        · intro p hp
          exact .tail _ (List.mem_append_right _ hp)
    · rintro m₂ nx2 h'' tk'' _ ⟨rfl, m1, m2, m3, m4⟩ F8 N8
      have e3 : P ++ List.replicate (n - ((n : Int) - 0).toNat) 0 ++ (W.take ((n : Int) - 0).toNat).reverse ++ R = sw d n (q + 1) := by
        rw [e1, show ((n : Int) - 0).toNat = n by omega, Nat.sub_self, List.take_of_length_le (by omega)]
        simp
      rw [e3] at N8
      refine wpAny_execs_nil ?_
      refine InvEndN.intro F8 N8 (nx := [(l, baObj (sw d n (q + 1)).toArray)]) ⟨rfl, m1, m2, m3⟩ rfl ?_ ?_
      · intro p hp
        rcases List.mem_cons.mp hp with rfl | hp
        · exact .head _
        · exact nomatch hp
      · intro p hp
        exact .tail _ hp
  · rintro m₁ nx h tk' _ ⟨rfl, m1, m2, m3⟩ F5 N5
    have F6 := fr_at F5 (x := Str.ofString "swapped_data") m1
    clear F5 hr F4 N4
    (try k_fold)
    k_steps
    refine unhalt ?_
    refine call_bytes_ba (N5 _ (.head _)).1 (by simp [sw]; omega) ?_
    intro t' k
    exact hQ _ _ _ F6.keep
end Mine
end
section
open PySem PySem.W PyProof.Rows PySem.Calls
set_option maxRecDepth 100000
namespace Mine
/-- the law's text, by its place in the given program -/
def lawOf (p : Program) : List Stmt × Option Scope := match p.main.body.reverse with
  | .FunctionDef _ _ b _ _ _ sc _ _ _ :: _ => (b, some sc)
  | _ => ([], none)
def forBody (b : List Stmt) : List Stmt := match b with
  | .For _ _ b _ _ :: _ => b
  | _ => []
def lawB : List Stmt := (lawOf PR).1
def lawCs (L : Addr) : List (Str × Addr) := [(Str.ofString "drawn", L + 1)]
abbrev envL (sc : Scope) (L : Addr) : Env := envX (Str.ofString "law") sc L 31 (.ref 30) [(Str.ofString "drawn", L + 1)]
def lawEnv (L : Addr) : Env := match (lawOf PR).2 with
  | some sc => envL sc L
  | none => envL default L
def whileBody (b : List Stmt) : List Stmt := match b with
  | .While _ b _ _ :: _ => b
  | _ => []
def turnB : List Stmt := whileBody (lawB.drop 6)
theorem own_name {M : Model} {A : Around} {E : Value → Shared → Prop} {s : Shared} {env : Env} {K : Frag} {p : Program} {loose : List Str} {mean : ExcName → Option Value} {mg mb : Str → Option Value} {x : Str} {v : Value} {pos : Pos} {Q : Value → Shared → Prop} {h₀ : Heap} {L : Addr} {m : Str → Option Value}
    (X : K.In h₀) (T : Top p loose mean mg mb h₀) (F : Fr h₀ L s.heap m) (e : nsIn K mainGlobals x = some (some v)) (h : Q v s)
    (hk : env.scope.kind = .function := by rfl) (hx : env.kindOf x = some .globalImplicit := by rfl) (hg : env.globals = mainGlobals := by rfl) (hd : (x == ("__debug__" : Str)) = false := by decide) : wpAny M A (eval (.Name x pos) env) Q E s :=
  nm_own (X.keeps F.keep) (T.keeps F.keep) e h hk hx hg hd
theorem bi_name {M : Model} {A : Around} {E : Value → Shared → Prop} {s : Shared} {env : Env} {K : Frag} {p : Program} {loose : List Str} {mean : ExcName → Option Value} {mg mb : Str → Option Value} {x : Str} {v : Value} {pos : Pos} {Q : Value → Shared → Prop} {h₀ : Heap} {L : Addr} {m : Str → Option Value}
    (X : K.In h₀) (T : Top p loose mean mg mb h₀) (F : Fr h₀ L s.heap m) (e : nsIn K mainGlobals x = some none) (hv : bootBuiltins x = some v) (hn : x ≠ "__name__") (h : Q v s)
    (hk : env.scope.kind = .function := by rfl) (hx : env.kindOf x = some .globalImplicit := by rfl) (hg : env.globals = mainGlobals := by rfl) (hb : env.builtins = builtinsNs := by rfl) (hd : (x == ("__debug__" : Str)) = false := by decide) : wpAny M A (eval (.Name x pos) env) Q E s :=
  nm_builtin (X.keeps F.keep) (T.keeps F.keep) e hv hn h hk hx hg hb hd
theorem ints_of_get : ∀ {ns : List Int} {vs : List Value}, vs.length = ns.length → (∀ (j : Nat) (v : Value), vs[j]? = some v → ∃ n t, ns[j]? = some n ∧ v = .int n t) → IntsAre vs ns := by
  intro ns
  induction ns with
  | nil => intro vs h _; rw [List.length_eq_zero_iff.mp h]; exact .nil
  | cons a ns ih =>
    intro vs h hv
    cases vs with
    | nil => simp at h
    | cons v vs =>
      obtain ⟨n, t, e, rfl⟩ := hv 0 v rfl
      have : a = n := by simpa using e
      subst this
      exact .cons _ _ (ih (by simpa using h) fun j v e => hv (j + 1) v (by simpa using e))
theorem strs_of_get : ∀ {ns : List Str} {vs : List Value}, vs.length = ns.length → (∀ (j : Nat) (v : Value), vs[j]? = some v → ∃ n t, ns[j]? = some n ∧ v = .str n t) → StrsAre vs ns := by
  intro ns
  induction ns with
  | nil => intro vs h _; rw [List.length_eq_zero_iff.mp h]; exact .nil
  | cons a ns ih =>
    intro vs h hv
    cases vs with
    | nil => simp at h
    | cons v vs =>
      obtain ⟨n, t, e, rfl⟩ := hv 0 v rfl
      have : a = n := by simpa using e
      subst this
      exact .cons _ _ (ih (by simpa using h) fun j v e => hv (j + 1) v (by simpa using e))
theorem paired_ord' {x : List Nat} {vs ys : List Value} (h : Paired (fun v y => ∃ (c : Nat) (t t' : Tok), v = .str ⟨#[c]⟩ t ∧ y = .int (c : Int) t') vs ys) (h1 : vs.length = x.length)
    (h2 : ∀ (j : Nat) (v : Value), vs[j]? = some v → ∃ c u, x[j]? = some c ∧ v = .str ⟨#[c]⟩ u) : IntsAre ys (x.map fun c : Nat => (c : Int)) := by
  induction h generalizing x with
  | nil => cases x with
    | nil => exact .nil
    | cons _ _ => simp at h1
  | cons a _ ih => cases x with
    | nil => simp at h1
    | cons c x =>
      obtain ⟨c1, t, t', rfl, rfl⟩ := a
      obtain ⟨c2, u, e1, e2⟩ := h2 0 _ rfl
      have e1 : c = c2 := by simpa using e1
      have e2 : c1 = c2 := by have e3 : c1 = c2 ∧ t = u := by simpa using e2
                              exact e3.1
      subst e1 e2
      exact .cons _ _ (ih (by simpa using h1) fun j v e => by have := h2 (j + 1) v (by simpa using e); simpa using this)
theorem paired_ord {x : List Nat} {vs ys : List Value} (h1 : vs.length = (S x).cps.size) (h2 : ∀ (j : Nat) (v : Value), vs[j]? = some v → SignAt (S x) j v)
    (h : Paired (fun v y => ∃ (c : Nat) (t t' : Tok), v = .str ⟨#[c]⟩ t ∧ y = .int (c : Int) t') vs ys) : IntsAre ys (x.map fun c : Nat => (c : Int)) :=
  paired_ord' h (by rw [h1]; simp [S]) fun j v e => by
    obtain ⟨c, u, e1, e2⟩ := h2 j v e
    exact ⟨c, u, by simpa [S] using e1, e2⟩
theorem paired_chr {b : List Nat} {vs ys : List Value} (hi : IntsAre vs (b.map fun c : Nat => (c : Int)))
    (h : Paired (fun v y => ∃ n t t', v = .int n t ∧ y = .str (S [n.toNat]) t') vs ys) : StrsAre ys ((b.map fun c => [c]).map S) := by
  have := paired_ints (f := fun n => [n.toNat]) hi h
  simpa [List.map_map, Function.comp_def] using this
theorem joinS_chars : ∀ b : List Nat, joinS [] (b.map fun c => [c]) = b
  | [] => rfl
  | [_] => rfl
  | a :: b :: r => by
    have := joinS_chars (b :: r)
    simp only [List.map_cons] at this ⊢
    rw [joinS, this]; rfl
/-- octets as bytes, and back -/
def B8 (x : List Nat) : List UInt8 := x.map fun c => c.toUInt8
theorem byteArr_B8 (x : List Nat) : byteArr (x.map fun c : Nat => (c : Int)) = (B8 x).toArray := by
  simp [byteArr, B8, List.map_map, Function.comp_def]
theorem toNat_B8 {c : Nat} (h : c < 256) : c.toUInt8.toNat = c := by
  simp [Nat.toUInt8, UInt8.toNat_ofNat']; omega
theorem B8_back {x : List Nat} (h : ∀ c ∈ x, c < 256) : (B8 x).map (fun c => (c.toNat : Int)) = x.map fun c : Nat => (c : Int) := by
  unfold B8
  rw [List.map_map]
  exact List.map_congr_left fun c hc => by simp only [Function.comp]; rw [toNat_B8 (h c hc)]
theorem B8_append (a b : List Nat) : B8 (a ++ b) = B8 a ++ B8 b := List.map_append
theorem B8_length (a : List Nat) : (B8 a).length = a.length := by simp [B8]
theorem swap_two (x : List Nat) : ((B8 (x ++ x.reverse)).take x.length).reverse ++ ((B8 (x ++ x.reverse)).drop x.length).reverse = B8 (x.reverse ++ x) := by
  rw [B8_append, List.take_left' (B8_length x), List.drop_left' (B8_length x), B8_append]
  simp [B8]
theorem callWith_ownN {M : Model} {A : Around} {E : Value → Shared → Prop} {s : Shared} {env : Env} {K : Frag} {pos : Pos} {a : Addr} {oc : Value} {od : Option Addr} {osl : Array (Option Value)} {fd : FuncData} {e : Expr} {rest : List Expr} {Q : Value → Shared → Prop}
    (hk : K.lookup a = some ⟨oc, od, .func fd, osl⟩)
    (h : wpAny M A (spliced (backTo pos (starEach (e :: rest) env))) (fun vs s₁ => Halt (K.In s₁.heap ∧ wpN M A (call (.ref a) vs) Q E s₁)) E s) (hlen : (backTo pos (starEach (e :: rest) env)).length ≤ 30)
    (he : starEach (e :: rest) env = (false, eval e env) :: starEach rest env := by rfl)
    (hplain : (backTo pos (starEach rest env)).any (·.1) = false := by rfl) :
    wpN M A (callWith pos (.ref a) [] (backTo pos (starEach (e :: rest) env)) []) Q E s :=
  wpN_callWith_fn1 (fd := fd) (wpAny_mono h (fun _ _ h => ⟨⟨_, h.1 _ _ hk, rfl⟩, h.2⟩) fun _ _ x => x) he hplain hlen
theorem callWith_ownA {M : Model} {A : Around} {E : Value → Shared → Prop} {s : Shared} {env : Env} {K : Frag} {pos : Pos} {f : Value} {h₀ : Heap} {e : Expr} {rest : List Expr} {Q : Value → Shared → Prop}
    (X : K.In h₀) (hk : keepIn K f = true)
    (h : wpAny M A (spliced (backTo pos (starEach (e :: rest) env))) (fun vs s₁ => Halt (K.In s₁.heap ∧ wpAny M A (call f vs) Q E s₁)) E s)
    (he : starEach (e :: rest) env = (false, eval e env) :: starEach rest env := by rfl)
    (hplain : (backTo pos (starEach rest env)).any (·.1) = false := by rfl) :
    wpAny M A (callWith pos f [] (backTo pos (starEach (e :: rest) env)) []) Q E s :=
  callWith_K X hk h he hplain
theorem isi_bytes {prog : Program} {w : World} {A : Around} {E : Value → Shared → Prop} {s : Shared} {b : Array UInt8} {u : Tok} {Q : Value → Shared → Prop} (h : Q (.bool true) s) : wpAny (model prog w) A (call (.builtin "isinstance") [.bytes b u, .type "bytes"]) Q E s :=
  call_isinstance (isinstance_true (Tx := "bytes") F.isi_meta_bytes F.sub_bytes_bytes) ⟨rfl, h⟩
theorem add_S {prog : Program} {w : World} {A : Around} {E : Value → Shared → Prop} {s : Shared} {a b : List Nat} {t u : Tok} {Q : Value → Shared → Prop} (hz : a.length + b.length ≤ 100000) (h : ∀ t' k, Q (.str (S (a ++ b)) t') { s with toks := k }) :
    wpAny (model prog w) A (binaryOp .Add (.str (S a) t) (.str (S b) u)) Q E s :=
  SB.add (fun t' k => by rw [S_append]; exact h t' k) (by rw [S_length, S_length, sizeLine_eq]; omega)
end Mine
end
section
open PySem PySem.W PyProof.Rows PySem.Calls
set_option maxRecDepth 100000
namespace Mine
local macro_rules | `(tactic| walk_at "eval Name") => `(tactic| first
  | (refine nm_local (by assumption) (by assumption) ?_)
  | (refine nm_builtin (by assumption) (by assumption) (ns_ord _) bo_ord (by decide) ?_)
  | (refine nm_builtin (by assumption) (by assumption) (ns_chr _) bo_chr (by decide) ?_)
  | (refine own_name (by assumption) (by assumption) (by assumption) (ns_parse _) ?_)
  | (refine own_name (by assumption) (by assumption) (by assumption) (ns_swap _) ?_)
  | (refine bi_name (by assumption) (by assumption) (by assumption) (ns_len _) bo_len (by decide) ?_)
  | (refine bi_name (by assumption) (by assumption) (by assumption) (ns_bytes _) bo_bytes (by decide) ?_)
  | (refine bi_name (by assumption) (by assumption) (by assumption) (ns_isinstance _) bo_isinstance (by decide) ?_))
local macro_rules | `(tactic| walk_at "callWith ref") => `(tactic| (refine halt ?_))
local macro_rules | `(tactic| walk_at "call builtin:str.join") => `(tactic| (refine halt ?_))
local macro_rules | `(tactic| walk_at "call builtin:ord") => `(tactic| (refine ord_of_char ?_))
local macro_rules | `(tactic| walk_at "compareOp NotEq bytes bytes") => `(tactic| (refine halt ?_))
local macro_rules | `(tactic| walk_at "subscriptTail") => `(tactic| (refine halt ?_))
local macro_rules | `(tactic| walk_at "eval ListComp") => `(tactic| (refine halt ?_))
local macro_rules | `(tactic| walk_at "call type:bytes") => `(tactic| (refine halt ?_))
local macro_rules | `(tactic| walk_at "call builtin:isinstance") => `(tactic| (refine isi_bytes ?_))
local macro_rules | `(tactic| walk_at "binaryOp Add str str") => `(tactic| (refine add_S (by simp only [List.length_reverse, List.length_drop]; omega) ?_; intro _ _))
set_option maxHeartbeats 8000000 in
theorem turn2_spec {w : World} {A : Around} {s : Shared} {loose : List Str} {mean : ExcName → Option Value} {mg mb : Str → Option Value} {Q : Flow → Shared → Prop} {E : Value → Shared → Prop}
    {h₀ : Heap} {L D : Addr} {m : Str → Option Value} {news : List (Addr × Obj)} {H x : List Nat} {ys : List Value} {n k : Nat} {th tc : Tok}
    (hh : A.handled = none) (X : (Mine.hd.heap_39 w.params).In h₀) (T : Top Mine.hd.view_39 loose mean mg mb h₀) (hroom : A.depth < 450)
    (F : Fr h₀ L s.heap m) (N : News h₀ L s.heap ((D, W.listOf ys.toArray k) :: news)) (mh : m (Str.ofString "header") = some (.str (S H) th)) (mt : m (Str.ofString "turned") = some (.bytes (B8 (x.reverse ++ x)).toArray tc)) (mo : m (Str.ofString "octets") = some (.ref D))
    (hys : IntsAre ys (x.map fun c : Nat => (c : Int))) (hbx : ∀ c ∈ x, c < 256) (hxl : x.length = n)
    (hH : H.length ≤ 200) (hn2 : n ≤ H.length)
    (hQ : ∀ h' tk m' t', Fr h₀ L h' m' → News h₀ L h' news → m' (Str.ofString "header") = some (.str (S (x.reverse ++ H.drop n)) t') → (∀ y, y ≠ Str.ofString "header" → m' y = m y) →
      Q .next { s with heap := h', toks := tk }) :
    wpN (model PR w) A (execs (turnB.drop 4) (lawEnv L)) Q E s := by
  obtain ⟨hd0, d0, fr0, gs0, u0⟩ := A
  obtain rfl : hd0 = none := hh
  conv => arg 3; arg 1; whnf
  show wpN _ _ (execs _ (envX (Str.ofString "law") _ L 31 (.ref 30) [(Str.ofString "drawn", L + 1)])) _ _ _
  have F1 := fr_at (fr_at (fr_at F (x := Str.ofString "header") mh) (x := Str.ofString "turned") mt) (x := Str.ofString "octets") mo
  have hm1 : ∀ y, (if y = Str.ofString "octets" then some (Value.ref D) else if y = Str.ofString "turned" then some (.bytes (B8 (x.reverse ++ x)).toArray tc) else if y = Str.ofString "header" then some (.str (S H) th) else m y) = m y := by
    intro y
    split
    · next h => rw [h, mo]
    · split
      · next h => rw [h, mt]
      · split
        · next h => rw [h, mh]
        · rfl
  have hdrop : (B8 (x.reverse ++ x)).drop n = B8 x := by rw [B8_append, List.drop_left' (by rw [B8_length, List.length_reverse, hxl])]
  have htake : (B8 (x.reverse ++ x)).take n = B8 x.reverse := by rw [B8_append, List.take_left' (by rw [B8_length, List.length_reverse, hxl])]
  have hml : (x.map fun c : Nat => (c : Int)).length = n := by rw [List.length_map, hxl]
  clear F
  refine wpN_execs_leaf ?_
  (try k_fold)
  k_steps
  refine unhalt ?_
  rename Fr _ _ _ _ => F2
  rename News _ _ _ _ => N2
  rw [hml]
  refine sl_bytesFrom F2 N2 (by rw [B8_length]; simp; omega) ?_
  intro h₃ t₃ k₃ F3 N3
  rw [hdrop]
  k_steps
  refine unhalt ?_
  refine call_bytes_ints ⟨_, (N3 _ (.head _)).1, rfl, _, rfl⟩ hys ?_ ?_ rfl ?_
  · intro c hc
    obtain ⟨d, hd, rfl⟩ := List.mem_map.mp hc
    have := hbx d hd
    omega
  · rw [hys.length, sizeLine_eq, hml]; omega
  intro h₄ t₄ tk₄ hk₄
  have F4 := fr_keeps F3 hk₄
  have N4 := news_keeps N3 hk₄
  clear hk₄ F3 N3 F2 N2
  rw [byteArr_B8]
  k_steps
  refine unhalt ?_
  refine ne_bytes ?_
  rw [show ((B8 x).toArray.toList != (B8 x).toArray.toList) = false by simp]
  k_steps
  refine .of ?_
  k_steps
  refine unhalt ?_
  refine comp_eval ?_
  k_steps
  refine unhalt ?_
  rename Fr _ _ _ _ => F5
  rename News _ _ _ _ => N5
  rw [hml]
  refine sl_bytesTo F5 N5 (by rw [B8_length]; simp; omega) ?_
  intro h₆ t₆ k₆ F6 N6
  rw [htake]
  clear F5 N5
  refine ⟨_, _, _, fun v y => ∃ n t t', v = .int n t ∧ y = .str (S [n.toNat]) t', Src.bytes (by rfl), (by intro b hb; exact nomatch hb), ?_, ?_, ?_⟩
  · rw [sizeLine_eq, List.size_toArray, B8_length, List.length_reverse]; omega
  · intro C i v s₂ m₂ E' hP hns hm hk
    obtain ⟨c', u', -, rfl⟩ := hP
    have X2 : (Mine.hd.heap_39 w.params).In s₂.heap := X.keeps fun b o e => hk b o (F6.keep b o e)
    have T2 := T.keeps fun b o e => hk b o (F6.keep b o e)
    have hc' := c'.toNat_lt
    clear F6 N6
    refine wpAny_mono (Q := fun y s₃ => Halt (_ ∧ _)) ?_ (fun _ _ h => h) (fun _ _ h => h)
    (try k_fold)
    k_steps
    exact unhalt ⟨⟨_, u', _, rfl, rfl⟩, _, _, rfl, fun b o e => e⟩
  · intro D' h₇ tk₇ zs k₇ vs hD hD' hvl hv hG hkk
    have F7 := fr_keeps F6 hkk
    have N7 := news_more F6 N6 hkk hD hD'
    have hvi : IntsAre vs (x.reverse.map fun c : Nat => (c : Int)) := by
      rw [← B8_back (x := x.reverse) (fun c hc => hbx c (List.mem_reverse.mp hc))]
      refine ints_of_get (by rw [hvl]; simp) fun j v e => ?_
      obtain ⟨c, u, e1, rfl⟩ := hv j v e
      exact ⟨_, u, by rw [List.getElem?_map, show (B8 x.reverse)[j]? = some c by simpa using e1]; rfl, rfl⟩
    have hzs := paired_chr hvi hG
    clear F6 N6 hkk hD hD' hvl hv hG
    k_steps
    refine unhalt ?_
    rw [ofs_nil]
    refine join_own 1 (N7 _ (.head _)).1 hzs (by simp) (by simp) (by simp; omega) ?_
    intro t₈ tk₈
    rw [joinS_chars]
    k_steps
    refine unhalt ?_
    rename Fr _ _ _ _ => F9
    rename News _ _ _ _ => N9
    rw [hml]
    refine sl_str F9 N9 (by omega) hn2 ?_
    intro h₁₀ t₁₀ k₁₀ F10 N10
    clear F9 N9
    k_steps
    rename Fr _ _ _ _ => F11
    rename News _ _ _ _ => N11
    refine hQ _ _ _ _ F11 (fun p hp => N11 p (.tail _ (.tail _ hp))) rfl ?_
    intro y hy
    show (if y = Str.ofString "header" then _ else _) = _
    rw [if_neg hy]
    exact hm1 y
end Mine
end
section
open PySem PySem.W PyProof.Rows PySem.Calls
set_option maxRecDepth 100000
namespace Mine
local macro_rules | `(tactic| walk_at "eval Name") => `(tactic| first
  | (refine nm_local (by assumption) (by assumption) ?_)
  | (refine nm_builtin (by assumption) (by assumption) (ns_ord _) bo_ord (by decide) ?_)
  | (refine nm_builtin (by assumption) (by assumption) (ns_chr _) bo_chr (by decide) ?_)
  | (refine own_name (by assumption) (by assumption) (by assumption) (ns_parse _) ?_)
  | (refine own_name (by assumption) (by assumption) (by assumption) (ns_swap _) ?_)
  | (refine bi_name (by assumption) (by assumption) (by assumption) (ns_len _) bo_len (by decide) ?_)
  | (refine bi_name (by assumption) (by assumption) (by assumption) (ns_bytes _) bo_bytes (by decide) ?_)
  | (refine bi_name (by assumption) (by assumption) (by assumption) (ns_isinstance _) bo_isinstance (by decide) ?_))
local macro_rules | `(tactic| walk_at "callWith ref") => `(tactic| (refine halt ?_))
local macro_rules | `(tactic| walk_at "call builtin:str.join") => `(tactic| (refine halt ?_))
local macro_rules | `(tactic| walk_at "call builtin:ord") => `(tactic| (refine ord_of_char ?_))
local macro_rules | `(tactic| walk_at "call type:bytes") => `(tactic| (refine halt ?_))
local macro_rules | `(tactic| walk_at "call builtin:isinstance") => `(tactic| (refine isi_bytes ?_))
set_option maxHeartbeats 8000000 in
theorem turn1_spec {w : World} {A : Around} {s : Shared} {loose : List Str} {mean : ExcName → Option Value} {mg mb : Str → Option Value} {Q : Flow → Shared → Prop} {E : Value → Shared → Prop}
    {h₀ : Heap} {L D : Addr} {m : Str → Option Value} {news : List (Addr × Obj)} {H : List Nat} {ys : List Value} {n k₅ : Nat} {th : Tok}
    (hh : A.handled = none) (X : (Mine.hd.heap_39 w.params).In h₀) (T : Top Mine.hd.view_39 loose mean mg mb h₀) (hroom : A.depth < 450)
    (F : Fr h₀ L s.heap m) (N6 : News h₀ L s.heap ((D, W.listOf ys.toArray k₅) :: news)) (mh : m (Str.ofString "header") = some (.str (S H) th)) (mo : m (Str.ofString "octets") = some (.ref D))
    (hys : IntsAre ys ((H.take n).map fun c : Nat => (c : Int)))
    (hH : H.length ≤ 200) (hb : ∀ o ∈ H, o < 256) (hn : 0 < n) (hn2 : n ≤ H.length)
    (hQ : ∀ h' tk m' t', Fr h₀ L h' m' → News h₀ L h' news → m' (Str.ofString "header") = some (.str (S ((H.take n).reverse ++ H.drop n)) t') → (∀ y, y ≠ Str.ofString "header" → y ≠ Str.ofString "turned" → m' y = m y) →
      Q .next { s with heap := h', toks := tk }) :
    wpN (model PR w) A (execs (turnB.drop 3) (lawEnv L)) Q E s := by
  obtain ⟨hd0, d0, fr0, gs0, u0⟩ := A
  obtain rfl : hd0 = none := hh
  conv => arg 3; arg 1; whnf
  show wpN _ _ (execs _ (envX (Str.ofString "law") _ L 31 (.ref 30) [(Str.ofString "drawn", L + 1)])) _ _ _
  have F1 := fr_at (fr_at F (x := Str.ofString "octets") mo) (x := Str.ofString "header") mh
  clear F
  refine wpN_execs_cons (wpN_Assign_Name (wpN_Call ?_))
  (try k_fold)
  k_steps
  refine callWith_ownN (K := Mine.hd.heap_39 w.params) (by rfl) ?_ (by show (2 : Nat) ≤ 30; decide)
  (try k_fold)
  k_steps
  refine unhalt ?_
  rename Fr _ _ _ _ => F6
  rename News _ _ _ _ => N7
  rename IntsAre _ (_ ++ _) => hI7
  have hbx : ∀ c ∈ H.take n, c < 256 := fun c hc => hb c (List.mem_of_mem_take hc)
  have hxl : (H.take n).length = n := by rw [List.length_take]; omega
  have hcat : (H.take n).map (fun c : Nat => (c : Int)) ++ ((H.take n).map fun c : Nat => (c : Int)).reverse = (H.take n ++ (H.take n).reverse).map fun c : Nat => (c : Int) := by simp
  refine call_bytes_ints (ns := (H.take n ++ (H.take n).reverse).map fun c : Nat => (c : Int)) ⟨_, (N7 _ (.head _)).1, rfl, _, rfl⟩ (by rw [← hcat]; exact hI7) ?_ ?_ rfl ?_
  · intro c hc
    obtain ⟨d, hd, rfl⟩ := List.mem_map.mp hc
    have : d < 256 := by
      rcases List.mem_append.mp hd with h | h
      · exact hbx d h
      · exact hbx d (List.mem_reverse.mp h)
    omega
  · rw [hI7.length, sizeLine_eq]
    simp only [List.length_append, List.length_map, List.length_reverse, hxl]
    omega
  · intro h₇ t₇ tk₇ hk₇
    have F7 := fr_keeps F6 hk₇
    have N8 := news_keeps N7 hk₇
    clear hk₇ F6 N7
    rw [byteArr_B8]
    k_steps
    have hml : ((H.take n).map fun c : Nat => (c : Int)).length = n := by rw [List.length_map, hxl]
    refine unhalt ⟨X.keeps F7.keep, ?_⟩
    rw [hml]
    refine swap_spec rfl (X.keeps F7.keep) (T.keeps F7.keep) (by show d0 < 500; have : d0 < 450 := hroom; omega) hn (by rw [B8_length, List.length_append, List.length_reverse, hxl]) (by omega) ?_
    intro h₈ tk₈ t₈ hk₈
    have e8 := swap_two (H.take n)
    rw [hxl] at e8
    rw [e8]
    have F8 := fr_keeps F7 hk₈
    have N9 : News h₀ L h₈ ((D, W.listOf ys.toArray k₅) :: news) := news_keeps (fun p hp => N8 p (.tail _ (.tail _ hp))) hk₈
    clear hk₈ F7 N8 e8 hI7
    k_steps
    rename Fr _ _ _ _ => F9
    rename News _ _ _ _ => N10
    show wpN _ _ (execs (turnB.drop 4) (lawEnv L)) _ _ _
    refine turn2_spec rfl X T hroom F9 N10 rfl rfl rfl hys hbx hxl hH hn2 ?_
    intro h' tk m' t' F' N' hm' hy'
    refine hQ h' tk m' t' F' N' hm' ?_
    intro y h1 h2
    rw [hy' y h1]
    show (if y = Str.ofString "turned" then _ else if y = Str.ofString "header" then _ else if y = Str.ofString "octets" then _ else _) = _
    rw [if_neg h2, if_neg h1]
    split
    · next h => rw [h, mo]
    · rfl
end Mine
end
section
open PySem PySem.W PyProof.Rows PySem.Calls PyProof.V PySem.Spec
set_option maxRecDepth 100000
namespace Mine
theorem it_last {prog : Program} {w : World} {A : Around} {E : Value → Shared → Prop} {s : Shared} {l : Addr} {vs : List Value} {v : Value} {value slice : Expr} {u : Tok} {Q : Value → Shared → Prop}
    (hl : s.heap.IsList l (vs ++ [v]).toArray) (h : Q v s)
    (hs : subscripted slice false (.ref l) (.int (-1) u) = operate [.ref l, .int (-1) u] (getItem (.ref l) (.int (-1) u)) := by with_unfolding_all rfl) :
    wpAny (model prog w) A (subscriptTail value slice (.ref l) (.int (-1) u)) Q E s := by
  refine kba_turn (value' := .Name (Str.ofString "a") ⟨0, 0, 0, 0⟩) (fun _ => rfl) (tail_any hl.typeIs slot_list_getitem.lookup (wpAny_getItem_list_neg hl (by decide) ?_ (by decide) ?_ h) hs)
  · rw [List.size_toArray, List.length_append, List.length_singleton]; omega
  · rw [List.size_toArray, List.length_append, List.length_singleton, show (-1 + ((vs.length + 1 : Nat) : Int)).toNat = vs.length by omega]
    simp
theorem len_S {prog : Program} {w : World} {A : Around} {E : Value → Shared → Prop} {s : Shared} {x : List Nat} {n : Nat} {t : Tok} {Q : Value → Shared → Prop} (e : x.length = n) (hn : n ≤ 100000) (h : ∀ t' k, Q (.int (n : Int) t') { s with toks := k }) :
    wpAny (model prog w) A (call (.builtin "len") [.str (S x) t]) Q E s := by
  refine SBL.len (by rw [S_length]; omega) ?_
  rw [S_length, e]
  exact h _ _
theorem sl_takeX {prog : Program} {w : World} {A : Around} {E : Value → Shared → Prop} {s : Shared} {hp h₀ : Heap} {kk : Nat} {L l : Addr} {m : Str → Option Value} {news : List (Addr × Obj)} {value slice : Expr} {vs : List Value} {Q : Value → Shared → Prop} {y : Nat} {ty : Tok} (F : Fr h₀ L hp m) (N : News h₀ L hp news) (hl : hp.IsList l vs.toArray) (hz : vs.length ≤ 100000)
    (h : ∀ D h', Fr h₀ L h' m → News h₀ L h' ((D, W.listOf (vs.take y).toArray 0) :: news) → (∀ p ∈ news, p.1 ≠ D) → Q (.ref D) ⟨h', s.gens, s.drawn, kk, s.os⟩)
    (hs : subscripted slice false (.ref l) (.ref hp.objs.size) = operate [.ref hp.objs.size, .ref l] (getItem (.ref l) (.ref hp.objs.size)) := by with_unfolding_all rfl) :
    wpAny (model prog w) A (subscriptTail value slice (.ref l) (.ref hp.objs.size)) Q E ⟨hp.push { cls := .type "slice", data := .fields #[.none, .int (y : Int) ty, .none] }, s.gens, s.drawn, kk, s.os⟩ :=
  sl_take (s := ⟨hp, s.gens, s.drawn, kk, s.os⟩) F N hl hz h hs
/-- an item of a list of texts, by a natural index -/
theorem it_strN {prog : Program} {w : World} {A : Around} {E : Value → Shared → Prop} {s : Shared} {l : Addr} {us : List Value} {ps : List (List Nat)} {value slice : Expr} {i : Nat} {u : Tok} {Q : Value → Shared → Prop}
    (hl : s.heap.IsList l us.toArray) (hs : StrsAre us (ps.map S)) (h1 : i < ps.length) (h2 : ps.length ≤ 1000) (h : ∀ t, Q (.str (S (ps.getD i [])) t) s)
    (hs' : subscripted slice false (.ref l) (.int (i : Int) u) = operate [.ref l, .int (i : Int) u] (getItem (.ref l) (.int (i : Int) u)) := by with_unfolding_all rfl) :
    wpAny (model prog w) A (subscriptTail value slice (.ref l) (.int (i : Int) u)) Q E s := by
  have hk : us[i]? = some (us[i]'(by rw [hs.length, List.length_map]; omega)) := List.getElem?_eq_getElem _
  obtain ⟨x, t, e, hv⟩ := strs_get hs _ _ hk
  have ex : x = S (ps.getD i []) := by
    rw [List.getElem?_map] at e
    cases hp : ps[i]? with
    | none => rw [hp] at e; cases e
    | some p => rw [hp] at e; rw [List.getD_eq_getElem?_getD, hp]; exact (Option.some.inj e).symm
  rw [hv] at hk
  subst ex
  exact it_list hl hk (by omega) (h t) hs'
local macro_rules | `(tactic| walk_at "eval Name") => `(tactic| first
  | (refine nm_local (by assumption) (by assumption) ?_)
  | (refine nm_builtin (by assumption) (by assumption) (ns_ord _) bo_ord (by decide) ?_)
  | (refine nm_builtin (by assumption) (by assumption) (ns_chr _) bo_chr (by decide) ?_)
  | (refine own_name (by assumption) (by assumption) (by assumption) (ns_parse _) ?_)
  | (refine own_name (by assumption) (by assumption) (by assumption) (ns_swap _) ?_)
  | (refine bi_name (by assumption) (by assumption) (by assumption) (ns_len _) bo_len (by decide) ?_)
  | (refine bi_name (by assumption) (by assumption) (by assumption) (ns_bytes _) bo_bytes (by decide) ?_)
  | (refine bi_name (by assumption) (by assumption) (by assumption) (ns_isinstance _) bo_isinstance (by decide) ?_))
local macro_rules | `(tactic| walk_at "callWith ref") => `(tactic| (refine halt ?_))
local macro_rules | `(tactic| walk_at "call builtin:str.join") => `(tactic| (refine halt ?_))
local macro_rules | `(tactic| walk_at "call builtin:list.append") => `(tactic| (refine halt ?_))
local macro_rules | `(tactic| walk_at "call builtin:ord") => `(tactic| (refine ord_of_char ?_))
local macro_rules | `(tactic| walk_at "call type:bytes") => `(tactic| (refine halt ?_))
local macro_rules | `(tactic| walk_at "call builtin:isinstance") => `(tactic| (refine isi_bytes ?_))
local macro_rules | `(tactic| walk_at "subscriptTail") => `(tactic| (refine halt ?_))
local macro_rules | `(tactic| walk_at "subscriptTail Name UnaryOp ref int") => `(tactic| (refine halt ?_))
local macro_rules | `(tactic| walk_at "subscriptTail Subscript Constant ref int") => `(tactic| (refine halt ?_))
theorem news_swap {h₀ h : Heap} {L : Addr} {p q : Addr × Obj} {r : List (Addr × Obj)} (N : News h₀ L h (p :: q :: r)) : News h₀ L h (q :: p :: r) := fun x hx => N x (by
  rcases List.mem_cons.mp hx with rfl | hx
  · exact .tail _ (.head _)
  rcases List.mem_cons.mp hx with rfl | hx
  · exact .head _
  · exact .tail _ (.tail _ hx))
set_option maxHeartbeats 8000000 in
theorem turn_spec {w : World} {A : Around} {s : Shared} {loose : List Str} {mean : ExcName → Option Value} {mg mb : Str → Option Value} {Q : Flow → Shared → Prop} {E : Value → Shared → Prop}
    {h₀ : Heap} {L R Fi : Addr} {m : Str → Option Value} {news : List (Addr × Obj)} {rs fs : List Value} {nr nf : Nat} {H : List Nat} {ps : List (List Nat)} {c n : Nat} {th : Tok} {firsts : List Int}
    (hh : A.handled = none) (X : (Mine.hd.heap_39 w.params).In h₀) (T : Top Mine.hd.view_39 loose mean mg mb h₀) (hroom : A.depth < 450)
    (F : Fr h₀ L s.heap m) (N : News h₀ L s.heap ((R, W.listOf rs.toArray nr) :: (Fi, W.listOf fs.toArray nf) :: news)) (hRF : R ≠ Fi) (hR : ∀ p ∈ news, p.1 ≠ R) (hF : ∀ p ∈ news, p.1 ≠ Fi) (hrl : rs.length ≤ 100) (hfl : fs.length ≤ 100) (hfs : IntsAre fs firsts)
    (mh : m (Str.ofString "header") = some (.str (S H) th)) (mr : m (Str.ofString "read") = some (.ref R)) (mf : m (Str.ofString "firsts") = some (.ref Fi))
    (hH : H.length ≤ 200) (hb : ∀ o ∈ H, o < 256) (hps : (parseL H).map (fun p => Txt.strip (S p)) = ps.map S) (hp0 : 0 < ps.length) (hc0 : (ps.getD 0 []).length = c + 1) (hpl : ps.length ≤ 100) (hpk : ∀ p ∈ ps, p.length ≤ 100) (hn : 0 < n) (hn2 : n ≤ H.length) (hf : joinS [44] (ps.take c) = H.take n)
    (hQ : ∀ h' tk m' t' l us k nr' nf' (tf : Tok), Fr h₀ L h' m' → News h₀ L h' ((R, W.listOf (rs ++ [Value.ref l]).toArray nr') :: (Fi, W.listOf (fs ++ [Value.int (c : Int) tf]).toArray nf') :: (l, W.listOf us.toArray k) :: news) → l ≠ R → l ≠ Fi → StrsAre us (ps.map S) →
      m' (Str.ofString "header") = some (.str (S ((H.take n).reverse ++ H.drop n)) t') → (∀ y, y ≠ Str.ofString "header" → y ≠ Str.ofString "octets" → y ≠ Str.ofString "turned" → m' y = m y) →
      Q .next { s with heap := h', toks := tk }) :
    wpN (model PR w) A (execs turnB (lawEnv L)) Q E s := by
  obtain ⟨hd0, d0, fr0, gs0, u0⟩ := A
  obtain rfl : hd0 = none := hh
  conv => arg 3; arg 1; whnf
  show wpN _ _ (execs _ (envX (Str.ofString "law") _ L 31 (.ref 30) [(Str.ofString "drawn", L + 1)])) _ _ _
  have hc100 : c ≤ 100 := by
    have e : ps.getD 0 [] = ps[0] := by rw [List.getD_eq_getElem?_getD, List.getElem?_eq_getElem hp0]; rfl
    have := hpk _ (List.getElem_mem hp0)
    rw [← e] at this
    omega
  have F1 := fr_at (fr_at (fr_at F (x := Str.ofString "firsts") mf) (x := Str.ofString "read") mr) (x := Str.ofString "header") mh
  clear F
  refine wpN_execs_leaf ?_
  (try k_fold)
  k_steps
  refine unhalt ?_
  refine callWith_ownA X (by rfl) ?_
  k_steps
  refine unhalt ⟨X.keeps F1.keep, ?_⟩
  refine parse_spec rfl (X.keeps F1.keep) (T.keeps F1.keep) (by show d0 < 500; have : d0 < 450 := hroom; omega) (by rw [S_length]; omega) ?_
  intro h₂ tk₂ l us k hk₂ hl₂ ho₂ hs₂
  rw [show (S H).cps.toList = H from rfl, hps] at hs₂
  have F2 := fr_keeps F1 hk₂
  have hlne := news_lt N hl₂
  have N2 := news_more F1 N hk₂ hl₂ ho₂
  have hlR : l ≠ R := (hlne _ (.head _)).symm
  have hlF : l ≠ Fi := (hlne _ (.tail _ (.head _))).symm
  clear F1 hk₂ hl₂ ho₂ hlne
  k_steps
  refine unhalt ?_
  have N3 : News h₀ L h₂ ((R, W.listOf rs.toArray nr) :: (Fi, W.listOf fs.toArray nf) :: (l, W.listOf us.toArray k) :: news) := fun p hp => N2 p (by
    rcases List.mem_cons.mp hp with rfl | hp
    · exact .tail _ (.head _)
    rcases List.mem_cons.mp hp with rfl | hp
    · exact .tail _ (.tail _ (.head _))
    rcases List.mem_cons.mp hp with rfl | hp
    · exact .head _
    · exact .tail _ (.tail _ (.tail _ hp)))
  refine append_own F2 N3 ?_ (by rw [sizeLine_eq]; omega) ?_
  · intro p hp
    rcases List.mem_cons.mp hp with rfl | hp
    · exact hRF.symm
    rcases List.mem_cons.mp hp with rfl | hp
    · exact hlR
    · exact hR p hp
  intro h₃ F3 N4
  clear F2 N2 N3
  k_steps
  refine wpN_execs_leaf ?_
  (try k_fold)
  k_steps
  refine unhalt ?_
  refine it_last ⟨_, (N4 _ (.head _)).1, rfl, _, rfl⟩ ?_
  k_steps
  refine unhalt ?_
  refine it_strN (i := 0) ⟨_, (N4 _ (.tail _ (.tail _ (.head _)))).1, rfl, _, rfl⟩ hs₂ hp0 (by omega) ?_
  intro t₄
  k_steps
  refine len_S hc0 (by omega) ?_
  intro t₅ k₅
  k_steps
  refine unhalt ?_
  rw [show (((c + 1 : Nat) : Int) - 1) = (c : Int) by omega]
  refine append_own (us := fs) F3 (news_swap N4) ?_ (by rw [sizeLine_eq]; omega) ?_
  · intro p hp
    rcases List.mem_cons.mp hp with rfl | hp
    · exact hRF
    rcases List.mem_cons.mp hp with rfl | hp
    · exact hlF
    · exact hF p hp
  intro h₆ F6 N6'
  have N6 := news_swap N6'
  clear F3 N4 N6'
  k_steps
  refine wpN_execs_leaf (comp_assign (h₀ := h₀) (fun v y => ∃ (c : Nat) (t t' : Tok), v = .str ⟨#[c]⟩ t ∧ y = .int (c : Int) t') ?_)
  refine wpAny_mono (Q := fun y s₃ => Halt (∃ _, _)) ?_ (fun _ _ h => h) (fun _ _ h => h)
  (try k_fold)
  k_steps
  refine unhalt ?_
  refine it_last ⟨_, (N6 _ (.head _)).1, rfl, _, rfl⟩ ?_
  k_steps
  refine unhalt ?_
  refine it_last ⟨_, (N6 _ (.tail _ (.head _))).1, rfl, _, rfl⟩ ?_
  k_steps
  refine unhalt ?_
  dsimp only
  refine sl_takeX F6 N6 ⟨_, (N6 _ (.tail _ (.tail _ (.head _)))).1, rfl, _, rfl⟩ (by rw [hs₂.length, List.length_map]; omega) ?_
  intro D₇ h₇ F7 N7 hne₇
  have hst : StrsAre ((us.take c)) ((ps.take c).map S) := by rw [List.map_take]; exact hs₂.take' c
  k_steps
  refine unhalt ?_
  rw [ofs_com]
  refine join_own 100 (ps := ps.take c) (N7 _ (.head _)).1 hst (by simp) (fun p hp => hpk p (List.mem_of_mem_take hp)) (by rw [List.length_take]; omega) ?_
  intro t₈ tk₈
  rw [hf]
  refine unhalt ?_
  refine ⟨_, _, _, _, _, F7, N7, Src.str rfl, (by intro b hb; exact nomatch hb), ?_, ?_, ?_⟩
  · rw [sizeLine_eq]
    show (S (List.take n H)).cps.size ≤ _
    have := List.length_take_le n H
    simp only [S, List.size_toArray]
    omega
  · intro C i v s₂ m₂ E' hP hns hm hk
    obtain ⟨c', u', -, rfl⟩ := hP
    have X2 : (Mine.hd.heap_39 w.params).In s₂.heap := X.keeps fun b o e => hk b o (F7.keep b o e)
    have T2 := T.keeps fun b o e => hk b o (F7.keep b o e)
    clear F7 N7 F6 N6
    refine wpAny_mono (Q := fun y s₃ => Halt (_ ∧ _)) ?_ (fun _ _ h => h) (fun _ _ h => h)
    (try k_fold)
    k_steps
    exact unhalt ⟨⟨c', u', _, rfl, rfl⟩, _, _, rfl, fun b o e => e⟩
  · intro D h₅ tk₅ ys k₅ vs hvl hv hG hne F5 N5
    have hys := paired_ord hvl hv hG
    have N8 : News h₀ L h₅ ((D, W.listOf ys.toArray k₅) :: (R, W.listOf (rs ++ [Value.ref l]).toArray (nr + 1)) :: (Fi, W.listOf (fs ++ [Value.int (c : Int) _]).toArray (nf + 1)) :: (l, W.listOf us.toArray k) :: news) := fun p hp => N5 p (by
      rcases List.mem_cons.mp hp with rfl | hp
      · exact .head _
      · exact .tail _ (.tail _ hp))
    clear F6 N6 N5 F7 N7 hne hne₇ hG hv hvl hst
    show wpN _ _ (execs (turnB.drop 3) (lawEnv L)) _ _ _
    have hy0 : ∀ y, (if y = Str.ofString "octets" then some (Value.ref D) else if y = Str.ofString "header" then some (.str (S H) th) else if y = Str.ofString "read" then some (Value.ref R) else if y = Str.ofString "firsts" then some (Value.ref Fi) else m y) = (if y = Str.ofString "octets" then some (Value.ref D) else m y) := by
      intro y
      split
      · rfl
      · split
        · next h => rw [h, mh]
        · split
          · next h => rw [h, mr]
          · split
            · next h => rw [h, mf]
            · rfl
    refine turn1_spec rfl X T hroom F5 N8 ((hy0 _).trans mh) rfl hys hH hb hn hn2 ?_
    intro h' tk m' t' F' N' hm' hy'
    refine hQ h' tk m' t' l us k _ _ _ F' N' hlR hlF hs₂ hm' ?_
    intro y h1 h2 h3
    rw [hy' y h1 h3]
    exact (hy0 y).trans (if_neg h2)
end Mine
end
section
open PySem PySem.W PyProof.Rows PySem.Calls PyProof.V PySem.Spec
set_option maxRecDepth 100000
namespace Mine
local macro_rules | `(tactic| walk_at "eval Name") => `(tactic| first
  | (refine nm_local (by assumption) (by assumption) ?_)
  | (refine bi_name (by assumption) (by assumption) (by assumption) (ns_len _) bo_len (by decide) ?_))
local macro_rules | `(tactic| walk_at "compareOp NotIn int ref") => `(tactic| (refine halt ?_))
local macro_rules | `(tactic| walk_at "call builtin:len") => `(tactic| (refine halt ?_))
/-- one reading and turning -/
structure Step (H : List Nat) (c n : Nat) (ps : List (List Nat)) : Prop where
  len : H.length ≤ 200
  oct : ∀ o ∈ H, o < 256
  prs : (parseL H).map (fun p => Txt.strip (S p)) = ps.map S
  p0 : 0 < ps.length
  c0 : (ps.getD 0 []).length = c + 1
  pl : ps.length ≤ 100
  pk : ∀ p ∈ ps, p.length ≤ 100
  pos : 0 < n
  le : n ≤ H.length
  eq : joinS [44] (ps.take c) = H.take n
def turned (H : List Nat) (n : Nat) : List Nat := (H.take n).reverse ++ H.drop n
def firstsL (cs : Nat → Nat) (i : Nat) : List Int := (List.range i).map fun j => (cs j : Int)
theorem firstsL_succ (cs : Nat → Nat) (i : Nat) : firstsL cs (i + 1) = firstsL cs i ++ [(cs i : Int)] := by
  simp [firstsL, List.range_succ]
theorem firstsL_len (cs : Nat → Nat) (i : Nat) : (firstsL cs i).length = i := by simp [firstsL]
/-- what has been read -/
def ReadOk (pss : Nat → List (List Nat)) (i : Nat) (lists : List (Addr × Obj)) : Prop :=
  lists.length = i ∧ ∀ j p, lists[j]? = some p → ∃ us k, p.2 = W.listOf us.toArray k ∧ StrsAre us ((pss j).map S)
theorem ReadOk.snoc {pss : Nat → List (List Nat)} {i : Nat} {lists : List (Addr × Obj)} (h : ReadOk pss i lists) {l : Addr} {us : List Value} {k : Nat} (hs : StrsAre us ((pss i).map S)) : ReadOk pss (i + 1) (lists ++ [(l, W.listOf us.toArray k)]) := by
  refine ⟨by simp [h.1], fun j p e => ?_⟩
  rw [List.getElem?_append] at e
  split at e
  · exact h.2 j p e
  · rename_i hj
    rw [h.1] at hj e
    have : j = i := by
      rcases Nat.lt_or_ge j (i + 1) with h1 | h1
      · omega
      · rw [List.getElem?_eq_none (by simp; omega)] at e; cases e
    subst this
    simp at e
    subst e
    exact ⟨us, k, rfl, hs⟩
def refsOf (lists : List (Addr × Obj)) : List Value := lists.map fun p => Value.ref p.1
theorem ints_snoc {us : List Value} {ws : List Int} {x : Int} {t : Tok} (h : IntsAre us ws) : IntsAre (us ++ [.int x t]) (ws ++ [x]) := by
  induction h with
  | nil => exact .cons _ _ .nil
  | cons y u _ ih => exact .cons _ _ ih
set_option maxHeartbeats 8000000 in
theorem while_spec {w : World} {A : Around} {s : Shared} {loose : List Str} {mean : ExcName → Option Value} {mg mb : Str → Option Value} {Q : Flow → Shared → Prop}
    {h₀ : Heap} {L R Fi : Addr} {m : Str → Option Value} {news : List (Addr × Obj)} {nr nf : Nat} {th : Tok} {Hs : Nat → List Nat} {cs ns : Nat → Nat} {pss : Nat → List (List Nat)} {K : Nat}
    (hh : A.handled = none) (X : (Mine.hd.heap_39 w.params).In h₀) (T : Top Mine.hd.view_39 loose mean mg mb h₀) (hroom : A.depth < 450)
    (F : Fr h₀ L s.heap m) (N : News h₀ L s.heap ((R, W.listOf ([] : List Value).toArray nr) :: (Fi, W.listOf ([] : List Value).toArray nf) :: news)) (hRF : R ≠ Fi) (hR : ∀ p ∈ news, p.1 ≠ R) (hF : ∀ p ∈ news, p.1 ≠ Fi)
    (mh : m (Str.ofString "header") = some (.str (S (Hs 0)) th)) (mr : m (Str.ofString "read") = some (.ref R)) (mf : m (Str.ofString "firsts") = some (.ref Fi))
    (hK : K ≤ 22) (hK0 : 0 < K) (hst : ∀ i, i < K → Step (Hs i) (cs i) (ns i) (pss i) ∧ Hs (i + 1) = turned (Hs i) (ns i)) (hc1 : ∀ i, i + 1 < K → cs i ≠ 1) (hcK : cs (K - 1) = 1)
    (hQ : ∀ h' tk m' t' lists fs nr' nf', Fr h₀ L h' m' → News h₀ L h' ((R, W.listOf (refsOf lists).toArray nr') :: (Fi, W.listOf fs.toArray nf') :: (lists ++ news)) → ReadOk pss K lists → IntsAre fs (firstsL cs K) →
      m' (Str.ofString "header") = some (.str (S (Hs K)) t') → (∀ y, y ≠ Str.ofString "header" → y ≠ Str.ofString "octets" → y ≠ Str.ofString "turned" → m' y = m y) →
      wpN (model PR w) A (execs (lawB.drop 7) (lawEnv L)) Q (fun _ _ => False) { s with heap := h', toks := tk }) :
    wpN (model PR w) A (execs (lawB.drop 6) (lawEnv L)) Q (fun _ _ => False) s := by
  obtain ⟨hd0, d0, fr0, gs0, u0⟩ := A
  obtain rfl : hd0 = none := hh
  conv => arg 3; arg 1; whnf
  show wpN _ _ (execs _ (envX (Str.ofString "law") _ L 31 (.ref 30) [(Str.ofString "drawn", L + 1)])) _ _ _
  refine wpN_execs_cons (wpN_While (codeN_whileLoop (fun k s' => ∃ i h' tk m' t' lists fs nr' nf', k = K - i ∧ i ≤ K ∧ s' = { s with heap := h', toks := tk } ∧ Fr h₀ L h' m' ∧ News h₀ L h' ((R, W.listOf (refsOf lists).toArray nr') :: (Fi, W.listOf fs.toArray nf') :: (lists ++ news)) ∧
    (∀ p ∈ lists, p.1 ≠ R ∧ p.1 ≠ Fi) ∧ ReadOk pss i lists ∧ IntsAre fs (firstsL cs i) ∧ m' (Str.ofString "header") = some (.str (S (Hs i)) t') ∧ (∀ y, y ≠ Str.ofString "header" → y ≠ Str.ofString "octets" → y ≠ Str.ofString "turned" → m' y = m y)) ?_ K
    ⟨0, s.heap, s.toks, m, th, [], [], nr, nf, rfl, Nat.zero_le _, rfl, F, (by exact N), (fun _ h => nomatch h), ⟨rfl, fun j p e => by simp at e⟩, .nil, mh, fun _ _ _ _ => rfl⟩))
  rintro k s' ⟨i, h', tk, m', t', lists, fs, nr', nf', rfl, hi, rfl, F1, N1, hls, hro, hfs, mh', hm'⟩
  have mr' := (hm' (Str.ofString "read") (by decide) (by decide) (by decide)).trans mr
  have mf' := (hm' (Str.ofString "firsts") (by decide) (by decide) (by decide)).trans mf
  have F2 := fr_at F1 (x := Str.ofString "firsts") mf'
  have hfl : fs.length = i := by rw [hfs.length, firstsL_len]
  clear F N
  (try k_fold)
  k_steps
  refine unhalt ?_
  refine len_list ⟨_, (N1 _ (.tail _ (.head _))).1, rfl, _, rfl⟩ (by rw [List.size_toArray]; omega) ?_
  rw [List.size_toArray, hfl]
  k_steps
  · refine unhalt ?_
    dsimp only
    refine notin_list_ints ⟨_, (N1 _ (.tail _ (.head _))).1, rfl, _, rfl⟩ hfs ?_
    by_cases hiK : i < K
    · rw [show (!(firstsL cs i).any (· == 1)) = true from by
        rw [Bool.not_eq_true', List.any_eq_false]
        intro x hx
        obtain ⟨j, hj, rfl⟩ := List.mem_map.mp hx
        have := hc1 j (by have := List.mem_range.mp hj; omega)
        simp only [beq_iff_eq]
        omega]
      k_steps
      obtain ⟨sp, hnx⟩ := hst i hiK
      have hri : (refsOf lists).length = i := by rw [refsOf, List.length_map, hro.1]
      have hmem : ∀ p ∈ lists ++ news, p.1 ≠ R ∧ p.1 ≠ Fi := fun p hp => (List.mem_append.mp hp).elim (hls p) fun h => ⟨hR p h, hF p h⟩
      show wpN _ _ (execs turnB (lawEnv L)) _ _ _
      refine turn_spec rfl X T hroom F1 N1 hRF (fun p hp => (hmem p hp).1) (fun p hp => (hmem p hp).2) (by omega) (by omega) hfs mh' mr' mf' sp.len sp.oct sp.prs sp.p0 sp.c0 sp.pl sp.pk sp.pos sp.le sp.eq ?_
      intro h₉ tk₉ m₉ t₉ l us k nr₉ nf₉ tf F9 N9 hlR hlF hus mh₉ hm₉
      refine ⟨K - (i + 1), by omega, i + 1, h₉, tk₉, m₉, t₉, lists ++ [(l, W.listOf us.toArray k)], fs ++ [Value.int (cs i : Int) tf], nr₉, nf₉, rfl, hiK, rfl, F9, ?_, ?_, hro.snoc hus, ?_, ?_, ?_⟩
      · intro p hp
        refine N9 p ?_
        rw [refsOf, List.map_append] at hp
        rcases List.mem_cons.mp hp with rfl | hp
        · exact .head _
        rcases List.mem_cons.mp hp with rfl | hp
        · exact .tail _ (.head _)
        rw [List.append_assoc] at hp
        rcases List.mem_append.mp hp with hp | hp
        · exact .tail _ (.tail _ (.tail _ (List.mem_append_left _ hp)))
        rcases List.mem_cons.mp hp with rfl | hp
        · exact .tail _ (.tail _ (.head _))
        · exact .tail _ (.tail _ (.tail _ (List.mem_append_right _ hp)))
      · intro p hp
        rcases List.mem_append.mp hp with hp | hp
        · exact hls p hp
        · rw [List.mem_singleton.mp hp]; exact ⟨hlR, hlF⟩
      · rw [firstsL_succ]
        exact ints_snoc hfs
      · rw [mh₉, hnx]; rfl
      · intro y h1 h2 h3
        exact (hm₉ y h1 h2 h3).trans (hm' y h1 h2 h3)
    · obtain rfl : i = K := by omega
      rw [show (!(firstsL cs i).any (· == 1)) = false from by
        rw [Bool.not_eq_false', List.any_eq_true]
        exact ⟨_, List.mem_map.mpr ⟨i - 1, List.mem_range.mpr (by omega), rfl⟩, by simp only [beq_iff_eq]; omega⟩]
      k_steps
      exact hQ _ _ m' t' lists fs nr' nf' F1 N1 hro hfs mh' hm'
  · obtain rfl : i = K := by omega
    exact hQ _ _ m' t' lists fs nr' nf' F1 N1 hro hfs mh' hm'
end Mine
end
section
open PySem PySem.W PyProof.Rows PySem.Calls PyProof.V PySem.Spec
set_option maxRecDepth 100000
namespace Mine
theorem it_ints {prog : Program} {w : World} {A : Around} {E : Value → Shared → Prop} {s : Shared} {l : Addr} {us : List Value} {ps : List Int} {value slice : Expr} {k : Nat} {u : Tok} {Q : Value → Shared → Prop}
    (hl : s.heap.IsList l us.toArray) (hs : IntsAre us ps) (h1 : k < ps.length) (h2 : ps.length ≤ 1000) (h : ∀ t, Q (.int (ps.getD k 0) t) s)
    (hs' : subscripted slice false (.ref l) (.int (k : Int) u) = operate [.ref l, .int (k : Int) u] (getItem (.ref l) (.int (k : Int) u)) := by with_unfolding_all rfl) :
    wpAny (model prog w) A (subscriptTail value slice (.ref l) (.int (k : Int) u)) Q E s := by
  have hk : us[k]? = some (us[k]'(by rw [hs.length]; omega)) := List.getElem?_eq_getElem _
  obtain ⟨x, t, e, hv⟩ := ints_get hs _ _ hk
  have ex : x = ps.getD k 0 := by rw [List.getD_eq_getElem?_getD, e]; rfl
  rw [hv] at hk
  subst ex
  exact it_list hl hk (by omega) (h t) hs'
theorem sl_midX {prog : Program} {w : World} {A : Around} {E : Value → Shared → Prop} {s : Shared} {hp h₀ : Heap} {kk : Nat} {L l : Addr} {m : Str → Option Value} {news : List (Addr × Obj)} {value slice : Expr} {vs : List Value} {Q : Value → Shared → Prop} {x y : Nat} {tx ty : Tok} (F : Fr h₀ L hp m) (N : News h₀ L hp news) (hl : hp.IsList l vs.toArray) (hy : y ≤ vs.length) (hz : vs.length ≤ 100000)
    (h : ∀ D h', Fr h₀ L h' m → News h₀ L h' ((D, W.listOf ((vs.drop x).take (y - x)).toArray 0) :: news) → (∀ p ∈ news, p.1 ≠ D) → Q (.ref D) ⟨h', s.gens, s.drawn, kk, s.os⟩)
    (hs : subscripted slice false (.ref l) (.ref hp.objs.size) = operate [.ref hp.objs.size, .ref l] (getItem (.ref l) (.ref hp.objs.size)) := by with_unfolding_all rfl) :
    wpAny (model prog w) A (subscriptTail value slice (.ref l) (.ref hp.objs.size)) Q E ⟨hp.push { cls := .type "slice", data := .fields #[.int (x : Int) tx, .int (y : Int) ty, .none] }, s.gens, s.drawn, kk, s.os⟩ :=
  sl_mid (s := ⟨hp, s.gens, s.drawn, kk, s.os⟩) F N hl hy hz h hs
theorem ite_at {y x : Str} {a b c : Option Value} (h1 : y = x → a = c) (h2 : b = c) : (if y = x then a else b) = c := by
  split
  · exact h1 (by assumption)
  · exact h2
theorem firstsL_getD {cs : Nat → Nat} {K j : Nat} (h : j < K) : (firstsL cs K).getD j 0 = (cs j : Int) := by
  rw [List.getD_eq_getElem?_getD, firstsL, List.getElem?_map, List.getElem?_range h]; rfl
local macro_rules | `(tactic| walk_at "eval Name") => `(tactic| first
  | (refine nm_local (by assumption) (by assumption) ?_)
  | (refine bi_name (by assumption) (by assumption) (by assumption) (ns_range _) bo_range (by decide) ?_)
  | (refine bi_name (by assumption) (by assumption) (by assumption) (ns_max _) bo_max (by decide) ?_)
  | (refine bi_name (by assumption) (by assumption) (by assumption) (ns_len _) bo_len (by decide) ?_))
local macro_rules | `(tactic| walk_at "call builtin:len") => `(tactic| (refine halt ?_))
local macro_rules | `(tactic| walk_at "exec For") => `(tactic| (refine halt ?_))
local macro_rules | `(tactic| walk_at "exec For Name Call cons nil") => `(tactic| (refine halt ?_))
local macro_rules | `(tactic| walk_at "pyIter ref") => `(tactic| (refine halt ?_))
local macro_rules | `(tactic| walk_at "subscriptTail") => `(tactic| (refine halt ?_))
local macro_rules | `(tactic| walk_at "subscriptTail Name Name ref int") => `(tactic| (refine halt ?_))
local macro_rules | `(tactic| walk_at "subscriptTail Name Slice ref ref") => `(tactic| (refine halt ?_))
local macro_rules | `(tactic| walk_at "call builtin:max") => `(tactic| (refine halt ?_))
def JO (m₀ : Str → Option Value) (news : List (Addr × Obj)) (_i : Nat) (m : Str → Option Value) (nx : List (Addr × Obj)) : Prop :=
  nx = news ∧ (∀ y, y ≠ Str.ofString "late" → y ≠ Str.ofString "soon" → m y = m₀ y)
def JI (m₀ : Str → Option Value) (news : List (Addr × Obj)) (_i : Nat) (m : Str → Option Value) (nx : List (Addr × Obj)) : Prop :=
  nx = news ∧ (∀ y, y ≠ Str.ofString "soon" → m y = m₀ y)
set_option maxHeartbeats 8000000 in
theorem pairs_spec {w : World} {A : Around} {s : Shared} {loose : List Str} {mean : ExcName → Option Value} {mg mb : Str → Option Value} {Q : Flow → Shared → Prop}
    {h₀ : Heap} {L Fi : Addr} {m : Str → Option Value} {news : List (Addr × Obj)} {fs : List Value} {nf : Nat} {cs : Nat → Nat} {K : Nat}
    (hh : A.handled = none) (X : (Mine.hd.heap_39 w.params).In h₀) (T : Top Mine.hd.view_39 loose mean mg mb h₀) (hroom : A.depth < 450)
    (F : Fr h₀ L s.heap m) (N : News h₀ L s.heap ((Fi, W.listOf fs.toArray nf) :: news)) (mf : m (Str.ofString "firsts") = some (.ref Fi)) (hfs : IntsAre fs (firstsL cs K)) (hK : K ≤ 22)
    (hA : ∀ late soon, soon < late → late < K → cs soon = cs late → ∃ j, soon ≤ j ∧ j < late ∧ cs soon < cs j)
    (hQ : ∀ h' tk m', Fr h₀ L h' m' → News h₀ L h' ((Fi, W.listOf fs.toArray nf) :: news) → (∀ y, y ≠ Str.ofString "late" → y ≠ Str.ofString "soon" → m' y = m y) →
      wpAny (model PR w) A (execs (lawB.drop 8) (lawEnv L)) Q (fun _ _ => False) { s with heap := h', toks := tk }) :
    wpAny (model PR w) A (execs (lawB.drop 7) (lawEnv L)) Q (fun _ _ => False) s := by
  obtain ⟨hd0, d0, fr0, gs0, u0⟩ := A
  obtain rfl : hd0 = none := hh
  conv => arg 3; arg 1; whnf
  show wpAny _ _ (execs _ (envX (Str.ofString "law") _ L 31 (.ref 30) [(Str.ofString "drawn", L + 1)])) _ _ _
  have hfl : fs.length = K := by rw [hfs.length, firstsL_len]
  have F1 := fr_at F (x := Str.ofString "firsts") mf
  have hm1 : ∀ y, (if y = Str.ofString "firsts" then some (Value.ref Fi) else m y) = m y := fun y => ite_at (fun h => by rw [h, mf]) rfl
  clear F
  (try k_fold)
  k_steps
  refine unhalt ?_
  refine For_invVF (by assumption) rfl rfl ?_
  (try k_fold)
  k_steps
  refine unhalt ?_
  refine len_list ⟨_, (N _ (.head _)).1, rfl, _, rfl⟩ (by rw [List.size_toArray]; omega) ?_
  rw [List.size_toArray, hfl]
  k_steps
  refine unhalt ?_
  rename IsRange _ _ _ _ _ _ _ _ => hr
  rename Fr _ _ _ _ => F4
  rename News _ _ _ _ => N4
  refine for_own (JO m ((Fi, W.listOf fs.toArray nf) :: news)) (Src.range (by rfl) hr (small_one (by omega) (by omega) (by omega) (by omega)) (by exact rangeSize_nat 0 K)) F4 N4 ⟨rfl, fun y _ _ => hm1 y⟩ ?_ ?_
  · rintro late v m₁ nx h tk' own hq ⟨t', rfl⟩ hoff _ ⟨rfl, hmy⟩ F5 N5
    rw [show (0 + (late : Int) * 1) = (late : Int) by omega] at F5
    have mf1 := (hmy (Str.ofString "firsts") (by decide) (by decide)).trans mf
    have F6 := fr_at F5 (x := Str.ofString "firsts") mf1
    have hm6 : ∀ y, y ≠ Str.ofString "late" → y ≠ Str.ofString "soon" → (if y = Str.ofString "firsts" then some (Value.ref Fi) else if y = Str.ofString "late" then some (Value.int (late : Int) t') else m₁ y) = m y := fun y h1 h2 => ite_at (fun h => by rw [h, mf]) (ite_at (fun h => absurd h h1) (hmy y h1 h2))
    clear F5 hr F4 N4
    (try k_fold)
    k_steps
    refine unhalt ?_
    refine For_invVF (by assumption) rfl rfl ?_
    (try k_fold)
    k_steps
    refine unhalt ?_
    rename IsRange _ _ _ _ _ _ _ _ => hr
    rename Fr _ _ _ _ => F7
    rename News _ _ _ _ => N7
    refine for_own (JI _ ((Fi, W.listOf fs.toArray nf) :: news ++ own)) (Src.range (by rfl) hr (small_one (by omega) (by omega) (by omega) (by omega)) (by exact rangeSize_nat 0 late)) F7 N7 ⟨rfl, fun y _ => rfl⟩ ?_ ?_
    · rintro soon v m₂ nx₂ h₂ tk₂ own₂ hq₂ ⟨t₂, rfl⟩ hoff₂ _ ⟨rfl, hmy₂⟩ F8 N8
      rw [show (0 + (soon : Int) * 1) = (soon : Int) by omega] at F8
      have F9 := fr_at (fr_at F8 (x := Str.ofString "firsts") (hmy₂ (Str.ofString "firsts") (by decide))) (x := Str.ofString "late") (hmy₂ (Str.ofString "late") (by decide))
      clear F8 hr F7 N7
      have hl1 : late < K := by omega
      have hl2 : soon < late := by omega
      (try k_fold)
      k_steps
      refine unhalt ?_
      refine it_ints (k := soon) ⟨_, (N8 _ (.head _)).1, rfl, _, rfl⟩ hfs (by rw [firstsL_len]; omega) (by rw [firstsL_len]; omega) ?_
      rw [firstsL_getD (by omega)]
      intro t₃
      k_steps
      refine unhalt ?_
      refine it_ints (k := late) ⟨_, (N8 _ (.head _)).1, rfl, _, rfl⟩ hfs (by rw [firstsL_len]; omega) (by rw [firstsL_len]; omega) ?_
      rw [firstsL_getD (by omega)]
      intro t₄
      k_steps
      · rename (cs soon : Int) = (cs late : Int) => hsl
        refine unhalt ?_
        dsimp only
        refine sl_midX (x := soon) (y := late) F9 N8 ⟨_, (N8 _ (.head _)).1, rfl, _, rfl⟩ (by omega) (by omega) ?_
        intro D₅ h₅ F10 N10 hne₅
        have hI₅ : IntsAre ((fs.drop soon).take (late - soon)) (((firstsL cs K).drop soon).take (late - soon)) := (hfs.drop soon).take _
        have hl₅ : (((firstsL cs K).drop soon).take (late - soon)).length = late - soon := by rw [List.length_take, List.length_drop, firstsL_len]; omega
        clear F9 N8
        k_steps
        refine unhalt ?_
        refine kso_max F10 N10 ⟨_, (N10 _ (.head _)).1, rfl, _, rfl⟩ hI₅ (by rw [hl₅]; omega) rfl ?_
        intro h₆ M t₆ k₆ F11 N11 hM hMx
        clear F10 N10
        have hno : (cs late : Int) ≠ M := by
          obtain ⟨j, hj1, hj2, hj3⟩ := hA late soon hl2 hl1 (by omega)
          have : (cs j : Int) ∈ ((firstsL cs K).drop soon).take (late - soon) := by
            refine List.mem_of_getElem? (i := j - soon) ?_
            rw [List.getElem?_take_of_lt (by omega), List.getElem?_drop, firstsL, List.getElem?_map, show soon + (j - soon) = j by omega, List.getElem?_range (by omega)]
            rfl
          have := hMx _ this
          omega
        k_steps
        · exact absurd (by assumption) hno
        · refine InvEndN.intro F11 N11 (nx := (Fi, W.listOf fs.toArray nf) :: news ++ own) ⟨rfl, ?_⟩ rfl ?_ ?_
          · intro y h1
            exact ite_at (fun h => by rw [h]; rfl) (ite_at (fun h => by rw [h]; rfl) (ite_at (fun h => absurd h h1) (hmy₂ y h1)))
          · exact fun p hp => List.mem_cons_of_mem _ (List.mem_append_left _ hp)
          · exact fun p hp => List.mem_cons_of_mem _ (List.mem_append_right _ hp)
      · refine InvEndN.intro F9 N8 (nx := (Fi, W.listOf fs.toArray nf) :: news ++ own) ⟨rfl, ?_⟩ rfl ?_ ?_
        · intro y h1
          exact ite_at (fun h => by rw [h]; rfl) (ite_at (fun h => by rw [h]; rfl) (ite_at (fun h => absurd h h1) (hmy₂ y h1)))
        · exact fun p hp => List.mem_append_left _ hp
        · exact fun p hp => List.mem_append_right _ hp
    · rintro m₂ nx₂ h₂ tk₂ _ ⟨rfl, hmy₂⟩ F8 N8
      refine wpAny_execs_nil ?_
      refine InvEndN.intro F8 N8 (nx := (Fi, W.listOf fs.toArray nf) :: news) ⟨rfl, ?_⟩ rfl ?_ ?_
      · intro y h1 h2
        exact (hmy₂ y h2).trans (hm6 y h1 h2)
      · exact fun p hp => List.mem_append_left _ hp
      · exact fun p hp => List.mem_append_right _ hp
  · rintro m₁ nx h tk' _ ⟨rfl, hmy⟩ F5 N5
    show wpAny _ _ (execs (lawB.drop 8) (lawEnv L)) _ _ _
    exact hQ _ _ m₁ F5 N5 hmy
end Mine
end
section
open PySem PySem.W PyProof.Rows PySem.Calls PyProof.V PySem.Spec
set_option maxRecDepth 100000
namespace Mine
/-- less and bound behind i counts -/
def bF (fl : List Int) : Nat → Nat × Nat
  | 0 => (0, 1)
  | i + 1 => if fl.any (· == ((i + 1 : Nat) : Int)) then ((bF fl i).2, (bF fl i).1 + (bF fl i).2) else bF fl i
local macro_rules | `(tactic| walk_at "eval Name") => `(tactic| first
  | (refine nm_local (by assumption) (by assumption) ?_)
  | (refine bi_name (by assumption) (by assumption) (by assumption) (ns_range _) bo_range (by decide) ?_)
  | (refine bi_name (by assumption) (by assumption) (by assumption) (ns_len _) bo_len (by decide) ?_))
local macro_rules | `(tactic| walk_at "call builtin:len") => `(tactic| (refine halt ?_))
local macro_rules | `(tactic| walk_at "exec For") => `(tactic| (refine halt ?_))
local macro_rules | `(tactic| walk_at "exec For Name Call cons nil") => `(tactic| (refine halt ?_))
local macro_rules | `(tactic| walk_at "pyIter ref") => `(tactic| (refine halt ?_))
local macro_rules | `(tactic| walk_at "subscriptTail") => `(tactic| (refine halt ?_))
local macro_rules | `(tactic| walk_at "subscriptTail Name UnaryOp ref int") => `(tactic| (refine halt ?_))
local macro_rules | `(tactic| walk_at "compareOp In int ref") => `(tactic| (refine halt ?_))
theorem rs_up (n : Nat) : Builtin.Range.rangeSize 1 ((n : Int) + 1) 1 = (n : Int) := by
  have := rangeSize_nat 1 (n + 1)
  simpa using this
theorem ints_last : ∀ {ps : List Int} {us : List Value} {x : Int}, IntsAre us (ps ++ [x]) → ∃ us' t, us = us' ++ [Value.int x t] ∧ IntsAre us' ps
  | [], _, _, h => by
    cases h with
    | cons n t h => cases h; exact ⟨[], t, rfl, .nil⟩
  | p :: ps, _, _, h => by
    cases h with
    | cons n t h =>
      obtain ⟨us', t', rfl, h'⟩ := ints_last h
      exact ⟨Value.int p t :: us', t', rfl, .cons _ _ h'⟩
def JB (fl : List Int) (m₀ : Str → Option Value) (news : List (Addr × Obj)) (i : Nat) (m : Str → Option Value) (nx : List (Addr × Obj)) : Prop :=
  nx = news ∧ (∃ t, m (Str.ofString "less") = some (.int ((bF fl i).1 : Int) t)) ∧ (∃ t, m (Str.ofString "bound") = some (.int ((bF fl i).2 : Int) t)) ∧
    (∀ y, y ≠ Str.ofString "less" → y ≠ Str.ofString "bound" → y ≠ Str.ofString "k" → m y = m₀ y)
set_option maxHeartbeats 8000000 in
theorem bound_spec {w : World} {A : Around} {s : Shared} {loose : List Str} {mean : ExcName → Option Value} {mg mb : Str → Option Value} {Q : Flow → Shared → Prop}
    {h₀ : Heap} {L Fi O : Addr} {m : Str → Option Value} {news : List (Addr × Obj)} {fs os : List Value} {nf no n : Nat} {cs : Nat → Nat} {K : Nat}
    (hh : A.handled = none) (X : (Mine.hd.heap_39 w.params).In h₀) (T : Top Mine.hd.view_39 loose mean mg mb h₀) (hroom : A.depth < 450)
    (F : Fr h₀ L s.heap m) (N : News h₀ L s.heap ((Fi, W.listOf fs.toArray nf) :: (O, W.listOf os.toArray no) :: news)) (mf : m (Str.ofString "firsts") = some (.ref Fi)) (mo : m (Str.ofString "order") = some (.ref O))
    (hfs : IntsAre fs (firstsL cs K)) (hK : K ≤ 22) (hK0 : 0 < K) (hos : os.length = n) (hn : n ≤ 100) (hc1 : cs (K - 1) = 1) (hb : K ≤ (bF (firstsL cs K) n).2)
    (hQ : ∀ h' tk m', Fr h₀ L h' m' → News h₀ L h' ((Fi, W.listOf fs.toArray nf) :: (O, W.listOf os.toArray no) :: news) → (∀ y, y ≠ Str.ofString "less" → y ≠ Str.ofString "bound" → y ≠ Str.ofString "k" → m' y = m y) →
      wpAny (model PR w) A (execs (lawB.drop 11) (lawEnv L)) Q (fun _ _ => False) { s with heap := h', toks := tk }) :
    wpAny (model PR w) A (execs (lawB.drop 8) (lawEnv L)) Q (fun _ _ => False) s := by
  obtain ⟨hd0, d0, fr0, gs0, u0⟩ := A
  obtain rfl : hd0 = none := hh
  conv => arg 3; arg 1; whnf
  show wpAny _ _ (execs _ (envX (Str.ofString "law") _ L 31 (.ref 30) [(Str.ofString "drawn", L + 1)])) _ _ _
  have hfl : fs.length = K := by rw [hfs.length, firstsL_len]
  have F1 := fr_at (fr_at F (x := Str.ofString "firsts") mf) (x := Str.ofString "order") mo
  have hm1 : ∀ y, (if y = Str.ofString "order" then some (Value.ref O) else if y = Str.ofString "firsts" then some (Value.ref Fi) else m y) = m y := fun y => ite_at (fun h => by rw [h, mo]) (ite_at (fun h => by rw [h, mf]) rfl)
  clear F
  (try k_fold)
  k_steps
  refine unhalt ?_
  refine For_invVF (by assumption) rfl rfl ?_
  (try k_fold)
  k_steps
  refine unhalt ?_
  rename Fr _ _ _ _ => F3
  rename News _ _ _ _ => N3'
  have N3 : News h₀ L _ ((Fi, W.listOf fs.toArray nf) :: (O, W.listOf os.toArray no) :: news) := fun p hp => N3' p (.tail _ hp)
  clear N3'
  refine len_list ⟨_, (N3 _ (.tail _ (.head _))).1, rfl, _, rfl⟩ (by rw [List.size_toArray]; omega) ?_
  rw [List.size_toArray, hos]
  k_steps
  refine unhalt ?_
  rename IsRange _ _ _ _ _ _ _ _ => hr
  rename Fr _ _ _ _ => F4
  rename News _ _ _ _ => N4
  refine for_own (JB (firstsL cs K) m ((Fi, W.listOf fs.toArray nf) :: (O, W.listOf os.toArray no) :: news)) (Src.range (by rfl) hr (small_one (by omega) (by omega) (by omega) (by omega)) (rs_up n)) F4 N4 ⟨rfl, ⟨_, rfl⟩, ⟨_, rfl⟩, fun y h1 h2 h3 => ite_at (fun h => absurd h h2) (ite_at (fun h => absurd h h1) (hm1 y))⟩ ?_ ?_
  · rintro i v m₁ nx h tk' own hq ⟨t', rfl⟩ hoff _ ⟨rfl, ⟨tl, ml⟩, ⟨tb, mb₁⟩, hmy⟩ F5 N5
    rw [show (1 + (i : Int) * 1) = ((i + 1 : Nat) : Int) by omega] at F5
    have mf1 := (hmy (Str.ofString "firsts") (by decide) (by decide) (by decide)).trans mf
    have F6 := fr_at (fr_at (fr_at F5 (x := Str.ofString "firsts") mf1) (x := Str.ofString "less") ml) (x := Str.ofString "bound") mb₁
    have hmx : ∀ y, (if y = Str.ofString "bound" then some (Value.int ((bF (firstsL cs K) i).2 : Int) tb) else if y = Str.ofString "less" then some (Value.int ((bF (firstsL cs K) i).1 : Int) tl) else if y = Str.ofString "firsts" then some (Value.ref Fi) else if y = Str.ofString "k" then some (Value.int ((i + 1 : Nat) : Int) t') else m₁ y) = (if y = Str.ofString "k" then some (Value.int ((i + 1 : Nat) : Int) t') else m₁ y) :=
      fun y => ite_at (fun h => by rw [h]; exact mb₁.symm) (ite_at (fun h => by rw [h]; exact ml.symm) (ite_at (fun h => by rw [h]; exact mf1.symm) rfl))
    clear F5 hr F4 N4
    (try k_fold)
    k_steps
    refine unhalt ?_
    rename IntsAre _ (firstsL cs K) => hfs
    refine in_list_ints ⟨_, (N5 _ (.head _)).1, rfl, _, rfl⟩ hfs ?_
    cases hany : (firstsL cs K).any (· == ((i + 1 : Nat) : Int)) with
    | false =>
      k_steps
      have e : bF (firstsL cs K) (i + 1) = bF (firstsL cs K) i := by
        show (if (firstsL cs K).any (· == ((i + 1 : Nat) : Int)) then _ else _) = _
        rw [hany]; rfl
      refine InvEndN.intro F6 N5 (nx := (Fi, W.listOf fs.toArray nf) :: (O, W.listOf os.toArray no) :: news) ⟨rfl, ⟨tl, by rw [e]; rfl⟩, ⟨tb, by rw [e]; rfl⟩, ?_⟩ rfl ?_ ?_
      · intro y h1 h2 h3
        exact ((hmx y).trans (if_neg h3)).trans (hmy y h1 h2 h3)
      · exact fun p hp => List.mem_append_left _ hp
      · exact fun p hp => List.mem_append_right _ hp
    | true =>
      k_steps
      rename Fr _ _ _ _ => F7
      rename News _ _ _ _ => N7
      have e : bF (firstsL cs K) (i + 1) = ((bF (firstsL cs K) i).2, (bF (firstsL cs K) i).1 + (bF (firstsL cs K) i).2) := by
        show (if (firstsL cs K).any (· == ((i + 1 : Nat) : Int)) then _ else _) = _
        rw [hany]; rfl
      refine InvEndN.intro F7 N7 (nx := (Fi, W.listOf fs.toArray nf) :: (O, W.listOf os.toArray no) :: news) ⟨rfl, ⟨tb, by rw [e]; rfl⟩, ⟨tk', ?_⟩, ?_⟩ rfl ?_ ?_
      · rw [e]
        show some (Value.int _ _) = some (Value.int _ _)
        rw [← Int.natCast_add]
      · intro y h1 h2 h3
        exact (ite_at (fun h => absurd h h1) (ite_at (fun h => absurd h h2) (hmx y))).trans ((if_neg h3).trans (hmy y h1 h2 h3))
      · exact fun p hp => List.mem_cons_of_mem _ (List.mem_append_left _ hp)
      · exact fun p hp => List.mem_cons_of_mem _ (List.mem_append_right _ hp)
  · rintro m₁ nx h tk' _ ⟨rfl, ⟨tl, ml⟩, ⟨tb, mb₁⟩, hmy⟩ F5 N5
    clear hr F4 N4
    have mf1 := (hmy (Str.ofString "firsts") (by decide) (by decide) (by decide)).trans mf
    have F6 := fr_at (fr_at F5 (x := Str.ofString "firsts") mf1) (x := Str.ofString "bound") mb₁
    clear F5
    show wpAny _ _ (execs (_ :: _) _) _ _ _
    refine wpAny_execs_cons (wpAny_mono (Q := fun f s' => Halt (f = .next ∧ ∃ tk, s' = { s with heap := h, toks := tk })) ?_ (fun f s' hf => ?_) (fun _ _ e => e))
    · (try k_fold)
      k_steps
      refine unhalt ?_
      rename IntsAre _ (firstsL cs K) => hfs
      obtain ⟨K', rfl⟩ : ∃ K', K = K' + 1 := ⟨K - 1, by omega⟩
      have hfs' := hfs
      rw [firstsL_succ] at hfs'
      obtain ⟨fs', tz, rfl, -⟩ := ints_last hfs'
      refine it_last ⟨_, (N5 _ (.head _)).1, rfl, _, rfl⟩ ?_
      rw [show ((cs K' : Nat) : Int) = 1 by rw [show K' + 1 - 1 = K' by omega] at hc1; omega]
      k_steps
      refine unhalt ?_
      refine len_list ⟨_, (N5 _ (.head _)).1, rfl, _, rfl⟩ (by rw [List.size_toArray]; omega) ?_
      rw [List.size_toArray, hfl]
      k_steps
      exact unhalt ⟨rfl, _, rfl⟩
    · obtain ⟨rfl, tk, rfl⟩ := hf
      show wpAny _ _ (execs (lawB.drop 11) (lawEnv L)) _ _ _
      refine hQ _ _ _ F6 N5 ?_
      intro y h1 h2 h3
      exact ite_at (fun h => absurd h h2) (ite_at (fun h => by rw [h, mf]) (hmy y h1 h2 h3))
end Mine
end
section
open PySem PySem.W PyProof.Rows PySem.Calls PyProof.V PySem.Spec
set_option maxRecDepth 100000
namespace Mine
/-- how a turn of such a for ends -/
def LEnd (h₀ : Heap) (L : Addr) (J : (Str → Option Value) → List (Addr × Obj) → Prop) (own : List (Addr × Obj)) (I : Addr) (s : Shared) (Q : Flow → Shared → Prop) (f : Flow) (s₂ : Shared) : Prop :=
  match f with
  | .ret v => Q (.ret v) s₂
  | .brk => Q .next s₂
  | _ => ∃ h' tk' m₂ news₂, s₂ = { s with heap := h', toks := tk' } ∧ Fr h₀ L h' m₂ ∧ News h₀ L h' (own ++ news₂) ∧ (∀ p ∈ news₂, p.1 ≠ I) ∧ J m₂ news₂
theorem LEnd.next {h₀ h' : Heap} {L : Addr} {J : (Str → Option Value) → List (Addr × Obj) → Prop} {own news₂ : List (Addr × Obj)} {I : Addr} {s : Shared} {Q : Flow → Shared → Prop} {tk' : Nat} {m₂ : Str → Option Value}
    (F : Fr h₀ L h' m₂) (N : News h₀ L h' (own ++ news₂)) (hI : ∀ p ∈ news₂, p.1 ≠ I) (hJ : J m₂ news₂) : LEnd h₀ L J own I s Q .next { s with heap := h', toks := tk' } := ⟨h', tk', m₂, news₂, rfl, F, N, hI, hJ⟩
/-- a for over a list: its own ledger may grow and turn -/
theorem for_list {prog : Program} {w : World} {A : Around} {E : Value → Shared → Prop} {s : Shared} {env : Env} {h₀ : Heap} {x : Str} {body : List Stmt} {Q : Flow → Shared → Prop} {R : Addr} {items : Array Value} {m₀ : Str → Option Value} {news : List (Addr × Obj)}
    (J : Nat → (Str → Option Value) → List (Addr × Obj) → Prop) (hh : A.handled = none) (hl : s.heap.IsList R items) (F : Fr h₀ env.locals s.heap m₀) (N : News h₀ env.locals s.heap news) (hL : env.locals ≠ R) (hj : J 0 m₀ news)
    (turn : ∀ I i v m₁ news₁ h tk own, i < items.size → items[i]? = some v → (∀ p ∈ news₁, p.1 ≠ I) → (∃ o, (I, o) ∈ own) → J i m₁ news₁ → Fr h₀ env.locals h (fun y => if y = x then some v else m₁ y) → News h₀ env.locals h (own ++ news₁) →
      wpAny (model prog w) A (execs body env) (LEnd h₀ env.locals (J (i + 1)) own I s Q) E { s with heap := h, toks := tk })
    (done : ∀ m₁ nx h tk, J items.size m₁ nx → Fr h₀ env.locals h m₁ → News h₀ env.locals h nx → Q .next { s with heap := h, toks := tk }) :
    wpAny (model prog w) A (pyIter (.ref R)) (fun it s₂ => LoopAtV prog w A h₀ env x body Q E it s₂) E s := by
  obtain ⟨ol, hol, _⟩ := id hl
  have hne : R ≠ s.heap.objs.size := Nat.ne_of_lt (Heap.lt_size hol)
  refine wpAny_pyIter_list hl ?_
  have hlt : ∀ p ∈ news, p.1 ≠ s.heap.objs.size := fun p hp => Nat.ne_of_lt (Heap.lt_size (N p hp).1)
  have hwr : ∀ b ∈ [s.heap.objs.size], h₀.get? b = none := fun b hb => by
    rw [List.mem_singleton.mp hb]
    exact next_is_new F
  refine ⟨s.heap.objs.size, [s.heap.objs.size, R], [s.heap.objs.size], items.size, _, _, m₀, news, J, rfl, Walks.list hh s.heap.objs.size R hne items, ?_, hwr, ?_, ⟨⟨_, Heap.get?_push_size _ rfl, rfl, rfl⟩, hl.at fun o e => Heap.get?_push_of_some _ e⟩, F.push _, (fun p hp => ⟨Heap.get?_push_of_some _ (N p hp).1, (N p hp).2⟩), hj, ?_, ?_⟩
  · intro hm
    rcases List.mem_cons.mp hm with e | hm
    · exact absurd F.ns.lt (e ▸ Nat.lt_irrefl _)
    · exact hL (List.mem_singleton.mp hm)
  · intro p hp hI
    exact hlt p hp (List.mem_singleton.mp hI)
  · rintro i v m₁ news₁ s₁ own ⟨hh', tk', rfl⟩ hin hP hJ hoff hown hget hall hst F₁ N₁
    obtain ⟨oI, hoI, -⟩ := hst.1
    refine wpAny_mono (turn s.heap.objs.size i v m₁ news₁ hh' tk' own hin hP (fun p hp e => hoff p hp (by rw [e]; exact .head _)) ⟨oI, hall _ (.head _) (next_is_new F) oI hoI⟩ hJ F₁ N₁) (fun f s₂ p => ?_) fun _ _ e => e
    have fin : (∃ h' tk' m₂ news₂, s₂ = { s with heap := h', toks := tk' } ∧ Fr h₀ env.locals h' m₂ ∧ News h₀ env.locals h' (own ++ news₂) ∧ (∀ p ∈ news₂, p.1 ≠ s.heap.objs.size) ∧ J (i + 1) m₂ news₂) → LoopStepU h₀ env.locals [s.heap.objs.size] own (J (i + 1)) { s with heap := hh', toks := tk' } .next s₂ := by
      rintro ⟨h', tk, m', nx, e, F', N', ha, hJ'⟩
      exact ⟨rfl, h', tk, m', nx, e, F', N', fun p hp hq => ha p hp (List.mem_singleton.mp hq), hJ'⟩
    cases f with
    | ret v => exact .ret p
    | brk => exact .brk p
    | next => exact .next (fin p)
    | cont => exact .cont (fin p)
  · rintro h' tk m' news' F' N' _ hJ
    exact done m' news' h' tk hJ F' N'
theorem carried_strs : ∀ {ps : List (List Nat)} {vs : List Value}, StrsAre vs (ps.map S) → CarriedAll vs (ps.map fun p => PyData.str (S p))
  | [], _, h => by cases h; exact .nil
  | p :: ps, _, h => by
    cases h with
    | cons _ t h => exact .cons (.str _ t) (carried_strs h)
theorem lay_strs : ∀ {ps : List (List Nat)}, (∀ p ∈ ps, ∀ c ∈ p, c < 256) → PyData.canLayAll0 (ps.map fun p => PyData.str (S p)) = true
  | [], _ => rfl
  | p :: ps, h => by
    simp only [List.map_cons, PyData.canLayAll0, PyData.canLay0, Bool.and_eq_true]
    refine ⟨?_, lay_strs fun q hq => h q (.tail _ hq)⟩
    show (S p).cps.all (· < 0x110000) = true
    rw [Array.all_eq_true]
    intro i hi
    have : (S p).cps[i] ∈ p := by simp [S]
    have := h p (.head _) _ this
    simp only [decide_eq_true_eq]; omega
theorem depth_strs : ∀ ps : List (List Nat), PyData.depthAll (ps.map fun p => PyData.str (S p)) = 0
  | [] => rfl
  | p :: ps => by simp [PyData.depthAll, PyData.depth, depth_strs ps]
theorem shaped_strs {ps : List (List Nat)} (h : ∀ p ∈ ps, ∀ c ∈ p, c < 256) : SeqAt.shaped (.list (ps.map fun p => PyData.str (S p))) = true := by
  simp [SeqAt.shaped, PyData.canLay0, PyData.depth, depth_strs, lay_strs h]
theorem ne_strs {prog : Program} {w : World} {A : Around} {E : Value → Shared → Prop} {s : Shared} {a b : Addr} {xs ys : List Value} {ps : List (List Nat)} {Q : Value → Shared → Prop}
    (ha : s.heap.IsList a xs.toArray) (hb : s.heap.IsList b ys.toArray) (hi : StrsAre xs (ps.map S)) (hj : StrsAre ys (ps.map S)) (hc : ∀ p ∈ ps, ∀ c ∈ p, c < 256) (hu : A.units + 64 < cLine) (h : Q (.bool false) s) :
    wpAny (model prog w) A (compareOp .NotEq (.ref a) (.ref b)) Q E s :=
  ne_dataH_same (reads_newData ha (carried_strs hi)) (reads_newData hb (carried_strs hj)) (shaped_strs hc) (shaped_strs hc) hu (SeqAt.noMix_of_shape (.list .str) rfl _ _ (list_map_has fun _ => rfl) (list_map_has fun _ => rfl)) (by rw [show PySem.Spec.same _ _ = true from PySem.Spec.same_self _]; exact h)
theorem eq_strs {prog : Program} {w : World} {A : Around} {E : Value → Shared → Prop} {s : Shared} {a b : Addr} {xs ys : List Value} {ns : List Str} {Q : Value → Shared → Prop}
    (ha : s.heap.IsList a xs.toArray) (hb : s.heap.IsList b ys.toArray) (hi : StrsAre xs ns) (hj : StrsAre ys ns) (hu : A.units + 64 < cLine) (h : Q (.bool true) s) :
    wpAny (model prog w) A (compareOp .Eq (.ref a) (.ref b)) Q E s := by
  refine SeqAt.eq_listAt (e := fun _ => true) ha hb (by simp [hi.length, hj.length]) (by omega) ?_ (by rw [show ((List.range xs.toArray.size).all fun _ => true) = true from List.all_eq_true.mpr (by simp)]; exact h)
  intro j h1 h2
  simp only [List.size_toArray] at h1 h2
  obtain ⟨x, t, e1, e2⟩ := strs_get hi j _ (List.getElem?_eq_getElem h1)
  obtain ⟨y, u, e3, e4⟩ := strs_get hj j _ (List.getElem?_eq_getElem h2)
  have : x = y := Option.some.inj (e1.symm.trans e3)
  subst this
  rw [List.getElem_toArray, List.getElem_toArray, e2, e4]
  have := (eqGives_str x x t u).at A.in1 s
  rwa [beq_self_eq_true] at this
section
variable {prog : Program} {w : World} {A : Around} {E : Value → Shared → Prop} {s : Shared} {hp h₀ : Heap} {kk : Nat} {L l : Addr} {m : Str → Option Value} {news : List (Addr × Obj)} {value slice : Expr} {vs : List Value} {Q : Value → Shared → Prop}
theorem sl_dropX {y : Nat} {ty : Tok} (F : Fr h₀ L hp m) (N : News h₀ L hp news) (hl : hp.IsList l vs.toArray) (hz : vs.length ≤ 100000)
    (h : ∀ D h', Fr h₀ L h' m → News h₀ L h' ((D, W.listOf (vs.drop y).toArray 0) :: news) → (∀ p ∈ news, p.1 ≠ D) → Q (.ref D) ⟨h', s.gens, s.drawn, kk, s.os⟩)
    (hs : subscripted slice false (.ref l) (.ref hp.objs.size) = operate [.ref hp.objs.size, .ref l] (getItem (.ref l) (.ref hp.objs.size)) := by with_unfolding_all rfl) :
    wpAny (model prog w) A (subscriptTail value slice (.ref l) (.ref hp.objs.size)) Q E ⟨hp.push { cls := .type "slice", data := .fields #[.int (y : Int) ty, .none, .none] }, s.gens, s.drawn, kk, s.os⟩ :=
  sl_drop (s := ⟨hp, s.gens, s.drawn, kk, s.os⟩) F N hl hz h hs
theorem sl_revX {tk : Tok} (F : Fr h₀ L hp m) (N : News h₀ L hp news) (hl : hp.IsList l vs.toArray) (hz : vs.length ≤ 100000)
    (h : ∀ D h', Fr h₀ L h' m → News h₀ L h' ((D, W.listOf vs.reverse.toArray 0) :: news) → (∀ p ∈ news, p.1 ≠ D) → Q (.ref D) ⟨h', s.gens, s.drawn, kk, s.os⟩)
    {ops : List Value} (hs : subscripted slice false (.ref l) (.ref hp.objs.size) = operate ops (getItem (.ref l) (.ref hp.objs.size)) := by with_unfolding_all rfl) :
    wpAny (model prog w) A (subscriptTail value slice (.ref l) (.ref hp.objs.size)) Q E ⟨hp.push { cls := .type "slice", data := .fields #[.none, .none, .int (-1) tk] }, s.gens, s.drawn, kk, s.os⟩ :=
  sl_rev (s := ⟨hp, s.gens, s.drawn, kk, s.os⟩) F N hl hz h hs
theorem cat_lists {D₁ D₂ : Addr} {ws : List Value} (F : Fr h₀ L s.heap m) (N : News h₀ L s.heap news) (hl : s.heap.IsList D₁ vs.toArray) (hb : s.heap.IsList D₂ ws.toArray) (hz : vs.length + ws.length ≤ 1000)
    (h : ∀ D h', Fr h₀ L h' m → News h₀ L h' ((D, W.listOf (vs ++ ws).toArray 0) :: news) → (∀ p ∈ news, p.1 ≠ D) → Q (.ref D) { s with heap := h' }) : wpAny (model prog w) A (binaryOp .Add (.ref D₁) (.ref D₂)) Q E s :=
  add_lists (hsz := by rw [sizeLine_eq]; omega) F N hl hb fun h' F' N' => h _ h' F' N' fun p hp => Nat.ne_of_lt (Heap.lt_size (N p hp).1)
end
end Mine
end
section
open PySem PySem.W PyProof.Rows PySem.Calls PyProof.V PySem.Spec
set_option maxRecDepth 100000
namespace Mine
/-- the order of the items behind a turning -/
def turnP (ps : List (List Nat)) (c : Nat) : List (List Nat) := (ps.take c).reverse ++ ps.drop c
theorem strs_rev : ∀ {vs : List Value} {ss : List Str}, StrsAre vs ss → StrsAre vs.reverse ss.reverse
  | _, _, .nil => .nil
  | _, _, .cons y t h => by
    rw [List.reverse_cons, List.reverse_cons]
    exact strs_snoc (strs_rev h)
local macro_rules | `(tactic| walk_at "eval Name") => `(tactic| first
  | (refine nm_local (by assumption) (by assumption) ?_)
  | (refine own_name (by assumption) (by assumption) (by assumption) (ns_parse _) ?_)
  | (refine bi_name (by assumption) (by assumption) (by assumption) (ns_len _) bo_len (by decide) ?_))
local macro_rules | `(tactic| walk_at "exec For") => `(tactic| (refine halt ?_))
local macro_rules | `(tactic| walk_at "exec For Name Name cons nil") => `(tactic| (refine halt ?_))
local macro_rules | `(tactic| walk_at "pyIter ref") => `(tactic| (refine halt ?_))
local macro_rules | `(tactic| walk_at "callWith ref") => `(tactic| (refine halt ?_))
local macro_rules | `(tactic| walk_at "subscriptTail") => `(tactic| (refine halt ?_))
local macro_rules | `(tactic| walk_at "subscriptTail Name Constant ref int") => `(tactic| (refine halt ?_))
local macro_rules | `(tactic| walk_at "subscriptTail Name Slice ref ref") => `(tactic| (refine halt ?_))
local macro_rules | `(tactic| walk_at "subscriptTail Subscript Slice ref ref") => `(tactic| (refine halt ?_))
local macro_rules | `(tactic| walk_at "compareOp NotEq ref ref") => `(tactic| (refine halt ?_))
local macro_rules | `(tactic| walk_at "compareOp Eq ref ref") => `(tactic| (refine halt ?_))
local macro_rules | `(tactic| walk_at "binaryOp Add ref ref") => `(tactic| (refine halt ?_))
def JL (pss : Nat → List (List Nat)) (lists : List (Addr × Obj)) (m₀ : Str → Option Value) (i : Nat) (m : Str → Option Value) (nx : List (Addr × Obj)) : Prop :=
  ∃ D ds k, nx = (D, W.listOf ds.toArray k) :: lists ∧ m (Str.ofString "due") = some (.ref D) ∧ StrsAre ds ((pss i).map S) ∧
    (∀ y, y ≠ Str.ofString "items" → y ≠ Str.ofString "k" → y ≠ Str.ofString "due" → m y = m₀ y)
set_option maxHeartbeats 8000000 in
theorem last_spec {w : World} {A : Around} {s : Shared} {loose : List Str} {mean : ExcName → Option Value} {mg mb : Str → Option Value} {Q : Flow → Shared → Prop}
    {h₀ : Heap} {L R D : Addr} {m : Str → Option Value} {lists : List (Addr × Obj)} {ds : List Value} {nr k : Nat} {cs : Nat → Nat} {pss : Nat → List (List Nat)} {K : Nat} {H : List Nat} {th : Tok}
    (hh : A.handled = none) (X : (Mine.hd.heap_39 w.params).In h₀) (T : Top Mine.hd.view_39 loose mean mg mb h₀) (hroom : A.depth < 450) (hu : A.units + 64 < cLine)
    (F : Fr h₀ L s.heap m) (N : News h₀ L s.heap ((R, W.listOf (refsOf lists).toArray nr) :: (D, W.listOf ds.toArray k) :: lists)) (mr : m (Str.ofString "read") = some (.ref R)) (md : m (Str.ofString "due") = some (.ref D)) (mh : m (Str.ofString "header") = some (.str (S H) th))
    (hro : ReadOk pss K lists) (hds : StrsAre ds ((pss 0).map S)) (hK : K ≤ 22) (hps : ∀ i, i < K → pss (i + 1) = turnP (pss i) (cs i) ∧ 0 < (pss i).length ∧ (pss i).length ≤ 100 ∧ ((pss i).getD 0 []).length = cs i + 1 ∧ cs i ≤ 100 ∧ (∀ p ∈ pss i, ∀ c ∈ p, c < 256))
    (hH : H.length ≤ 200) (hpH : (parseL H).map (fun p => Txt.strip (S p)) = (pss K).map S)
    (hQ : ∀ h' tk, (∀ b o, h₀.get? b = some o → h'.get? b = some o) → Q (.ret (.bool true)) { s with heap := h', toks := tk }) :
    wpAny (model PR w) A (execs (lawB.drop 11) (lawEnv L)) Q (fun _ _ => False) s := by
  obtain ⟨hd0, d0, fr0, gs0, u0⟩ := A
  obtain rfl : hd0 = none := hh
  conv => arg 3; arg 1; whnf
  show wpAny _ _ (execs _ (envX (Str.ofString "law") _ L 31 (.ref 30) [(Str.ofString "drawn", L + 1)])) _ _ _
  have F1 := fr_at (fr_at (fr_at F (x := Str.ofString "header") mh) (x := Str.ofString "due") md) (x := Str.ofString "read") mr
  have hm1 : ∀ y, (if y = Str.ofString "read" then some (Value.ref R) else if y = Str.ofString "due" then some (Value.ref D) else if y = Str.ofString "header" then some (.str (S H) th) else m y) = m y :=
    fun y => ite_at (fun h => by rw [h, mr]) (ite_at (fun h => by rw [h, md]) (ite_at (fun h => by rw [h, mh]) rfl))
  clear F
  (try k_fold)
  k_steps
  refine unhalt ?_
  refine For_invVF F1 rfl rfl ?_
  (try k_fold)
  k_steps
  refine unhalt ?_
  have hLR : L ≠ R := (N _ (.head _)).2.1.symm
  have N2 : News h₀ L s.heap ((D, W.listOf ds.toArray k) :: lists) := fun p hp => N p (.tail _ hp)
  have hsz : (refsOf lists).toArray.size = K := by rw [List.size_toArray, refsOf, List.length_map, hro.1]
  refine for_list (JL pss lists m) rfl ⟨_, (N _ (.head _)).1, rfl, _, rfl⟩ F1 N2 hLR ⟨D, ds, k, rfl, (hm1 _).trans md, hds, fun y _ _ _ => hm1 y⟩ ?_ ?_
  · rintro I i v m₁ news₁ h tk own hi hP hnI hIo ⟨D₁, ds₁, k₁, rfl, md₁, hds₁, hmy⟩ F3 N3
    rw [hsz] at hi
    obtain ⟨hnx, hp0, hpl, hp1, hcl, hpc⟩ := hps i hi
    have hi2 : i < lists.length := by rw [hro.1]; exact hi
    obtain ⟨us, ku, eus, hus⟩ := hro.2 i _ (List.getElem?_eq_getElem hi2)
    have ev : v = .ref (lists[i]).1 := by
      have : (refsOf lists)[i]? = some v := by simpa using hP
      rw [refsOf, List.getElem?_map, List.getElem?_eq_getElem hi2] at this
      exact (Option.some.inj this).symm
    subst ev
    have Nu : News h₀ L h ((lists[i].1, W.listOf us.toArray ku) :: (D₁, W.listOf ds₁.toArray k₁) :: (own ++ (D₁, W.listOf ds₁.toArray k₁) :: lists)) := by
      intro p hp
      rcases List.mem_cons.mp hp with rfl | hp
      · have := N3 lists[i] (List.mem_append_right _ (.tail _ (List.getElem_mem hi2)))
        rw [eus] at this
        exact this
      rcases List.mem_cons.mp hp with rfl | hp
      · exact N3 _ (List.mem_append_right _ (.head _))
      · exact N3 p hp
    have F4 := fr_at F3 (x := Str.ofString "due") md₁
    have hm4 : ∀ y, y ≠ Str.ofString "items" → y ≠ Str.ofString "k" → y ≠ Str.ofString "due" → (if y = Str.ofString "due" then some (Value.ref D₁) else if y = Str.ofString "items" then some (Value.ref (lists[i]).1) else m₁ y) = m y :=
      fun y h1 h2 h3 => ite_at (fun h => absurd h h3) (ite_at (fun h => absurd h h1) (hmy y h1 h2 h3))
    clear F3 F1 N2 N N3
    (try k_fold)
    k_steps
    refine unhalt ?_
    refine ne_strs ⟨_, (Nu _ (.head _)).1, rfl, _, rfl⟩ ⟨_, (Nu _ (.tail _ (.head _))).1, rfl, _, rfl⟩ hus hds₁ hpc (by exact hu) ?_
    k_steps
    refine unhalt ?_
    refine it_strN (i := 0) ⟨_, (Nu _ (.tail _ (.head _))).1, rfl, _, rfl⟩ hds₁ hp0 (by omega) ?_
    intro t₅
    k_steps
    refine len_S hp1 (by omega) ?_
    intro t₆ k₆
    k_steps
    refine unhalt ?_
    rename Fr _ _ _ _ => F5
    rename News _ _ _ _ => N5
    have hdl : ds₁.length = (pss i).length := by rw [hds₁.length, List.length_map]
    rw [show (((cs i + 1 : Nat) : Int) - 1) = (cs i : Int) by omega] at F5 ⊢
    dsimp only at F5 ⊢
    refine sl_takeX F5 N5 ⟨_, (N5 _ (.tail _ (.head _))).1, rfl, _, rfl⟩ (by omega) ?_
    intro D₆ h₆ F6 N6 hne₆
    clear F5 N5
    k_steps
    refine unhalt ?_
    dsimp only
    refine sl_revX F6 N6 ⟨_, (N6 _ (.head _)).1, rfl, _, rfl⟩ (by rw [List.length_take]; omega) ?_
    intro D₇ h₇ F7 N7 hne₇
    clear F6 N6
    k_steps
    refine unhalt ?_
    dsimp only
    refine sl_dropX F7 N7 ⟨_, (N7 _ (.tail _ (.tail _ (.tail _ (.head _))))).1, rfl, _, rfl⟩ (by omega) ?_
    intro D₈ h₈ F8 N8 hne₈
    clear F7 N7
    k_steps
    refine unhalt ?_
    refine cat_lists F8 N8 ⟨_, (N8 _ (.tail _ (.head _))).1, rfl, _, rfl⟩ ⟨_, (N8 _ (.head _)).1, rfl, _, rfl⟩ (by rw [List.length_reverse, List.length_take, List.length_drop]; omega) ?_
    intro D₉ h₉ F9 N9 hne₉
    clear F8 N8
    k_steps
    rename Fr _ _ _ _ => F10
    rename News _ _ _ _ => N10
    refine LEnd.next (news₂ := (D₉, W.listOf ((ds₁.take (cs i)).reverse ++ ds₁.drop (cs i)).toArray 0) :: lists) F10 ?_ ?_ ⟨D₉, _, 0, rfl, rfl, ?_, ?_⟩
    · intro p hp
      refine N10 p ?_
      rcases List.mem_append.mp hp with hp | hp
      · exact .tail _ (.tail _ (.tail _ (.tail _ (.tail _ (.tail _ (List.mem_append_left _ hp))))))
      rcases List.mem_cons.mp hp with rfl | hp
      · exact .head _
      · exact .tail _ (.tail _ (.tail _ (.tail _ (.tail _ (.tail _ (List.mem_append_right _ (.tail _ hp)))))))
    · intro p hp
      rcases List.mem_cons.mp hp with rfl | hp
      · obtain ⟨o, ho⟩ := hIo
        exact (hne₉ _ (.tail _ (.tail _ (.tail _ (.tail _ (.tail _ (List.mem_append_left _ ho))))))).symm
      · exact hnI p (.tail _ hp)
    · rw [hnx, turnP, List.map_append, List.map_reverse, List.map_take, List.map_drop]
      exact (strs_rev (hds₁.take' _)).append' (hds₁.drop' _)
    · intro y h1 h2 h3
      exact (ite_at (fun h => absurd h h3) (ite_at (fun h => absurd h h2) (hm4 y h1 h2 h3)))
  · rintro m₁ nx h tk ⟨D₁, ds₁, k₁, rfl, md₁, hds₁, hmy⟩ F3 N3
    rw [hsz] at hds₁
    have F4 := fr_at (fr_at F3 (x := Str.ofString "due") md₁) (x := Str.ofString "header") ((hmy _ (by decide) (by decide) (by decide)).trans mh)
    clear F3 F1 N2 N
    (try k_fold)
    k_steps
    refine unhalt ?_
    refine callWith_ownA X (by rfl) ?_
    k_steps
    refine unhalt ⟨X.keeps F4.keep, ?_⟩
    refine parse_spec rfl (X.keeps F4.keep) (T.keeps F4.keep) (by show d0 < 500; have : d0 < 450 := hroom; omega) (by rw [S_length]; omega) ?_
    intro h₂ tk₂ l us₂ k₂ hk₂ hl₂ ho₂ hs₂
    rw [show (S H).cps.toList = H from rfl, hpH] at hs₂
    have F7 := fr_keeps F4 hk₂
    have N7 := news_more F4 N3 hk₂ hl₂ ho₂
    clear F4 hk₂ hl₂ ho₂ N3
    k_steps
    refine unhalt ?_
    refine eq_strs ⟨_, (N7 _ (.head _)).1, rfl, _, rfl⟩ ⟨_, (N7 _ (.tail _ (.head _))).1, rfl, _, rfl⟩ hs₂ hds₁ hu ?_
    exact hQ _ _ F7.keep
end Mine
end
section
open PySem PySem.W PyProof.Rows PySem.Calls PyProof.V PySem.Spec
set_option maxRecDepth 100000
namespace Mine
theorem store_cell {M : Model} {A : Around} {E : Value → Shared → Prop} {s : Shared} {env : Env} {h₀ : Heap} {L c : Addr} {m : Str → Option Value} {news : List (Addr × Obj)} {o : Obj} {v₀ : Option Value} {x : Str} {v : Value} {Q : Unit → Shared → Prop}
    (F : Fr h₀ L s.heap m) (N : News h₀ L s.heap ((c, o) :: news)) (hd : o.data = .cell v₀) (hne : ∀ p ∈ news, p.1 ≠ c)
    (h : ∀ h' o', Fr h₀ L h' m → News h₀ L h' ((c, o') :: news) → o'.data = .cell (some v) → Q () { s with heap := h' })
    (hk : env.scope.kind = .function := by rfl) (hx : env.kindOf x = some .cell := by rfl) (hc : env.cells.lookup x = some c := by rfl) : wpAny M A (storeName env x v) Q E s := by
  have hmem := N (c, o) (.head _)
  refine wpAny_storeName_cell hk hx hc ⟨o, hmem.1, hd⟩ fun h' hv hs => ?_
  obtain ⟨o', ho', hd'⟩ := hv
  refine h h' o' ⟨F.ns.sameBut hs (Ne.symm hmem.2.1), fun b ob e => (hs.2 b (fun q => ?_)).trans (F.keep b ob e), F.above⟩ (News.setAt (own := []) N (fun _ h => nomatch h) hne hs ho') hd'
  rw [q, hmem.2.2] at e; cases e
local macro_rules | `(tactic| walk_at "eval Name") => `(tactic| first
  | (refine nm_local (by assumption) (by assumption) ?_)
  | (refine bi_name (by assumption) (by assumption) (by assumption) (ns_len _) bo_len (by decide) ?_))
local macro_rules | `(tactic| walk_at "subscriptTail") => `(tactic| (refine halt ?_))
theorem paired_map {f : Int → Int} : ∀ {us ys : List Value} {ns : List Int}, IntsAre us ns → Paired (fun v y => ∃ n t t', v = .int n t ∧ y = .int (f n) t') us ys → IntsAre ys (ns.map f) := by
  intro us ys ns hs hp
  induction hp generalizing ns with
  | nil => cases ns with
    | nil => exact .nil
    | cons _ _ => cases hs
  | cons a _ ih =>
    cases hs with
    | cons n t hs =>
      obtain ⟨n1, t1, t2, e1, rfl⟩ := a
      injection e1 with e1 e2
      subst e1
      exact .cons _ _ (ih hs)
def dflt : List Int := [1, 0, 1, 3, 2, 3, 4, 5]
def drawnL (ns : List Int) : List Int := (ns.take 8 ++ dflt.drop ns.length).map fun n => n.fmod 1000000
set_option maxHeartbeats 8000000 in
theorem start_spec {w : World} {A : Around} {s : Shared} {loose : List Str} {mean : ExcName → Option Value} {mg mb : Str → Option Value} {Q : Flow → Shared → Prop}
    {h₀ : Heap} {L l : Addr} {m : Str → Option Value} {vs : List Value} {ns : List Int} {o : Obj}
    (hh : A.handled = none) (X : (Mine.hd.heap_39 w.params).In h₀) (T : Top Mine.hd.view_39 loose mean mg mb h₀) (hroom : A.depth < 450)
    (F : Fr h₀ L s.heap m) (N : News h₀ L s.heap [(L + 1, o)]) (hod : o.data = .cell none) (mh : m (Str.ofString "script") = some (.ref l)) (hl : h₀.IsList l vs.toArray) (hi : IntsAre vs ns) (hlen : ns.length ≤ 63)
    (hQ : ∀ h' tk D ys k o', Fr h₀ L h' m → News h₀ L h' [(L + 1, o'), (D, W.listOf ys.toArray k)] → L + 1 ≠ D → o'.data = .cell (some (.ref D)) → IntsAre ys (drawnL ns) →
      wpN (model PR w) A (execs (lawB.drop 1) (lawEnv L)) Q (fun _ _ => False) { s with heap := h', toks := tk }) :
    wpN (model PR w) A (execs lawB (lawEnv L)) Q (fun _ _ => False) s := by
  obtain ⟨hd0, d0, fr0, gs0, u0⟩ := A
  obtain rfl : hd0 = none := hh
  conv => arg 3; arg 1; whnf
  show wpN _ _ (execs _ (envX (Str.ofString "law") _ L 31 (.ref 30) [(Str.ofString "drawn", L + 1)])) _ _ _
  have F1 := fr_at F (x := Str.ofString "script") mh
  have hvl : vs.length = ns.length := hi.length
  clear F
  refine wpN_execs_cons (wpN_Assign_Name (.of (comp_eval ?_)))
  refine wpAny_mono (Q := fun y s₃ => Halt (CompAt _ _ _ _ _ _ _ _ y s₃)) ?_ (fun _ _ h => h) (fun _ _ h => h)
  (try k_fold)
  k_steps
  refine unhalt ?_
  rename Fr _ _ _ _ => F2
  rename News _ _ _ _ => N2
  obtain ⟨dv, hdv, hId⟩ : ∃ dv : List Value, (#[Value.int 1 (s.toks + 1), Value.int 0 (s.toks + 1 + 1), Value.int 1 (s.toks + 1 + 1 + 1), Value.int 3 (s.toks + 1 + 1 + 1 + 1), Value.int 2 (s.toks + 1 + 1 + 1 + 1 + 1), Value.int 3 (s.toks + 1 + 1 + 1 + 1 + 1 + 1), Value.int 4 (s.toks + 1 + 1 + 1 + 1 + 1 + 1 + 1), Value.int 5 (s.toks + 1 + 1 + 1 + 1 + 1 + 1 + 1 + 1)] : Array Value) = dv.toArray ∧ IntsAre dv dflt := ⟨[Value.int 1 (s.toks + 1), Value.int 0 (s.toks + 1 + 1), Value.int 1 (s.toks + 1 + 1 + 1), Value.int 3 (s.toks + 1 + 1 + 1 + 1), Value.int 2 (s.toks + 1 + 1 + 1 + 1 + 1), Value.int 3 (s.toks + 1 + 1 + 1 + 1 + 1 + 1), Value.int 4 (s.toks + 1 + 1 + 1 + 1 + 1 + 1 + 1), Value.int 5 (s.toks + 1 + 1 + 1 + 1 + 1 + 1 + 1 + 1)], rfl, (IntsAre.cons 1 _ (IntsAre.cons 0 _ (IntsAre.cons 1 _ (IntsAre.cons 3 _ (IntsAre.cons 2 _ (IntsAre.cons 3 _ (IntsAre.cons 4 _ (IntsAre.cons 5 _ IntsAre.nil))))))))⟩
  rw [hdv] at N2
  clear hdv
  dsimp only
  refine sl_dropX F2 N2 ⟨_, (N2 _ (.head _)).1, rfl, _, rfl⟩ (by rw [hId.length]; decide) ?_
  intro D₃ h₃ F3 N3 hne₃
  have hI₃ := hId.drop ns.length
  clear F2 N2
  rename IntsAre _ (List.take 8 ns) => hIa
  refine kmk_add_ints F3 N3 ⟨_, (N3 _ (.tail _ (.tail _ (.head _)))).1, rfl, _, rfl⟩ ⟨_, (N3 _ (.head _)).1, rfl, _, rfl⟩ hIa hI₃ ?_ (by rw [sizeLine_eq, List.length_take, List.length_drop, show dflt.length = 8 from rfl]; omega)
  intro D₄ us h₄ F4 N4 hlt₄ hI₄
  clear F3 N3 hne₃ hI₃ hIa hId
  show Halt _
  refine unhalt ⟨_, _, _, fun v y => ∃ n t t', v = .int n t ∧ y = .int (n.fmod 1000000) t', Src.list rfl ⟨_, (N4 _ (.head _)).1, rfl, _, rfl⟩, ?_, ?_, ?_, ?_⟩
  · intro b hb
    rw [List.mem_singleton.mp hb]
    exact Heap.lt_size (N4 _ (.head _)).1
  · have := hI₄.length
    rw [List.size_toArray, this, sizeLine_eq, List.length_append, List.length_take, List.length_drop, show dflt.length = 8 from rfl]
    omega
  · intro C i v s₂ m₂ E' hP hns hm hk
    obtain ⟨o, t', h1, rfl⟩ := ints_get hI₄ i v (by simpa using hP)
    clear F4 N4
    refine wpAny_mono (Q := fun y s₃ => Halt (_ ∧ _)) ?_ (fun _ _ h => h) (fun _ _ h => h)
    (try k_fold)
    k_steps
    exact unhalt ⟨⟨o, t', _, rfl, rfl⟩, _, _, rfl, fun b o e => e⟩
  · intro D₅ h₅ tk₅ ys k₅ vs₅ hD₅ hl₅ hvl₅ hv₅ hG₅ hk₅
    have hvs := vs_eq hvl₅ hv₅
    subst hvs
    have hys : IntsAre ys (drawnL ns) := paired_map hI₄ hG₅
    have F5 := fr_keeps F4 hk₅
    have N5 := news_more F4 N4 hk₅ hD₅ hl₅
    have hcD : L + 1 ≠ D₅ := news_lt N4 hD₅ (L + 1, o) (by simp)
    have N6 : News h₀ L h₅ [(L + 1, o), (D₅, W.listOf ys.toArray k₅)] := fun p hp => N5 p (by
      rcases List.mem_cons.mp hp with rfl | hp
      · simp
      · rw [List.mem_singleton.mp hp]; exact .head _)
    refine store_cell F5 N6 hod (fun p hp => by rw [List.mem_singleton.mp hp]; exact hcD.symm) ?_
    intro h₆ o' F6 N7 ho'
    show wpN _ _ (execs (lawB.drop 1) (lawEnv L)) _ _ _
    have F7 : Fr h₀ L h₆ m := by
      have e : (fun y => if y = Str.ofString "script" then some (Value.ref l) else m y) = m := funext fun y => ite_at (fun h => by rw [h, mh]) rfl
      rw [← e]; exact F6
    exact hQ h₆ tk₅ D₅ ys k₅ o' F7 N7 hcD ho' hys
end Mine
end
section
open PySem PySem.W PyProof.Rows PySem.Calls PyProof.V PySem.Spec
set_option maxRecDepth 100000
namespace Mine
theorem cell_name {M : Model} {A : Around} {E : Value → Shared → Prop} {s : Shared} {env : Env} {h₀ : Heap} {L c : Addr} {news : List (Addr × Obj)} {o : Obj} {x : Str} {pos : Pos} {v : Value} {Q : Value → Shared → Prop}
    (hd : o.data = .cell (some v)) (N : News h₀ L s.heap news) (hm : (c, o) ∈ news) (h : Q v s)
    (hk : env.scope.kind = .function := by rfl) (hx : env.kindOf x = some .cell := by rfl) (hc : env.cells.lookup x = some c := by rfl) (hb : (x == ("__debug__" : Str)) = false := by decide) : wpAny M A (eval (.Name x pos) env) Q E s :=
  wpAny_Name (wpAny_loadName_cell hk hx hc ⟨o, N.get hm, hd⟩ h) hb
theorem drawn_len (ns : List Int) : (drawnL ns).length = 8 := by
  simp only [drawnL, List.length_map, List.length_append, List.length_take, List.length_drop, show dflt.length = 8 from rfl]; omega
theorem drawn_range (ns : List Int) : ∀ d ∈ drawnL ns, 0 ≤ d ∧ d < 1000000 := by
  intro d hd
  obtain ⟨x, _, rfl⟩ := List.mem_map.mp hd
  exact ⟨Int.fmod_nonneg_of_pos _ (by decide), Int.fmod_lt_of_pos _ (by decide)⟩
def sizeN (ns : List Int) : Nat := (3 + ((drawnL ns).getD 0 0).fmod 5).toNat
theorem size_eq (ns : List Int) : (4 + ((drawnL ns).getD 0 0).fmod 5) = (sizeN ns : Int) + 1 ∧ 3 ≤ sizeN ns ∧ sizeN ns ≤ 7 := by
  have h1 := Int.fmod_nonneg_of_pos ((drawnL ns).getD 0 0) (b := 5) (by decide)
  have h2 := Int.fmod_lt_of_pos ((drawnL ns).getD 0 0) (b := 5) (by decide)
  unfold sizeN
  omega
def insAt {α : Type} (l : List α) (p : Nat) (x : α) : List α := l.take p ++ x :: l.drop p
/-- the place of item k -/
def posN (dr : List Int) (k : Nat) : Nat := ((dr.getD k 0).fmod (k : Int)).toNat
def orderN (dr : List Int) : Nat → List Nat
  | 0 => []
  | k + 1 => insAt (orderN dr k) (posN dr (k + 1)) (k + 1)
theorem pos_eq (dr : List Int) (k : Nat) : (dr.getD (k + 1) 0).fmod ((k + 1 : Nat) : Int) = (posN dr (k + 1) : Int) ∧ posN dr (k + 1) ≤ k := by
  have h1 := Int.fmod_nonneg_of_pos (dr.getD (k + 1) 0) (b := ((k + 1 : Nat) : Int)) (by omega)
  have h2 := Int.fmod_lt_of_pos (dr.getD (k + 1) 0) (b := ((k + 1 : Nat) : Int)) (by omega)
  unfold posN
  omega
theorem insAt_len {α : Type} (l : List α) (p : Nat) (x : α) : (insAt l p x).length = l.length + 1 := by
  simp [insAt]; omega
theorem order_len (dr : List Int) : ∀ k, (orderN dr k).length = k
  | 0 => rfl
  | k + 1 => by rw [orderN, insAt_len, order_len dr k]
theorem insAt_map {α β : Type} (f : α → β) (l : List α) (p : Nat) (x : α) : (insAt l p x).map f = insAt (l.map f) p (f x) := by
  simp [insAt]
theorem ins_eq (l : List Value) (p : Nat) (y : Value) (h : p ≤ l.length) : kl_ins l (p : Int) y = insAt l p y := by
  unfold kl_ins insAt
  rw [if_neg (by omega), show min ((p : Int).toNat) l.length = p by omega]
theorem ints_ins {us : List Value} {ns : List Int} {p : Nat} {x : Int} {t : Tok} (h : IntsAre us ns) : IntsAre (insAt us p (.int x t)) (insAt ns p x) := by
  have h1 := h.take p
  have h2 := h.drop p
  exact h1.append (.cons x t h2)
local macro_rules | `(tactic| walk_at "eval Name") => `(tactic| first
  | (refine nm_local (by assumption) (by assumption) ?_)
  | (refine cell_name (by assumption) (by assumption) (by first | exact .head _ | exact .tail _ (.head _) | exact .tail _ (.tail _ (.head _))) ?_)
  | (refine bi_name (by assumption) (by assumption) (by assumption) (ns_range _) bo_range (by decide) ?_)
  | (refine bi_name (by assumption) (by assumption) (by assumption) (ns_len _) bo_len (by decide) ?_))
local macro_rules | `(tactic| walk_at "exec For") => `(tactic| (refine halt ?_))
local macro_rules | `(tactic| walk_at "exec For Name Call cons nil") => `(tactic| (refine halt ?_))
local macro_rules | `(tactic| walk_at "pyIter ref") => `(tactic| (refine halt ?_))
local macro_rules | `(tactic| walk_at "subscriptTail") => `(tactic| (refine halt ?_))
local macro_rules | `(tactic| walk_at "subscriptTail Name Constant ref int") => `(tactic| (refine halt ?_))
local macro_rules | `(tactic| walk_at "subscriptTail Name Name ref int") => `(tactic| (refine halt ?_))
local macro_rules | `(tactic| walk_at "call builtin:list.insert") => `(tactic| (refine halt ?_))
def JN (dr : List Int) (O L D : Addr) (o : Obj) (d : List Value) (kd : Nat) (m₀ : Str → Option Value) (i : Nat) (m : Str → Option Value) (nx : List (Addr × Obj)) : Prop :=
  ∃ os no, nx = [(O, W.listOf os.toArray no), (L + 1, o), (D, W.listOf d.toArray kd)] ∧ IntsAre os ((orderN dr i).map fun k : Nat => (k : Int)) ∧ m (Str.ofString "order") = some (.ref O) ∧
    (∀ y, y ≠ Str.ofString "k" → y ≠ Str.ofString "order" → m y = m₀ y)
set_option maxHeartbeats 8000000 in
theorem order_spec {w : World} {A : Around} {s : Shared} {loose : List Str} {mean : ExcName → Option Value} {mg mb : Str → Option Value} {Q : Flow → Shared → Prop}
    {h₀ : Heap} {L D : Addr} {m : Str → Option Value} {ys : List Value} {ns : List Int} {o : Obj} {kd : Nat}
    (hh : A.handled = none) (X : (Mine.hd.heap_39 w.params).In h₀) (T : Top Mine.hd.view_39 loose mean mg mb h₀) (hroom : A.depth < 450)
    (F : Fr h₀ L s.heap m) (N : News h₀ L s.heap [(L + 1, o), (D, W.listOf ys.toArray kd)]) (hcD : L + 1 ≠ D) (hod : o.data = .cell (some (.ref D))) (hys : IntsAre ys (drawnL ns))
    (hQ : ∀ h' tk m' O os no, Fr h₀ L h' m' → News h₀ L h' [(O, W.listOf os.toArray no), (L + 1, o), (D, W.listOf ys.toArray kd)] → IntsAre os ((orderN (drawnL ns) (sizeN ns)).map fun k : Nat => (k : Int)) → m' (Str.ofString "order") = some (.ref O) →
      wpN (model PR w) A (execs (lawB.drop 3) (lawEnv L)) Q (fun _ _ => False) { s with heap := h', toks := tk }) :
    wpN (model PR w) A (execs (lawB.drop 1) (lawEnv L)) Q (fun _ _ => False) s := by
  obtain ⟨hd0, d0, fr0, gs0, u0⟩ := A
  obtain rfl : hd0 = none := hh
  conv => arg 3; arg 1; whnf
  show wpN _ _ (execs _ (envX (Str.ofString "law") _ L 31 (.ref 30) [(Str.ofString "drawn", L + 1)])) _ _ _
  have hdl := drawn_len ns
  obtain ⟨hse, hs3, hs7⟩ := size_eq ns
  refine wpN_execs_leaf ?_
  (try k_fold)
  k_steps
  refine wpN_execs_leaf ?_
  refine For_invVF (by assumption) rfl rfl ?_
  (try k_fold)
  k_steps
  refine unhalt ?_
  rename Fr _ _ _ _ => F2
  rename News _ _ _ _ => N2
  rename (L + 1 < _ ∧ D < _) => hOl
  refine it_ints (k := 0) ⟨_, (N2 _ (.tail _ (.tail _ (.head _)))).1, rfl, _, rfl⟩ hys (by omega) (by omega) ?_
  intro t₁
  k_steps
  refine unhalt ?_
  rename IsRange _ _ _ _ _ _ _ _ => hr
  rename Fr _ _ _ _ => F4
  rename News _ _ _ _ => N4
  rw [hse] at hr
  refine for_own (JN (drawnL ns) _ L D o ys kd m) (Src.range (by rfl) hr (small_one (by omega) (by omega) (by omega) (by omega)) (rs_up (sizeN ns))) F4 N4 ⟨[], 0, rfl, .nil, rfl, fun y _ h2 => if_neg h2⟩ ?_ ?_
  · rintro i v m₁ nx h tk' own hq ⟨t', rfl⟩ hoff _ ⟨os, no, rfl, hos, mo, hmy⟩ F5 N5
    rw [show (1 + (i : Int) * 1) = ((i + 1 : Nat) : Int) by omega] at F5
    have F6 := fr_at F5 (x := Str.ofString "order") mo
    have hol : os.length = i := by rw [hos.length, List.length_map, order_len]
    obtain ⟨hpe, hpl⟩ := pos_eq (drawnL ns) i
    have hne := hoff
    clear F5 hr F4 N4
    (try k_fold)
    k_steps
    refine unhalt ?_
    rename IntsAre _ (drawnL ns) => hys
    refine it_ints (k := i + 1) ⟨_, (N5 _ (.tail _ (.tail _ (.head _)))).1, rfl, _, rfl⟩ hys (by omega) (by omega) ?_
    intro t₃
    k_steps
    refine unhalt ?_
    rename Fr _ _ _ _ => F7
    rename News _ _ _ _ => N7
    rw [hpe]
    refine kl_insert (l := insAt os (posN (drawnL ns) (i + 1)) (Value.int ((i + 1 : Nat) : Int) t')) F7 N7 ?_ (ins_eq os _ _ (by omega)) (Upd.head ?_) (by show os.length ≤ _; rw [sizeLine_eq]; omega) ?_
    · unfold Builtin.List.listFitsIndex
      rw [Bool.and_eq_true, decide_eq_true_eq, decide_eq_true_eq]
      omega
    · intro p hp
      rcases List.mem_cons.mp hp with rfl | hp
      · exact Nat.ne_of_lt hOl.1
      rcases List.mem_cons.mp hp with rfl | hp
      · exact Nat.ne_of_lt hOl.2
      · exact hoff.ne (.head _) p hp
    intro h₈ F8 N8
    clear F7 N7
    refine wpAny_execs_nil ?_
    refine InvEndN.intro F8 N8 (nx := [(_, W.listOf (insAt os (posN (drawnL ns) (i + 1)) (Value.int ((i + 1 : Nat) : Int) t')).toArray (no + 1)), (L + 1, o), (D, W.listOf ys.toArray kd)]) ⟨_, _, rfl, ?_, rfl, ?_⟩ rfl ?_ ?_
    · rw [orderN, insAt_map]
      exact ints_ins hos
    · exact fun y h1 h2 => ite_at (fun h => absurd h h2) (ite_at (fun h => absurd h h1) (hmy y h1 h2))
    · intro p hp
      rcases List.mem_cons.mp hp with rfl | hp
      · exact .head _
      · exact .tail _ (List.mem_append_left _ hp)
    · exact fun p hp => .tail _ (.tail _ (.tail _ hp))
  · rintro m₁ nx h tk' _ ⟨os, no, rfl, hos, mo, hmy⟩ F5 N5
    show wpN _ _ (execs (lawB.drop 3) (lawEnv L)) _ _ _
    exact hQ _ _ m₁ _ os no F5 N5 hos mo
end Mine
end
section
open PySem PySem.W PyProof.Rows PySem.Calls PyProof.V PySem.Spec
set_option maxRecDepth 100000
namespace Mine
/-- comp_assign for a block that reads a cell of the frame's -/
theorem comp_assignC {prog : Program} {w : World} {A : Around} {E : Value → Shared → Prop} {env : Env} {s : Shared} {elt iter : Expr} {x y : Str} {px py : Pos} {scope : Scope} {cl : List (Str × Addr)} {pos spos : Pos} {Q : Flow → Shared → Prop} {h₀ : Heap} (G : Value → Value → Prop)
    (h : wpAny (model prog w) A (eval iter env) (fun xv s₁ => ∃ (m : Str → Option Value) (news : List (Addr × Obj)) (n : Nat) (P : Nat → Value → Prop) (srcs : List Addr),
      Fr h₀ env.locals s₁.heap m ∧ News h₀ env.locals s₁.heap news ∧ Src prog w A s₁ xv n P srcs ∧ (∀ b ∈ srcs, b < s₁.heap.objs.size) ∧ n ≤ sizeLine ∧
      (∀ C i v s₂ m₂ E', P i v → s₂.heap.Ns C m₂ → m₂ x = some v → (∀ b o, s₁.heap.get? b = some o → s₂.heap.get? b = some o) →
        wpAny (model prog w) A (eval elt (compEnvC scope cl C env)) (fun y s₃ => G v y ∧ Keeps s₂ s₃) E' s₂) ∧
      (∀ D h' tk ys k (vs : List Value), vs.length = n → (∀ j v, vs[j]? = some v → P j v) → Paired G vs ys → (∀ p ∈ news, p.1 ≠ D) →
        Fr h₀ env.locals h' (fun z => if z = y then some (.ref D) else m z) → News h₀ env.locals h' ((D, listOf ys.toArray k) :: news) → Q .next { s₁ with heap := h', toks := tk })) E s)
    (hclos : closureFor scope env = pure cl)
    (hsw : swapsWith (.ListComp elt [⟨.Name x px, iter, [], 0⟩] scope pos) (some (.Name y py)) spos.line env = pure true := by rfl)
    (hcell : ∀ y ∈ scope.names, y.2 ≠ .cell := by decide) (hkind : scope.kind = .function := by rfl)
    (hnames : ∀ y ∈ scope.names, y.2 = .local → scope.names.lookup y.1 = some .local := by decide) (hx : scope.names.lookup x = some .local := by rfl)
    (hy : env.kindOf y = some .local := by rfl) (hp : (env.scope.kind == .class || (env.scope.kind == .module && env.locals != env.globals)) = false := by rfl)
    (hs : ∀ x, foldedSetIterable iter env x = pure x := by intro _; rfl) :
    wpAny (model prog w) A (exec (.Assign [.Name y py] (.ListComp elt [⟨.Name x px, iter, [], 0⟩] scope pos) spos) env) Q E s := by
  refine wpAny_Assign_ListComp_free (fun _ => true) G hsw hclos hcell hkind hnames hx hy hp (wpAny_mono h (fun xv s₁ h₁ => ?_) fun _ _ e => e) hs
  obtain ⟨m, news, n, P, srcs, F, N, S, hsr, hsz, helt, hQ⟩ := h₁
  refine S _ _ fun o St W hst => ?_
  have up : ∀ b o', s₁.heap.get? b = some o' → (s₁.heap.push o).get? b = some o' := fun b o' e => Heap.get?_push_of_some _ e
  have hlt : ∀ b o', s₁.heap.get? b = some o' → b ∉ [s₁.heap.objs.size] := fun b o' e hb => absurd (Heap.lt_size e) (by rw [List.mem_singleton.mp hb]; exact Nat.lt_irrefl _)
  have hL : env.locals ∉ [s₁.heap.objs.size] := by
    obtain ⟨oL, _, _, hL, _⟩ := F.ns
    exact hlt _ _ hL
  refine ⟨_, _, _, n, P, St, m, rfl, W, hsz, hst, ?_, hL, F.ns.push _, ⟨?_, ?_⟩, ?_⟩
  · intro b hb
    show b < (s₁.heap.push o).objs.size
    rw [Heap.size_push]
    rcases List.mem_cons.mp hb with rfl | hb
    · exact Nat.lt_succ_self _
    · exact Nat.lt_succ_of_lt (hsr b hb)
  · intro C i v s₃ m₃ E' _ _ _ _ _ _
    exact wpAny_pure ⟨rfl, s₃.heap, s₃.toks, rfl, fun _ _ e => e⟩
  · intro C i v s₃ m₃ E' _ hP _ hns hm hk _
    exact helt C i v s₃ m₃ E' hP hns hm fun b o' e => hk b o' (hlt b o' e) (up b o' e)
  · intro D h' tk ys vs hD _ hpl hlen hP hF hns hk
    obtain ⟨k, hk'⟩ := hpl
    rw [filter_tt] at hF
    have hD' := get_none_of_keeps up hD
    have hk2 : ∀ b o', b ≠ env.locals → s₁.heap.get? b = some o' → h'.get? b = some o' := fun b o' hb e => hk b o' hb (hlt b o' e) (up b o' e)
    have F' : Fr h₀ env.locals h' (fun z => if z = y then some (.ref D) else m z) :=
      ⟨hns, fun b o' e => hk2 b o' (Nat.ne_of_lt (Nat.lt_of_lt_of_le (Heap.lt_size e) F.above)) (F.keep b o' e), F.above⟩
    refine hQ D h' tk ys.toList k vs hlen hP hF (news_lt N hD') F' ?_
    intro p hp
    rcases List.mem_cons.mp hp with rfl | hp
    · refine ⟨by simpa using hk', ?_, ?_⟩
      · rintro rfl
        obtain ⟨oL, _, _, hL', _⟩ := F.ns
        rw [hL'] at hD'; cases hD'
      · cases q : h₀.get? D with
        | none => rfl
        | some o' => rw [F.keep _ _ q] at hD'; cases hD'
    · exact ⟨hk2 _ _ (N p hp).2.1 (N p hp).1, (N p hp).2⟩
theorem cell_nameH {M : Model} {A : Around} {E : Value → Shared → Prop} {s : Shared} {env : Env} {c : Addr} {o : Obj} {x : Str} {pos : Pos} {v : Value} {Q : Value → Shared → Prop}
    (hd : o.data = .cell (some v)) (hm : s.heap.get? c = some o) (h : Q v s)
    (hk : env.scope.kind = .function := by rfl) (hx : env.kindOf x = some .cell := by rfl) (hc : env.cells.lookup x = some c := by rfl) (hb : (x == ("__debug__" : Str)) = false := by decide) : wpAny M A (eval (.Name x pos) env) Q E s :=
  wpAny_Name (wpAny_loadName_cell hk hx hc ⟨o, hm, hd⟩ h) hb
/-- the signs of an item -/
def sgnN (q : Nat) : Nat := [44, 97, 32, 59].getD q 0
theorem item_sgn (i : Int) (h0 : 0 ≤ i) (h4 : i < 4) : Txt.item (Str.ofString ",a ;") i = S [sgnN i.toNat] := by
  have : i = 0 ∨ i = 1 ∨ i = 2 ∨ i = 3 := by omega
  rcases this with rfl | rfl | rfl | rfl <;> decide +kernel
theorem fold_rep (c : Nat) : ∀ (n : Nat) (a : List Nat), (List.replicate n (#[c] : Array Nat)).foldl (· ++ ·) a.toArray = (a ++ List.replicate n c).toArray
  | 0, a => by simp
  | n + 1, a => by
    rw [List.replicate_succ, List.foldl_cons, show a.toArray ++ #[c] = (a ++ [c]).toArray by simp, fold_rep c n, List.replicate_succ, List.append_assoc]
    rfl
theorem mul_sgn (c n : Nat) : Txt.mul (S [c]) (n : Int) = S (List.replicate n c) := by
  unfold Txt.mul
  split
  · rw [show n = 0 by omega]; rfl
  · split
    · rename_i h
      have : n = 1 := by
        rcases Bool.or_eq_true_iff.mp h with h | h
        · have := beq_iff_eq.mp h; omega
        · exact absurd h (by rw [S_length]; simp)
      subst this
      rfl
    · refine Str.ext' ?_
      show (List.replicate ((n : Int).toNat) (#[c] : Array Nat)).foldl (· ++ ·) #[] = (List.replicate n c).toArray
      rw [show ((n : Int).toNat) = n by omega]
      have := fold_rep c n []
      simpa using this
def sgnOf (dr : List Int) (k : Nat) : Nat := sgnN (((dr.getD k 0).fdiv (k : Int)).fmod 4).toNat
def itemN (dr : List Int) (k : Nat) : List Nat := [34] ++ List.replicate (k - 1) (sgnOf dr k) ++ [34]
theorem itemN_len (dr : List Int) (k : Nat) (h : 0 < k) : (itemN dr k).length = k + 1 := by
  simp [itemN]; omega
theorem order_mem (dr : List Int) : ∀ i, ∀ k ∈ orderN dr i, 1 ≤ k ∧ k ≤ i
  | 0, k, h => nomatch h
  | i + 1, k, h => by
    rw [orderN, insAt] at h
    rcases List.mem_append.mp h with h | h
    · have := order_mem dr i k (List.mem_of_mem_take h); omega
    rcases List.mem_cons.mp h with rfl | h
    · omega
    · have := order_mem dr i k (List.mem_of_mem_drop h); omega
def dueN (ns : List Int) : List (List Nat) := (orderN (drawnL ns) (sizeN ns)).map (itemN (drawnL ns))
local macro_rules | `(tactic| walk_at "eval Name") => `(tactic| first
  | (refine nm_local (by assumption) (by assumption) ?_)
  | (refine cell_nameH (by assumption) (by assumption) ?_))
local macro_rules | `(tactic| walk_at "subscriptTail") => `(tactic| (refine halt ?_))
local macro_rules | `(tactic| walk_at "subscriptTail Name Name ref int") => `(tactic| (refine halt ?_))
local macro_rules | `(tactic| walk_at "subscriptTail Constant BinOp str int") => `(tactic| (refine halt ?_))
local macro_rules | `(tactic| walk_at "call builtin:str.join") => `(tactic| (refine halt ?_))
local macro_rules | `(tactic| walk_at "binaryOp Mult str int") => `(tactic| (refine halt ?_))
local macro_rules | `(tactic| walk_at "binaryOp Add str str") => `(tactic| (refine halt ?_))
set_option maxHeartbeats 8000000 in
theorem begin_spec {w : World} {A : Around} {s : Shared} {loose : List Str} {mean : ExcName → Option Value} {mg mb : Str → Option Value} {Q : Flow → Shared → Prop}
    {h₀ : Heap} {L D O : Addr} {m : Str → Option Value} {ys os : List Value} {ns : List Int} {o : Obj} {kd no : Nat}
    (hh : A.handled = none) (X : (Mine.hd.heap_39 w.params).In h₀) (T : Top Mine.hd.view_39 loose mean mg mb h₀) (hroom : A.depth < 450)
    (F : Fr h₀ L s.heap m) (N : News h₀ L s.heap [(O, W.listOf os.toArray no), (L + 1, o), (D, W.listOf ys.toArray kd)]) (hod : o.data = .cell (some (.ref D))) (hys : IntsAre ys (drawnL ns))
    (hos : IntsAre os ((orderN (drawnL ns) (sizeN ns)).map fun k : Nat => (k : Int))) (mo : m (Str.ofString "order") = some (.ref O))
    (hQ : ∀ h' tk m' R Fi Du ds kdu nr nf t', Fr h₀ L h' m' → News h₀ L h' [(R, W.listOf ([] : List Value).toArray nr), (Fi, W.listOf ([] : List Value).toArray nf), (Du, W.listOf ds.toArray kdu), (O, W.listOf os.toArray no)] → R ≠ Fi → Du ≠ R → Du ≠ Fi → O ≠ R → O ≠ Fi →
      StrsAre ds ((dueN ns).map S) → m' (Str.ofString "order") = some (.ref O) → m' (Str.ofString "due") = some (.ref Du) → m' (Str.ofString "header") = some (.str (S (joinS [44] (dueN ns))) t') → m' (Str.ofString "read") = some (.ref R) → m' (Str.ofString "firsts") = some (.ref Fi) →
      wpN (model PR w) A (execs (lawB.drop 6) (lawEnv L)) Q (fun _ _ => False) { s with heap := h', toks := tk }) :
    wpN (model PR w) A (execs (lawB.drop 3) (lawEnv L)) Q (fun _ _ => False) s := by
  obtain ⟨hd0, d0, fr0, gs0, u0⟩ := A
  obtain rfl : hd0 = none := hh
  conv => arg 3; arg 1; whnf
  show wpN _ _ (execs _ (envX (Str.ofString "law") _ L 31 (.ref 30) [(Str.ofString "drawn", L + 1)])) _ _ _
  have hdl := drawn_len ns
  obtain ⟨-, hs3, hs7⟩ := size_eq ns
  have F1 := fr_at F (x := Str.ofString "order") mo
  clear F
  refine wpN_execs_leaf (comp_assignC (h₀ := h₀) (cl := [(Str.ofString "drawn", L + 1)]) (fun v y => ∃ n t t', v = .int n t ∧ y = .str (S (itemN (drawnL ns) n.toNat)) t') ?_ (by rfl))
  refine nm_local F1.ns rfl ?_
  have hol : os.length = sizeN ns := by rw [hos.length, List.length_map, order_len]
  refine ⟨_, _, _, _, _, F1, N, Src.list rfl ⟨_, (N _ (.head _)).1, rfl, _, rfl⟩, ?_, ?_, ?_, ?_⟩
  · intro b hb
    rw [List.mem_singleton.mp hb]
    exact Heap.lt_size (N _ (.head _)).1
  · rw [List.size_toArray, sizeLine_eq]; omega
  · intro C i v s₂ m₂ E' hP hns hm hk
    obtain ⟨x, t', h1, rfl⟩ := ints_get hos i v (by simpa using hP)
    obtain ⟨k, hk1, rfl⟩ := List.mem_map.mp (List.mem_of_getElem? h1)
    obtain ⟨hk2, hk3⟩ := order_mem _ _ k hk1
    have hcell : s₂.heap.get? (L + 1) = some o := hk _ _ (N _ (.tail _ (.head _))).1
    have hD : s₂.heap.IsList D ys.toArray := ⟨_, hk _ _ (N _ (.tail _ (.tail _ (.head _)))).1, rfl, _, rfl⟩
    clear F1 N
    refine wpAny_mono (Q := fun y s₃ => Halt (_ ∧ _)) ?_ (fun _ _ h => h) (fun _ _ h => h)
    (try k_fold)
    k_steps
    refine unhalt ?_
    refine it_ints (k := k) hD hys (by omega) (by omega) ?_
    intro t₅
    have hi0 := Int.fmod_nonneg_of_pos (((drawnL ns).getD k 0).fdiv (k : Int)) (b := 4) (by decide)
    have hi4 := Int.fmod_lt_of_pos (((drawnL ns).getD k 0).fdiv (k : Int)) (b := 4) (by decide)
    k_steps
    refine unhalt ?_
    refine KXi.item (n := 4) (by decide +kernel) (by omega) (by omega) (by decide) ?_
    intro _
    rw [item_sgn _ hi0 hi4]
    k_steps
    refine unhalt ?_
    rw [show ((k : Int) - 1) = ((k - 1 : Nat) : Int) by omega]
    refine KXi.mul (n := 1) rfl (by decide) (by omega) (by omega) ?_
    intro t₆ k₆ _ _
    rw [mul_sgn]
    k_steps
    refine unhalt ?_
    rw [ofs_quo]
    refine add_S (by rw [List.length_replicate, List.length_singleton]; omega) ?_
    intro t₇ k₇
    k_steps
    refine unhalt ?_
    refine add_S (by rw [List.length_append, List.length_replicate, List.length_singleton]; omega) ?_
    intro t₈ k₈
    refine unhalt ⟨⟨(k : Int), t', t₈, rfl, ?_⟩, _, _, rfl, fun b o e => e⟩
    rfl
  · intro D₅ h₅ tk₅ zs k₅ vs₅ hvl₅ hv₅ hG₅ hne₅ F5 N5
    have hvs := vs_eq hvl₅ hv₅
    subst hvs
    have hzs : StrsAre zs ((dueN ns).map S) := by
      have := paired_ints hos hG₅
      rw [List.map_map, List.map_map] at this
      rw [dueN, List.map_map]
      exact this
    show wpN _ _ (execs _ _) _ _ _
    clear F1 N
    have hml : ∀ p ∈ dueN ns, p.length ≤ 8 := by
      intro p hp
      obtain ⟨k, hk, rfl⟩ := List.mem_map.mp hp
      have := order_mem _ _ k hk
      rw [itemN_len _ _ (by omega)]; omega
    have hdn : (dueN ns).length = sizeN ns := by rw [dueN, List.length_map, order_len]
    refine wpN_execs_leaf ?_
    (try k_fold)
    k_steps
    refine unhalt ?_
    rw [ofs_com]
    refine join_own 8 (N5 _ (.head _)).1 hzs (by simp) hml (by omega) ?_
    intro t₆ tk₆
    k_steps
    refine wpN_execs_leaf ?_
    (try k_fold)
    k_steps
    rename Fr _ _ _ _ => F8
    rename News _ _ _ _ => N8
    rename (D₅ < _ ∧ O < _ ∧ L + 1 < _ ∧ D < _) => hl1
    rename (_ < _ ∧ D₅ < _ ∧ O < _ ∧ L + 1 < _ ∧ D < _) => hl2
    show wpN _ _ (execs (lawB.drop 6) (lawEnv L)) _ _ _
    refine hQ _ _ _ _ _ D₅ zs k₅ 0 0 t₆ F8 ?_ (Nat.ne_of_lt hl2.1) (Nat.ne_of_lt hl1.1) (Nat.ne_of_lt hl2.2.1) (Nat.ne_of_lt hl1.2.1) (Nat.ne_of_lt hl2.2.2.1) hzs rfl rfl rfl rfl rfl
    intro p hp
    rcases List.mem_cons.mp hp with rfl | hp
    · exact N8 _ (.tail _ (.tail _ (.head _)))
    rcases List.mem_cons.mp hp with rfl | hp
    · exact N8 _ (.tail _ (.head _))
    rcases List.mem_cons.mp hp with rfl | hp
    · exact N8 _ (.tail _ (.tail _ (.tail _ (.head _))))
    · rw [List.mem_singleton.mp hp]
      exact N8 _ (.tail _ (.tail _ (.tail _ (.tail _ (.head _)))))
end Mine
end
section
open PySem PySem.W PyProof.Rows PySem.Calls PyProof.V PySem.Spec
set_option maxRecDepth 100000
namespace Mine
/-- call_own for a def with captured names that makes a bytearray -/
theorem call_ownNC {prog : Program} {w : World} {A : Around} {s : Shared} {K : Frag} {p : Program} {loose : List Str} {mean : ExcName → Option Value} {mg mb : Str → Option Value}
    {Q : Value → Shared → Prop} {E : Value → Shared → Prop} {name qual : Str} {params : Arguments} {body : List Stmt} {scope : Scope} {dV kV doc pm cdv ct oc : Value} {an od : Option Addr} {osl : Array (Option Value)} {f : Addr} {vals : List Value} (binds : List (Str × Value))
    (X : K.In s.heap) (T : Top p loose mean mg mb s.heap)
    (ho : K.lookup f = some ⟨oc, od, .func (fnOf name qual params body scope dV kV doc pm an cdv ct), osl⟩) (hcd : codeIn K cdv qual = true) (hroom : A.depth < recursionLimit)
    (hbind : BindsTo s (fnOf name qual params body scope dV kV doc pm an cdv ct) ⟨vals, []⟩ binds) (hkind : (binds.all fun y => scope.names.lookup y.1 == some .local || scope.names.lookup y.1 == some .cell) = true)
    (hnd : ((cellsFrom 0 scope.names []).map (·.1)).Nodup)
    (h : ∀ h₁ tk cells, Fr s.heap s.heap.objs.size h₁ (bindL (envOfC qual scope s.heap.objs.size f cdv).kindOf binds fun _ => none) → News s.heap s.heap.objs.size h₁ cells →
      CellsAre (bindC (envOfC qual scope s.heap.objs.size f cdv).kindOf binds fun _ => none) (cellsFrom (s.heap.objs.size + 1) scope.names []) cells →
      wpN (model prog w) (A.deeper (envOfC qual scope s.heap.objs.size f cdv)) (execs body (envOfC qual scope s.heap.objs.size f cdv))
        (fun fl s' => Q (match fl with | .ret v => v | _ => .none) s') (fun _ _ => False) { s with heap := h₁, toks := tk })
    (hco : scope.isCoroutine = false := by rfl) (hgen : scope.isGenerator = false := by rfl) (hk : scope.kind = .function := by rfl) : wpN (model prog w) A (call (.ref f) vals) Q E s := by
  refine wpN_call (codeN_call_function (fd := fnOf name qual params body scope dV kV doc pm an cdv ct) (body := body) hroom (X _ _ ho) rfl hco hgen rfl (codeRec_of X hcd) (hbind _ _ _ _ ?_))
  refine wpAny_newFunctionEnv_cells hk (kindsX hkind _) fun env' he s' x => ?_
  subst he
  refine ⟨T.nolimit.keeps x.toInCall.keep, codeN_func ?_⟩
  obtain ⟨h₁, tk, rfl, _⟩ := x.done
  obtain ⟨cells, NC, Y⟩ := Cl.news (h₀ := s.heap) (Nat.le_refl _) fun n c hm => ⟨x.cell n c (lookup_of_mem_nodup (cellsFrom_names scope.names 0 (s.heap.objs.size + 1) [] [] rfl ▸ hnd) hm), x.above n c hm⟩
  exact wpN_mono (h h₁ tk cells ⟨x.toInCall.ns, x.toInCall.keep, Nat.le_refl _⟩ NC Y) (fun _ _ x => x) fun _ _ x => x.elim
/-- what the walk asks of the plain side -/
structure Flips (due : List (List Nat)) (n : Nat) (K : Nat) (Hs : Nat → List Nat) (cs nn : Nat → Nat) (pss : Nat → List (List Nat)) : Prop where
  k22 : K ≤ 22
  k0 : 0 < K
  h0 : Hs 0 = joinS [44] due
  p0 : pss 0 = due
  step : ∀ i, i < K → Step (Hs i) (cs i) (nn i) (pss i) ∧ Hs (i + 1) = turned (Hs i) (nn i)
  c1 : ∀ i, i + 1 < K → cs i ≠ 1
  cK : cs (K - 1) = 1
  pairs : ∀ late soon, soon < late → late < K → cs soon = cs late → ∃ j, soon ≤ j ∧ j < late ∧ cs soon < cs j
  bound : K ≤ (bF (firstsL cs K) n).2
  ps : ∀ i, i < K → pss (i + 1) = turnP (pss i) (cs i) ∧ 0 < (pss i).length ∧ (pss i).length ≤ 100 ∧ ((pss i).getD 0 []).length = cs i + 1 ∧ cs i ≤ 100 ∧ (∀ p ∈ pss i, ∀ c ∈ p, c < 256)
  hl : (Hs K).length ≤ 200
  hp : (parseL (Hs K)).map (fun p => Txt.strip (S p)) = (pss K).map S
theorem law_spec {w : World} {A : Around} {s : Shared} {loose : List Str} {mean : ExcName → Option Value} {mg mb : Str → Option Value} {Q : Value → Shared → Prop} {E : Value → Shared → Prop}
    {l : Addr} {vs : List Value} {ns : List Int} {K : Nat} {Hs : Nat → List Nat} {cs nn : Nat → Nat} {pss : Nat → List (List Nat)} (hp : Flips (dueN ns) (sizeN ns) K Hs cs nn pss) (hh : A.handled = none) (X : (Mine.hd.heap_39 w.params).In s.heap) (T : Top Mine.hd.view_39 loose mean mg mb s.heap) (hroom : A.depth < 400) (hu : A.units + 100 < cLine)
    (hl : s.heap.IsList l vs.toArray) (hi : IntsAre vs ns) (hlen : ns.length ≤ 63)
    (hQ : ∀ h' tk, (∀ b o, s.heap.get? b = some o → h'.get? b = some o) → Q (.bool true) { s with heap := h', toks := tk }) : wpN (model PR w) A (call (.ref 31) [.ref l]) Q E s := by
  obtain ⟨hd0, d0, fr0, gs0, u0⟩ := A
  obtain rfl : hd0 = none := hh
  refine call_ownNC [(Str.ofString "script", .ref l)] X T rfl (by rfl) (by simp only [recursionLimit]; have : d0 < 400 := hroom; omega) (BindsTo.of_eq rfl) (by rfl) (by decide) ?_
  intro h₁ tk₁ cells F N Y
  obtain ⟨o, rfl, hod⟩ := CellsAre.one Y
  obtain ⟨-, hs3, hs7⟩ := size_eq ns
  have hroom2 : (Around.deeper ⟨none, d0, fr0, gs0, u0⟩ (lawEnv s.heap.objs.size)).depth < 450 := by
    show d0 + 1 < 450
    have : d0 < 400 := hroom
    omega
  have hu2 : (Around.deeper ⟨none, d0, fr0, gs0, u0⟩ (lawEnv s.heap.objs.size)).units + 64 < cLine := by
    show u0 + 3 + 64 < cLine
    have : u0 + 100 < cLine := hu
    omega
  show wpN _ (Around.deeper ⟨none, d0, fr0, gs0, u0⟩ (lawEnv s.heap.objs.size)) (execs lawB (lawEnv s.heap.objs.size)) _ _ _
  refine start_spec rfl X T hroom2 F N hod rfl hl hi hlen ?_
  intro h₂ tk₂ D ys k o' F2 N2 hcD ho' hys
  refine order_spec rfl X T hroom2 F2 N2 hcD ho' hys ?_
  intro h₃ tk₃ m₃ O os no F3 N3 hos mo
  refine begin_spec rfl X T hroom2 F3 N3 ho' hys hos mo ?_
  intro h₄ tk₄ m₄ R Fi Du ds kdu nr nf t₄ F4 N4 hRF hDR hDF hOR hOF hds mo₄ md₄ mh₄ mr₄ mf₄
  rw [← hp.h0] at mh₄
  refine while_spec rfl X T hroom2 F4 N4 hRF ?_ ?_ mh₄ mr₄ mf₄ hp.k22 hp.k0 hp.step hp.c1 hp.cK ?_
  · intro p hp
    rcases List.mem_cons.mp hp with rfl | hp
    · exact hDR
    · rw [List.mem_singleton.mp hp]; exact hOR
  · intro p hp
    rcases List.mem_cons.mp hp with rfl | hp
    · exact hDF
    · rw [List.mem_singleton.mp hp]; exact hOF
  intro h₅ tk₅ m₅ t₅ lists fs nr₅ nf₅ F5 N5 hro hfs mh₅ hm₅
  have N5' : News s.heap s.heap.objs.size h₅ ((Fi, W.listOf fs.toArray nf₅) :: (O, W.listOf os.toArray no) :: (R, W.listOf (refsOf lists).toArray nr₅) :: (Du, W.listOf ds.toArray kdu) :: lists) := by
    intro p hp
    refine N5 p ?_
    rcases List.mem_cons.mp hp with rfl | hp
    · exact .tail _ (.head _)
    rcases List.mem_cons.mp hp with rfl | hp
    · exact .tail _ (.tail _ (List.mem_append_right _ (.tail _ (.head _))))
    rcases List.mem_cons.mp hp with rfl | hp
    · exact .head _
    rcases List.mem_cons.mp hp with rfl | hp
    · exact .tail _ (.tail _ (List.mem_append_right _ (.head _)))
    · exact .tail _ (.tail _ (List.mem_append_left _ hp))
  refine .of ?_
  refine pairs_spec rfl X T hroom2 F5 N5' ((hm₅ _ (by decide) (by decide) (by decide)).trans mf₄) hfs hp.k22 hp.pairs ?_
  intro h₆ tk₆ m₆ F6 N6 hm₆
  refine bound_spec rfl X T hroom2 F6 N6 ((hm₆ _ (by decide) (by decide)).trans ((hm₅ _ (by decide) (by decide) (by decide)).trans mf₄)) ((hm₆ _ (by decide) (by decide)).trans ((hm₅ _ (by decide) (by decide) (by decide)).trans mo₄)) hfs hp.k22 hp.k0 (by rw [hos.length, List.length_map, order_len]) (by omega) hp.cK hp.bound ?_
  intro h₇ tk₇ m₇ F7 N7 hm₇
  refine last_spec (th := t₅) (H := Hs K) (lists := lists) (ds := ds) (K := K) (pss := pss) (cs := cs) rfl X T hroom2 hu2 F7 (fun p hp => N7 p (.tail _ (.tail _ hp))) ?_ ?_ ?_ hro (by rw [hp.p0]; exact hds) hp.k22 hp.ps hp.hl hp.hp ?_
  · exact (hm₇ _ (by decide) (by decide) (by decide)).trans ((hm₆ _ (by decide) (by decide)).trans ((hm₅ _ (by decide) (by decide) (by decide)).trans mr₄))
  · exact (hm₇ _ (by decide) (by decide) (by decide)).trans ((hm₆ _ (by decide) (by decide)).trans ((hm₅ _ (by decide) (by decide) (by decide)).trans md₄))
  · exact (hm₇ _ (by decide) (by decide) (by decide)).trans ((hm₆ _ (by decide) (by decide)).trans mh₅)
  · intro h' tk hk
    exact hQ h' tk hk
end Mine
end
section
open PySem PySem.W PyProof.Rows PySem.Calls PyProof.V PySem.Spec
set_option maxRecDepth 100000
namespace Mine
set_option maxHeartbeats 8000000 in
theorem top (hp : ∀ ns, ∃ K Hs cs nn pss, Flips (dueN ns) (sizeN ns) K Hs cs nn pss) : PySem.Challenge.rw_pg0046_02.Holds := by
  refine Mine.hd ?_
  intro w s₀ s₁ mg mb G Y fa o pm cd doc dV kV ho hd hcd hD hmg hg args vals as hpre hlay hrd hwl hlo
  have KX := kIn_of Y
  refine Ground.open G ?_
  intro T B D TE TW
  wrow_args hpre hlay hrd hwl hlo
  have e31 : fa = 31 := by
    have h1 : mg (Str.ofString "law") = some (.ref 31) := mg_of KX T.g (ns_law w)
    have h2 : mg (Str.ofString "law") = some (.ref fa) := hmg
    rw [h1] at h2
    injection h2 with h2
    injection h2 with h2
    exact h2.symm
  subst e31
  rename IntsAre _ _ => hI
  rename Heap.IsList _ _ _ => hL
  obtain ⟨K, Hs, cs, nn, pss, hF⟩ := hp _
  refine law_spec hF rfl KX T (by decide) (by decide +kernel) hL hI (by omega) ?_
  intro h' tk hk
  refine GoodW.toG ?_
  refine ⟨.inl ⟨_, .bool true, [], rfl, ?_, ?_, ?_, fun _ => ⟨.nil, fun _ ha => nomatch ha⟩⟩, hk, rfl, hg⟩
  · intro cls
    rfl
  · exact .bool true
  · wrow_post
end Mine
end
section
namespace Mine
/-! turning cards: a plain law -/
def turnS (l : List Nat) (c : Nat) : List Nat := (l.take c).reverse ++ l.drop c
def sq (l : List Nat) : Nat → List Nat
  | 0 => l
  | i + 1 => turnS (sq l i) ((sq l i).getD 0 0)
def fs (l : List Nat) (i : Nat) : Nat := (sq l i).getD 0 0
structure Cards (l : List Nat) (n : Nat) : Prop where
  nd : l.Nodup
  len : l.length = n
  rng : ∀ x ∈ l, 1 ≤ x ∧ x ≤ n
theorem turnS_perm (l : List Nat) (c : Nat) : (turnS l c).Perm l := by
  unfold turnS
  have h : ((l.take c).reverse ++ l.drop c).Perm (l.take c ++ l.drop c) := (List.reverse_perm _).append_right _
  rwa [List.take_append_drop] at h
theorem sq_cards {l : List Nat} {n : Nat} (h : Cards l n) : ∀ i, Cards (sq l i) n
  | 0 => h
  | i + 1 => by
    have ih := sq_cards h i
    have hp := turnS_perm (sq l i) ((sq l i).getD 0 0)
    exact ⟨hp.nodup_iff.mpr ih.nd, hp.length_eq.trans ih.len, fun x hx => ih.rng x (hp.mem_iff.mp hx)⟩
theorem turnS_ge {l : List Nat} {c p : Nat} (hc : c ≤ l.length) (hp : c ≤ p) : (turnS l c)[p]? = l[p]? := by
  unfold turnS
  rw [List.getElem?_append_right (by simp; omega), List.getElem?_drop]
  congr 1
  simp; omega
theorem turnS_lt {l : List Nat} {c p : Nat} (hc : c ≤ l.length) (hp : p < c) : (turnS l c)[p]? = l[c - 1 - p]? := by
  unfold turnS
  have hl : (l.take c).length = c := by rw [List.length_take]; omega
  rw [List.getElem?_append_left (by simp; omega), List.getElem?_reverse (by omega), hl, List.getElem?_take_of_lt (by omega)]
theorem nd_inj {l : List Nat} (h : l.Nodup) {i j x : Nat} (hi : l[i]? = some x) (hj : l[j]? = some x) : i = j := by
  have h1 : i < l.length := by
    rcases Nat.lt_or_ge i l.length with q | q
    · exact q
    · rw [List.getElem?_eq_none q] at hi; cases hi
  exact (List.getElem?_inj h1 h).mp (hi.trans hj.symm)
section
variable {l : List Nat} {n : Nat} (h : Cards l n) (hn : 0 < n)
include h hn
theorem fs_get (i : Nat) : (sq l i)[0]? = some (fs l i) := by
  have hc := sq_cards h i
  have h0 : 0 < (sq l i).length := by rw [hc.len]; exact hn
  rw [fs, List.getD_eq_getElem?_getD, List.getElem?_eq_getElem h0]; rfl
theorem fs_rng (i : Nat) : 1 ≤ fs l i ∧ fs l i ≤ n := (sq_cards h i).rng _ (List.mem_of_getElem? (fs_get h hn i))
theorem sq_stay {i p x : Nat} (hx : (sq l i)[p]? = some x) (hf : fs l i ≤ p) : (sq l (i + 1))[p]? = some x := by
  have h1 := fs_rng h hn i
  have h2 := (sq_cards h i).len
  exact (turnS_ge (by show fs l i ≤ _; omega) hf).trans hx
theorem sq_home (i : Nat) : (sq l (i + 1))[fs l i - 1]? = some (fs l i) := by
  have h1 := fs_rng h hn i
  have h2 := (sq_cards h i).len
  have := turnS_lt (l := sq l i) (c := fs l i) (p := fs l i - 1) (by omega) (by omega)
  refine Eq.trans this ?_
  rw [show fs l i - 1 - (fs l i - 1) = 0 by omega]
  exact fs_get h hn i
theorem sq_front (i x : Nat) (hx : (sq l i)[fs l i - 1]? = some x) : fs l (i + 1) = x := by
  have h1 := fs_rng h hn i
  have h2 := (sq_cards h i).len
  have := turnS_lt (l := sq l i) (c := fs l i) (p := 0) (by omega) (by omega)
  have e : (sq l (i + 1))[0]? = some x := this.trans hx
  have := fs_get h hn (i + 1)
  rw [e] at this
  exact (Option.some.inj this).symm
/-- what lies at a place stays there while the firsts are no greater -/
theorem stay_on {a p x : Nat} : ∀ k, (∀ j, j < k → fs l (a + j) ≤ p) → (sq l a)[p]? = some x → (sq l (a + k))[p]? = some x
  | 0, _, hx => hx
  | k + 1, hj, hx => sq_stay h hn (stay_on k (fun j hjk => hj j (by omega)) hx) (hj k (by omega))
/-- between two times the same first (two or more) a greater one stands first -/
theorem claimA {a k v : Nat} (hk : 0 < k) (hv : 2 ≤ v) (h1 : fs l a = v) (h2 : fs l (a + k) = v) (hle : ∀ j, j < k → fs l (a + j) ≤ v) : False := by
  have home := sq_home h hn a
  rw [h1] at home
  have stay : ∀ j, 1 ≤ j → j ≤ k → (sq l (a + j))[v - 1]? = some v := by
    intro j hj1
    induction j with
    | zero => omega
    | succ j ih =>
      intro hjk
      rcases Nat.eq_zero_or_pos j with rfl | hj0
      · exact home
      · have ihj := ih hj0 (by omega)
        have hlj := hle j (by omega)
        have hne : fs l (a + j) ≠ v := by
          intro e
          have h0 := fs_get h hn (a + j)
          rw [e] at h0
          have := nd_inj (sq_cards h (a + j)).nd h0 ihj
          omega
        have hp : fs l (a + j) ≤ v - 1 := by omega
        exact sq_stay (i := a + j) h hn ihj hp
  have hs := stay k hk (Nat.le_refl _)
  have h0 := fs_get h hn (a + k)
  rw [h2] at h0
  have := nd_inj (sq_cards h (a + k)).nd h0 hs
  omega
end
def G : Nat → Nat
  | 0 => 0
  | 1 => 1
  | d + 2 => 1 + G (d + 1) + G d
theorem G_succ : ∀ d, 1 + G d ≤ G (d + 1)
  | 0 => by simp [G]
  | d + 1 => by show 1 + G (d + 1) ≤ 1 + G (d + 1) + G d; omega
/-- a greatest value on a window -/
theorem exists_max (f : Nat → Nat) : ∀ t, 0 < t → ∃ r, r < t ∧ ∀ j, j < t → f j ≤ f r
  | 1, _ => ⟨0, by omega, fun j hj => by rw [show j = 0 by omega]; exact Nat.le_refl _⟩
  | t + 2, _ => by
    obtain ⟨r, hr, hm⟩ := exists_max f (t + 1) (by omega)
    by_cases hc : f (t + 1) ≤ f r
    · refine ⟨r, by omega, fun j hj => ?_⟩
      rcases Nat.lt_or_ge j (t + 1) with q | q
      · exact hm j q
      · rw [show j = t + 1 by omega]; exact hc
    · refine ⟨t + 1, by omega, fun j hj => ?_⟩
      rcases Nat.lt_or_ge j (t + 1) with q | q
      · have := hm j q; omega
      · rw [show j = t + 1 by omega]; exact Nat.le_refl _
theorem bound_G {l : List Nat} {n : Nat} (h : Cards l n) (hn : 0 < n) : ∀ (d : Nat) (D : List Nat), D.Nodup → D.length = d → (∀ x ∈ D, 2 ≤ x) → ∀ a t, (∀ j, j < t → fs l (a + j) ∈ D) → t ≤ G d := by
  intro d
  induction d using Nat.strongRecOn with
  | ind d ih =>
    intro D hD hl h2 a t hin
    rcases Nat.eq_zero_or_pos t with rfl | ht
    · exact Nat.zero_le _
    obtain ⟨r, hr, hmax⟩ := exists_max (fun j => fs l (a + j)) t ht
    have hvD := hin r hr
    have hv2 := h2 _ hvD
    generalize hv : fs l (a + r) = v at hvD hv2
    have hmax' : ∀ j, j < t → fs l (a + j) ≤ v := fun j hj => hv ▸ hmax j hj
    have uniq : ∀ j, j < t → fs l (a + j) = v → j = r := by
      intro j hj e
      rcases Nat.lt_trichotomy j r with q | q | q
      · exact (claimA h hn (a := a + j) (k := r - j) (by omega) hv2 e (by rw [show a + j + (r - j) = a + r by omega]; exact hv) (fun i hi => by rw [show a + j + i = a + (j + i) by omega]; exact hmax' _ (by omega))).elim
      · exact q
      · exact (claimA h hn (a := a + r) (k := j - r) (by omega) hv2 hv (by rw [show a + r + (j - r) = a + j by omega]; exact e) (fun i hi => by rw [show a + r + i = a + (r + i) by omega]; exact hmax' _ (by omega))).elim
    have hd0 : 0 < d := by rw [← hl]; exact List.length_pos_of_mem hvD
    have hE : (D.erase v).Nodup := hD.erase v
    have hEl : (D.erase v).length = d - 1 := by rw [List.length_erase_of_mem hvD, hl]
    have hE2 : ∀ x ∈ D.erase v, 2 ≤ x := fun x hx => h2 x (List.mem_of_mem_erase hx)
    have inE : ∀ j, j < t → j ≠ r → fs l (a + j) ∈ D.erase v := fun j hj hne => (hD.mem_erase_iff).mpr ⟨fun e => hne (uniq j hj e), hin j hj⟩
    have after : t - r - 1 ≤ G (d - 1) := ih (d - 1) (by omega) (D.erase v) hE hEl hE2 (a + r + 1) (t - r - 1) (fun j hj => by
      rw [show a + r + 1 + j = a + (r + 1 + j) by omega]
      exact inE _ (by omega) (by omega))
    obtain ⟨d', rfl⟩ : ∃ d', d = d' + 1 := ⟨d - 1, by omega⟩
    rw [show d' + 1 - 1 = d' by omega] at after hEl
    rcases Nat.lt_or_ge (r + 1) t with hrt | hrt
    · -- the card at place v
      have hvn : v ≤ n := hv ▸ (fs_rng h hn (a + r)).2
      have hlen := (sq_cards h a).len
      obtain ⟨x, hx⟩ : ∃ x, (sq l a)[v - 1]? = some x := ⟨_, List.getElem?_eq_getElem (by omega)⟩
      have hbelow : ∀ j, j < r → fs l (a + j) ≤ v - 1 := by
        intro j hj
        have h1 := hmax' j (by omega)
        have h3 : fs l (a + j) ≠ v := fun e => by have := uniq j (by omega) e; omega
        omega
      have hst : ∀ k, k ≤ r → (sq l (a + k))[v - 1]? = some x := fun k hk => stay_on h hn k (fun j hj => hbelow j (by omega)) hx
      have hnext : fs l (a + (r + 1)) = x := sq_front h hn (a + r) x (by rw [hv]; exact hst r (Nat.le_refl _))
      have hxE : x ∈ D.erase v := hnext ▸ inE (r + 1) hrt (by omega)
      have hEE : ((D.erase v).erase x).length = d' - 1 := by rw [List.length_erase_of_mem hxE, hEl]
      have hd1 : 0 < d' := by rw [← hEl]; exact List.length_pos_of_mem hxE
      have before : r ≤ G (d' - 1) := ih (d' - 1) (by omega) ((D.erase v).erase x) (hE.erase x) hEE (fun y hy => hE2 y (List.mem_of_mem_erase hy)) a r (fun j hj => by
        refine (hE.mem_erase_iff).mpr ⟨fun e => ?_, inE j (by omega) (by omega)⟩
        have h0 := fs_get h hn (a + j)
        rw [e] at h0
        have := nd_inj (sq_cards h (a + j)).nd h0 (hst j (by omega))
        omega)
      obtain ⟨d'', rfl⟩ : ∃ d'', d' = d'' + 1 := ⟨d' - 1, by omega⟩
      rw [show d'' + 1 - 1 = d'' by omega] at before
      show t ≤ 1 + G (d'' + 1) + G d''
      omega
    · have before : r ≤ G d' := ih d' (by omega) (D.erase v) hE hEl hE2 a r (fun j hj => inE j (by omega) (by omega))
      have := G_succ d'
      omega
end Mine
end
section
open PySem PySem.W PyProof.Rows PySem.Calls PyProof.V PySem.Spec
set_option maxRecDepth 100000
namespace Mine
section
open Builtin Builtin.Str
theorem no_space : ∀ c, c < 127 → 33 ≤ c → Unicode.isSpace c = false := by decide +kernel
theorem strip_ends {p : List Nat} (h1 : ∀ c l, p = c :: l → Unicode.isSpace c = false) (h2 : ∀ c l, p.reverse = c :: l → Unicode.isSpace c = false) : Txt.strip (S p) = S p := by
  have hx : (S p).cps.toList = p := rfl
  have lo : stripLo Unicode.isSpace true (S p) = 0 := by
    simp only [stripLo, if_true]
    rw [hx]
    cases hp : p with
    | nil => rfl
    | cons c l => simp [List.takeWhile_cons, h1 c l hp]
  have hi : stripHi Unicode.isSpace true (S p) 0 = (S p).length := by
    simp only [stripHi, if_true, List.drop_zero]
    rw [hx]
    cases hr : p.reverse with
    | nil => rfl
    | cons c l => simp [List.takeWhile_cons, h2 c l hr]
  have hsame : stripSame Unicode.isSpace true true (S p) = true := by
    unfold stripSame
    rw [lo, hi]
    simp
  unfold Txt.strip Txt.stripBy
  rw [if_pos hsame]
end
/-- an item: signs of one kind between quotation marks -/
inductive Good : List Nat → Prop
  | mk {m c : Nat} : c ≠ 34 → c ≠ 92 → c < 256 → m ≤ 6 → Good ([34] ++ List.replicate m c ++ [34])
theorem Good.rev {p : List Nat} (h : Good p) : p.reverse = p := by
  cases h with
  | @mk m c => simp
theorem Good.strip {p : List Nat} (h : Good p) : Txt.strip (S p) = S p := by
  refine strip_ends (fun c l e => ?_) (fun c l e => ?_)
  · cases h with
    | @mk m d =>
      have : 34 = c := by simpa using (List.cons.inj e).1
      subst this; exact no_space _ (by omega) (by omega)
  · rw [h.rev] at e
    cases h with
    | @mk m d =>
      have : 34 = c := by simpa using (List.cons.inj e).1
      subst this; exact no_space _ (by omega) (by omega)
theorem run_rep {c : Nat} (h1 : c ≠ 34) (h2 : c ≠ 92) (res : List (List Nat)) : ∀ (m : Nat) (part : List Nat), (List.replicate m c).foldl pstep ⟨res, part, false, true⟩ = ⟨res, part ++ List.replicate m c, false, true⟩
  | 0, part => by simp
  | m + 1, part => by
    rw [List.replicate_succ, List.foldl_cons, show pstep ⟨res, part, false, true⟩ c = ⟨res, part ++ [c], false, true⟩ by simp [pstep, h1, h2], run_rep h1 h2 res m, List.append_assoc]
    rfl
theorem Good.run {p : List Nat} (h : Good p) (res : List (List Nat)) : p.foldl pstep ⟨res, [], false, false⟩ = ⟨res, p, false, false⟩ := by
  cases h with
  | @mk m c h1 h2 h3 h4 =>
    rw [List.foldl_append, List.foldl_append]
    simp only [List.foldl_cons, List.foldl_nil]
    rw [show pstep ⟨res, [], false, false⟩ 34 = ⟨res, [34], false, true⟩ from rfl, run_rep h1 h2]
    rfl
theorem Good.ne {p : List Nat} (h : Good p) : p ≠ [] := by cases h; simp
theorem Good.len {p : List Nat} (h : Good p) : p.length ≤ 8 := by
  cases h with
  | @mk m c h1 h2 h3 h4 => simp; omega
theorem Good.lt {p : List Nat} (h : Good p) : ∀ o ∈ p, o < 256 := by
  cases h with
  | @mk m c h1 h2 h3 h4 =>
    intro o ho
    simp only [List.mem_append, List.mem_singleton, List.mem_replicate] at ho
    omega
theorem run_join : ∀ (ps : List (List Nat)) (p : List Nat) (res : List (List Nat)), (∀ x ∈ p :: ps, Good x) → (joinS [44] (p :: ps)).foldl pstep ⟨res, [], false, false⟩ = ⟨res ++ (p :: ps).dropLast, (p :: ps).getLast (by simp), false, false⟩
  | [], p, res, h => by
    rw [joinS]; simpa using (h p (by simp)).run res
  | q :: ps, p, res, h => by
    rw [joinS, List.foldl_append, List.foldl_append, (h p (by simp)).run res]
    have := run_join ps q (res ++ [p]) (fun x hx => h x (List.mem_cons_of_mem _ hx))
    simp only [List.foldl_cons, List.foldl_nil]
    rw [show pstep ⟨res, p, false, false⟩ 44 = ⟨res ++ [p], [], false, false⟩ from rfl, this]
    simp
theorem parse_join (p : List Nat) (ps : List (List Nat)) (h : ∀ x ∈ p :: ps, Good x) : parseL (joinS [44] (p :: ps)) = p :: ps := by
  have := run_join ps p [] h
  unfold parseL prun
  rw [this]
  have hne : (p :: ps).getLast (by simp) ≠ [] := (h _ (List.getLast_mem _)).ne
  simp only [List.nil_append, if_neg hne]
  exact List.dropLast_concat_getLast _
theorem parse_good {ps : List (List Nat)} (hn : ps ≠ []) (h : ∀ x ∈ ps, Good x) : (parseL (joinS [44] ps)).map (fun p => Txt.strip (S p)) = ps.map S := by
  cases ps with
  | nil => exact absurd rfl hn
  | cons p ps =>
    rw [parse_join p ps h]
    exact List.map_congr_left fun x hx => (h x hx).strip
theorem join_app : ∀ (a : List (List Nat)) (q : List Nat) (b : List (List Nat)), a ≠ [] → joinS [44] (a ++ q :: b) = joinS [44] a ++ 44 :: joinS [44] (q :: b)
  | [x], q, b, _ => by simp [joinS]
  | x :: y :: r, q, b, _ => by
    have := join_app (y :: r) q b (by simp)
    simp only [List.cons_append] at this ⊢
    rw [joinS, this, joinS]; simp
theorem join_rev : ∀ ps : List (List Nat), (joinS [44] ps).reverse = joinS [44] (ps.reverse.map List.reverse)
  | [] => rfl
  | [x] => rfl
  | x :: y :: r => by
    rw [joinS, List.reverse_append, List.reverse_append, join_rev (y :: r), List.reverse_cons (a := x), List.map_append]
    rw [show [x].map List.reverse = x.reverse :: [] from rfl, join_app _ _ _ (by simp)]
    simp [joinS]
theorem turned_join {ps : List (List Nat)} {c : Nat} (hc : 0 < c) (hl : c ≤ ps.length) :
    (joinS [44] ps).take (joinS [44] (ps.take c)).length = joinS [44] (ps.take c) ∧ (joinS [44] (ps.take c)).length ≤ (joinS [44] ps).length ∧
    turned (joinS [44] ps) (joinS [44] (ps.take c)).length = joinS [44] ((ps.take c).reverse.map List.reverse ++ ps.drop c) := by
  have ha : ps.take c ≠ [] := by
    intro e
    have := congrArg List.length e
    rw [List.length_take, List.length_nil] at this; omega
  have hsplit := List.take_append_drop c ps
  cases hd : ps.drop c with
  | nil =>
    rw [hd, List.append_nil] at hsplit
    rw [hsplit]
    refine ⟨by simp, Nat.le_refl _, ?_⟩
    rw [turned, List.take_length, List.drop_length, join_rev, List.append_nil, List.append_nil]
  | cons q b =>
    rw [hd] at hsplit
    have e : joinS [44] ps = joinS [44] (ps.take c) ++ 44 :: joinS [44] (q :: b) := by
      rw [← join_app _ _ _ ha, hsplit]
    have ha2 : (ps.take c).reverse.map List.reverse ≠ [] := by simpa using ha
    refine ⟨?_, ?_, ?_⟩
    · rw [e, List.take_left]
    · rw [e, List.length_append]; omega
    · rw [turned, e, List.take_left, List.drop_left, join_rev, join_app _ _ _ ha2]
theorem join_mem : ∀ (ps : List (List Nat)), (∀ p ∈ ps, ∀ o ∈ p, o < 256) → ∀ o ∈ joinS [44] ps, o < 256
  | [], _, o, ho => by simp [joinS] at ho
  | [x], h, o, ho => h x (by simp) o ho
  | x :: y :: r, h, o, ho => by
    rw [joinS] at ho
    rcases List.mem_append.mp ho with ho | ho
    · rcases List.mem_append.mp ho with ho | ho
      · exact h x (by simp) o ho
      · rw [List.mem_singleton.mp ho]; decide
    · exact join_mem (y :: r) (fun p hp => h p (List.mem_cons_of_mem _ hp)) o ho
theorem join_len : ∀ (ps : List (List Nat)), (∀ p ∈ ps, p.length ≤ 8) → (joinS [44] ps).length ≤ 9 * ps.length
  | [], _ => by simp [joinS]
  | [x], h => by have := h x (by simp); simp [joinS]; omega
  | x :: y :: r, h => by
    have h1 := h x (by simp)
    have h2 := join_len (y :: r) (fun p hp => h p (List.mem_cons_of_mem _ hp))
    rw [joinS]
    simp only [List.length_append, List.length_cons, List.length_nil] at h2 ⊢
    omega
theorem join_pos {ps : List (List Nat)} (hn : ps ≠ []) (h : ∀ p ∈ ps, Good p) : 0 < (joinS [44] ps).length := by
  cases ps with
  | nil => exact absurd rfl hn
  | cons p ps =>
    have hp := List.length_pos_iff.mpr (h p (by simp)).ne
    cases ps with
    | nil => exact hp
    | cons q r => rw [joinS]; simp only [List.length_append]; omega
end Mine
end
section
open PySem PySem.W PyProof.Rows PySem.Calls PyProof.V PySem.Spec
set_option maxRecDepth 100000
namespace Mine
/-! the bound as the law counts it -/
def PP : Nat → Nat × Nat
  | 0 => (0, 1)
  | c + 1 => ((PP c).2, (PP c).1 + (PP c).2)
def seen (fl : List Int) : Nat → List Nat
  | 0 => []
  | i + 1 => if fl.any (· == ((i + 1 : Nat) : Int)) then seen fl i ++ [i + 1] else seen fl i
theorem bF_PP (fl : List Int) : ∀ i, bF fl i = PP (seen fl i).length
  | 0 => rfl
  | i + 1 => by
    rw [bF, seen]
    split
    · rw [bF_PP fl i, List.length_append]; rfl
    · exact bF_PP fl i
theorem PP_G : ∀ d, (PP (d + 1)).2 = G d + 1
  | 0 => rfl
  | 1 => rfl
  | d + 2 => by
    have h1 := PP_G d
    have h2 : (PP (d + 2)).2 = G (d + 1) + 1 := PP_G (d + 1)
    show (PP (d + 1)).2 + (PP (d + 2)).2 = 1 + G (d + 1) + G d + 1
    omega
theorem seen_mem (fl : List Int) : ∀ i x, x ∈ seen fl i ↔ (1 ≤ x ∧ x ≤ i ∧ fl.any (· == (x : Int)) = true)
  | 0, x => by simp [seen]; omega
  | i + 1, x => by
    rw [seen]
    split
    · rename_i h
      rw [List.mem_append, seen_mem fl i x, List.mem_singleton]
      constructor
      · rintro (⟨a, b, c⟩ | rfl)
        · exact ⟨a, by omega, c⟩
        · exact ⟨by omega, Nat.le_refl _, h⟩
      · rintro ⟨a, b, c⟩
        rcases Nat.lt_or_ge x (i + 1) with q | q
        · exact .inl ⟨a, by omega, c⟩
        · exact .inr (by omega)
    · rename_i h
      rw [seen_mem fl i x]
      constructor
      · rintro ⟨a, b, c⟩
        exact ⟨a, by omega, c⟩
      · rintro ⟨a, b, c⟩
        rcases Nat.lt_or_ge x (i + 1) with q | q
        · exact ⟨a, by omega, c⟩
        · rw [show x = i + 1 by omega] at c
          exact absurd c h
theorem seen_nodup (fl : List Int) : ∀ i, (seen fl i).Nodup
  | 0 => List.nodup_nil
  | i + 1 => by
    rw [seen]
    split
    · refine List.nodup_append.mpr ⟨seen_nodup fl i, by simp, ?_⟩
      intro a ha b hb
      rw [List.mem_singleton.mp hb]
      have := (seen_mem fl i a).mp ha
      omega
    · exact seen_nodup fl i
theorem least {p : Nat → Prop} : ∀ N i, i ≤ N → p i → ∃ j, j ≤ N ∧ p j ∧ ∀ k, k < j → ¬ p k := by
  intro N i
  induction i using Nat.strongRecOn with
  | ind i ih =>
    intro hi hp
    by_cases h : ∃ k, k < i ∧ p k
    · obtain ⟨k, hk, hpk⟩ := h
      exact ih k hk (by omega) hpk
    · exact ⟨i, hi, hp, fun k hk hpk => h ⟨k, hk, hpk⟩⟩
theorem insAt_perm {α : Type} (l : List α) (p : Nat) (x : α) : (insAt l p x).Perm (x :: l) := by
  have h := List.perm_middle (a := x) (l₁ := l.take p) (l₂ := l.drop p)
  rwa [List.take_append_drop] at h
theorem order_nodup (dr : List Int) : ∀ k, (orderN dr k).Nodup
  | 0 => List.nodup_nil
  | k + 1 => by
    rw [orderN, (insAt_perm _ _ _).nodup_iff, List.nodup_cons]
    exact ⟨fun h => by have := order_mem dr k _ h; omega, order_nodup dr k⟩
theorem order_cards (dr : List Int) (n : Nat) : Cards (orderN dr n) n := ⟨order_nodup dr n, order_len dr n, order_mem dr n⟩
theorem G_le : ∀ n, n ≤ 7 → G (n - 1) ≤ 20 := by decide
/-- item 1 stands first within 21 readings -/
theorem ends {l : List Nat} {n : Nat} (h : Cards l n) (h3 : 3 ≤ n) (h7 : n ≤ 7) : ∃ t, t ≤ 20 ∧ fs l t = 1 ∧ ∀ j, j < t → fs l j ≠ 1 := by
  have hn : 0 < n := by omega
  have key : ∃ i, i ≤ 20 ∧ fs l i = 1 := by
    refine Classical.byContradiction fun hno => ?_
    have hno : ∀ i, i ≤ 20 → fs l i ≠ 1 := fun i hi e => hno ⟨i, hi, e⟩
    have hD : ((List.range n).map (· + 1)).Nodup := by
      rw [List.nodup_iff_pairwise_ne, List.pairwise_map]
      exact (List.nodup_range (n := n)).imp fun hab e => hab (by omega)
    have h1 : 1 ∈ (List.range n).map (· + 1) := List.mem_map.mpr ⟨0, List.mem_range.mpr hn, rfl⟩
    have := bound_G h hn (n - 1) (((List.range n).map (· + 1)).erase 1) (hD.erase 1) (by rw [List.length_erase_of_mem h1, List.length_map, List.length_range]) ?_ 0 21 ?_
    · have := G_le n h7; omega
    · intro x hx
      obtain ⟨hne, hx⟩ := (hD.mem_erase_iff).mp hx
      obtain ⟨y, _, rfl⟩ := List.mem_map.mp hx
      omega
    · intro j hj
      have h0 := fs_rng h hn (0 + j)
      refine (hD.mem_erase_iff).mpr ⟨hno _ (by omega), List.mem_map.mpr ⟨fs l (0 + j) - 1, List.mem_range.mpr (by omega), by omega⟩⟩
  obtain ⟨i, hi, he⟩ := key
  obtain ⟨j, h1, h2, h3⟩ := least (p := fun i => fs l i = 1) 20 i hi he
  exact ⟨j, h1, h2, h3⟩
theorem any_firsts {cs : Nat → Nat} {K x : Nat} : (firstsL cs K).any (· == (x : Int)) = true ↔ ∃ j, j < K ∧ cs j = x := by
  rw [List.any_eq_true]
  constructor
  · rintro ⟨y, hy, he⟩
    obtain ⟨j, hj, rfl⟩ := List.mem_map.mp hy
    have := beq_iff_eq.mp he
    exact ⟨j, List.mem_range.mp hj, by omega⟩
  · rintro ⟨j, hj, rfl⟩
    exact ⟨_, List.mem_map.mpr ⟨j, List.mem_range.mpr hj, rfl⟩, by simp⟩
theorem bound_ok {l : List Nat} {n t : Nat} (h : Cards l n) (hn : 0 < n) (h1 : fs l t = 1) (hlt : ∀ j, j < t → fs l j ≠ 1) : t + 1 ≤ (bF (firstsL (fs l) (t + 1)) n).2 := by
  have hE := seen_nodup (firstsL (fs l) (t + 1)) n
  have hmem : ∀ j, j < t + 1 → fs l j ∈ seen (firstsL (fs l) (t + 1)) n := fun j hj => by
    have := fs_rng h hn j
    exact (seen_mem _ _ _).mpr ⟨this.1, this.2, any_firsts.mpr ⟨j, hj, rfl⟩⟩
  have h1E : 1 ∈ seen (firstsL (fs l) (t + 1)) n := h1 ▸ hmem t (by omega)
  have hlen : 0 < (seen (firstsL (fs l) (t + 1)) n).length := List.length_pos_of_mem h1E
  obtain ⟨d, hd⟩ : ∃ d, (seen (firstsL (fs l) (t + 1)) n).length = d + 1 := ⟨_, (Nat.succ_pred_eq_of_pos hlen).symm⟩
  have := bound_G h hn d ((seen (firstsL (fs l) (t + 1)) n).erase 1) (hE.erase 1) (by rw [List.length_erase_of_mem h1E, hd]; rfl) ?_ 0 t ?_
  · rw [bF_PP, hd, PP_G]; omega
  · intro x hx
    obtain ⟨hne, hx⟩ := (hE.mem_erase_iff).mp hx
    have := ((seen_mem _ _ _).mp hx).1
    omega
  · intro j hj
    rw [Nat.zero_add]
    exact (hE.mem_erase_iff).mpr ⟨hlt j hj, hmem j (by omega)⟩
theorem sgn_ok (q : Nat) (h : q < 4) : sgnN q ≠ 34 ∧ sgnN q ≠ 92 ∧ sgnN q < 256 := by
  have : q = 0 ∨ q = 1 ∨ q = 2 ∨ q = 3 := by omega
  rcases this with rfl | rfl | rfl | rfl <;> decide
theorem itemN_good (dr : List Int) (k : Nat) (h : k ≤ 7) : Good (itemN dr k) := by
  have h1 := Int.fmod_nonneg_of_pos ((dr.getD k 0).fdiv (k : Int)) (b := 4) (by decide)
  have h2 := Int.fmod_lt_of_pos ((dr.getD k 0).fdiv (k : Int)) (b := 4) (by decide)
  obtain ⟨a, b, c⟩ := sgn_ok (((dr.getD k 0).fdiv (k : Int)).fmod 4).toNat (by omega)
  exact .mk a b c (by omega)
theorem flips (ns : List Int) : ∃ K Hs cs nn pss, Flips (dueN ns) (sizeN ns) K Hs cs nn pss := by
  obtain ⟨-, h3, h7⟩ := size_eq ns
  have hC := order_cards (drawnL ns) (sizeN ns)
  have hn : 0 < sizeN ns := by omega
  generalize hl : orderN (drawnL ns) (sizeN ns) = l at hC
  obtain ⟨t, ht, h1, hlt⟩ := ends hC h3 h7
  have hq : ∀ i, ∀ x ∈ sq l i, 1 ≤ x ∧ x ≤ sizeN ns := fun i => (sq_cards hC i).rng
  have hlen : ∀ i, ((sq l i).map (itemN (drawnL ns))).length = sizeN ns := fun i => by rw [List.length_map, (sq_cards hC i).len]
  have hgd : ∀ i, ∀ p ∈ (sq l i).map (itemN (drawnL ns)), Good p := by
    intro i p hp
    obtain ⟨x, hx, rfl⟩ := List.mem_map.mp hp
    exact itemN_good _ _ (by have := hq i x hx; omega)
  have hne : ∀ i, (sq l i).map (itemN (drawnL ns)) ≠ [] := by
    intro i e
    have := hlen i
    rw [e] at this; simp at this; omega
  have hz : ∀ i, (joinS [44] ((sq l i).map (itemN (drawnL ns)))).length ≤ 200 := by
    intro i
    have := join_len _ (fun p hp => (hgd i p hp).len)
    rw [hlen i] at this; omega
  have hf : ∀ i, ((sq l i).map (itemN (drawnL ns))).getD 0 [] = itemN (drawnL ns) (fs l i) := by
    intro i
    rw [List.getD_eq_getElem?_getD, List.getElem?_map, fs_get hC hn i]; rfl
  have hfr := fun i => fs_rng hC hn i
  have hnx : ∀ i, (sq l (i + 1)).map (itemN (drawnL ns)) = turnP ((sq l i).map (itemN (drawnL ns))) (fs l i) := by
    intro i
    show (turnS (sq l i) (fs l i)).map _ = _
    unfold turnS turnP
    rw [List.map_append, List.map_reverse, List.map_take, List.map_drop]
  refine ⟨t + 1, fun i => joinS [44] ((sq l i).map (itemN (drawnL ns))), fs l, fun i => (joinS [44] (((sq l i).map (itemN (drawnL ns))).take (fs l i))).length, fun i => (sq l i).map (itemN (drawnL ns)), ?_⟩
  refine ⟨by omega, by omega, ?_, ?_, ?_, ?_, ?_, ?_, bound_ok hC hn h1 hlt, ?_, hz _, parse_good (hne _) (hgd _)⟩
  · show joinS [44] (l.map _) = _
    rw [dueN, hl]
  · show l.map _ = _
    rw [dueN, hl]
  · intro i hi
    obtain ⟨e1, e2, e3⟩ := turned_join (ps := (sq l i).map (itemN (drawnL ns))) (c := fs l i) (hfr i).1 (by rw [hlen]; exact (hfr i).2)
    refine ⟨⟨hz _, join_mem _ (fun p hp => (hgd _ p hp).lt), parse_good (hne _) (hgd _), by rw [hlen]; exact hn, by rw [hf, itemN_len _ _ (hfr i).1], by rw [hlen]; omega, fun p hp => Nat.le_trans (hgd _ p hp).len (by decide), ?_, e2, e1.symm⟩, ?_⟩
    · refine join_pos ?_ (fun p hp => hgd i p (List.mem_of_mem_take hp))
      intro e
      have := congrArg List.length e
      have h0 := hfr i
      rw [List.length_take, hlen, List.length_nil] at this; omega
    · show joinS [44] ((sq l (i + 1)).map (itemN (drawnL ns))) = turned _ _
      rw [e3, hnx, turnP]
      congr 2
      have : ∀ p ∈ (((sq l i).map (itemN (drawnL ns))).take (fs l i)).reverse, p.reverse = p := fun p hp => (hgd i p (List.mem_of_mem_take (List.mem_reverse.mp hp))).rev
      exact (List.map_id' _ ▸ (List.map_congr_left (g := fun p => p) this)).symm
  · intro i hi
    exact hlt i (by omega)
  · exact h1
  · intro late soon hsl hlK he
    refine Classical.byContradiction fun hno => ?_
    have hle : ∀ j, soon ≤ j → j < late → fs l j ≤ fs l soon := fun j a b => by
      rcases Nat.lt_or_ge (fs l soon) (fs l j) with q | q
      · exact absurd ⟨j, a, b, q⟩ hno
      · exact q
    have hs1 := hlt soon (by omega)
    have hs0 := (hfr soon).1
    exact claimA hC hn (a := soon) (k := late - soon) (v := fs l soon) (by omega) (by omega) rfl (by rw [show soon + (late - soon) = late by omega]; exact he.symm) (fun j hj => hle _ (by omega) (by omega))
  · intro i hi
    refine ⟨hnx i, by rw [hlen]; exact hn, by rw [hlen]; omega, by rw [hf, itemN_len _ _ (hfr i).1], by have := (hfr i).2; omega, fun p hp => (hgd i p hp).lt⟩
theorem law2 : PySem.Challenge.rw_pg0046_02.Holds := top flips
end Mine
end
theorem PySem.Challenge.cw_pg0046_02_holds : PySem.Challenge.rw_pg0046_02.Holds := by
  exact Mine.law2
