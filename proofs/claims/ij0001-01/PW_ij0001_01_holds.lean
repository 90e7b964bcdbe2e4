import PyProof.Rows.All
import Wide.All
import OpenK.AllK
import Wide.FinOn
import PySem.Challenge.RW_ij0001_01
open PySem PySem.W PyProof.Rows
set_option Elab.async false
namespace Mine
set_option maxRecDepth 100000 in
set_option maxHeartbeats 8000000 in
open_top hd for PySem.Challenge.rw_ij0001_01
end Mine
section
open PySem PySem.W PyProof.Rows PySem.Calls
namespace Mine

/-- a plain list object with these items -/
def Lst (h : Heap) (D : Addr) (ys : List Value) : Prop := ∃ k, h.get? D = some { cls := .type "list", data := .seq ys.toArray k }
theorem Lst.keeps {h h' : Heap} {D : Addr} {ys : List Value} (l : Lst h D ys) (k : ∀ o, h.get? D = some o → h'.get? D = some o) : Lst h' D ys := let ⟨n, e⟩ := l; ⟨n, k _ e⟩
theorem Lst.isList {h : Heap} {D : Addr} {ys : List Value} (l : Lst h D ys) : h.IsList D ys.toArray := let ⟨n, e⟩ := l; ⟨_, e, rfl, n, rfl⟩

/-- the tests of a comprehension's clause -/
abbrev tests (ifs : List Expr) (env : Env) : Sem Bool :=
  forIn ifs true fun c r => if r = true then do let ok ← isTrue c env (eval c env); pure (ForInStep.yield ok) else pure (ForInStep.yield r)

/-- a part of a turn came to its end: nothing that stood is changed, and G holds of what it gave -/
def EltEnd {α : Type} (s : Shared) (G : α → Prop) (y : α) (s' : Shared) : Prop := Keeps s s' ∧ G y
theorem EltEnd.same {α : Type} {s : Shared} {G : α → Prop} {y : α} {tk : Nat} (g : G y) : EltEnd s G y { s with toks := tk } := ⟨⟨s.heap, tk, rfl, fun _ _ e => e⟩, g⟩

def Turn (prog : Program) (w : World) (A : Around) (s₁ : Shared) (elt : Expr) (ifs : List Expr) (x : Str) (scope : Scope) (cl : List (Str × Addr)) (env : Env) (n : Nat) (P : Nat → Value → Prop) (J : Nat → List Value → Prop) : Prop :=
  ∀ i v ys C h tk m (E : Value → Shared → Prop), i < n → P i v → J i ys → s₁.heap.objs.size ≤ C → (∀ b o, s₁.heap.get? b = some o → h.get? b = some o) → h.Ns C m → m x = some v →
    wpAny (model prog w) A (tests ifs (compEnvC scope cl C env)) (fun ok s₃ => EltEnd { s₁ with heap := h, toks := tk } (fun ok =>
      if ok = true then wpAny (model prog w) A (eval elt (compEnvC scope cl C env)) (EltEnd s₃ (fun y => J (i + 1) (ys ++ [y]))) E s₃ else J (i + 1) ys) ok s₃) E { s₁ with heap := h, toks := tk }

section
variable {prog : Program} {w : World} {A : Around} {E : Value → Shared → Prop} {s₁ : Shared}

theorem keeps_trans {s s' s'' : Shared} (a : Keeps s s') (b : Keeps s' s'') : Keeps s s'' := by
  obtain ⟨h, t, rfl, k⟩ := a
  obtain ⟨h', t', rfl, k'⟩ := b
  exact ⟨h', t', rfl, fun b o e => k' b o (k b o e)⟩

theorem compLoopJ {elt iter : Expr} {x : Str} {px : Pos} {ifs : List Expr} {scope : Scope} {pos : Pos} {I D C : Addr} {fp : List Addr} {n : Nat} {P : Nat → Value → Prop} {St : Nat → Heap → Prop} {R : Result → Shared → Prop}
    {cl : List (Str × Addr)} {env : Env} {h₂ : Heap} {tk₂ : Nat} {m₂ : Str → Option Value} {J : Nat → List Value → Prop}
    (W : Walks prog w A I fp [I] n P St) (hsz : n ≤ sizeLine) (T : Turn prog w A s₁ elt ifs x scope cl env n P J) (hkind : scope.kind = .function) (hx : scope.names.lookup x = some .local)
    (hI : s₁.heap.objs.size ≤ I) (hD : s₁.heap.objs.size ≤ D) (hC : s₁.heap.objs.size ≤ C) (hDf : D ∉ fp) (hCf : C ∉ fp) (hDC : D ≠ C) (hDI : D ≠ I) (hCI : C ≠ I)
    (hk₂ : ∀ b o, s₁.heap.get? b = some o → h₂.get? b = some o) (hst : St 0 h₂) (hn : h₂.Ns C m₂) (hl : Lst h₂ D []) (hJ : J 0 [])
    (hR : ∀ h tk m ys, h.Ns C m → Lst h D ys → J n ys → (∀ b o, s₁.heap.get? b = some o → h.get? b = some o) → R (.ok .next) { s₁ with heap := h, toks := tk }) :
    codeAny (model prog w) A (.compLoop (.ListComp elt [⟨.Name x px, iter, ifs, 0⟩] scope pos) 0 (.ref I) (.ref D) (compEnvC scope cl C env)) R { s₁ with heap := h₂, toks := tk₂ } := by
  have lt : ∀ {b o}, s₁.heap.get? b = some o → b < s₁.heap.objs.size := fun e => Heap.lt_size e
  refine codeAny_compLoop_tests
    (fun k s' => ∃ h' tk i ys m', s' = { s₁ with heap := h', toks := tk } ∧ i ≤ n ∧ k = n + 1 - i ∧ ys.length ≤ i ∧ St i h' ∧ h'.Ns C m' ∧ Lst h' D ys ∧ J i ys ∧ (∀ b o, s₁.heap.get? b = some o → h'.get? b = some o)) ?_ (n + 1)
    ⟨h₂, tk₂, 0, [], m₂, rfl, Nat.zero_le _, rfl, Nat.le_refl _, hst, hn, hl, hJ, hk₂⟩
  rintro k s' ⟨h', tk, i, ys, m', rfl, hi, rfl, hyl, hst', hn', hl', hJ', hk'⟩
  by_cases hlt : i < n
  · refine W.item i _ _ _ hlt hst' fun v h₃ tk₃ hPv hst₃ hk₃ => ?_
    have hn₃ : h₃.Ns C m' := hn'.at' fun o e => hk₃ _ o (by simpa using hCI) e
    refine wpAny_assign_Name (wpAny_storeName_local (lookup_relabel_local hx) hn₃ (fun h₄ hn₄ hs₄ => ?_) (by simp [compEnvC, relabel, hkind]))
    have hk₄ : ∀ b o, s₁.heap.get? b = some o → h₄.get? b = some o := fun b o e => hs₄.extBut b o (Nat.ne_of_lt (Nat.lt_of_lt_of_le (lt e) hC)) (hk₃ b o (by simpa using Nat.ne_of_lt (Nat.lt_of_lt_of_le (lt e) hI)) (hk' b o e))
    have hl₄ : Lst h₄ D ys := hl'.keeps fun o e => hs₄.extBut D o hDC (hk₃ _ o (by simpa using hDI) e)
    have hst₄ : St (i + 1) h₄ := W.frame _ _ _ hst₃ fun b hb o e => hs₄.extBut b o (fun (q : b = C) => hCf (q ▸ hb)) e
    refine wpAny_mono (T i v ys C h₄ _ _ _ hlt hPv hJ' hC hk₄ hn₄ (by simp)) (fun ok s₅ h₅ => ?_) fun _ _ e => e
    obtain ⟨⟨g₅, tk₅, rfl, kk₅⟩, r⟩ := h₅
    cases ok with
    | false =>
      simp only [Bool.false_eq_true, if_false] at r ⊢
      exact ⟨n + 1 - (i + 1), by omega, g₅, tk₅, i + 1, ys, _, rfl, hlt, rfl, by omega, W.frame _ _ _ hst₄ fun b _ o e => kk₅ b o e, hn₄.keeps kk₅, hl₄.keeps fun o e => kk₅ _ o e, r, fun b o e => kk₅ b o (hk₄ b o e)⟩
    | true =>
      simp only [if_true] at r ⊢
      refine wpAny_mono r (fun y s₆ h₆ => ?_) fun _ _ e => e
      obtain ⟨⟨g₆, tk₆, rfl, kk₆⟩, r₆⟩ := h₆
      have kk : ∀ b o, h₄.get? b = some o → g₆.get? b = some o := fun b o e => kk₆ b o (kk₅ b o e)
      obtain ⟨kD, hD₆⟩ := hl₄.keeps fun o e => kk _ o e
      refine append_at (hsz := by rw [List.size_toArray]; omega) hD₆ fun h₇ hs₇ hl₇ => ?_
      refine ⟨n + 1 - (i + 1), by omega, h₇, tk₆, i + 1, ys ++ [y], _, rfl, hlt, rfl, by simp; omega, W.frame _ _ _ hst₄ fun b hb o e => hs₇.extBut b o (fun (q : b = D) => hDf (q ▸ hb)) (kk b o e), (hn₄.keeps kk).sameBut hs₇ (Ne.symm hDC), ?_, r₆, fun b o e => hs₇.extBut b o (Nat.ne_of_lt (Nat.lt_of_lt_of_le (lt e) hD)) (kk b o (hk₄ b o e))⟩
      exact ⟨kD + 1, by simpa using hl₇⟩
  · obtain rfl : i = n := Nat.le_antisymm hi (Nat.not_lt.mp hlt)
    refine W.done _ _ _ hst' fun h₃ tk₃ hk₃ => ?_
    exact hR h₃ tk₃ m' ys (hn'.at' fun o e => hk₃ _ o (by simpa using hCI) e) (hl'.keeps fun o e => hk₃ _ o (by simpa using hDI) e) hJ' fun b o e => hk₃ b o (by simpa using Nat.ne_of_lt (Nat.lt_of_lt_of_le (lt e) hI)) (hk' b o e)

/-- what a comprehension may run over: how it is walked -/
def Source (prog : Program) (w : World) (A : Around) (xv : Value) (h : Heap) (n : Nat) (P : Nat → Value → Prop) : Prop :=
  ∀ (E : Value → Shared → Prop) (Q : Value → Shared → Prop) (s : Shared), s.heap = h →
    (∀ g I fp St, (∀ b o, h.get? b = some o → g.get? b = some o) → h.objs.size ≤ I → I < g.objs.size → (∀ b ∈ fp, b < g.objs.size) → Walks prog w A I fp [I] n P St → St 0 g → Q (.ref I) { s with heap := g }) → wpAny (model prog w) A (pyIter xv) Q E s

theorem source_list (hh : A.handled = none) {h : Heap} {ax : Addr} {items : Array Value} (hl : h.IsList ax items) : Source prog w A (.ref ax) h items.size (fun i v => items[i]? = some v) := by
  intro E Q s hs q
  subst hs
  have hlt : ax < s.heap.objs.size := by obtain ⟨_, e, _⟩ := hl; exact Heap.lt_size e
  refine wpAny_pyIter_list hl ?_
  have up : ∀ b o, s.heap.get? b = some o → (s.heap.push { cls := .type "list_iterator", data := .fields #[.ref ax, .int 0 0] }).get? b = some o := fun b o e => Heap.get?_push_of_some _ e
  refine q _ s.heap.objs.size [s.heap.objs.size, ax] _ up (Nat.le_refl _) (by rw [Heap.size_push]; exact Nat.lt_succ_self _) (fun b hb => ?_) (Walks.list hh s.heap.objs.size ax (Nat.ne_of_lt hlt) items) ⟨⟨_, Heap.get?_push_size _ rfl, rfl, rfl⟩, hl.push _⟩
  rw [Heap.size_push]
  rcases List.mem_cons.mp hb with rfl | hb
  · exact Nat.lt_succ_self _
  · rw [List.mem_singleton.mp hb]; exact Nat.lt_succ_of_lt hlt

theorem source_range (hh : A.handled = none) {h : Heap} {r : Addr} {a b c : Int} {t u v : Tok} {n : Nat} (hr : IsRange h r a b c t u v) (hsm : Builtin.Range.small a b c = true) (hn : Builtin.Range.rangeSize a b c = ((n : Nat) : Int)) :
    Source prog w A (.ref r) h n (fun i v => ∃ t, v = .int (a + i * c) t) := by
  intro E Q s hs q
  subst hs
  refine wpAny_pyIter_range hr hsm ?_
  refine q _ s.heap.objs.size [s.heap.objs.size] _ (fun _ _ e => Heap.get?_push_of_some _ e) (Nat.le_refl _) (by rw [Heap.size_push]; exact Nat.lt_succ_self _) (fun b hb => ?_) (Walks.range hh s.heap.objs.size a c n) (by show IsRangeIter _ _ _ _ _; rw [hn]; simpa using Heap.get?_push_size _ rfl)
  rw [List.mem_singleton.mp hb, Heap.size_push]; exact Nat.lt_succ_self _

theorem compCore {elt iter : Expr} {x : Str} {px : Pos} {ifs : List Expr} {scope : Scope} {cl : List (Str × Addr)} {pos : Pos} {env : Env} {use : Option (Value → Sem Unit)} {Q : Value → Shared → Prop}
    {xv : Value} {n : Nat} {P : Nat → Value → Prop} {J : Nat → List Value → Prop}
    (hcell : ∀ y ∈ scope.names, y.2 ≠ .cell) (hkind : scope.kind = .function) (hx : scope.names.lookup x = some .local)
    (S : Source prog w A xv s₁.heap n P) (hsz : n ≤ sizeLine) (T : Turn prog w A s₁ elt ifs x scope cl env n P J) (hJ : J 0 [])
    (hQ : ∀ D C h tk m ys, s₁.heap.objs.size ≤ D → s₁.heap.objs.size ≤ C → D ≠ C → Lst h D ys → J n ys → (∀ b o, s₁.heap.get? b = some o → h.get? b = some o) → h.Ns C m → compPost (model prog w) A E use Q (.ref D) C (.ok .next) { s₁ with heap := h, toks := tk }) :
    wpAny (model prog w) A (pyIter xv) (fun it s₂ => wpAny (model prog w) A (newList []) (fun acc s₃ => wpAny (model prog w) A (newFunctionEnv scope env.globals cl [] env.qual none .none (some env)) (fun cenv s₄ =>
        codeAny (model prog w) A (.compStart (.ListComp elt [⟨.Name x px, iter, ifs, 0⟩] scope pos) 0 it acc { cenv with scope := relabel scope env }) (compPost (model prog w) A E use Q acc cenv.locals) s₄) E s₃) E s₂) E s₁ := by
  refine S E _ s₁ rfl fun g I fp St up hI hIg hfp W hst => ?_
  refine wpAny_newObj_type (wpAny_newFunctionEnv hcell (by intro y hy; simp at hy) (fun h₁ hns₁ hsb₁ => ?_) hkind)
  dsimp only at hns₁ hsb₁ ⊢
  generalize hH2 : g.push { cls := .type "list", dict := none, data := .seq ([] : List Value).toArray } = H2 at hns₁ hsb₁ ⊢
  have hC : H2.objs.size = g.objs.size + 1 := by rw [← hH2, Heap.size_push]
  have hDC : g.objs.size ≠ H2.objs.size := by rw [hC]; exact Nat.ne_of_lt (Nat.lt_succ_self _)
  have below : ∀ b, b < g.objs.size → b ≠ H2.objs.size ∧ b ≠ g.objs.size := fun b hb => ⟨by rw [hC]; exact Nat.ne_of_lt (Nat.lt_succ_of_lt hb), Nat.ne_of_lt hb⟩
  have hDf : g.objs.size ∉ fp := fun hm => Nat.lt_irrefl _ (hfp _ hm)
  have hCf : H2.objs.size ∉ fp := fun hm => by have := hfp _ hm; rw [hC] at this; exact Nat.lt_irrefl _ (Nat.lt_of_succ_lt this)
  have old : ∀ b o, g.get? b = some o → h₁.get? b = some o := fun b o e => hsb₁.extBut b o (below b (Heap.lt_size e)).1 (Heap.get?_push_of_some _ (hH2 ▸ Heap.get?_push_of_some _ e))
  have hacc : Lst h₁ g.objs.size [] := ⟨_, hsb₁.extBut _ _ hDC (Heap.get?_push_of_some _ (hH2 ▸ Heap.get?_push_size _ rfl))⟩
  have hle : s₁.heap.objs.size ≤ g.objs.size := Nat.le_of_lt (Nat.lt_of_le_of_lt hI hIg)
  have hCle : s₁.heap.objs.size ≤ H2.objs.size := by rw [hC]; exact Nat.le_succ_of_le hle
  have loop : ∀ tk s₃, s₃ = { s₁ with heap := h₁, toks := tk } → codeAny (model prog w) A (.compLoop (.ListComp elt [⟨.Name x px, iter, ifs, 0⟩] scope pos) 0 (.ref I) (.ref g.objs.size) (compEnvC scope cl H2.objs.size env))
        (compPost (model prog w) A E use Q (.ref g.objs.size) H2.objs.size) s₃ := by
    rintro tk s₃ rfl
    refine compLoopJ W hsz T hkind hx hI hle hCle hDf hCf hDC (Ne.symm (Nat.ne_of_lt hIg)) (by rw [hC]; exact Ne.symm (Nat.ne_of_lt (Nat.lt_succ_of_lt hIg))) (fun b o e => old b o (up b o e)) (W.frame _ _ _ hst fun b _ o e => old b o e) hns₁ hacc hJ ?_
    intro h tk m ys hn hl hJn hk
    exact hQ _ _ h tk m ys hle hCle hDC hl hJn hk hn
  exact codeAny_compStart_list (loop _ _ rfl) (W.self 0 _ _ _ (W.frame _ _ _ hst fun b _ o e => old b o e) (loop _ _ rfl))

/-- the source of a comprehension is reached -/
def CompAt (prog : Program) (w : World) (A : Around) (Q : Value → Shared → Prop) (elt : Expr) (ifs : List Expr) (x : Str) (scope : Scope) (cl : List (Str × Addr)) (env : Env) (xv : Value) (s₁ : Shared) : Prop :=
  ∃ n P J, Source prog w A xv s₁.heap n P ∧ n ≤ sizeLine ∧ Turn prog w A s₁ elt ifs x scope cl env n P J ∧ J 0 [] ∧
      ∀ D h' tk ys, s₁.heap.objs.size ≤ D → Lst h' D ys → J n ys → (∀ b o, s₁.heap.get? b = some o → h'.get? b = some o) → Q (.ref D) { s₁ with heap := h', toks := tk }

theorem compJ {elt iter : Expr} {x : Str} {px : Pos} {ifs : List Expr} {scope : Scope} {cl : List (Str × Addr)} {pos : Pos} {env : Env} {s : Shared} {Q : Value → Shared → Prop}
    (hclos : closureFor scope env = pure cl) (hcell : ∀ y ∈ scope.names, y.2 ≠ .cell) (hkind : scope.kind = .function)
    (hnames : ∀ y ∈ scope.names, y.2 = .local → scope.names.lookup y.1 = some .local) (hx : scope.names.lookup x = some .local)
    (h : wpAny (model prog w) A (eval iter env) (CompAt prog w A Q elt ifs x scope cl env) E s)
    (hs : ∀ x, foldedSetIterable iter env x = pure x := by intro _; rfl) :
    wpAny (model prog w) A (eval (.ListComp elt [⟨.Name x px, iter, ifs, 0⟩] scope pos) env) Q E s := by
  rw [eval_ListComp]
  refine wpAny_comprehension_free (use := none) rfl hs hclos hkind hnames (wpAny_mono h (fun xv s₁ h₁ => ?_) fun _ _ e => e)
  obtain ⟨n, P, J, S, hsz, T, hJ, hQ⟩ := h₁
  refine compCore hcell hkind hx S hsz T hJ fun D C h tk m ys hD hC hDC hl hJn hk hn => ?_
  exact ⟨m, hn, fun h'' hs'' => hQ _ h'' tk ys hD (hl.keeps fun o e => hs''.extBut _ o hDC e) hJn fun b o e => hs''.extBut b o (Nat.ne_of_lt (Nat.lt_of_lt_of_le (Heap.lt_size e) hC)) (hk b o e)⟩

/-- the same where the list is stored into the local name y at once -/
def AssignAt (prog : Program) (w : World) (A : Around) (Q : Flow → Shared → Prop) (y : Str) (elt : Expr) (ifs : List Expr) (x : Str) (scope : Scope) (cl : List (Str × Addr)) (env : Env) (xv : Value) (s₁ : Shared) : Prop :=
  ∃ n P J m, Source prog w A xv s₁.heap n P ∧ n ≤ sizeLine ∧ Turn prog w A s₁ elt ifs x scope cl env n P J ∧ J 0 [] ∧ s₁.heap.Ns env.locals m ∧
      ∀ D h' tk ys, s₁.heap.objs.size ≤ D → Lst h' D ys → J n ys → h'.Ns env.locals (fun z => if z = y then some (.ref D) else m z) → (∀ b o, b ≠ env.locals → s₁.heap.get? b = some o → h'.get? b = some o) → Q .next { s₁ with heap := h', toks := tk }

theorem assignJ {elt iter : Expr} {x y : Str} {px py : Pos} {ifs : List Expr} {scope : Scope} {cl : List (Str × Addr)} {pos spos : Pos} {env : Env} {s : Shared} {Q : Flow → Shared → Prop}
    (hsw : swapsWith (.ListComp elt [⟨.Name x px, iter, ifs, 0⟩] scope pos) (some (.Name y py)) spos.line env = pure true)
    (hclos : closureFor scope env = pure cl) (hcell : ∀ z ∈ scope.names, z.2 ≠ .cell) (hkind : scope.kind = .function)
    (hnames : ∀ z ∈ scope.names, z.2 = .local → scope.names.lookup z.1 = some .local) (hx : scope.names.lookup x = some .local)
    (hy : env.kindOf y = some .local) (hp : (env.scope.kind == .class || (env.scope.kind == .module && env.locals != env.globals)) = false)
    (h : wpAny (model prog w) A (eval iter env) (AssignAt prog w A Q y elt ifs x scope cl env) E s)
    (hs : ∀ x, foldedSetIterable iter env x = pure x := by intro _; rfl) :
    wpAny (model prog w) A (exec (.Assign [.Name y py] (.ListComp elt [⟨.Name x px, iter, ifs, 0⟩] scope pos) spos) env) Q E s := by
  rw [exec_Assign_Name_used _ _ _ _ hsw]
  refine wpAny_bind (wpAny_standAt (wpAny_bind ?_))
  show wpAny _ A (do let _ ← comprehension (.ListComp elt [⟨.Name x px, iter, ifs, 0⟩] scope pos) scope env _ (newList []) false (eval iter env) (some (assign (.Name y py) env))) _ _ s
  refine wpAny_bind (wpAny_mono (wpAny_comprehension_free (use := some (assign (.Name y py) env)) (Q := fun _ s' => Q .next s') rfl hs hclos hkind hnames
    (wpAny_mono h (fun xv s₁ h₁ => ?_) fun _ _ e => e)) (fun _ s' hq => wpAny_pure (wpAny_pure hq)) fun _ _ e => e)
  obtain ⟨n, P, J, mL, S, hsz, T, hJ, hnL, hQ⟩ := h₁
  refine compCore hcell hkind hx S hsz T hJ fun D C h tk m ys hD hC hDC hl hJn hk hn => ?_
  have hLlt : env.locals < s₁.heap.objs.size := hnL.lt
  have hDL : D ≠ env.locals := Ne.symm (Nat.ne_of_lt (Nat.lt_of_lt_of_le hLlt hD))
  have hCL : C ≠ env.locals := Ne.symm (Nat.ne_of_lt (Nat.lt_of_lt_of_le hLlt hC))
  show wpAny _ A (assign (.Name y py) env (.ref D)) _ _ _
  refine wpAny_assign_Name (wpAny_storeName_local hy (hnL.keeps hk) (fun h₂ hn₂ hs₂ => ?_) hp)
  refine ⟨m, hn.sameBut hs₂ hCL, fun h'' hs'' => hQ D h'' _ ys hD (hl.keeps fun o e => hs''.extBut _ o hDC (hs₂.extBut _ o hDL e)) hJn (hn₂.sameBut hs'' (Ne.symm hCL)) fun b o hb e => hs''.extBut b o (Nat.ne_of_lt (Nat.lt_of_lt_of_le (Heap.lt_size e) hC)) (hs₂.extBut b o hb (hk b o e))⟩
end
end Mine
end

section
open PySem PySem.W PyProof.Rows PySem.Calls
namespace Mine
noncomputable abbrev PR : Program := PySem.Challenge.rw_ij0001_01.row.prog
noncomputable abbrev LO : List Str := looseW hd.view_39 [Str.ofString "filterfalse"]
noncomputable abbrev KK (w : World) : Frag := hd.heap_39 w.params
structure Cx (w : World) (mean : ExcName → Option Value) (mg mb : Str → Option Value) (A : Around) (h : Heap) : Prop where
  X : (hd.heap_39 w.params).In h
  T : Top hd.view_39 LO mean mg mb h
  B : ∃ base outer, Below A base outer h

section
variable {w : World} {mean : ExcName → Option Value} {mg mb : Str → Option Value} {A : Around} {s : Shared} {Q E : Value → Shared → Prop}

theorem enter {name qual : Str} {params : Arguments} {body : List Stmt} {scope : Scope} {dV kV doc pm cdv ct oc : Value} {an od : Option Addr} {osl : Array (Option Value)} {f : Addr} {vs : List Value} {binds : List (Str × Value)}
    (C : Cx w mean mg mb A s.heap)
    (ho : (hd.heap_39 w.params).lookup f = some ⟨oc, od, .func (fnOf name qual params body scope dV kV doc pm an cdv ct), osl⟩) (hcd : codeIn (hd.heap_39 w.params) cdv qual = true) (hroom : A.depth < recursionLimit)
    (hbind : BindsTo s (fnOf name qual params body scope dV kV doc pm an cdv ct) ⟨vs, []⟩ binds) (hloc : ∀ y ∈ binds, scope.names.lookup y.1 = some .local)
    (h : ∀ h₁ base outer, Below A base outer s.heap → Fr s.heap s.heap.objs.size h₁ (fun y => binds.reverse.lookup y) → News s.heap s.heap.objs.size h₁ [] →
      wpAny (model PR w) (A.deeper (envOf qual scope s.heap.objs.size f cdv)) (execs body (envOf qual scope s.heap.objs.size f cdv))
        (fun fl s' => Q (match fl with | .ret v => v | _ => .none) s')
        (fun e s' => wpAny (model PR w) (A.deeper (envOf qual scope s.heap.objs.size f cdv)) (leaving (envOf qual scope s.heap.objs.size f cdv) e) (fun _ s'' => E e s'') (fun e' s'' => E e' s'') s')
        { s with heap := h₁, toks := s.toks + binds.length })
    (hco : scope.isCoroutine = false := by rfl) (hgen : scope.isGenerator = false := by rfl) (hk : scope.kind = .function := by rfl)
    (hcell : ∀ x ∈ scope.names, x.2 ≠ .cell := by decide) :
    wpAny (model PR w) A (call (.ref f) vs) Q E s := by
  obtain ⟨base, outer, B⟩ := C.B
  refine wpAny_call (codeAny_call_def (fd := fnOf name qual params body scope dV kV doc pm an cdv ct) (body := body) (binds := binds) hroom (C.X _ _ ho) rfl C.T.nolimit (codeRec_of C.X hcd) rfl hbind hcell hloc (fun h₁ hns hk₁ => ?_) hco hgen hk)
  exact h h₁ base outer B ⟨hns, hk₁, Nat.le_refl _⟩ News.nil
end

def Stop (P : Prop) : Prop := P
theorem Stop.out {P : Prop} (h : Stop P) : P := h

def Again (I : Nat → Shared → Prop) (n : Nat) (s : Shared) : Prop := ∃ m, m < n ∧ I m s

theorem whileL {prog : Program} {w : World} {A : Around} {R : Result → Shared → Prop} {s : Shared} {test body orelse env} (I : Nat → Shared → Prop)
    (turn : ∀ n s, I n s →
      wpAny (model prog w) A (isTrue test env (eval test env)) (fun b s₂ =>
        if b then wpAny (model prog w) A (execs body env) (fun f s₃ => match f with
            | .next | .cont => Again I n s₃
            | .brk => R (.ok .next) s₃
            | .ret v => R (.ok (.ret v)) s₃) (notedBy (model prog w) A env fun e s' => R (.error e) s') s₂
        else wpAny (model prog w) A (execs orelse env) (fun f s₃ => R (.ok f) s₃) (notedBy (model prog w) A env fun e s' => R (.error e) s') s₂)
        (notedBy (model prog w) A env fun e s' => R (.error e) s') s)
    (n : Nat) (h : I n s) : codeAny (model prog w) A (.whileLoop test body orelse env) R s := codeAny_whileLoop I turn n h

/-- the letters of a number to the base 16, A for nought, the highest first; none for 0 -/
def wordL (n : Nat) : List UInt8 := if h : n = 0 then [] else wordL (n / 16) ++ [UInt8.ofNat (65 + n % 16)]
termination_by n
decreasing_by omega

theorem pin {h₀ h : Heap} {L : Addr} {M : Str → Option Value} {x : Str} {v : Value} (F : Fr h₀ L h M) (e : M x = some v) : Fr h₀ L h (fun y => if y = x then some v else M y) := by
  have : (fun y => if y = x then some v else M y) = M := by
    funext y; by_cases hy : y = x
    · subst hy; simp [e]
    · simp [hy]
  rw [this]; exact F

theorem wordL_zero : wordL 0 = [] := by rw [wordL]; simp
theorem wordL_step (n : Nat) (h : n ≠ 0) : wordL n = wordL (n / 16) ++ [UInt8.ofNat (65 + n % 16)] := by rw [wordL]; simp [h]
theorem wordL_len (n : Nat) : (wordL n).length ≤ n := by
  induction n using Nat.strongRecOn with
  | ind n ih =>
    by_cases h : n = 0
    · subst h; rw [wordL_zero]; simp
    · rw [wordL_step n h]
      have := ih (n / 16) (by omega)
      simp only [List.length_append, List.length_cons, List.length_nil]
      omega
theorem fdiv16 (i : Nat) : ((i : Int).fdiv 16) = ((i / 16 : Nat) : Int) := by
  rw [Int.fdiv_eq_ediv_of_nonneg _ (by decide)]; rfl
theorem fmod16 (i : Nat) : ((i : Int).fmod 16) = ((i % 16 : Nat) : Int) := by
  rw [Int.fmod_eq_emod_of_nonneg _ (by decide)]; rfl
theorem letter_fin : ∀ j : Fin 16, KBy.picked #[65, 66, 67, 68, 69, 70, 71, 72, 73, 74, 75, 76, 77, 78, 79, 80] (some ((j.val : Nat) : Int)) (some (((j.val : Nat) : Int) + 1)) = #[UInt8.ofNat (65 + j.val)] := by decide +kernel
theorem letter_at (i : Nat) : KBy.picked #[65, 66, 67, 68, 69, 70, 71, 72, 73, 74, 75, 76, 77, 78, 79, 80] (some ((i : Int).fmod 16)) (some ((i : Int).fmod 16 + 1)) = #[UInt8.ofNat (65 + i % 16)] := by
  rw [fmod16]
  exact letter_fin ⟨i % 16, Nat.mod_lt _ (by decide)⟩

local macro_rules | `(tactic| walk_at "binaryOp Add bytes bytes") => `(tactic| refine Stop.out ?_)
local macro_rules | `(tactic| walk_at "exec While") => `(tactic| refine Stop.out ?_)


def ApI (s : Shared) (n : Nat) (k : Nat) (s' : Shared) : Prop :=
  ∃ (h' : Heap) (tk' i : Nat) (b : Array UInt8) (t₁ t₂ t₃ : Tok) (M : Str → Option Value), s' = { s with heap := h', toks := tk' } ∧ News s.heap s.heap.objs.size h' [] ∧
    Fr s.heap s.heap.objs.size h' (fun y => if y = Str.ofString "num" then some (.int (i : Nat) t₁) else if y = Str.ofString "val" then some (.bytes b t₂) else if y = Str.ofString "AP" then some (.bytes #[65, 66, 67, 68, 69, 70, 71, 72, 73, 74, 75, 76, 77, 78, 79, 80] t₃) else M y) ∧
    k = i ∧ i < 4096 ∧ (wordL i ++ b.toList) = wordL n

set_option maxRecDepth 100000 in
set_option maxHeartbeats 4000000 in
theorem int2ap {w : World} {mean : ExcName → Option Value} {mg mb : Str → Option Value} {A : Around} {s : Shared} {Q : Value → Shared → Prop} {n : Int} {t : Tok}
   (C : Cx w mean mg mb A s.heap) (hroom : A.depth + 10 < recursionLimit) (hh : A.handled = none) (hn : n.natAbs < 4096)
   (h : ∀ t' h' tk, (∀ b o, s.heap.get? b = some o → h'.get? b = some o) → Q (.bytes (wordL n.natAbs).toArray t') { s with heap := h', toks := tk }) :
   wpAny (model PR w) A (call (.ref 21) [.int n t]) Q (fun _ _ => False) s := by
  obtain ⟨_, dp, fr, gd, un⟩ := A
  cases hh
  obtain ⟨X, T, _⟩ := id C
  refine enter (f := 21) (binds := [(Str.ofString "num", .int n t)]) C (by rfl) (by rfl) (by omega) (BindsTo.of_eq rfl) (locs rfl) ?_
  intro h₁ base outer B F N
  try dsimp only
  w_top on
  k_steps
  unfold Stop
  refine wpAny_While (whileL (ApI s n.natAbs) ?turn n.natAbs ?start)
  case start => 
    rename Fr _ _ _ _ => F
    have e : (if n < 0 then -n else n) = ((n.natAbs : Nat) : Int) := by split <;> omega
    rw [e] at F
    exact ⟨_, _, n.natAbs, #[], _, _, _, _, rfl, by assumption, pin (x := Str.ofString "num") (pin (x := Str.ofString "val") (pin (x := Str.ofString "AP") F rfl) rfl) rfl, rfl, hn, by simp⟩
  case turn => 
    rintro i s' ⟨h', tk', k, b, t₁, t₂, t₃, M, rfl, N, F, rfl, hi, hw⟩
    w_top on
    k_steps
    all_goals dsimp only at *
    · k_steps
      rename Fr _ _ _ _ => F
      rename News _ _ _ _ => N
      refine KBc.slice_K (s := ⟨_, _, _, _, _⟩) F N rfl (by constructor) (by constructor) (by decide) ?_
      intro h₂ t₄ tk₂ F N _
      rename (i : Int) ≠ 0 => hne
      rw [letter_at i]
      k_steps
      unfold Stop
      refine KBy.add_bytes ?_ ?_
      · have hl := congrArg List.length hw
        have hb := wordL_len n.natAbs
        simp only [List.length_append, Array.length_toList] at hl
        show 1 + b.size ≤ _
        omega
      intro t₅ tk₃
      k_steps
      dsimp only at *
      rename Fr _ _ _ _ => F
      have hne' : i ≠ 0 := by omega
      have e1 : ((i : Int).fdiv 16) = ((i / 16 : Nat) : Int) := fdiv16 i
      refine ⟨i / 16, by omega, _, _, i / 16, _, _, _, _, _, rfl, News.nil, pin (x := Str.ofString "num") (pin (x := Str.ofString "val") (pin (x := Str.ofString "AP") F rfl) rfl) (by rw [← e1]; rfl), rfl, by omega, ?_⟩
      rw [← hw, wordL_step i hne']
      simp
    · have hi0 : i = 0 := by omega
      subst hi0
      rename Fr _ _ _ _ => F
      have e : b = (wordL n.natAbs).toArray := by
        rw [← hw, wordL_zero]; simp
      rw [e]
      exact h _ _ _ F.keep
end Mine
end

section
open PySem PySem.W PyProof.Rows PySem.Calls
namespace Mine
theorem filled : PySem.Challenge.rw_ij0001_01 = PySem.Challenge.rw_ij0001_01 ∧ hd.heap_39 = hd.heap_39 := by
  k_fill
  exact ⟨rfl, rfl⟩

section
variable {w : World} {mean : ExcName → Option Value} {mg mb : Str → Option Value} {A : Around} {s : Shared} {Q E : Value → Shared → Prop}

theorem enterC {name qual : Str} {params : Arguments} {body : List Stmt} {scope : Scope} {dV kV doc pm cdv ct oc : Value} {an od : Option Addr} {osl : Array (Option Value)} {f : Addr} {vs : List Value} {binds : List (Str × Value)}
    (C : Cx w mean mg mb A s.heap)
    (ho : (hd.heap_39 w.params).lookup f = some ⟨oc, od, .func (fnOf name qual params body scope dV kV doc pm an cdv ct), osl⟩) (hcd : codeIn (hd.heap_39 w.params) cdv qual = true) (hroom : A.depth < recursionLimit)
    (hbind : BindsTo s (fnOf name qual params body scope dV kV doc pm an cdv ct) ⟨vs, []⟩ binds)
    (hkind : (binds.all fun y => scope.names.lookup y.1 == some .local || scope.names.lookup y.1 == some .cell) = true)
    (hnd : ((cellsFrom 0 scope.names []).map (·.1)).Nodup)
    (h : ∀ h₁ tk cells base outer, Below A base outer s.heap → Fr s.heap s.heap.objs.size h₁ (bindL (envOfC qual scope s.heap.objs.size f cdv).kindOf binds fun _ => none) → News s.heap s.heap.objs.size h₁ cells →
      CellsAre (bindC (envOfC qual scope s.heap.objs.size f cdv).kindOf binds fun _ => none) (cellsFrom (s.heap.objs.size + 1) scope.names []) cells →
      wpAny (model PR w) (A.deeper (envOfC qual scope s.heap.objs.size f cdv)) (execs body (envOfC qual scope s.heap.objs.size f cdv))
        (fun fl s' => Q (match fl with | .ret v => v | _ => .none) s')
        (fun e s' => wpAny (model PR w) (A.deeper (envOfC qual scope s.heap.objs.size f cdv)) (leaving (envOfC qual scope s.heap.objs.size f cdv) e) (fun _ s'' => E e s'') (fun e' s'' => E e' s'') s')
        { s with heap := h₁, toks := tk })
    (hco : scope.isCoroutine = false := by rfl) (hgen : scope.isGenerator = false := by rfl) (hk : scope.kind = .function := by rfl) :
    wpAny (model PR w) A (call (.ref f) vs) Q E s := by
  obtain ⟨base, outer, B⟩ := C.B
  refine wpAny_call (codeAny_call_function hroom (C.X _ _ ho) rfl hco hgen rfl (codeRec_of C.X hcd) (hbind _ _ _ _ ?_))
  refine wpAny_newFunctionEnv_cells hk (kindsX hkind _) fun env' he s' x => ?_
  subst he
  refine ⟨C.T.nolimit.keeps x.toInCall.keep, codeAny_func ?_⟩
  obtain ⟨h₁, tk, rfl, _⟩ := x.done
  have hk₁ := x.toInCall.keep
  obtain ⟨cells, NC, Y⟩ := Cl.news (h₀ := s.heap) (Nat.le_refl _) fun n c hm => ⟨x.cell n c (lookup_of_mem_nodup (cellsFrom_names scope.names 0 (s.heap.objs.size + 1) [] [] rfl ▸ hnd) hm), x.above n c hm⟩
  exact h h₁ tk cells base outer B ⟨x.toInCall.ns, hk₁, Nat.le_refl _⟩ NC Y
end

section
variable {h₀ h : Heap} {L C : Addr} {mF m : Str → Option Value} {news : List (Addr × Obj)} {s₁ : Shared}
theorem turn_ctx (F : Fr h₀ L s₁.heap mF) (N : News h₀ L s₁.heap news) (hC : s₁.heap.objs.size ≤ C) (hk : ∀ b o, s₁.heap.get? b = some o → h.get? b = some o) (hn : h.Ns C m) :
    ∃ oC, Fr h₀ L h mF ∧ News h₀ L h ((C, oC) :: news) ∧ LCg.NsObj oC m := by
  obtain ⟨oC, e, x⟩ := LCg.ns_obj hn
  refine ⟨oC, F.keeps hk, fun p hp => ?_, x⟩
  rcases List.mem_cons.mp hp with rfl | hp
  · refine ⟨e, Ne.symm (Nat.ne_of_lt (Nat.lt_of_lt_of_le F.ns.lt hC)), ?_⟩
    cases q : h₀.get? C with
    | none => rfl
    | some o' => exact absurd (Heap.lt_size (F.keep C o' q)) (Nat.not_lt.mpr hC)
  · exact News.grown N hk p hp
end

/-- the figures of n to the base 16 as the law's own word writes them: size many, the highest first -/
def lawL (n size : Nat) (i : Nat) : List Int := (List.range i).map fun j => ((65 + n / 16 ^ (size - 1 - j) % 16 : Nat) : Int)
theorem lawL_succ (n size i : Nat) : lawL n size (i + 1) = lawL n size i ++ [((65 + n / 16 ^ (size - 1 - i) % 16 : Nat) : Int)] := by
  unfold lawL; rw [List.range_succ, List.map_append]; rfl

theorem range_down (sz : Nat) (h : sz ≤ 3) : Builtin.Range.small ((sz : Int) - 1) (-1) (-1) = true ∧ Builtin.Range.rangeSize ((sz : Int) - 1) (-1) (-1) = ((sz : Nat) : Int) := by
  rcases (by omega : sz = 0 ∨ sz = 1 ∨ sz = 2 ∨ sz = 3) with rfl | rfl | rfl | rfl <;> decide +kernel

theorem lawL_in (n size i : Nat) : KBa.In (lawL n size i) := by
  intro k hk
  unfold lawL at hk
  obtain ⟨j, _, rfl⟩ := List.mem_map.mp hk
  have := Nat.mod_lt (n / 16 ^ (size - 1 - j)) (by decide : 0 < 16)
  omega

theorem byteArr_law (n size i : Nat) : byteArr (lawL n size i) = ((List.range i).map fun j => UInt8.ofNat (65 + n / 16 ^ (size - 1 - j) % 16)).toArray := by
  unfold byteArr lawL
  rw [List.map_map]
  congr 1
theorem lawL_word (n sz : Nat) (h3 : sz ≤ 3) (lo : sz ≠ 0 → 16 ^ (sz - 1) ≤ n) (hi : ¬ 16 ^ sz ≤ n) : byteArr (lawL n sz sz) = (wordL n).toArray := by
  have z : ∀ k, k = 0 → wordL k = [] := fun k e => by rw [e]; exact wordL_zero
  rw [byteArr_law]
  congr 1
  rcases (by omega : sz = 0 ∨ sz = 1 ∨ sz = 2 ∨ sz = 3) with rfl | rfl | rfl | rfl
  · rw [z n (by omega)]; rfl
  · have l := lo (by decide)
    rw [wordL_step n (by omega), z (n / 16) (by omega)]
    simp only [List.range_succ, List.range_zero, List.nil_append, List.map_append, List.map_cons, List.map_nil, Nat.sub_self, Nat.pow_zero, Nat.div_one, Nat.sub_zero]
  · have l := lo (by decide)
    rw [wordL_step n (by omega), wordL_step (n / 16) (by omega), z (n / 16 / 16) (by omega)]
    simp only [List.range_succ, List.range_zero, List.nil_append, List.map_append, List.map_cons, List.map_nil, Nat.sub_self, Nat.pow_zero, Nat.div_one, Nat.sub_zero, Nat.reduceSub, Nat.reducePow]
  · have l := lo (by decide)
    rw [wordL_step n (by omega), wordL_step (n / 16) (by omega), wordL_step (n / 16 / 16) (by omega), z (n / 16 / 16 / 16) (by omega)]
    have e : n / 16 / 16 = n / 256 := by omega
    simp only [List.range_succ, List.range_zero, List.nil_append, List.map_append, List.map_cons, List.map_nil, Nat.sub_self, Nat.pow_zero, Nat.div_one, Nat.sub_zero, Nat.reduceSub, Nat.reducePow, e]

def WwI (s : Shared) (n : Nat) (o : Obj) (k : Nat) (s' : Shared) : Prop :=
  ∃ (h' : Heap) (tk' sz : Nat) (t₁ : Tok) (M : Str → Option Value), s' = { s with heap := h', toks := tk' } ∧ News s.heap s.heap.objs.size h' [(s.heap.objs.size + 1, o)] ∧
    Fr s.heap s.heap.objs.size h' (fun y => if y = Str.ofString "size" then some (.int (sz : Nat) t₁) else M y) ∧
    k + sz = 4 ∧ sz ≤ 3 ∧ (sz ≠ 0 → 16 ^ (sz - 1) ≤ n)

section
local macro_rules | `(tactic| walk_at "exec While Compare cons nil") => `(tactic| refine Stop.out ?_)
local macro_rules | `(tactic| walk_at "binaryOp FloorDiv int int") => `(tactic| refine Stop.out ?_)
local macro_rules | `(tactic| walk_at "binaryOp Mod int int") => `(tactic| refine Stop.out ?_)
local macro_rules | `(tactic| walk_at "call type:bytes") => `(tactic| refine Stop.out ?_)
local macro_rules | `(tactic| walk_at "eval ListComp") => `(tactic| refine Stop.out ?_)

set_option maxRecDepth 100000 in
set_option maxHeartbeats 4000000 in
theorem lawword {w : World} {mean : ExcName → Option Value} {mg mb : Str → Option Value} {A : Around} {s : Shared} {Q : Value → Shared → Prop} {n : Nat} {t : Tok}
   (C : Cx w mean mg mb A s.heap) (hroom : A.depth + 10 < recursionLimit) (hh : A.handled = none) (hn : n < 4096)
   (h : ∀ t' h' tk, (∀ b o, s.heap.get? b = some o → h'.get? b = some o) → Q (.bytes (wordL n).toArray t') { s with heap := h', toks := tk }) :
   wpAny (model PR w) A (call (.ref 70) [.int (n : Int) t]) Q (fun _ _ => False) s := by
  obtain ⟨_, dp, fr, gd, un⟩ := A
  cases hh
  obtain ⟨X, T, _⟩ := id C
  have TR : TopRead hd.view_39 LO mg mb s.heap := topRead_of T
  refine enterC (f := 70) (binds := [(Str.ofString "number", .int n t)]) C (by rfl) (by rfl) (by omega) (BindsTo.of_eq rfl) (by rfl) (by decide +kernel) ?_
  intro h₁ tk cells base outer B F N Y
  obtain ⟨o, he, ho⟩ := CellsAre.one Y
  subst he
  clear Y
  replace ho : o.data = .cell (some (.int n t)) := ho
  try dsimp only
  w_top on
  k_steps
  unfold Stop
  refine wpAny_While (whileL (WwI s n o) ?turn 4 ?start)
  case start =>
    rename Fr _ _ _ _ => F
    exact ⟨_, _, 0, _, _, rfl, by assumption, pin (x := Str.ofString "size") F rfl, rfl, by omega, by omega⟩
  case turn =>
    rintro k s' ⟨h', tk', sz, t₁, M, rfl, N, F, hk, hsz, hlo⟩
    w_top on
    k_steps
    all_goals dsimp only at *
    · rename Fr _ _ _ _ => F
      rename (16 : Int) ^ _ ≤ _ => hp
      rw [Int.toNat_natCast] at hp
      have hp' : 16 ^ sz ≤ n := by exact_mod_cast hp
      have hlt : sz < 3 := by
        apply Nat.lt_of_not_le; intro q
        have e3 : sz = 3 := by omega
        subst e3; omega
      exact ⟨k - 1, by omega, _, _, sz + 1, _, _, rfl, by assumption, pin (x := Str.ofString "size") F rfl, by omega, by omega, fun _ => hp'⟩
    · rename ¬ _ ≤ _ => hp
      rw [Int.toNat_natCast] at hp
      have hp' : ¬ 16 ^ sz ≤ n := by intro q; exact hp (by exact_mod_cast q)
      unfold Stop
      refine compJ (cl := [(Str.ofString "number", s.heap.objs.size + 1)]) (by with_unfolding_all rfl) (by decide) rfl (by decide) rfl ?_
      k_steps
      dsimp only at *
      rename IsRange _ _ _ _ _ _ _ _ => hr
      rename Fr _ _ _ _ => F
      rename News _ _ _ _ => N
      have hsl := sizeLine_eq
      refine ⟨sz, _, fun i ys => i ≤ sz ∧ IntsAre ys (lawL n sz i), source_range rfl hr (range_down sz hsz).1 (range_down sz hsz).2, by omega, ?turns, ⟨Nat.zero_le _, IntsAre.nil⟩, ?done⟩
      case turns =>
        intro i v ys C h₂ tk₂ m₂ E₂ hi hP hJ hC hk₂ hn₂ hx₂
        obtain ⟨tv, rfl⟩ := hP
        obtain ⟨oC, F₂, N₂, hC₂⟩ := turn_ctx F N hC hk₂ hn₂
        refine wpAny_tests_nil ?_
        have e : (sz : Int) - 1 + (i : Int) * (-1) = ((sz - 1 - i : Nat) : Int) := by omega
        rw [e] at hx₂
        refine ⟨⟨_, _, rfl, fun _ _ e => e⟩, ?_⟩
        simp only [if_true]
        k_steps
        dsimp only at *
        unfold Stop
        rw [Int.toNat_natCast]
        have hb : (16 : Int) ^ (sz - 1 - i) = ((16 ^ (sz - 1 - i) : Nat) : Int) := by push_cast; rfl
        have hs : 16 ^ (sz - 1 - i) ≤ 16 ^ 3 := Nat.pow_le_pow_right (by decide) (by omega)
        have hp0 : 0 < 16 ^ (sz - 1 - i) := Nat.pow_pos (by decide)
        rw [hb]
        refine floordiv_int (by omega) ?_ (Or.inl (PyProof.noPylong_small (by omega)))
        rw [Int.fdiv_eq_ediv_of_nonneg _ (by omega)]
        k_steps
        unfold Stop
        refine mod_int' (by decide) ?_
        rw [Int.fmod_eq_emod_of_nonneg _ (by decide)]
        k_steps
        refine EltEnd.same ⟨by omega, ?_⟩
        rw [lawL_succ]
        exact IntsAre.append hJ.2 (by exact IntsAre.cons _ _ IntsAre.nil)
      case done =>
        intro D h₂ tk₂ ys hD hl hJ hk₂
        k_steps
        unfold Stop
        refine call_bytes_ints hl.isList hJ.2 (lawL_in n sz sz) ?_ rfl ?_
        · have hlen := hJ.2.length
          simp only [lawL, List.length_map, List.length_range] at hlen
          omega
        · intro h₃ t₃ tk₃ hk₃
          rw [lawL_word n sz hsz hlo hp']
          exact h _ _ _ fun b o e => hk₃ b o (hk₂ b o (F.keep b o e))
end
end Mine
end

section
open PySem PySem.W PyProof.Rows PySem.Calls Builtin Builtin.ObjectAttr
set_option maxRecDepth 100000
namespace Mine
namespace LC
theorem look_contains : typeLookup (.type "list") "__contains__" = pure (some (.builtin "list.__contains__")) := by rw [typeLookup_type, builtinLookup_eq_fast]; kernel_rfl
theorem type_contains : typeOf (.builtin "list.__contains__") = pure (.type "wrapper_descriptor") := by kernel_rfl
theorem look_get : typeLookup (.type "wrapper_descriptor") "__get__" = pure (some (.builtin "wrapper_descriptor.__get__")) := by rw [typeLookup_type, builtinLookup_eq_fast]; kernel_rfl
theorem look_set : typeLookup (.type "wrapper_descriptor") "__set__" = pure none := by rw [typeLookup_type, builtinLookup_eq_fast]; kernel_rfl
theorem look_del : typeLookup (.type "wrapper_descriptor") "__delete__" = pure none := by rw [typeLookup_type, builtinLookup_eq_fast]; kernel_rfl
theorem slot_get : Slot "wrapper_descriptor" "__get__" "wrapper_descriptor.__get__" := .of (owner := "wrapper_descriptor") (n := "__get__") (by rw [typeLookup_type, builtinLookup_eq_fast]; kernel_rfl) (by decide +kernel) (by decide +kernel) (by decide +kernel)
  (by first | exact .inl (by decide +kernel) | exact .inr (by decide +kernel)) (by rw [isSubtype_type]; kernel_rfl)
theorem entry_get : entryFor table "wrapper_descriptor.__get__" = some Builtin.«wrapper_descriptor.__get__» := entryFor_of_tree (by kernel_rfl)
theorem args_get (a b c : Value) : argsOk "wrapper_descriptor.__get__" ⟨[a, b, c], []⟩ := by unfold argsOk; kernel_rfl
end LC

/-- a bound `__contains__` of a list -/
abbrev boundC (sk : Addr) : Obj := { cls := .type "method-wrapper", data := .fields #[.builtin "list.__contains__", .ref sk] }
section
variable {prog : Program} {w : World} {A : Around} {E : Value → Shared → Prop} {h : Heap} {g : Array GenState} {d : Drawn} {t : Nat} {os : OsState} {Q : Value → Shared → Prop} {R : Result → Shared → Prop}
theorem get_contains {sk : Addr} {o : Obj} (ho : h.get? sk = some o) (hc : o.cls = .type "list")
    (q : Q (.ref h.objs.size) ⟨h.push (boundC sk), g, d, t, os⟩) :
    wpAny (model prog w) A (Builtin.«wrapper_descriptor.__get__» ⟨[.builtin "list.__contains__", .ref sk, .type "list"], []⟩) (fun fin s' => ∃ v, fin = .done (.ret v) ∧ Q v s') E ⟨h, g, d, t, os⟩ := by
  have hT : Shared.TypeIs ⟨h, g, d, t, os⟩ (.ref sk) "list" := ⟨o, ho, hc⟩
  have h1 := PySem.F.bm_sub_list
  unfold Builtin.«wrapper_descriptor.__get__»
  wp_walk
  rw [show ".".intercalate ("list.__contains__".cutAt '.').dropLast = "list" from by decide +kernel]
  wp_walk
  exact ⟨_, rfl, q⟩

set_option linter.unusedVariables false in
theorem attr_contains {sk : Addr} {ys : List Value} {k : Nat} {expr : Bool} (ho : h.get? sk = some { cls := .type "list", data := .seq ys.toArray k })
    (q : Q (.ref h.objs.size) ⟨h.push (boundC sk), g, d, t + 1, os⟩) :
    wpAny (model prog w) A (getAttr (.ref sk) "__contains__" expr) Q E ⟨h, g, d, t, os⟩ := by
  have hlk := PySem.F.slot_list_getattribute.lookup
  have hT : ∀ t', Shared.TypeIs ⟨h, g, d, t', os⟩ (.ref sk) "list" := fun _ => ⟨_, ho, rfl⟩
  have L1 := LC.look_contains
  have L2 := LC.type_contains
  have L3 := LC.look_get
  have L4 := LC.look_set
  have L5 := LC.look_del
  unfold getAttr getAttrBy
  refine wpAny_bind (wpAny_mkText (wpAny_holding (wpAny_bind (wpAny_typeOf (hT _) (wpAny_bind (wpAny_of_eq hlk ?_))))))
  show wpAny _ _ (getAttrByItsOwn (.ref sk) (.str "__contains__" t) (.type "list") (.builtin "list.__getattribute__") true expr) _ _ _
  unfold getAttrByItsOwn hookBefore callGetattribute boundAndCalled
  refine wpAny_bind (wpAny_of_eq (show (if onTheHeap (.type "list") then typeLookup (.type "list") "__getattr__" else pure none) = pure none from rfl) ?_)
  rw [show (expr && onTheHeap (Value.builtin "list.__getattribute__")) = false from Bool.and_false _, if_neg (by decide)]
  refine wpAny_bind (wpAny_attempt (wpAny_holding ?_))
  refine wpAny_bind (wpAny_of_eq (PySem.F.slot_list_getattribute.bind _) ?_)
  refine wpAny_mono (Q := fun v s' => v = .ref h.objs.size ∧ s' = ⟨h.push (boundC sk), g, d, t + 1, os⟩) (E := fun _ _ => False)
    (wpAny_call_entry PySem.F.slot_list_getattribute (hT _) PySem.F.entry_list_ga ?_ (PySem.F.args_list_getattribute_2 _ _)) (fun v s' hv => ?_) fun _ _ z => z.elim
  · have hT' := hT (t + 1)
    unfold Builtin.«object.__getattribute__»
    wp_walk
    refine codeAny_call_builtin LC.slot_get.plain LC.entry_get (LC.slot_get.check _ _ _ _ _ _ _ _ LC.type_contains (LC.args_get _ _ _) ?_)
    refine wpAny_mono (get_contains (Q := fun v s' => v = .ref h.objs.size ∧ s' = ⟨h.push (boundC sk), g, d, t + 1, os⟩) (E := fun _ _ => False) ho rfl ⟨rfl, rfl⟩) (fun fin s' hf => ?_) fun _ _ z => z.elim
    obtain ⟨v, rfl, rfl, rfl⟩ := hf
    exact wpAny_pure ⟨_, rfl, rfl, rfl⟩
  · obtain ⟨rfl, rfl⟩ := hv
    exact wpAny_pure q
end
end Mine
end

section
open PySem PySem.W PyProof.Rows PySem.Calls PySem.SeqAt
set_option maxRecDepth 100000
namespace Mine

theorem eqBytes {A : Around} {s : Shared} (b c : Array UInt8) (t u : Tok) : EqAt A s (.bytes b t) (.bytes c u) (b.toList == c.toList) := fun prog w E Q h =>
  eqBool_bytes (by rw [show decide (b.toList = c.toList) = (b.toList == c.toList) from by rw [Bool.eq_iff_iff, decide_eq_true_eq, beq_iff_eq]]; exact h)

theorem bound_ok (a b : Value) : checkBoundCall "list.__contains__" ⟨[a, b], []⟩ = pure () := by kernel_rfl

section
variable {prog : Program} {w : World} {A : Around} {E : Value → Shared → Prop} {s : Shared} {Q : Value → Shared → Prop}
/-- a call of a list's bound `__contains__` -/
theorem call_bound {q sk : Addr} {v : Value} {ys : List Value} (e : Value → Bool) (hq : s.heap.get? q = some (boundC sk)) (hl : Lst s.heap sk ys) (he : ∀ y, y ∈ ys → ∀ A', EqAt A' s y v (e y))
    (h : Q (.bool (ys.any e)) s) : wpAny (model prog w) A (call (.ref q) [v]) Q E s := by
  obtain ⟨n, hl⟩ := hl
  refine wpAny_call (codeAny_of_tree ?_)
  show wpAny _ _ (callAny (.ref q) _) _ _ _
  refine wpAny_bind (wpAny_load hq ?_)
  show wpAny _ _ (checkBoundCall "list.__contains__" ⟨[.ref sk, v], []⟩ >>= fun _ => again (.builtin "list.__contains__" ⟨[.ref sk, v], []⟩) >>= fun r => pure r) _ _ _
  rw [bound_ok]
  refine wpAny_bind (wpAny_pure ?_)
  refine wpAny_bind (wpAny_pure (wpAny_pure ⟨plainId_quiet PySem.F.slot_list_contains.plain _, codeAny_builtin PySem.F.entry_list_contains ?_⟩))
  rw [Around.under_plainId PySem.F.slot_list_contains.plain]
  have m := list_containsAt sk ys.toArray n none #[] v e prog w A (fun r s' => match r with | .ok (.ret v) => Q v s' | .ok _ => False | .error e => E e s') s ⟨hl, fun y hy => he y (by simpa using hy) _, by simpa using h⟩
  exact wpAny_mono m (fun fin s' x => x) fun _ _ x => x
end
end Mine
end

section
open PySem PySem.W PyProof.Rows PySem.Calls PySem.SeqAt
set_option maxRecDepth 100000
namespace Mine
/-- e is a new exception of this class, everything else stands -/
structure NewEx (h h' : Heap) (e : Addr) (cls : String) : Prop where
  keeps : ∀ b o, h.get? b = some o → h'.get? b = some o
  new : h.get? e = none
  there : ∃ ob vs a0, h'.get? e = some ob ∧ ob.cls = .type cls ∧ ob.data = .fields vs ∧ vs[0]? = some a0 ∧ vs[1]? = some .none
/-- a list's iterator at place i -/
abbrev liO (l : Addr) (i : Nat) : Obj := { cls := .type "list_iterator", data := .fields #[.ref l, .int i 0] }
section
variable {prog : Program} {w : World} {A : Around} {E : Value → Shared → Prop} {s : Shared}
theorem iter_list {l : Addr} {items : Array Value} {Q : Value → Shared → Prop} (hl : s.heap.IsList l items)
    (h : Q (.ref s.heap.objs.size) { s with heap := s.heap.push (liO l 0) }) : wpAny (model prog w) A (call (.builtin "iter") [.ref l]) Q E s := by
  refine call_function_entry (by decide +kernel) (by decide +kernel) kdk_entry_iter (kdk_args_iter _) ?_
  unfold Builtin.«iter»
  refine wpAny_bind (m := someArgs "iter" 1 2 _) (wpAny_of_eq (a := [Value.ref l]) (by first | rfl | kernel_rfl!) ?_)
  show wpAny _ _ (pyIter (.ref l) >>= _) _ _ _
  refine wpAny_bind (wpAny_pyIter_list hl ?_)
  exact wpAny_pure ⟨_, rfl, h⟩

theorem special_item {it l : Addr} {i : Nat} {items : Array Value} {x : Value} {Q : Option Value → Shared → Prop} (ho : s.heap.get? it = some (liO l i)) (hl : s.heap.IsList l items) (hx : items[i]? = some x)
    (hQ : ∀ h', h'.get? it = some (liO l (i + 1)) → Heap.SameBut it s.heap h' → Q (some x) { s with heap := h' }) : wpAny (model prog w) A (callSpecial? (.ref it) (Str.ofString "__next__")) Q E s := by
  have hT : s.TypeIs (.ref it) "list_iterator" := ⟨_, ho, rfl⟩
  obtain ⟨ol, hol, _, nl, hdl⟩ := hl
  refine wpAny_callSpecial?_slot (name := Str.ofString "__next__") hT slot_listiter_next
    (wpAny_call_entry slot_listiter_next hT entry_listiter_next ?_ (args_listiter_next _))
  show wpAny _ _ (field (.ref it) 0 >>= _) _ _ s
  refine wpAny_bind (wpAny_field ho rfl (x := .ref l) rfl ?_)
  show wpAny _ _ (if (Value.ref l == Value.none) = true then _ else _) _ _ s
  rw [if_neg (show ¬ ((Value.ref l == Value.none) = true) from Bool.false_ne_true)]
  show wpAny _ _ (field (.ref it) 1 >>= _) _ _ s
  refine wpAny_bind (wpAny_field ho rfl (x := .int i 0) rfl ?_)
  show wpAny _ _ (seqItems? (.ref l) >>= _) _ _ s
  refine wpAny_bind (wpAny_seqItems hol hdl ?_)
  simp only [Int.toNat_natCast, hx]
  refine wpAny_bind (wpAny_setField ho rfl (by simp) (wpAny_pure ⟨x, rfl, hQ _ ?_ (Heap.SameBut.update ..)⟩))
  rw [Heap.get?_update_self _ ho rfl]
  rfl

theorem special_end {it l : Addr} {i : Nat} {items : Array Value} {Q : Option Value → Shared → Prop} (hh : A.handled = none) (ho : s.heap.get? it = some (liO l i)) (hl : s.heap.IsList l items) (hx : items[i]? = none)
    (hE : ∀ h₁ h' e, Heap.SameBut it s.heap h₁ → NewEx h₁ h' e "StopIteration" → E (.ref e) { s with heap := h' }) : wpAny (model prog w) A (callSpecial? (.ref it) (Str.ofString "__next__")) Q E s := by
  have hT : s.TypeIs (.ref it) "list_iterator" := ⟨_, ho, rfl⟩
  obtain ⟨ol, hol, _, nl, hdl⟩ := hl
  refine wpAny_callSpecial?_slot (name := Str.ofString "__next__") hT slot_listiter_next
    (wpAny_call_entry slot_listiter_next hT entry_listiter_next ?_ (args_listiter_next _))
  show wpAny _ _ (field (.ref it) 0 >>= _) _ _ s
  refine wpAny_bind (wpAny_field ho rfl (x := .ref l) rfl ?_)
  show wpAny _ _ (if (Value.ref l == Value.none) = true then _ else _) _ _ s
  rw [if_neg (show ¬ ((Value.ref l == Value.none) = true) from Bool.false_ne_true)]
  show wpAny _ _ (field (.ref it) 1 >>= _) _ _ s
  refine wpAny_bind (wpAny_field ho rfl (x := .int i 0) rfl ?_)
  show wpAny _ _ (seqItems? (.ref l) >>= _) _ _ s
  refine wpAny_bind (wpAny_seqItems hol hdl ?_)
  simp only [Int.toNat_natCast, hx]
  refine wpAny_bind (wpAny_rule (wpAny_bind (wpAny_setField ho rfl (by simp) ?_)))
  show wpAny _ _ (newExc (.type "StopIteration") [] >>= _) _ _ _
  refine wpAny_bind ?_
  simp only [newExc, newTuple]
  refine wpAny_bind (wpAny_newObj_type ?_ (by size_fits))
  refine wpAny_bind (m := firstArgMember _ _) (wpAny_of_eq (a := Value.none) (by first | rfl | (simp only [firstArgMember]; rfl)) ?_)
  refine wpAny_newObj_type ?_ (by size_fits)
  simp only [raiseNew]
  refine wpAny_bind (wpAny_handled ?_)
  rw [show A.in1.handled = none from hh]
  refine wpAny_bind (wpAny_pure (wpAny_throw ?_))
  refine hE _ _ _ (Heap.SameBut.update ..) ⟨fun b o e => Heap.get?_push_of_some _ (Heap.get?_push_of_some _ e), ?_, ⟨_, _, .ref (s.heap.update it (Obj.mapFields fun x => x.setIfInBounds 0 Value.none)).objs.size, Heap.get?_push_size _ rfl, rfl, rfl, ?_, ?_⟩⟩
  · rw [Heap.size_push]
    exact Heap.get?_none_of_le (Nat.le_succ _)
  · rw [Array.getElem?_append_left (by simp)]; rfl
  · rw [Array.getElem?_append_left (by simp)]; rfl

theorem next_item {it l : Addr} {i : Nat} {items : Array Value} {x : Value} {Q : Value → Shared → Prop} (ho : s.heap.get? it = some (liO l i)) (hl : s.heap.IsList l items) (hx : items[i]? = some x)
    (hQ : ∀ h', h'.get? it = some (liO l (i + 1)) → Heap.SameBut it s.heap h' → Q x { s with heap := h' }) : wpAny (model prog w) A (call (.builtin "next") [.ref it]) Q E s := by
  have hT : s.TypeIs (.ref it) "list_iterator" := ⟨_, ho, rfl⟩
  refine call_function_entry (by decide +kernel) (by decide +kernel) kdk_entry_next (kdk_args_next _) ?_
  unfold Builtin.«next»
  refine wpAny_bind (m := someArgs "next" 1 2 _) (wpAny_of_eq (a := [Value.ref it]) (by first | rfl | kernel_rfl!) ?_)
  dsimp only
  refine wpAny_bind (wpAny_specialOf (name := Str.ofString "__next__") hT slot_listiter_next.lookup ?_)
  refine wpAny_ite_split (fun hab => absurd hab (by decide)) (fun _ => ?_)
  refine wpAny_bind (special_item ho hl hx fun h' ho' hs => ?_)
  exact wpAny_pure ⟨_, rfl, hQ h' ho' hs⟩

theorem next_end {it l : Addr} {i : Nat} {items : Array Value} {Q : Value → Shared → Prop} (hh : A.handled = none) (ho : s.heap.get? it = some (liO l i)) (hl : s.heap.IsList l items) (hx : items[i]? = none)
    (hE : ∀ h₁ h' e, Heap.SameBut it s.heap h₁ → NewEx h₁ h' e "StopIteration" → E (.ref e) { s with heap := h' }) : wpAny (model prog w) A (call (.builtin "next") [.ref it]) Q E s := by
  have hT : s.TypeIs (.ref it) "list_iterator" := ⟨_, ho, rfl⟩
  refine call_function_entry (by decide +kernel) (by decide +kernel) kdk_entry_next (kdk_args_next _) ?_
  unfold Builtin.«next»
  refine wpAny_bind (m := someArgs "next" 1 2 _) (wpAny_of_eq (a := [Value.ref it]) (by first | rfl | kernel_rfl!) ?_)
  dsimp only
  refine wpAny_bind (wpAny_specialOf (name := Str.ofString "__next__") hT slot_listiter_next.lookup ?_)
  refine wpAny_ite_split (fun hab => absurd hab (by decide)) (fun _ => ?_)
  exact wpAny_bind (special_end hh ho hl hx fun h₁ h' e a b => hE h₁ h' e a b)
end
end Mine
end

section
open PySem PySem.W PyProof.Rows PySem.Calls PySem.SeqAt
namespace Mine

/-- what stands behind an exception that went through frames: all but the frames' own tables, these up to their slots -/
structure After (fs : List Addr) (h h' : Heap) : Prop where
  exact_ : ∀ b o, b ∉ fs → h.get? b = some o → h'.get? b = some o
  slots : h.UpToSlots h'

section
variable {M : Model} {A : Around} {E : Value → Shared → Prop} {s' : Shared} {base g h : Heap} {outer : List Env} {L a e : Addr} {m : Str → Option Value} {name : Str} {scope : Scope} {cd : Value} {Q : Unit → Shared → Prop}
theorem leaveEx {cls : String} (K : Below A base outer g) (hx : NewEx h s'.heap e cls) (F : Fr g L h m)
    (hQ : ∀ h', After ((envOf name scope L a cd :: outer).filterMap (·.frame)) h h' → (∃ ob, h'.get? e = some ob ∧ ob.cls = .type cls) → Q () { s' with heap := h' }) (hk : scope.kind = .function := by rfl) :
    wpAny M (A.deeper (envOf name scope L a cd)) (leaving (envOf name scope L a cd) (.ref e)) Q E s' := by
  have K' := K.push (name := name) (a := a) (cd := cd) F hk
  have hin : ∀ env ∈ (envOf name scope L a cd :: outer), ∀ b, env.frame = some b → b ∈ (envOf name scope L a cd :: outer).filterMap (·.frame) := fun env he b hb => List.mem_filterMap.mpr ⟨env, he, hb⟩
  obtain ⟨ob, vs, a0, he, hcls, hd, h0, h1⟩ := hx.there
  have hen : (hideAll h ((envOf name scope L a cd :: outer).filterMap (·.frame))).get? e = none := by
    cases q : (hideAll h ((envOf name scope L a cd :: outer).filterMap (·.frame))).get? e with
    | none => rfl
    | some o => have := of_hideAll _ q; rw [hx.new] at this; cases this
  refine wpAny_leaving_firstW (a0 := a0) K'.stack ((funFrames_hide K'.frames hin).of_keeps fun b o hb _ => ⟨o, hx.keeps b o hb, rfl⟩) rfl he (fun b o hb => hx.keeps b o (of_hideAll _ hb)) hen hd h1 h0 fun h' hL => ?_
  obtain ⟨k1, _, k3, k4⟩ := hL
  refine hQ h' ⟨fun b o hb ho => k1 b o (hideAll_get _ ho hb), (Heap.UpToSlots.of_keeps hx.keeps).trans k4⟩ ?_
  obtain ⟨oe, _, _, _, _, hoe, ⟨hc, _⟩, _⟩ := k3
  exact ⟨oe, hoe, hc.trans hcls⟩
end

/-- the iterator's object behind its making -/
abbrev instS (q it dx : Addr) : Obj := { cls := .ref 54, dict := some dx, slots := #[some (.ref q), some (.ref it)] }

section
variable {w : World} {A : Around} {s : Shared} {E : Value → Shared → Prop} {h₀ : Heap} {L : Addr} {m : Str → Option Value} {it l : Addr} {i : Nat} {items : Array Value}
theorem nextN {rest : List (Addr × Obj)} {v : Value} {Q : Value → Shared → Prop} (F : Fr h₀ L s.heap m) (N : News h₀ L s.heap ((it, liO l i) :: rest)) (hd : ∀ p ∈ rest, p.1 ≠ it) (hl : h₀.IsList l items) (hx : items[i]? = some v)
    (h : ∀ h', Fr h₀ L h' m → News h₀ L h' ((it, liO l (i + 1)) :: rest) → Q v { s with heap := h' }) : wpAny (model PR w) A (call (.builtin "next") [.ref it]) Q E s := by
  have hm := N _ (.head _)
  refine next_item hm.1 (hl.at fun o e => F.keep l o e) hx fun h' ho hs => ?_
  refine h h' (F.change hs hm.2.1 hm.2.2) fun p hp => ?_
  rcases List.mem_cons.mp hp with rfl | hp
  · exact ⟨ho, hm.2⟩
  · have := N p (.tail _ hp)
    exact ⟨(hs.2 p.1 (hd p hp)).trans this.1, this.2⟩
end

section
variable {M : Model} {A : Around} {E : Value → Shared → Prop} {s : Shared} {pos : Pos} {Q : Value → Shared → Prop} {env : Env} {first : List Value}
theorem keeps_B {q sk : Addr} (h : Heap) (hq : h.get? q = some (boundC sk)) : ∃ k, (k = Keeper.frame ∨ k = Keeper.machine ∨ k = Keeper.boundFrame) ∧ Looks M h (keeperOf (.ref q)) k :=
  ⟨.machine, .inr (.inl rfl), (Looks.ld (part := none) hq).andThen .now⟩
theorem callWith_B {q sk : Addr} {e : Expr} {rest : List Expr}
    (h : wpAny M A (spliced (backTo pos (starEach (e :: rest) env))) (fun vs s₁ => s₁.heap.get? q = some (boundC sk) ∧ wpAny M A (call (.ref q) (first ++ vs)) Q E s₁) E s)
    (he : starEach (e :: rest) env = (false, eval e env) :: starEach rest env := by rfl) (hplain : (backTo pos (starEach rest env)).any (·.1) = false := by rfl) :
    wpAny M A (callWith pos (.ref q) first (backTo pos (starEach (e :: rest) env)) []) Q E s := by
  rw [he] at h ⊢
  exact callWith_of (P := fun h => h.get? q = some (boundC sk)) (by show ((false || (backTo pos (starEach rest env)).any (·.1)) || false) = false; rw [hplain]; rfl) (fun h hq => keeps_B h hq) (evalArgs_plain h)
end

theorem take_succ_pass {p : Value → Bool} {xs : List Value} {i : Nat} {v : Value} (hx : xs[i]? = some v) : (xs.take (i + 1)).filter p = (xs.take i).filter p ++ (if p v then [v] else []) := take_succ_filter p xs i v hx

def NxI (s : Shared) (g : Heap) (L it fl x q : Addr) (rest : List (Addr × Obj)) (xs : List Value) (p : Value → Bool) (j : Nat) (n : Nat) (s' : Shared) : Prop :=
  ∃ (h' : Heap) (tk' k : Nat) (M : Str → Option Value), s' = { s with heap := h', toks := tk' } ∧ News g L h' ((it, liO fl k) :: rest) ∧
    Fr g L h' (fun y => if y = Str.ofString "func" then some (.ref q) else if y = Str.ofString "self" then some (.ref x) else M y) ∧
    n = xs.length + 1 - k ∧ k ≤ xs.length ∧ (xs.take k).filter p = (xs.take j).filter p

section
local macro_rules | `(tactic| walk_at "exec While") => `(tactic| refine Stop.out ?_)
local macro_rules | `(tactic| walk_at "call builtin:next") => `(tactic| refine Stop.out ?_)
local macro_rules | `(tactic| walk_at "call ref") => `(tactic| refine Stop.out ?_)
local macro_rules | `(tactic| walk_at "callWith ref") => `(tactic| refine Stop.out ?_)
local macro_rules | `(tactic| walk_at "And") => `(tactic| refine Stop.out ?_)

set_option maxRecDepth 100000 in
set_option maxHeartbeats 4000000 in
theorem next_ {w : World} {mean : ExcName → Option Value} {mg mb : Str → Option Value} {A A₀ : Around} {base h₀ : Heap} {outer : List Env} {env : Env} {L : Addr} {m : Str → Option Value} {s : Shared} {Q E : Value → Shared → Prop}
    {fl sk it x dx q : Addr} {tl : List (Addr × Obj)} {j : Nat} {xs ys : List Value} {e : Value → Value → Bool}
    (hh : A.handled = none) (hroom : A.depth + 5 < recursionLimit) (B : Below A₀ base outer h₀) (hA : A.frames = some (env :: outer)) (hf : env.frame = some L) (hke : env.scope.kind = .function)
    (F : Fr h₀ L s.heap m) (X : (hd.heap_39 w.params).In h₀) (T : Top hd.view_39 LO mean mg mb h₀)
    (N : News h₀ L s.heap ((it, liO fl j) :: (x, instS q it dx) :: (dx, dictOf [] 0) :: (q, boundC sk) :: tl))
    (hap : ∀ p ∈ (x, instS q it dx) :: (dx, dictOf [] 0) :: (q, boundC sk) :: tl, p.1 ≠ it) (hfl : Lst h₀ fl xs) (hsk : Lst h₀ sk ys) (hj : j ≤ xs.length)
    (he : ∀ v ∈ xs, ∀ y ∈ ys, ∀ A' s', EqAt A' s' y v (e v y))
    (item : ∀ k v h' tk', k < xs.length → xs[k]? = some v → (xs.take (k + 1)).filter (fun v => !ys.any (e v)) = (xs.take j).filter (fun v => !ys.any (e v)) ++ [v] → Fr h₀ L h' m →
      News h₀ L h' ((it, liO fl (k + 1)) :: (x, instS q it dx) :: (dx, dictOf [] 0) :: (q, boundC sk) :: tl) → Q v { s with heap := h', toks := tk' })
    (stop : ∀ h' ex tk', xs.filter (fun v => !ys.any (e v)) = (xs.take j).filter (fun v => !ys.any (e v)) → After (it :: (env :: outer).filterMap (·.frame)) s.heap h' → (∃ ob, h'.get? ex = some ob ∧ ob.cls = .type "StopIteration") → E (.ref ex) { s with heap := h', toks := tk' }) :
    wpAny (model PR w) A (call (.ref 50) [.ref x]) Q E s := by
  obtain ⟨_, dp, fr, gd, un⟩ := A
  cases hh
  cases hA
  refine wpAny_call (code_defG (f := 50) (binds := [(Str.ofString "self", .ref x)]) B F X N T rfl hf hke (by rfl) (by rfl) (Nat.lt_of_le_of_lt (Nat.le_add_right _ 5) hroom) (BindsTo.of_eq rfl) (locs rfl) ?_ rfl rfl rfl (by decide))
  intro g L' h₁ FG F' N' B' X' T' GS
  have TR : TopRead hd.view_39 LO mg mb g := topRead_of T'
  have hflg : g.IsList fl xs.toArray := hfl.isList.at fun o e => FG.keep _ o e
  try dsimp only
  w_top on
  k_steps
  unfold Stop
  dsimp only at *
  rename Fr g _ _ _ => F₁
  rename News g _ _ _ => N₁
  refine wpAny_While (whileL (NxI s g L' it fl x q ((x, instS q it dx) :: (dx, dictOf [] 0) :: (q, boundC sk) :: tl) xs (fun v => !ys.any (e v)) j) ?turn (xs.length + 1 - j) ?start)
  case start => 
    exact ⟨_, _, j, _, rfl, N₁, pin (x := Str.ofString "func") (pin (x := Str.ofString "self") F₁ rfl) rfl, rfl, hj, rfl⟩
  case turn =>
    rintro n s' ⟨h', tk', k, M, rfl, N₂, F₂, rfl, hk, hfil⟩
    refine wpAny_passesOwn PassesOwn.leaving ?_
    w_top on
    k_steps
    all_goals dsimp only at *
    unfold Stop
    have hgs : ∀ b o, s.heap.get? b = some o → b ≠ it → b ≠ L' ∧ h'.get? b = some o := fun b o hb hne => by
      by_cases hm : b ∈ ((it, liO fl j) :: (x, instS q it dx) :: (dx, dictOf [] 0) :: (q, boundC sk) :: tl).map (·.1)
      · obtain ⟨p, hp, rfl⟩ := List.mem_map.mp hm
        have e1 := (N p hp).1
        rw [hb] at e1
        cases e1
        rcases List.mem_cons.mp hp with rfl | hp'
        · exact absurd rfl hne
        · have z := N₂ p (.tail _ hp')
          exact ⟨z.2.1, z.1⟩
      · have e1 := GS b o hb hm
        exact ⟨Nat.ne_of_lt (Nat.lt_of_lt_of_le (Heap.lt_size e1) F₂.above), F₂.keep b o e1⟩
    have hit := N₂ _ (.head _)
    cases hv : xs[k]? with
    | none =>
      refine next_end rfl hit.1 (hflg.at fun o e => F₂.keep _ o e) (by simpa using hv) ?_
      intro h₂ h₃ ex hsb hne
      refine PassesOwn.leaving _ _ ?_
      dsimp only
      refine leaveEx (h := h₂) (s' := ⟨h₃, _, _, _, _⟩) B' hne (F₂.change hsb hit.2.1 hit.2.2) ?_
      intro h₄ haf hob
      have hk' : xs.length ≤ k := by simpa using hv
      refine stop h₄ ex _ ?_ ⟨fun b o hb ho => ?_, fun b o ho hnf => ?_⟩ hob
      · rw [← hfil, List.take_of_length_le hk']
      · have hbi : b ≠ it := fun q => hb (by rw [q]; exact .head _)
        obtain ⟨h1, h2⟩ := hgs b o ho hbi
        refine haf.exact_ b o ?_ ((hsb.2 b hbi).trans h2)
        intro hm
        rcases List.mem_cons.mp hm with q | hm
        · exact h1 q
        · exact hb (.tail _ hm)
      · have hbi : b ≠ it := fun q => by
          have := (N _ (.head _)).1
          rw [q, this] at ho
          cases ho
          exact hnf _ rfl
        obtain ⟨h1, h2⟩ := hgs b o ho hbi
        exact haf.slots b o ((hsb.2 b hbi).trans h2) hnf
    | some v =>
      have hkl : k < xs.length := (List.getElem?_eq_some_iff.mp hv).1
      have hmem : v ∈ xs := List.mem_of_getElem? hv
      refine nextN F₂ N₂ hap hflg (by simpa using hv) ?_
      intro h₂ F₃ N₃
      k_steps
      dsimp only at *
      unfold Stop
      rename Fr g L' _ _ => F₄
      rename News g L' _ ((it, liO fl (k + 1)) :: _) => N₄
      refine callWith_B (sk := sk) ?_
      k_steps
      dsimp only at *
      unfold Stop
      refine ⟨(N₄ _ (.tail _ (.tail _ (.tail _ (.head _))))).1, ?_⟩
      refine call_bound (e v) (N₄ _ (.tail _ (.tail _ (.tail _ (.head _))))).1 (hsk.keeps fun o e => F₄.keep _ o (FG.keep _ o e)) (fun y hy A' => he v hmem y hy A' _) ?_
      have hts := take_succ_pass (p := fun v => !ys.any (e v)) hv
      cases hb : ys.any (e v) with
      | true =>
        k_steps
        dsimp only at *
        rename Fr g L' _ _ => F₅
        rename News g L' _ ((it, liO fl (k + 1)) :: _) => N₅
        rw [hb] at hts
        show Again _ _ _
        exact ⟨xs.length + 1 - (k + 1), by omega, _, _, k + 1, _, rfl, N₅, pin (x := Str.ofString "func") (pin (x := Str.ofString "self") F₅ rfl) rfl, rfl, hkl, by rw [hts, hfil]; simp⟩
      | false =>
        k_steps
        dsimp only at *
        rw [hb] at hts
        exact item k v _ _ hkl hv (by rw [hts, hfil]; simp) (by assumption) (by assumption)
end
end Mine
end

section
open PySem PySem.W PyProof.Rows PySem.Calls PySem.SeqAt
namespace Mine

section
set_option maxRecDepth 100000 in
set_option maxHeartbeats 4000000 in
theorem iter_ {w : World} {mean : ExcName → Option Value} {mg mb : Str → Option Value} {A : Around} {s : Shared} {Q : Value → Shared → Prop} {x : Addr}
   (C : Cx w mean mg mb A s.heap) (hroom : A.depth < recursionLimit) (hh : A.handled = none)
   (h : ∀ h' tk, (∀ b o, s.heap.get? b = some o → h'.get? b = some o) → Q (.ref x) { s with heap := h', toks := tk }) :
   wpAny (model PR w) A (call (.ref 43) [.ref x]) Q (fun _ _ => False) s := by
  obtain ⟨_, dp, fr, gd, un⟩ := A
  cases hh
  obtain ⟨X, T, _⟩ := id C
  have TR : TopRead hd.view_39 LO mg mb s.heap := topRead_of T
  refine enter (f := 43) (binds := [(Str.ofString "self", .ref x)]) C (by rfl) (by rfl) hroom (BindsTo.of_eq rfl) (locs rfl) ?_
  intro h₁ base outer B F N
  try dsimp only
  w_top on
  k_steps
  exact h _ _ F.keep
end

abbrev lstc (xs : List Value) (c : Nat) : Obj := { cls := .type "list", data := .seq xs.toArray c }

theorem not_frame {A₀ : Around} {base h₀ h : Heap} {outer : List Env} {env : Env} {L S : Addr} {o : Obj} {news : List (Addr × Obj)} (B : Below A₀ base outer h₀) (hf : env.frame = some L) (N : News h₀ L h news) (hS : (S, o) ∈ news) :
    S ∉ (env :: outer).filterMap (·.frame) := by
  intro hm
  have hN := N _ hS
  obtain ⟨en, he, hfr⟩ := List.mem_filterMap.mp hm
  rcases List.mem_cons.mp he with rfl | he
  · rw [hf] at hfr
    exact hN.2.1 (Option.some.inj hfr).symm
  · obtain ⟨o', ho, _⟩ := (B.frames.mem (List.mem_filterMap.mpr ⟨en, he, hfr⟩)).2
    rw [hN.2.2] at ho; cases ho

section
variable {w : World} {mean : ExcName → Option Value} {mg mb : Str → Option Value} {A A₀ : Around} {base h₀ : Heap} {outer : List Env} {env : Env} {L : Addr} {m : Str → Option Value} {fl sk it x dx q S : Addr} {xs ys : List Value} {e : Value → Value → Bool} {R : Result → Shared → Prop}

theorem extend_own (hh : A.handled = none) (hroom : A.depth + 6 < recursionLimit) (B : Below A₀ base outer h₀) (hA : A.frames = some (env :: outer)) (hf : env.frame = some L) (hke : env.scope.kind = .function)
    (X : (hd.heap_39 w.params).In h₀) (T : Top hd.view_39 LO mean mg mb h₀) (hfl : Lst h₀ fl xs) (hsk : Lst h₀ sk ys) (he : ∀ v ∈ xs, ∀ y ∈ ys, ∀ A' s', EqAt A' s' y v (e v y)) (hsz : xs.length ≤ sizeLine)
    (n1 : x ≠ it) (n2 : dx ≠ it) (n3 : q ≠ it) (n4 : S ≠ it) (n5 : S ≠ x) (n6 : S ≠ dx) (n7 : S ≠ q) :
    ∀ (k j : Nat) (s : Shared) (c : Nat), xs.length - j = k → j ≤ xs.length → Fr h₀ L s.heap m →
      News h₀ L s.heap ((it, liO fl j) :: (x, instS q it dx) :: (dx, dictOf [] 0) :: (q, boundC sk) :: [(S, lstc ((xs.take j).filter fun v => !ys.any (e v)) c)]) →
      (∀ h' tk', Lst h' S (xs.filter fun v => !ys.any (e v)) → After ((env :: outer).filterMap (·.frame)) h₀ h' → R (.ok (.ret .none)) { s with heap := h', toks := tk' }) →
      codeAny (model PR w) A (.builtin "list.extend.loop" ⟨[.ref S, .ref x, .none], []⟩) R s := by
  intro k
  induction k using Nat.strongRecOn with
  | ind k ih =>
    intro j s c hk hj F N hR
    refine codeAny_builtin PySem.F.entry_extend_loop ?_
    rw [Around.under_plainId PySem.F.plain_extend_loop _]
    show wpAny _ A.in1 (pyNext (.ref x) >>= _) _ _ s
    refine wpAny_bind ?_
    have hx := (N _ (.tail _ (.head _))).1
    have hdx := (N _ (.tail _ (.tail _ (.head _)))).1
    refine owit_next (K := hd.heap_39 w.params) (C := 54) (f := 50) (ox := instS q it dx) (od := some (dictOf [] 0)) F X ⟨hx, rfl, rfl, hdx⟩ (by k_is) (by k_is) ?_
    refine next_ (A := A.in1) hh (by show A.depth + 5 < _; omega) B hA hf hke F X T N ?_ hfl hsk hj he ?_ ?_
    · intro p hp
      simp only [List.mem_cons, List.mem_nil_iff, or_false] at hp
      rcases hp with rfl | rfl | rfl | rfl
      · exact n1
      · exact n2
      · exact n3
      · exact n4
    · intro i v h' tk' hi hv hfil F' N'
      have hS := N' _ (.tail _ (.tail _ (.tail _ (.tail _ (.head _)))))
      show wpAny _ A.in1 (updateSeq S (·.push v) >>= _) _ _ _
      refine wpAny_bind ?_
      have hlen : ((xs.take j).filter fun v => !ys.any (e v)).length ≤ sizeLine := Nat.le_trans (List.length_filter_le _ _) (Nat.le_trans (by rw [List.length_take]; omega) hsz)
      refine wpAny_updateSeq hS.1 rfl (wpAny_pure ⟨plainId_quiet PySem.F.plain_extend_loop _, ?_⟩) (by rw [List.size_toArray]; exact hlen) (by rw [Array.size_push, List.size_toArray]; omega)
      have hji : j ≤ i := by
        apply Nat.le_of_not_lt; intro hlt
        have e1 := congrArg List.length hfil
        have e2 : ((xs.take (i + 1)).filter fun v => !ys.any (e v)).length ≤ ((xs.take j).filter fun v => !ys.any (e v)).length := by
          have : xs.take (i + 1) = (xs.take j).take (i + 1) := by rw [List.take_take]; congr 1; omega
          rw [this]
          exact List.Sublist.length_le ((List.take_sublist _ _).filter _)
        rw [List.length_append] at e1
        simp at e1
        omega
      have hself := Heap.get?_update_self (h := h') (Obj.mapSeq (·.push v)) hS.1 rfl
      refine ih (xs.length - (i + 1)) (by omega) (i + 1) _ (c + 1) rfl hi (F'.change (Heap.SameBut.update ..) hS.2.1 hS.2.2) (fun p hp => ?_) hR
      have oth : ∀ p, p ∈ (it, liO fl (i + 1)) :: (x, instS q it dx) :: (dx, dictOf [] 0) :: [(q, boundC sk)] → p.1 ≠ S → (h'.update S (Obj.mapSeq (·.push v))).get? p.1 = some p.2 ∧ p.1 ≠ L ∧ h₀.get? p.1 = none := by
        intro p hp hne
        have z := N' p (by simp only [List.mem_cons, List.mem_nil_iff, or_false] at hp ⊢; rcases hp with h | h | h | h <;> simp [h])
        exact ⟨(Heap.get?_update_other _ _ (Ne.symm hne)).trans z.1, z.2⟩
      simp only [List.mem_cons, List.mem_nil_iff, or_false] at hp
      rcases hp with rfl | rfl | rfl | rfl | rfl
      · exact oth _ (by simp) (Ne.symm n4)
      · exact oth _ (by simp) (Ne.symm n5)
      · exact oth _ (by simp) (Ne.symm n6)
      · exact oth _ (by simp) (Ne.symm n7)
      · refine ⟨?_, hS.2⟩
        show (h'.update S (Obj.mapSeq (·.push v))).get? S = _
        rw [hself, hfil]
        simp [Obj.mapSeq, lstc]
    · intro h' ex tk' hfil haf hob
      obtain ⟨ob, hob, hcls⟩ := hob
      unfold OwitStop
      refine wpAny_isInstance (T := "StopIteration") (b := true) ⟨ob, hob, hcls⟩ isSubtype_stop ?_
      rw [if_pos rfl]
      have hS := N _ (.tail _ (.tail _ (.tail _ (.tail _ (.head _)))))
      have hSf := not_frame (S := S) B hf N (.tail _ (.tail _ (.tail _ (.tail _ (.head _)))))
      refine wpAny_pure (hR h' tk' ⟨c, ?_⟩ ⟨fun b o hb ho => ?_, fun b o ho hnf => haf.slots b o (F.keep b o ho) hnf⟩)
      · rw [hfil]
        refine haf.exact_ S _ (fun hm => ?_) hS.1
        rcases List.mem_cons.mp hm with hm | hm
        · exact n4 hm
        · exact hSf hm
      · refine haf.exact_ b o (fun hm => ?_) (F.keep b o ho)
        rcases List.mem_cons.mp hm with hm | hm
        · have := (N _ (.head _)).2.2
          rw [← hm, ho] at this; cases this
        · exact hb hm

set_option maxHeartbeats 1000000 in
theorem list_own {s : Shared} {Q E : Value → Shared → Prop} (hh : A.handled = none) (hroom : A.depth + 6 < recursionLimit) (B : Below A₀ base outer h₀) (hA : A.frames = some (env :: outer)) (hf : env.frame = some L) (hke : env.scope.kind = .function)
    (X : (hd.heap_39 w.params).In h₀) (T : Top hd.view_39 LO mean mg mb h₀) (hfl : Lst h₀ fl xs) (hsk : Lst h₀ sk ys) (he : ∀ v ∈ xs, ∀ y ∈ ys, ∀ A' s', EqAt A' s' y v (e v y)) (hsz : xs.length ≤ sizeLine)
    (n1 : x ≠ it) (n2 : dx ≠ it) (n3 : q ≠ it) (F : Fr h₀ L s.heap m) (N : News h₀ L s.heap [(it, liO fl 0), (x, instS q it dx), (dx, dictOf [] 0), (q, boundC sk)])
    (hQ : ∀ D h' tk', h₀.get? D = none → s.heap.objs.size ≤ D → Lst h' D (xs.filter fun v => !ys.any (e v)) → After ((env :: outer).filterMap (·.frame)) h₀ h' → Q (.ref D) { s with heap := h', toks := tk' }) :
    wpAny (model PR w) A (call (.type "list") [.ref x]) Q E s := by
  refine callType_codes (Q₁ := fun obj s₁ => obj = .ref s.heap.objs.size ∧ s₁ = { s with heap := s.heap.push { cls := .type "list", data := .seq #[] } }) PySem.F.called_list (PySem.F.typeCall_list_1 _) PySem.F.entry_list_init
    (code_list_new _ ⟨rfl, rfl⟩) fun obj s₁ h₁ => ?_
  obtain ⟨rfl, rfl⟩ := h₁
  have lt : ∀ {b o}, s.heap.get? b = some o → b < s.heap.objs.size := fun e => Heap.lt_size e
  have hS₀ : h₀.get? s.heap.objs.size = none := by
    cases hq : h₀.get? s.heap.objs.size with
    | none => rfl
    | some o => exact absurd (lt (F.keep _ o hq)) (Nat.lt_irrefl _)
  have hSL : s.heap.objs.size ≠ L := Nat.ne_of_gt F.ns.lt
  have F₁ : Fr h₀ L (s.heap.push { cls := .type "list", data := .seq #[] }) m := F.push _
  have N₁ : News h₀ L (s.heap.push { cls := .type "list", data := .seq #[] }) [(it, liO fl 0), (x, instS q it dx), (dx, dictOf [] 0), (q, boundC sk)] := N.grown fun b o e => Heap.get?_push_of_some _ e
  have hS : (s.heap.push { cls := .type "list", data := .seq #[] }).get? s.heap.objs.size = some { cls := .type "list", data := .seq #[] } := Heap.get?_push_size _ rfl
  have s1 : s.heap.objs.size ≠ it := Ne.symm (Nat.ne_of_lt (lt (N _ (.head _)).1))
  have s2 : s.heap.objs.size ≠ x := Ne.symm (Nat.ne_of_lt (lt (N _ (.tail _ (.head _))).1))
  have s3 : s.heap.objs.size ≠ dx := Ne.symm (Nat.ne_of_lt (lt (N _ (.tail _ (.tail _ (.head _)))).1))
  have s4 : s.heap.objs.size ≠ q := Ne.symm (Nat.ne_of_lt (lt (N _ (.tail _ (.tail _ (.tail _ (.head _))))).1))
  generalize hH : s.heap.push { cls := .type "list", data := .seq #[] } = H at F₁ N₁ hS
  generalize hSn : s.heap.objs.size = S at *
  refine ⟨⟨_, hS, rfl⟩, PySem.F.args_list_init_2 _ _, ?_⟩
  show wpAny _ A.in1.in1 (do let old ← Builtin.List.listItems (.ref S); Builtin.List.listUpdate (.ref S) (fun _ => #[]); letGo old.toList.reverse; Builtin.List.listExtendWith (.ref S) (.ref x) .none) _ _ _
  refine wpAny_bind ?_
  unfold Builtin.List.listItems
  refine wpAny_bind (wpAny_seqItems hS rfl (wpAny_pure ?_))
  show wpAny _ A.in1.in1 (updateSeq S (fun _ => #[]) >>= fun _ => letGo (#[] : Array Value).toList.reverse >>= fun _ => Builtin.List.listExtendWith (.ref S) (.ref x) .none) _ _ _
  refine wpAny_bind (wpAny_updateSeq hS rfl ?_)
  have hS₂ := Heap.get?_update_self (Obj.mapSeq (fun _ => (#[] : Array Value))) hS rfl
  have F₂ : Fr h₀ L (H.update S (Obj.mapSeq (fun _ => (#[] : Array Value)))) m := F₁.change (Heap.SameBut.update ..) hSL hS₀
  have upd : ∀ {H' H'' : Heap}, Heap.SameBut S H' H'' → News h₀ L H' [(it, liO fl 0), (x, instS q it dx), (dx, dictOf [] 0), (q, boundC sk)] → News h₀ L H'' [(it, liO fl 0), (x, instS q it dx), (dx, dictOf [] 0), (q, boundC sk)] := by
    intro H' H'' hs N' p hp
    have z := N' p hp
    refine ⟨(hs.2 p.1 ?_).trans z.1, z.2⟩
    simp only [List.mem_cons, List.mem_nil_iff, or_false] at hp
    rcases hp with rfl | rfl | rfl | rfl
    · exact Ne.symm s1
    · exact Ne.symm s2
    · exact Ne.symm s3
    · exact Ne.symm s4
  have N₂ := upd (Heap.SameBut.update H S (Obj.mapSeq (fun _ => (#[] : Array Value)))) N₁
  refine wpAny_bind (wpAny_letGo ?_)
  generalize hH2 : H.update S (Obj.mapSeq (fun _ => (#[] : Array Value))) = H2 at F₂ N₂ hS₂
  have hx := (N₂ _ (.tail _ (.head _))).1
  have hdx := (N₂ _ (.tail _ (.tail _ (.head _)))).1
  have I : InstAt H2 x (instS q it dx) 54 (some (dictOf [] 0)) := ⟨hx, rfl, rfl, hdx⟩
  unfold Builtin.List.listExtendWith
  refine wpAny_bind (I.type.here ?_)
  have h1 : Builtin.List.listSameRef (.ref S) (.ref x) = false := by simp [Builtin.List.listSameRef, s2]
  have h2 : (Value.ref 54 == Value.type "list") = false := by decide
  have h3 : (Value.ref 54 == Value.type "tuple") = false := by decide
  simp only [h1, h2, h3, Bool.or_false, Bool.false_eq_true, if_false]
  refine wpAny_bind (owit_iter (K := hd.heap_39 w.params) (f := 43) (s := ⟨H2, _, _, _, _⟩) F₂ X I (by k_is) (by k_is) ?_)
  have B₂ := pushX B F₂ hf hke
  refine wpAny_noRaise (iter_ ⟨X.keeps F₂.keep, T.keeps F₂.keep, base, env :: outer, hA, B₂.stays, B₂.frames⟩ (by show A.depth < _; omega) hh ?_)
  intro h₃ tk₃ hk₃
  dsimp only at *
  have F₃ := F₂.keeps hk₃
  have N₃ := N₂.grown hk₃
  have hS₃ := hk₃ _ _ hS₂
  have I₃ : InstAt h₃ x (instS q it dx) 54 (some (dictOf [] 0)) := ⟨(N₃ _ (.tail _ (.head _))).1, rfl, rfl, (N₃ _ (.tail _ (.tail _ (.head _)))).1⟩
  refine owit_it (K := hd.heap_39 w.params) (s := ⟨h₃, _, _, _, _⟩) F₃ X I₃ (g := .ref 50) (by k_is) ?_
  refine wpAny_bind (wpAny_holding ?_)
  unfold Builtin.List.listLengthHint
  refine wpAny_bind (wpAny_bind (I₃.type.here ((looks_findIn (K := hd.heap_39 w.params) (r := none) (X.keeps F₃.keep) (by k_is)).here ?_)))
  show wpAny _ A.in1.in1 (specialOf (Value.ref x) (Str.ofString "__length_hint__") >>= _) _ _ _
  refine wpAny_bind (wpAny_bind (I₃.type.here ((looks_findIn (K := hd.heap_39 w.params) (r := none) (X.keeps F₃.keep) (by k_is)).here ?_)))
  refine wpAny_pure ?_
  show wpAny _ A.in1.in1 (rule "list.extend.makes-room" >>= fun _ => Builtin.List.listTouch (.ref S) >>= fun _ => again (.builtin "list.extend.loop" ⟨[.ref S, .ref x, .none], []⟩)) _ _ _
  refine wpAny_bind (wpAny_rule (wpAny_bind ?_))
  show wpAny _ A.in1.in1 (updateSeq S (·.push .none) >>= fun _ => updateSeq S (·.pop)) _ _ _
  refine wpAny_bind (wpAny_updateSeq hS₃ rfl ?_)
  have hS₄ := Heap.get?_update_self (Obj.mapSeq (·.push Value.none)) hS₃ rfl
  refine wpAny_updateSeq (hz := by seq_fits) hS₄ rfl ?_
  have hS₅ := Heap.get?_update_self (Obj.mapSeq (·.pop)) hS₄ rfl
  have hsame : Heap.SameBut S h₃ ((h₃.update S (Obj.mapSeq (·.push Value.none))).update S (Obj.mapSeq (·.pop))) := (Heap.SameBut.update ..).trans (Heap.SameBut.update ..)
  have F₅ := F₃.change hsame hSL hS₀
  have N₅ := upd hsame N₃
  have e₅ : ∃ c, ((h₃.update S (Obj.mapSeq (·.push Value.none))).update S (Obj.mapSeq (·.pop))).get? S = some (lstc ((xs.take 0).filter fun v => !ys.any (e v)) c) := ⟨_, by rw [hS₅]; rfl⟩
  obtain ⟨c, e₅⟩ := e₅
  dsimp only
  generalize ((h₃.update S (Obj.mapSeq (·.push Value.none))).update S (Obj.mapSeq (·.pop))) = H5 at F₅ N₅ e₅ ⊢
  refine wpAny_pure ⟨plainId_quiet PySem.F.plain_extend_loop _, ?_⟩
  refine extend_own (A := A.in1) hh hroom B hA hf hke X T hfl hsk he hsz n1 n2 n3 s1 s2 s3 s4 xs.length 0 _ c (Nat.sub_zero _) (Nat.zero_le _) F₅ (fun p hp => ?_) ?_
  · simp only [List.mem_cons, List.mem_nil_iff, or_false] at hp
    rcases hp with rfl | rfl | rfl | rfl | rfl
    · exact N₅ _ (by simp)
    · exact N₅ _ (by simp)
    · exact N₅ _ (by simp)
    · exact N₅ _ (by simp)
    · exact ⟨e₅, hSL, hS₀⟩
  · intro h' tk' hl haf
    exact ⟨rfl, hQ S h' tk' hS₀ (Nat.le_refl _) hl haf⟩
end
end Mine
end

section
open PySem PySem.W PyProof.Rows PySem.Calls
namespace Mine

section
variable {w : World} {A : Around} {s : Shared} {Q E : Value → Shared → Prop} {h₀ : Heap} {L : Addr} {m : Str → Option Value} {news : List (Addr × Obj)}
theorem attrN {sk : Addr} {ys : List Value} {expr : Bool} (F : Fr h₀ L s.heap m) (N : News h₀ L s.heap news) (hl : Lst s.heap sk ys)
    (h : ∀ q h', q = s.heap.objs.size → Fr h₀ L h' m → News h₀ L h' ((q, boundC sk) :: news) → (∀ b o, s.heap.get? b = some o → h'.get? b = some o) → Q (.ref q) { s with heap := h', toks := s.toks + 1 }) :
    wpAny (model PR w) A (getAttr (.ref sk) "__contains__" expr) Q E s := by
  obtain ⟨k, e⟩ := hl
  obtain ⟨hp, g, d, t, os⟩ := s
  exact attr_contains e (h _ _ rfl (F.push _) (N.push F _) fun b o e => Heap.get?_push_of_some _ e)
theorem iterN {l : Addr} {items : Array Value} (F : Fr h₀ L s.heap m) (N : News h₀ L s.heap news) (hl : h₀.IsList l items)
    (h : ∀ q h', Fr h₀ L h' m → News h₀ L h' ((q, liO l 0) :: news) → (∀ p ∈ news, p.1 < q) → Q (.ref q) { s with heap := h' }) :
    wpAny (model PR w) A (call (.builtin "iter") [.ref l]) Q E s :=
  iter_list (hl.at fun o e => F.keep l o e) (h _ _ (F.push _) (N.push F _) fun p hp => Heap.lt_size (N p hp).1)
end
section
local macro_rules | `(tactic| walk_at "call builtin:iter") => `(tactic| (k_dflt (refine' iterN ?F ?N ?l ?_; (case F => k_asm); (case N => k_asm); (case l => first | assumption | exact Heap.IsList.at (by assumption) (fun o e => Fr.keep (by assumption) _ o e))); intro q' h' F' N' l1; (try k_lt l1)))
local macro_rules | `(tactic| walk_at "call type:list") => `(tactic| refine Stop.out ?_)
local macro_rules | `(tactic| k_room) => `(tactic| ((try simp only [depth_mark, depth_under_make, depth_under_kw, depth_in1, depth_deeper]); (try dsimp only at *); omega))
local macro_rules | `(tactic| walk_at "getAttr ref") => `(tactic| refine Stop.out ?_)

set_option maxRecDepth 100000 in
set_option maxHeartbeats 4000000 in
theorem filter_ {w : World} {mean : ExcName → Option Value} {mg mb : Str → Option Value} {A : Around} {s : Shared} {Q : Value → Shared → Prop} {fl sk : Addr} {xs ys : List Value}
   {e : Value → Value → Bool} {outer : List Env}
   (C : Cx w mean mg mb A s.heap) (hroom : A.depth + 20 < recursionLimit) (hh : A.handled = none) (hfr : A.frames = some outer) (hx : Lst s.heap fl xs) (hy : Lst s.heap sk ys)
   (he : ∀ v ∈ xs, ∀ y ∈ ys, ∀ A' s', SeqAt.EqAt A' s' y v (e v y)) (hsz : xs.length ≤ sizeLine)
   (h : ∀ D h' tk, s.heap.objs.size ≤ D → Lst h' D (xs.filter fun v => !ys.any (e v)) → After (outer.filterMap (·.frame)) s.heap h' → Q (.ref D) { s with heap := h', toks := tk }) :
   wpAny (model PR w) A (call (.ref 65) [.ref fl, .ref sk]) Q (fun _ _ => False) s := by
  obtain ⟨_, dp, fr, gd, un⟩ := A
  cases hh
  cases hfr
  obtain ⟨X, T, _⟩ := id C
  have TR : TopRead hd.view_39 LO mg mb s.heap := topRead_of T
  have hxl := hx.isList
  have hyl := hy.isList
  refine enter (f := 65) (binds := [(Str.ofString "flist", .ref fl), (Str.ofString "skip", .ref sk)]) C (by rfl) (by rfl) (by omega) (BindsTo.of_eq rfl) (locs rfl) ?_
  intro h₁ base outer' B F N
  have hfr : some outer = some outer' := B.stack
  cases hfr
  try dsimp only
  w_top on
  k_steps
  unfold Stop
  rename Fr _ _ _ _ => F
  refine attrN F (by assumption) (hy.keeps fun o e => F.keep _ o e) ?_
  intro q h₂ hq F N hk₂
  k_steps
  all_goals dsimp only at *
  unfold Stop
  rename Fr s.heap s.heap.objs.size _ _ => F₅
  rename News s.heap s.heap.objs.size _ (_ :: _ :: _ :: _ :: []) => N₅
  refine list_own (A := ({ depth := dp, frames := some outer, guards := gd, units := un } : Around).deeper _) rfl ?_ B rfl rfl rfl X T hx hy he hsz ?_ ?_ ?_ F₅ N₅ ?_
  · show dp + 1 + 6 < _; omega
  · exact neN (by omega)
  · exact neN (by omega)
  · exact neN (by omega)
  · intro D h' tk' hD hsD hl haf
    have hle : s.heap.objs.size ≤ D := Nat.le_trans (Nat.le_of_lt F₅.ns.lt) hsD
    refine h D h' tk' hle hl ⟨fun b o hb ho => haf.exact_ b o (fun hm => ?_) ho, haf.slots⟩
    rcases List.mem_cons.mp hm with hm | hm
    · exact absurd (Heap.lt_size ho) (by rw [hm]; exact Nat.lt_irrefl _)
    · exact hb hm
end
end Mine
end

section
open PySem PySem.W PyProof.Rows PySem.Calls PySem.SeqAt
namespace Mine

/-! the plain law -/
def stp (p : Nat × List Nat) (n : Int) : Nat × List Nat :=
  if n % 4 < 2 then (p.1 + (n / 4 % 40).toNat + 1, p.2 ++ [p.1 + (n / 4 % 40).toNat + 1])
  else if n % 4 = 2 then (p.1, p.2.filter fun w => decide (w ≠ (n / 4 % ((p.1 : Int) + 1)).toNat))
  else (p.1, p.2.filter fun w => decide (w < 16 ^ (n / 4 % 3).toNat ∨ 16 ^ ((n / 4 % 3).toNat + 1) ≤ w))
/-- the state behind the first i steps -/
def stAt (ns : List Int) (i : Nat) : Nat × List Nat := (ns.take i).foldl stp (0, [])
def rowsAt (ns : List Int) (i : Nat) : List (List Nat) := (List.range i).map fun j => (stAt ns (j + 1)).2
theorem stAt_succ {ns : List Int} {i : Nat} {n : Int} (h : ns[i]? = some n) : stAt ns (i + 1) = stp (stAt ns i) n := by
  unfold stAt; rw [List.take_add_one, h, List.foldl_append]; rfl
theorem rowsAt_succ (ns : List Int) (i : Nat) : rowsAt ns (i + 1) = rowsAt ns i ++ [(stAt ns (i + 1)).2] := by
  unfold rowsAt; rw [List.range_succ, List.map_append]; rfl
structure Fine (p : Nat × List Nat) (i : Nat) : Prop where
  last : p.1 ≤ 40 * i
  waits : ∀ w ∈ p.2, 1 ≤ w ∧ w ≤ p.1
  len : p.2.length ≤ i
theorem Fine.start : Fine (0, []) 0 := ⟨Nat.le_refl _, (fun _ h => nomatch h), Nat.le_refl _⟩
theorem Fine.step {p : Nat × List Nat} {i : Nat} (h : Fine p i) (n : Int) : Fine (stp p n) (i + 1) := by
  unfold stp
  have h40 : (n / 4 % 40).toNat < 40 := by have := Int.emod_lt_of_pos (n / 4) (by decide : (0 : Int) < 40); have := Int.emod_nonneg (n / 4) (by decide : (40 : Int) ≠ 0); omega
  split
  · have hl := h.last; have hn := h.len
    refine Fine.mk (by simp only; omega) ?_ (by simp only [List.length_append, List.length_singleton]; omega)
    intro w hw
    rcases List.mem_append.mp hw with hw | hw
    · have := h.waits w hw; simp only; omega
    · rw [List.mem_singleton.mp hw]; simp only; omega
  · split
    · exact ⟨by have := h.last; simp only; omega, fun w hw => h.waits w ((List.mem_filter.mp hw).1), Nat.le_trans (List.length_filter_le _ _) (Nat.le_succ_of_le h.len)⟩
    · exact ⟨by have := h.last; simp only; omega, fun w hw => h.waits w ((List.mem_filter.mp hw).1), Nat.le_trans (List.length_filter_le _ _) (Nat.le_succ_of_le h.len)⟩

theorem Fine.at {ns : List Int} : ∀ {i : Nat}, i ≤ ns.length → Fine (stAt ns i) i
  | 0, _ => Fine.start
  | i + 1, h => by
    have hi : ns[i]? = some ns[i] := List.getElem?_eq_getElem (by omega)
    rw [stAt_succ hi]
    exact (Fine.at (by omega)).step _

/-- a word's number again -/
def numL (l : List UInt8) : Nat := l.foldl (fun a c => a * 16 + (c.toNat - 65)) 0
theorem numL_word (n : Nat) : numL (wordL n) = n := by
  induction n using Nat.strongRecOn with
  | ind n ih =>
    by_cases h : n = 0
    · subst h; rw [wordL_zero]; rfl
    · have e := ih (n / 16) (by omega)
      unfold numL at e ⊢
      rw [wordL_step n h, List.foldl_append, e]
      simp only [List.foldl_cons, List.foldl_nil]
      have h1 : (UInt8.ofNat (65 + n % 16)).toNat = 65 + n % 16 := by rw [UInt8.toNat_ofNat']; exact Nat.mod_eq_of_lt (by omega)
      rw [h1]; omega
theorem wordL_inj {a b : Nat} (h : wordL a = wordL b) : a = b := by rw [← numL_word a, ← numL_word b, h]

theorem wordL_length (w k : Nat) (hw : 1 ≤ w) (h4 : w < 4096) (hk : k < 3) : ((wordL w).length = k + 1) ↔ ¬ (w < 16 ^ k ∨ 16 ^ (k + 1) ≤ w) := by
  have z : ∀ k, k = 0 → wordL k = [] := fun k e => by rw [e]; exact wordL_zero
  have l3 : (wordL w).length = if w < 16 then 1 else if w < 256 then 2 else 3 := by
    rw [wordL_step w (by omega)]
    by_cases h1 : w < 16
    · rw [z (w / 16) (by omega), if_pos h1]; rfl
    · rw [if_neg h1, wordL_step (w / 16) (by omega)]
      by_cases h2 : w < 256
      · rw [z (w / 16 / 16) (by omega), if_pos h2]; rfl
      · rw [if_neg h2, wordL_step (w / 16 / 16) (by omega), z (w / 16 / 16 / 16) (by omega)]; rfl
  rw [l3]
  rcases (by omega : k = 0 ∨ k = 1 ∨ k = 2) with rfl | rfl | rfl <;> simp only [Nat.reduceAdd, Nat.reducePow] <;> (split <;> (try split)) <;> omega

/-- values that are the words of these numbers -/
abbrev WordsAre (vs : List Value) (ws : List Nat) : Prop := Paired (fun v w => ∃ t, v = .bytes (wordL w).toArray t) vs ws
theorem paired_filter {α β : Type} {F : α → β → Prop} {p : α → Bool} {q : β → Bool} : ∀ {l₁ : List α} {l₂ : List β}, Paired F l₁ l₂ → (∀ a ∈ l₁, ∀ b ∈ l₂, F a b → p a = q b) → Paired F (l₁.filter p) (l₂.filter q)
  | _, _, .nil, _ => .nil
  | a :: l₁, b :: l₂, .cons h t, e => by
    have eh := e a (.head _) b (.head _) h
    have et := paired_filter t fun a' ha b' hb => e a' (.tail _ ha) b' (.tail _ hb)
    simp only [List.filter_cons, eh]
    cases q b with
    | true => exact .cons h et
    | false => exact et
theorem paired_mem {α β : Type} {F : α → β → Prop} : ∀ {l₁ : List α} {l₂ : List β}, Paired F l₁ l₂ → ∀ a ∈ l₁, ∃ b ∈ l₂, F a b
  | _, _, .cons h _, _, .head _ => ⟨_, .head _, h⟩
  | _, _, .cons _ t, a, .tail _ ha => let ⟨b, hb, h⟩ := paired_mem t a ha; ⟨b, .tail _ hb, h⟩
theorem paired_get {α β : Type} {F : α → β → Prop} : ∀ {l₁ : List α} {l₂ : List β}, Paired F l₁ l₂ → ∀ (i : Nat) (a : α), l₁[i]? = some a → ∃ b, l₂[i]? = some b ∧ F a b
  | _, _, .cons h _, 0, a, e => by cases e; exact ⟨_, rfl, h⟩
  | _, _, .cons _ t, i + 1, a, e => paired_get t i a (by simpa using e)
  | _, _, .nil, i, a, e => by simp at e

/-- == of two bytes values, the second one first -/
def eB : Value → Value → Bool
  | .bytes c _, .bytes b _ => b.toList == c.toList
  | _, _ => false
theorem eB_word (w k : Nat) (t u : Tok) : eB (.bytes (wordL w).toArray t) (.bytes (wordL k).toArray u) = decide (w = k) := by
  show (wordL k == wordL w) = _
  by_cases h : w = k
  · subst h; simp
  · have : ¬ wordL k = wordL w := fun e => h (wordL_inj e.symm)
    simp [h, this]
theorem eB_ok {xs ys : List Value} {ws ks : List Nat} (hx : WordsAre xs ws) (hy : WordsAre ys ks) : ∀ v ∈ xs, ∀ y ∈ ys, ∀ A' s', EqAt A' s' y v (eB v y) := by
  intro v hv y hy' A' s'
  obtain ⟨w, _, t, rfl⟩ := paired_mem hx v hv
  obtain ⟨k, _, u, rfl⟩ := paired_mem hy y hy'
  exact eqBytes _ _ _ _
/-- what _filter leaves of the words, by the numbers -/
theorem filter_words {xs ys : List Value} {ws ks : List Nat} (hx : WordsAre xs ws) (hy : WordsAre ys ks) : WordsAre (xs.filter fun v => !ys.any (eB v)) (ws.filter fun w => !ks.any fun k => decide (w = k)) := by
  refine paired_filter hx fun v _ w _ h => ?_
  obtain ⟨t, rfl⟩ := h
  congr 1
  clear hx
  induction hy with
  | nil => rfl
  | cons h _ ih =>
    obtain ⟨u, rfl⟩ := h
    simp only [List.any_cons, ih, eB_word]
theorem filter_one (ws : List Nat) (k : Nat) : (ws.filter fun w => !([k].any fun k => decide (w = k))) = ws.filter fun w => decide (w ≠ k) := by
  congr 1; funext w; simp
theorem filter_len {ws : List Nat} {k : Nat} (hk : k < 3) (hw : ∀ w ∈ ws, 1 ≤ w ∧ w < 4096) :
    (ws.filter fun w => !((ws.filter fun w => decide ((wordL w).length = k + 1)).any fun k => decide (w = k))) = ws.filter fun w => decide (w < 16 ^ k ∨ 16 ^ (k + 1) ≤ w) := by
  refine List.filter_congr fun w hm => ?_
  have h := wordL_length w k (hw w hm).1 (hw w hm).2 hk
  have e : ((ws.filter fun w => decide ((wordL w).length = k + 1)).any fun k => decide (w = k)) = decide ((wordL w).length = k + 1) := by
    rw [Bool.eq_iff_iff, List.any_eq_true, decide_eq_true_eq]
    constructor
    · rintro ⟨v, hv, e⟩
      have e := of_decide_eq_true e
      subst e
      exact of_decide_eq_true (List.mem_filter.mp hv).2
    · intro hl
      exact ⟨w, List.mem_filter.mpr ⟨hm, decide_eq_true hl⟩, decide_eq_true rfl⟩
  rw [e]
  by_cases hc : w < 16 ^ k ∨ 16 ^ (k + 1) ≤ w
  · rw [decide_eq_true hc, decide_eq_false (fun q => h.mp q hc)]; rfl
  · rw [decide_eq_false hc, decide_eq_true (h.mpr hc)]; rfl
end Mine
end

section
open PySem PySem.W PyProof.Rows PySem.Calls
namespace Mine
/-- the heap's first L objects alone -/
def trunc (h : Heap) (L : Nat) : Heap := ⟨h.objs.extract 0 L, h.life⟩
theorem trunc_size (h : Heap) (L : Nat) : (trunc h L).objs.size ≤ L := by
  show (h.objs.extract 0 L).size ≤ L
  rw [Array.size_extract]; omega
theorem trunc_get {h : Heap} {L b : Nat} (hb : b < L) : (trunc h L).get? b = h.get? b := by
  unfold Heap.get? trunc
  have : (h.objs.extract 0 L)[b]? = h.objs[b]? := by
    rw [Array.getElem?_extract]
    by_cases hs : b < h.objs.size
    · rw [if_pos (by omega)]; simp
    · rw [if_neg (by omega), Array.getElem?_eq_none (by omega)]
  rw [this]
theorem of_trunc {h : Heap} {L b : Nat} {o : Obj} (e : (trunc h L).get? b = some o) : h.get? b = some o := by
  rw [← trunc_get (Nat.lt_of_lt_of_le (Heap.lt_size e) (trunc_size h L))]; exact e

theorem After.refl (fs : List Addr) (h : Heap) : After fs h h := ⟨fun _ _ _ e => e, .refl h⟩
theorem After.keeps {fs : List Addr} {h h' h'' : Heap} (x : After fs h h') (k : ∀ b o, h'.get? b = some o → h''.get? b = some o) : After fs h h'' :=
  ⟨fun b o hb e => k b o (x.exact_ b o hb e), x.slots.trans (.of_keeps k)⟩
theorem After.trans {fs : List Addr} {h h' h'' : Heap} (x : After fs h h') (y : After fs h' h'') : After fs h h'' :=
  ⟨fun b o hb e => y.exact_ b o hb (x.exact_ b o hb e), x.slots.trans y.slots⟩

/-- the ground taken anew behind a call that let an exception through -/
theorem root {w : World} {mean : ExcName → Option Value} {mg mb : Str → Option Value} {A₀ : Around} {base g h h' : Heap} {outer : List Env} {env : Env} {L : Addr} {m : Str → Option Value} {news : List (Addr × Obj)}
    (B : Below A₀ base outer g) (XB : (hd.heap_39 w.params).In base) (TB : Top hd.view_39 LO mean mg mb base) (F : Fr g L h m) (N : News g L h news) (hf : env.frame = some L)
    (haf : After ((env :: outer).filterMap (·.frame)) h h') :
    ∃ g', Fr g' L h' m ∧ News g' L h' news ∧ (hd.heap_39 w.params).In g' ∧ Top hd.view_39 LO mean mg mb g' ∧ Below A₀ base outer g' ∧ After (outer.filterMap (·.frame)) g g' ∧ (∀ b, L ≤ b → g'.get? b = none) := by
  have nm : ∀ b o, g.get? b = some o → b ∉ news.map (·.1) := fun b o e q => by
    obtain ⟨p, hp, rfl⟩ := List.mem_map.mp q
    rw [(N p hp).2.2] at e; cases e
  have up : ∀ b o o', g.get? b = some o → h'.get? b = some o' → (trunc (hideAll h' (news.map (·.1))) L).get? b = some o' := fun b o o' e e' => by
    rw [trunc_get (Nat.lt_of_lt_of_le (Heap.lt_size e) F.above)]
    exact hideAll_get _ e' (nm b o e)
  have keep : ∀ b o, (trunc (hideAll h' (news.map (·.1))) L).get? b = some o → h'.get? b = some o := fun b o e => of_hideAll _ (of_trunc e)
  have haf' : After (outer.filterMap (·.frame)) g (trunc (hideAll h' (news.map (·.1))) L) := by
    refine ⟨fun b o hb e => up b o o e (haf.exact_ b o (fun hm => ?_) (F.keep b o e)), fun b o e hn => ?_⟩
    · rw [List.filterMap_cons, hf] at hm
      rcases List.mem_cons.mp hm with q | hm
      · exact absurd (Heap.lt_size e) (by rw [q]; exact Nat.not_lt.mpr F.above)
      · exact hb hm
    · obtain ⟨sl, e'⟩ := haf.slots b o (F.keep b o e) hn
      exact ⟨sl, up b o _ e e'⟩
  have stays : base.StaysIn (trunc (hideAll h' (news.map (·.1))) L) := fun b o e => haf'.exact_ b o (fun hm => by rw [(B.frames.mem hm).1] at e; cases e) (B.stays b o e)
  have F' : Fr (trunc (hideAll h' (news.map (·.1))) L) L h' m := ⟨haf.slots.ns F.ns, keep, trunc_size _ _⟩
  refine ⟨_, F', fun p hp => ⟨haf.exact_ p.1 p.2 (not_frame B hf N hp) (N p hp).1, (N p hp).2.1, ?_⟩, XB.keeps stays, TB.keeps stays, ⟨B.stack, stays, B.frames.of_keeps fun b o e hn => ?_⟩, haf', fun b hb => Heap.get?_none_of_le (Nat.le_trans (trunc_size _ _) hb)⟩
  · cases q : (trunc (hideAll h' (news.map (·.1))) L).get? p.1 with
    | none => rfl
    | some o => have := of_trunc q; rw [hideAll_none _ (List.mem_map_of_mem hp)] at this; cases this
  · obtain ⟨sl, e'⟩ := haf'.slots b o e hn
    exact ⟨_, e', rfl⟩
end Mine
end

section
open PySem PySem.W PyProof.Rows PySem.Calls
namespace Mine

theorem forL {prog : Program} {w : World} {A : Around} {R : Result → Shared → Prop} {s : Shared} {target : Expr} {it : Value} {body orelse : List Stmt} {env : Env} (I : Nat → Shared → Prop)
    (turn : ∀ n s, I n s → wpAny (model prog w) A (pyNext it) (fun r s₁ => match r with
      | none => wpAny (model prog w) A (execs orelse env) (fun f s₃ => R (.ok f) s₃) (notedBy (model prog w) A env fun e s' => R (.error e) s') s₁
      | some v => wpAny (model prog w) A (assign target env v) (fun _ s₂ => wpAny (model prog w) A (execs body env) (fun f s₃ => match f with
          | .next | .cont => Again I n s₃
          | .brk => R (.ok .next) s₃
          | .ret v => R (.ok (.ret v)) s₃) (notedBy (model prog w) A env fun e s' => R (.error e) s') s₂) (notedBy (model prog w) A env fun e s' => R (.error e) s') s₁) (notedBy (model prog w) A env fun e s' => R (.error e) s') s)
    (n : Nat) (h : I n s) (ht : ∀ v, letOwnedTupleGo target it v = pure () := by intro _; rfl) : codeAny (model prog w) A (.forLoop target it body orelse env) R s := codeAny_forLoop I turn n h ht

section
variable {prog : Program} {w : World} {A : Around} {E : Value → Shared → Prop} {s : Shared} {h₀ : Heap} {L : Addr} {m : Str → Option Value} {news : List (Addr × Obj)}
theorem addOwn {l b : Addr} {xs ys : List Value} {Q : Value → Shared → Prop} (F : Fr h₀ L s.heap m) (N : News h₀ L s.heap news) (hl : Lst s.heap l xs) (hb : Lst s.heap b ys)
    (hsz : xs.length + ys.length ≤ sizeLine) (h : ∀ D h', Fr h₀ L h' m → News h₀ L h' ((D, lstc (xs ++ ys) 0) :: news) → (∀ b o, s.heap.get? b = some o → b < D) → Q (.ref D) { s with heap := h' }) :
    wpAny (model prog w) A (binaryOp .Add (.ref l) (.ref b)) Q E s :=
  add_lists (hsz := hsz) F N hl.isList hb.isList fun h' F' N' => h _ h' F' N' fun _ _ e => Heap.lt_size e
theorem iterFor {ax : Addr} {items : Array Value} {Q : Value → Shared → Prop} (F : Fr h₀ L s.heap m) (N : News h₀ L s.heap news) (hl : s.heap.IsList ax items)
    (h : ∀ I h', Fr h₀ L h' m → News h₀ L h' ((I, liO ax 0) :: news) → (∀ b o, s.heap.get? b = some o → b < I) → Q (.ref I) { s with heap := h' }) : wpAny (model prog w) A (pyIter (.ref ax)) Q E s :=
  wpAny_pyIter_list hl (h _ _ (F.push _) (N.push F _) fun _ _ e => Heap.lt_size e)
end

theorem ne_of_obj {h : Heap} {a b : Addr} {o o' : Obj} (x : h.get? a = some o) (y : h.get? b = some o') (n : o.data ≠ o'.data) : a ≠ b := fun q => by
  subst q; rw [x] at y; cases y; exact n rfl
abbrev RowOf (p : Addr × Obj) (row : List Nat) : Prop := ∃ ws c, p.2 = lstc ws c ∧ WordsAre ws row
abbrev RowsAre (h : Heap) (rs : List Value) (rows : List (List Nat)) : Prop := Paired (fun v row => ∃ r ws, v = .ref r ∧ Lst h r ws ∧ WordsAre ws row) rs rows
theorem rows_of {h : Heap} : ∀ {olds : List (Addr × Obj)} {rows : List (List Nat)}, Paired RowOf olds rows → (∀ p ∈ olds, h.get? p.1 = some p.2 ∨ ∀ row, ¬ RowOf p row) → RowsAre h (olds.map fun p => .ref p.1) rows
  | _, _, .nil, _ => .nil
  | p :: olds, _ :: _, .cons hp t, k => by
    refine .cons ?_ (rows_of t fun q hq => k q (.tail _ hq))
    rcases k p (.head _) with e | e
    · obtain ⟨ws, c, eo, hw⟩ := hp
      exact ⟨p.1, ws, rfl, ⟨c, by rw [e, eo]⟩, hw⟩
    · exact absurd hp (e _)

section
local macro_rules | `(tactic| walk_at "exec For Name Name cons nil") => `(tactic| refine Stop.out ?_)
local macro_rules | `(tactic| walk_at "call ref") => `(tactic| refine Stop.out ?_)
local macro_rules | `(tactic| walk_at "eval ListComp") => `(tactic| refine Stop.out ?_)
local macro_rules | `(tactic| walk_at "call builtin:list.append") => `(tactic| refine Stop.out ?_)
local macro_rules | `(tactic| walk_at "binaryOp Add ref ref") => `(tactic| refine Stop.out ?_)
local macro_rules | `(tactic| k_room) => `(tactic| ((try simp only [depth_mark, depth_under_make, depth_under_kw, depth_in1, depth_deeper]); (try dsimp only at *); omega))

def ToI (w : World) (mean : ExcName → Option Value) (mg mb : Str → Option Value) (A₀ : Around) (base : Heap) (outer : List Env) (s : Shared) (S I C T : Addr) (ns : List Int) (i : Nat) (s' : Shared) : Prop :=
  ∃ (g h' : Heap) (tk' : Nat) (M : Str → Option Value) (W : Addr) (ws : List Value) (c1 c2 : Nat) (o oI : Obj) (v₀ : Option Value) (t₁ : Tok) (olds : List (Addr × Obj)),
    s' = { s with heap := h', toks := tk' } ∧ After (outer.filterMap (·.frame)) s.heap g ∧ (hd.heap_39 w.params).In g ∧ Top hd.view_39 LO mean mg mb g ∧ Below A₀ base outer g ∧
    Fr g s.heap.objs.size h' (fun y => if y = Str.ofString "steps" then some (.ref S) else if y = Str.ofString "last" then some (.int ((stAt ns i).1 : Nat) t₁) else if y = Str.ofString "waits" then some (.ref W)
      else if y = Str.ofString "told" then some (.ref T) else M y) ∧
    News g s.heap.objs.size h' ((C, o) :: (I, oI) :: (T, lstc (olds.map fun p => .ref p.1) c2) :: (W, lstc ws c1) :: olds) ∧ o.data = .cell v₀ ∧ oI.cls = .type "list_iterator" ∧ oI.data = .fields #[.ref S, .int i 0] ∧ WordsAre ws (stAt ns i).2 ∧
    Paired RowOf olds (rowsAt ns i) ∧ W ≠ T ∧ (∀ p ∈ olds, p.1 ≠ T)

theorem turn_end {w : World} {mean : ExcName → Option Value} {mg mb : Str → Option Value} {A₀ : Around} {base : Heap} {outer : List Env} {s : Shared} {S I C T : Addr} {ns : List Int} {i : Nat}
    {g h₆ h₇ : Heap} {tk : Nat} {m : Str → Option Value} {D : Addr} {ws : List Value} {c1 c2 : Nat} {o oI : Obj} {v₀ : Option Value} {t₁ : Tok} {olds : List (Addr × Obj)}
    (haf : After (outer.filterMap (·.frame)) s.heap g) (X : (hd.heap_39 w.params).In g) (TT : Top hd.view_39 LO mean mg mb g) (B : Below A₀ base outer g)
    (F : Fr g s.heap.objs.size h₆ m) (N : News g s.heap.objs.size h₆ ((C, o) :: (I, oI) :: (T, lstc (olds.map fun p => .ref p.1) c2) :: (D, lstc ws c1) :: olds))
    (m1 : m (Str.ofString "steps") = some (.ref S)) (m2 : m (Str.ofString "last") = some (.int ((stAt ns (i + 1)).1 : Nat) t₁)) (m3 : m (Str.ofString "waits") = some (.ref D)) (m4 : m (Str.ofString "told") = some (.ref T))
    (hs : Heap.SameBut T h₆ h₇) (hT : h₇.get? T = some { cls := .type "list", data := .seq ((olds.map fun p => Value.ref p.1).toArray.push (.ref D)) (c2 + 1) })
    (ho : o.data = .cell v₀) (hcI : oI.cls = .type "list_iterator") (hdI : oI.data = .fields #[.ref S, .int ((i + 1 : Nat) : Int) 0]) (hws : WordsAre ws (stAt ns (i + 1)).2)
    (holds : Paired RowOf olds (rowsAt ns i)) (hDT : D ≠ T) (hoT : ∀ p ∈ olds, p.1 ≠ T) :
    ToI w mean mg mb A₀ base outer s S I C T ns (i + 1) { s with heap := h₇, toks := tk } := by
  have hTm := N _ (.tail _ (.tail _ (.head _)))
  have F₇ := F.change hs hTm.2.1 hTm.2.2
  have hCT : C ≠ T := ne_of_obj (N _ (.head _)).1 hTm.1 (by rw [ho]; exact fun q => nomatch q)
  have hIT : I ≠ T := ne_of_obj (N _ (.tail _ (.head _))).1 hTm.1 (by rw [hdI]; exact fun q => nomatch q)
  refine ⟨g, h₇, tk, m, D, ws, c1, c2 + 1, o, oI, v₀, t₁, olds ++ [(D, lstc ws c1)], rfl, haf, X, TT, B, pin (pin (pin (pin F₇ m4) ?_) ?_) ?_, ?_, ho, hcI, hdI, hws, ?_, hDT, ?_⟩
  · show (if _ then _ else _) = _
    rw [if_neg (by decide)]; exact m3
  · show (if _ then _ else if _ then _ else _) = _
    rw [if_neg (by decide), if_neg (by decide)]; exact m2
  · show (if _ then _ else if _ then _ else if _ then _ else _) = _
    rw [if_neg (by decide), if_neg (by decide), if_neg (by decide)]; exact m1
  · have oth : ∀ p, p ∈ (C, o) :: (I, oI) :: (T, lstc (olds.map fun p => Value.ref p.1) c2) :: (D, lstc ws c1) :: olds → p.1 ≠ T → h₇.get? p.1 = some p.2 ∧ p.1 ≠ s.heap.objs.size ∧ g.get? p.1 = none := fun p hp hne =>
      ⟨(hs.2 p.1 hne).trans (N p hp).1, (N p hp).2⟩
    intro p hp
    rcases List.mem_cons.mp hp with rfl | hp
    · exact oth _ (.head _) hCT
    rcases List.mem_cons.mp hp with rfl | hp
    · exact oth _ (.tail _ (.head _)) hIT
    rcases List.mem_cons.mp hp with rfl | hp
    · refine ⟨?_, hTm.2⟩
      rw [hT]
      simp [lstc]
    rcases List.mem_cons.mp hp with rfl | hp
    · exact oth _ (.tail _ (.tail _ (.tail _ (.head _)))) hDT
    rcases List.mem_append.mp hp with hp | hp
    · exact oth _ (.tail _ (.tail _ (.tail _ (.tail _ hp)))) (hoT p hp)
    · rw [List.mem_singleton.mp hp]; exact oth _ (.tail _ (.tail _ (.tail _ (.head _)))) hDT
  · rw [rowsAt_succ]
    exact holds.snoc ⟨ws, c1, rfl, hws⟩
  · intro p hp
    rcases List.mem_append.mp hp with hp | hp
    · exact hoT p hp
    · rw [List.mem_singleton.mp hp]; exact hDT

set_option maxRecDepth 100000 in
set_option maxHeartbeats 4000000 in
theorem told_ {w : World} {mean : ExcName → Option Value} {mg mb : Str → Option Value} {A : Around} {s : Shared} {Q : Value → Shared → Prop} {S : Addr} {sv : List Value} {ns : List Int}
   {base : Heap} {outer : List Env}
   (B : Below A base outer s.heap) (XB : (hd.heap_39 w.params).In base) (TB : Top hd.view_39 LO mean mg mb base) (hroom : A.depth + 40 < recursionLimit) (hh : A.handled = none)
   (hS : Lst s.heap S sv) (hSf : S ∉ outer.filterMap (·.frame)) (hi : IntsAre sv ns) (hlen : ns.length ≤ 13)
   (h : ∀ D h' tk rs, s.heap.objs.size ≤ D → Lst h' D rs → RowsAre h' rs (rowsAt ns ns.length) → After (outer.filterMap (·.frame)) s.heap h' → Q (.ref D) { s with heap := h', toks := tk }) :
   wpAny (model PR w) A (call (.ref 75) [.ref S]) Q (fun _ _ => False) s := by
  obtain ⟨_, dp, fr, gd, un⟩ := A
  cases hh
  have hfr := B.stack
  dsimp only at hfr
  subst hfr
  have X : (hd.heap_39 w.params).In s.heap := XB.keeps B.stays
  have T : Top hd.view_39 LO mean mg mb s.heap := TB.keeps B.stays
  have TR : TopRead hd.view_39 LO mg mb s.heap := topRead_of T
  refine enterC (f := 75) (binds := [(Str.ofString "steps", .ref S)]) ⟨X, T, _, _, B⟩ (by rfl) (by rfl) (by omega) (BindsTo.of_eq rfl) (by rfl) (by decide +kernel) ?_
  intro h₁ tk cells base' outer' B' F N Y
  clear B' base' outer'
  obtain ⟨o, he, ho⟩ := CellsAre.one Y
  subst he
  clear Y
  replace ho : o.data = .cell none := ho
  try dsimp only
  w_top on
  k_steps
  unfold Stop
  rename Fr _ _ _ _ => F
  rename News _ _ _ _ => N
  rename_i l₁ _ l1 _ l₂ _ l2 _
  refine wpAny_For ?_
  k_steps
  dsimp only at *
  refine iterFor F N (hS.isList.at fun o e => F.keep _ o e) ?_
  intro I h₂ F₀ N₀ lI
  have g1 := lI _ _ (N _ (.head _)).1
  have g2 := lI _ _ (N _ (.tail _ (.head _))).1
  have g3 := lI _ _ (N _ (.tail _ (.tail _ (.head _)))).1
  refine forL (fun n s' => ∃ i, n = ns.length - i ∧ i ≤ ns.length ∧ ToI w mean mg mb { depth := dp, frames := some outer, guards := gd, units := un } base outer s S I (s.heap.objs.size + 1) l₂ ns i s') ?turn ns.length ?start
  case start =>
    refine ⟨0, rfl, Nat.zero_le _, _, _, _, _, l₁, [], 0, 0, o, liO S 0, none, _, [], rfl, .refl _ _, X, T, B, pin (x := Str.ofString "steps") (pin (x := Str.ofString "last") (pin (x := Str.ofString "waits") (pin (x := Str.ofString "told") F₀ rfl) rfl) rfl) rfl,
      ?_, ho, rfl, rfl, .nil, .nil, neN (by omega), fun p hp => nomatch hp⟩
    intro p hp
    refine N₀ p ?_
    simp only [List.mem_cons, List.mem_nil_iff, or_false, List.map_nil] at hp ⊢
    rcases hp with rfl | rfl | rfl | rfl
    · exact .inr (.inr (.inr rfl))
    · exact .inl rfl
    · exact .inr (.inl rfl)
    · exact .inr (.inr (.inl rfl))
  case turn =>
    clear N₀ F₀ F N g1 g2 g3 lI X T TR B ho o
    rintro n s' ⟨i, rfl, hi', g, h', tk', M, W, ws, c1, c2, o, oI, v₀, t₁, olds, rfl, haf, X, T, B, F, N, ho, hcI, hdI, hws, holds, hWT, hoT⟩
    have TR : TopRead hd.view_39 LO mg mb g := topRead_of T
    have hSg : Lst g S sv := hS.keeps fun ob e => haf.exact_ S ob hSf e
    cases hv : sv[i]? with
    | none =>
      refine wpAny_pyNext_list_end rfl ⟨oI, (N _ (.tail _ (.head _))).1, hcI, hdI⟩ (hSg.isList.at fun o e => F.keep _ o e) (by simpa using hv) ?_
      intro h₃ hs
      dsimp only
      have hin : i = ns.length := by
        have := hi.length
        have : sv.length ≤ i := by simpa using hv
        omega
      subst hin
      have hIm := N _ (.tail _ (.head _))
      have k₃ : ∀ b ob, b ≠ I → h'.get? b = some ob → h₃.get? b = some ob := fun b ob hb e => hs b ob hb e
      have F₃ : Fr g s.heap.objs.size h₃ _ := ⟨F.ns.extBut hs (Ne.symm hIm.2.1), fun b ob e => k₃ b ob (fun q => by rw [q, hIm.2.2] at e; cases e) (F.keep b ob e), F.above⟩
      have N₃ : News g s.heap.objs.size h₃ [] := News.nil
      have hTn := N _ (.tail _ (.tail _ (.head _)))
      have hTI : l₂ ≠ I := ne_of_obj hTn.1 hIm.1 (by rw [hdI]; exact fun q => nomatch q)
      have hrows : RowsAre h₃ (olds.map fun p => .ref p.1) (rowsAt ns ns.length) := by
        have hold : ∀ p ∈ olds, h₃.get? p.1 = some p.2 ∨ ∀ row, ¬ RowOf p row := fun p hp => by
          have hpn := N p (.tail _ (.tail _ (.tail _ (.tail _ hp))))
          by_cases hq : p.1 = I
          · refine .inr fun row hr => ?_
            obtain ⟨ws, c, e, _⟩ := hr
            exact ne_of_obj hpn.1 hIm.1 (by rw [hdI, e]; exact fun q => nomatch q) hq
          · exact .inl (k₃ _ _ hq hpn.1)
        exact rows_of holds hold
      have hTl : Lst h₃ l₂ (olds.map fun p => .ref p.1) := ⟨c2, k₃ _ _ hTI hTn.1⟩
      have haf₃ := haf.keeps F₃.keep
      clear hTn hIm k₃ hs N F hSg holds hoT hWT hws
      k_steps
      refine h _ _ _ _ (by omega) hTl hrows haf₃
    | some v =>
      obtain ⟨n, t, rfl, hn⟩ := hi.at i v hv
      refine wpAny_pyNext_list_item ⟨oI, (N _ (.tail _ (.head _))).1, hcI, hdI⟩ (hSg.isList.at fun o e => F.keep _ o e) (by simpa using hv) ?_
      intro h₃ hit hs
      dsimp only
      obtain ⟨oI', eI', hcI', hdI'⟩ := hit
      have hIm := N _ (.tail _ (.head _))
      have hCm := N _ (.head _)
      have hCI : s.heap.objs.size + 1 ≠ I := ne_of_obj hCm.1 hIm.1 (by rw [hdI, ho]; exact fun q => nomatch q)
      have F₃ := F.change hs hIm.2.1 hIm.2.2
      refine wpAny_assign_Name (wpAny_storeName_cell (c := s.heap.objs.size + 1) (v₀ := v₀) rfl rfl rfl ⟨o, (hs.2 _ hCI).trans hCm.1, ho⟩ ?_)
      intro h₄ hc₄ hs₄
      obtain ⟨o', eo', ho'⟩ := hc₄
      have F₄ := F₃.change hs₄ hCm.2.1 hCm.2.2
      have hseq : ∀ p ∈ (l₂, lstc (olds.map fun p => .ref p.1) c2) :: (W, lstc ws c1) :: olds, ∃ a k, p.2.data = .seq a k := fun p hp => by
        simp only [List.mem_cons] at hp
        rcases hp with rfl | rfl | hp
        · exact ⟨_, _, rfl⟩
        · exact ⟨_, _, rfl⟩
        · obtain ⟨_, _, ws, c, e, _⟩ := paired_mem holds p hp
          exact ⟨_, _, by rw [e]⟩
      have N₄ : News g s.heap.objs.size h₄ ((s.heap.objs.size + 1, o') :: (I, oI') :: (l₂, lstc (olds.map fun p => .ref p.1) c2) :: (W, lstc ws c1) :: olds) := by
        intro p hp
        rcases List.mem_cons.mp hp with rfl | hp
        · exact ⟨eo', hCm.2⟩
        rcases List.mem_cons.mp hp with rfl | hp
        · exact ⟨(hs₄.2 _ (Ne.symm hCI)).trans eI', hIm.2⟩
        · have hpm := N p (.tail _ (.tail _ hp))
          obtain ⟨a, k, e⟩ := hseq p hp
          exact ⟨(hs₄.2 _ (ne_of_obj hpm.1 hCm.1 (by rw [e, ho]; exact fun q => nomatch q))).trans ((hs.2 _ (ne_of_obj hpm.1 hIm.1 (by rw [e, hdI]; exact fun q => nomatch q))).trans hpm.1), hpm.2⟩
      have hfine := Fine.at (ns := ns) hi'
      clear F N F₃ hs hs₄ hIm hCm eI' eo' hcI hdI ho
      generalize hp : stAt ns i = p at F₄ hws hfine
      obtain ⟨last, wn⟩ := p
      dsimp only at F₄ hws
      k_steps
      all_goals try dsimp only at *
      all_goals try unfold Stop
      all_goals have hst := stAt_succ hn
      all_goals rw [hp] at hst
      all_goals unfold stp at hst
      all_goals have hfl := hfine.last
      all_goals have hwl := hws.length
      all_goals have hle := hfine.len
      all_goals have hsl := sizeLine_eq
      all_goals have hil : i < ns.length := (List.getElem?_eq_some_iff.mp hn).1
      all_goals dsimp only at hst hfl hwl hle
      · rename Fr _ _ _ _ => F
        rename News _ _ _ _ => N
        rename n.fmod 4 < 2 => h2
        have e4 : n.fmod 4 = n % 4 := Int.fmod_eq_emod_of_nonneg _ (by decide)
        have e5 : (n.fdiv 4).fmod 40 = n / 4 % 40 := by rw [Int.fdiv_eq_ediv_of_nonneg _ (by decide), Int.fmod_eq_emod_of_nonneg _ (by decide)]
        have h40 := Int.emod_lt_of_pos (n / 4) (by decide : (0 : Int) < 40)
        have h41 := Int.emod_nonneg (n / 4) (by decide : (40 : Int) ≠ 0)
        have h42 := Int.emod_nonneg n (by decide : (4 : Int) ≠ 0)
        rw [if_pos (by omega)] at hst
        have hv0 : ((last : Int) + (n.fdiv 4).fmod 40 + 1) = ((last + (n / 4 % 40).toNat + 1 : Nat) : Int) := by omega
        rw [hv0] at F N ⊢
        generalize hnl : last + (n / 4 % 40).toNat + 1 = nl at hst F N ⊢
        have hz : ([(nl : Int), -(nl : Int)].getD (n.fmod 4).toNat 0).natAbs = nl := by
          rcases (by omega : (n.fmod 4).toNat = 0 ∨ (n.fmod 4).toNat = 1) with e | e <;> rw [e] <;> simp
        refine wpAny_noRaise (int2ap ⟨X.keeps F.keep, T.keeps F.keep, _, _, pushX B F rfl rfl⟩ ?_ rfl (by rw [hz]; omega) ?_)
        · show dp + 1 + 10 < _; omega
        intro t' h₅ tk₅ hk₅
        rw [hz]
        dsimp only at hk₅ ⊢
        have F₅ := F.keeps hk₅
        have N₅ := N.grown hk₅
        clear F N hk₅
        k_steps
        try dsimp only at *
        unfold Stop
        rename Fr _ _ _ _ => F
        rename News _ _ _ (_ :: _ :: _ :: _) => N
        refine addOwn F N (xs := ws) (ys := [.bytes (wordL nl).toArray t']) ⟨c1, (N _ (.tail _ (.tail _ (.tail _ (.tail _ (.tail _ (.head _)))))) ).1⟩ ⟨0, (N _ (.head _)).1⟩ (by simp only [List.length_cons, List.length_nil]; omega) ?_
        intro D h₆ F₆ N₆ hD
        have hDT : D ≠ l₂ := Ne.symm (Nat.ne_of_lt (hD _ _ (N _ (.tail _ (.tail _ (.tail _ (.tail _ (.head _)))))).1))
        clear F N hD
        k_steps
        try dsimp only at *
        unfold Stop
        rename Fr _ _ _ _ => F
        rename News _ _ _ (_ :: _ :: _ :: _) => N
        refine append_at (N _ (.tail _ (.tail _ (.tail _ (.tail _ (.tail _ (.head _)))))) ).1 ?_ ?_
        · intro h₇ hs hT
          k_steps
          refine ⟨ns.length - (i + 1), by omega, i + 1, rfl, hil, turn_end haf X T B F (c1 := 0) (c2 := c2) (D := D) (ws := ws ++ [.bytes (wordL nl).toArray t']) (olds := olds) (o := o') (oI := oI') ?_ rfl (by rw [hst]; rfl) rfl rfl hs hT ho' hcI' ?_ ?_ holds hDT hoT⟩
          · intro p hp
            refine N p ?_
            simp only [List.mem_cons] at hp ⊢
            rcases hp with hp | hp | hp | hp | hp <;> simp [hp]
          · rw [hdI']
          · rw [hst]
            exact hws.snoc ⟨_, rfl⟩
        · rw [List.size_toArray, List.length_map, holds.length]
          simp only [rowsAt, List.length_map, List.length_range]
          omega
      · rename Fr _ _ _ _ => F
        rename News _ _ _ _ => N
        rename n.fmod 4 = 2 => h2
        have e4 : n.fmod 4 = n % 4 := Int.fmod_eq_emod_of_nonneg _ (by decide)
        have e5 : (n.fdiv 4).fmod ((last : Int) + 1) = n / 4 % ((last : Int) + 1) := by rw [Int.fdiv_eq_ediv_of_nonneg _ (by decide), Int.fmod_eq_emod_of_nonneg _ (by omega)]
        have h40 := Int.emod_lt_of_pos (n / 4) (by omega : (0 : Int) < (last : Int) + 1)
        have h41 := Int.emod_nonneg (n / 4) (by omega : ((last : Int) + 1) ≠ 0)
        rw [if_neg (by omega), if_pos (by omega)] at hst
        rw [e5]
        generalize hk : (n / 4 % ((last : Int) + 1)) = kz at hst h40 h41 ⊢
        obtain ⟨k, rfl⟩ := Int.eq_ofNat_of_zero_le h41
        refine wpAny_noRaise (int2ap ⟨X.keeps F.keep, T.keeps F.keep, _, _, pushX B F rfl rfl⟩ ?_ rfl (by omega) ?_)
        · show dp + 1 + 10 < _; omega
        intro t' h₅ tk₅ hk₅
        have hna : ((k : Nat) : Int).natAbs = k := by omega
        rw [hna]
        have hkt : ((k : Nat) : Int).toNat = k := by omega
        rw [hkt] at hst
        dsimp only at hk₅ ⊢
        have F₅ := F.keeps hk₅
        have N₅ := N.grown hk₅
        clear F N hk₅
        k_steps
        try dsimp only at *
        unfold Stop
        rename Fr _ _ _ _ => F
        rename News _ _ _ (_ :: _ :: _ :: _) => N
        have hWm := N (W, lstc ws c1) (.tail _ (.tail _ (.tail _ (.tail _ (.head _)))))
        have hKm := N _ (.head _)
        have hk1 : WordsAre [.bytes (wordL k).toArray t'] [k] := .cons ⟨_, rfl⟩ .nil
        refine wpAny_noRaise (filter_ (xs := ws) (ys := [.bytes (wordL k).toArray t']) (e := eB) ⟨X.keeps F.keep, T.keeps F.keep, _, _, pushX B F rfl rfl⟩ ?_ rfl rfl ⟨_, hWm.1⟩ ⟨_, hKm.1⟩ (eB_ok hws hk1) (by omega) ?_)
        · show dp + 1 + 20 < _; omega
        intro D h₆ tk₆ hDs hDl haf₆
        obtain ⟨c₆, hDl⟩ := hDl
        have hDT : D ≠ l₂ := Ne.symm (Nat.ne_of_lt (Nat.lt_of_lt_of_le (Heap.lt_size (N _ (.tail _ (.tail _ (.tail _ (.head _))))).1) hDs))
        have hDL : D ≠ s.heap.objs.size := Ne.symm (Nat.ne_of_lt (Nat.lt_of_lt_of_le F.ns.lt hDs))
        obtain ⟨g', F', N', X', T', B', hgg, hout⟩ := root B XB TB F N rfl haf₆
        have haf' := haf.trans hgg
        have N'' : News g' s.heap.objs.size h₆ ((s.heap.objs.size + 1, o') :: (I, oI') :: (l₂, lstc (olds.map fun p => .ref p.1) c2) :: (D, lstc (ws.filter fun v => !([Value.bytes (wordL k).toArray t'].any (eB v))) c₆) :: olds) := by
          intro p hp
          rcases List.mem_cons.mp hp with rfl | hp
          · exact N' _ (.tail _ (.head _))
          rcases List.mem_cons.mp hp with rfl | hp
          · exact N' _ (.tail _ (.tail _ (.head _)))
          rcases List.mem_cons.mp hp with rfl | hp
          · exact N' _ (.tail _ (.tail _ (.tail _ (.head _))))
          rcases List.mem_cons.mp hp with rfl | hp
          · exact ⟨hDl, hDL, hout _ (Nat.le_of_lt (Nat.lt_of_lt_of_le F.ns.lt hDs))⟩
          · exact N' _ (.tail _ (.tail _ (.tail _ (.tail _ (.tail _ hp)))))
        have hwf := filter_words hws hk1
        rw [filter_one] at hwf
        generalize hWS : (ws.filter fun v => !([Value.bytes (wordL k).toArray t'].any (eB v))) = ws' at N'' hwf hDl
        clear hWS hDl N' N F hWm hKm hgg hout haf₆ haf B T X TR
        have TR : TopRead hd.view_39 LO mg mb g' := topRead_of T'
        k_steps
        try dsimp only at *
        unfold Stop
        rename Fr _ _ _ _ => F
        rename News _ _ _ (_ :: _ :: _ :: _) => N
        refine append_at (N _ (.tail _ (.tail _ (.head _)))).1 ?_ ?_
        · intro h₇ hs hT
          k_steps
          refine ⟨ns.length - (i + 1), by omega, i + 1, rfl, hil, turn_end haf' X' T' B' F (c1 := c₆) (c2 := c2) (D := D) (ws := ws') (olds := olds) (o := o') (oI := oI') N rfl (by rw [hst]; rfl) rfl rfl hs hT ho' hcI' ?_ ?_ holds hDT hoT⟩
          · rw [hdI']
          · rw [hst]
            exact hwf
        · rw [List.size_toArray, List.length_map, holds.length]
          simp only [rowsAt, List.length_map, List.length_range]
          omega
      · rename Fr _ _ _ _ => F
        rename News _ _ _ _ => N
        rename n.fmod 4 ≠ 2 => h2
        rename ¬ n.fmod 4 < 2 => h1
        have e4 : n.fmod 4 = n % 4 := Int.fmod_eq_emod_of_nonneg _ (by decide)
        have e5 : (n.fdiv 4).fmod 3 = n / 4 % 3 := by rw [Int.fdiv_eq_ediv_of_nonneg _ (by decide), Int.fmod_eq_emod_of_nonneg _ (by decide)]
        have h40 := Int.emod_lt_of_pos (n / 4) (by decide : (0 : Int) < 3)
        have h41 := Int.emod_nonneg (n / 4) (by decide : (3 : Int) ≠ 0)
        rw [if_neg (by omega), if_neg (by omega)] at hst
        generalize hk : n / 4 % 3 = kz at hst h40 h41 e5
        obtain ⟨k, rfl⟩ := Int.eq_ofNat_of_zero_le h41
        have hkt : ((k : Nat) : Int).toNat = k := by omega
        rw [hkt] at hst
        refine compJ (cl := [(Str.ofString "n", s.heap.objs.size + 1)]) (by with_unfolding_all rfl) (by decide) rfl (by decide) rfl ?_
        k_steps
        have hWl : Lst h₄ W ws := ⟨c1, (N _ (.tail _ (.tail _ (.tail _ (.head _))))).1⟩
        refine ⟨ws.length, _, fun i ys => WordsAre ys ((wn.take i).filter fun w => decide ((wordL w).length = k + 1)), source_list rfl hWl.isList, by omega, ?turns, .nil, ?done⟩
        case turns =>
          intro j v ys C h₂ tk₂ m₂ E₂ hj hP hJ hC hk₂ hn₂ hx₂
          obtain ⟨oC, F₂, N₂, hC₂⟩ := turn_ctx F N hC hk₂ hn₂
          have hP : ws[j]? = some v := by simpa using hP
          obtain ⟨wd, hwd, t', rfl⟩ := paired_get hws j v hP
          have hwb := hfine.waits wd (List.mem_of_getElem? hwd)
          refine wpAny_tests_one ?_
          k_steps
          have hwlen := wordL_len wd
          refine len_bytes (by simp only [List.size_toArray]; omega) ?_
          have hz : ((wordL wd).toArray.size : Int) = (wordL wd).length := by rw [List.size_toArray]
          rw [hz]
          k_steps
          have hbl : (((wordL wd).length : Int) == (n.fdiv 4).fmod 3 + 1) = decide ((wordL wd).length = k + 1) := by
            rw [e5, Bool.eq_iff_iff, beq_iff_eq, decide_eq_true_eq]; omega
          rw [hbl]
          have htf := take_succ_filter (fun w => decide ((wordL w).length = k + 1)) wn j wd hwd
          refine ⟨⟨_, _, rfl, fun _ _ e => e⟩, ?_⟩
          by_cases hc : (wordL wd).length = k + 1
          · rw [decide_eq_true hc] at htf ⊢
            rw [if_pos rfl] at htf ⊢
            k_steps
            refine EltEnd.same ?_
            show WordsAre _ (List.filter _ (List.take (j + 1) wn))
            rw [htf]
            exact hJ.snoc ⟨_, rfl⟩
          · rw [decide_eq_false hc] at htf ⊢
            rw [if_neg Bool.false_ne_true] at htf ⊢
            show WordsAre _ (List.filter _ (List.take (j + 1) wn))
            rw [htf, List.append_nil]
            exact hJ
        case done =>
          intro D₀ h₅ tk₅ ys hD₀ hl hJ hk₅
          rw [hwl, List.take_length] at hJ
          obtain ⟨c₅, hl⟩ := hl
          have F₅ := F.keeps hk₅
          have hD₀L : D₀ ≠ s.heap.objs.size := Ne.symm (Nat.ne_of_lt (Nat.lt_of_lt_of_le F.ns.lt hD₀))
          have N₅ : News g s.heap.objs.size h₅ ((D₀, lstc ys c₅) :: (s.heap.objs.size + 1, o') :: (I, oI') :: (l₂, lstc (olds.map fun p => .ref p.1) c2) :: (W, lstc ws c1) :: olds) := by
            intro p hp
            rcases List.mem_cons.mp hp with rfl | hp
            · refine ⟨hl, hD₀L, ?_⟩
              cases q : g.get? D₀ with
              | none => rfl
              | some ob => exact absurd (Heap.lt_size (F.keep _ _ q)) (Nat.not_lt.mpr hD₀)
            · exact N.grown hk₅ p hp
          clear F N hk₅ hWl hl
          k_steps
          try dsimp only at *
          unfold Stop
          rename Fr _ _ _ _ => F
          rename News _ _ _ (_ :: _ :: _ :: _) => N
          have hWm := N (W, lstc ws c1) (.tail _ (.tail _ (.tail _ (.tail _ (.head _)))))
          have hKm := N _ (.head _)
          refine wpAny_noRaise (filter_ (xs := ws) (ys := ys) (e := eB) ⟨X.keeps F.keep, T.keeps F.keep, _, _, pushX B F rfl rfl⟩ ?_ rfl rfl ⟨_, hWm.1⟩ ⟨_, hKm.1⟩ (eB_ok hws hJ) (by omega) ?_)
          · show dp + 1 + 20 < _; omega
          intro D h₆ tk₆ hDs hDl haf₆
          obtain ⟨c₆, hDl⟩ := hDl
          have hDT : D ≠ l₂ := Ne.symm (Nat.ne_of_lt (Nat.lt_of_lt_of_le (Heap.lt_size (N _ (.tail _ (.tail _ (.tail _ (.head _))))).1) hDs))
          have hDL : D ≠ s.heap.objs.size := Ne.symm (Nat.ne_of_lt (Nat.lt_of_lt_of_le F.ns.lt hDs))
          obtain ⟨g', F', N', X', T', B', hgg, hout⟩ := root B XB TB F N rfl haf₆
          have haf' := haf.trans hgg
          have N'' : News g' s.heap.objs.size h₆ ((s.heap.objs.size + 1, o') :: (I, oI') :: (l₂, lstc (olds.map fun p => .ref p.1) c2) :: (D, lstc (ws.filter fun v => !(ys.any (eB v))) c₆) :: olds) := by
            intro p hp
            rcases List.mem_cons.mp hp with rfl | hp
            · exact N' _ (.tail _ (.head _))
            rcases List.mem_cons.mp hp with rfl | hp
            · exact N' _ (.tail _ (.tail _ (.head _)))
            rcases List.mem_cons.mp hp with rfl | hp
            · exact N' _ (.tail _ (.tail _ (.tail _ (.head _))))
            rcases List.mem_cons.mp hp with rfl | hp
            · exact ⟨hDl, hDL, hout _ (Nat.le_of_lt (Nat.lt_of_lt_of_le F.ns.lt hDs))⟩
            · exact N' _ (.tail _ (.tail _ (.tail _ (.tail _ (.tail _ hp)))))
          have hwf := filter_words hws hJ
          rw [filter_len (by omega) fun w hw => ⟨(hfine.waits w hw).1, by have := (hfine.waits w hw).2; dsimp only at this; omega⟩] at hwf
          generalize hWS : (ws.filter fun v => !(ys.any (eB v))) = ws' at N'' hwf hDl
          clear hWS hDl N' N F hWm hKm hgg hout haf₆ haf B T X TR
          have TR : TopRead hd.view_39 LO mg mb g' := topRead_of T'
          k_steps
          try dsimp only at *
          unfold Stop
          rename Fr _ _ _ _ => F
          rename News _ _ _ (_ :: _ :: _ :: _) => N
          refine append_at (N _ (.tail _ (.tail _ (.head _)))).1 ?_ ?_
          · intro h₇ hs hT
            k_steps
            refine ⟨ns.length - (i + 1), by omega, i + 1, rfl, hil, turn_end haf' X' T' B' F (c1 := c₆) (c2 := c2) (D := D) (ws := ws') (olds := olds) (o := o') (oI := oI') N rfl (by rw [hst]; rfl) rfl rfl hs hT ho' hcI' ?_ ?_ holds hDT hoT⟩
            · rw [hdI']
            · rw [hst]
              exact hwf
          · rw [List.size_toArray, List.length_map, holds.length]
            simp only [rowsAt, List.length_map, List.length_range]
            omega
end
end Mine
end

section
open PySem PySem.W PyProof.Rows PySem.Calls
namespace Mine

/-- these numbers as the model's ints -/
abbrev casts (l : List Nat) : List Int := l.map fun w => ((w : Nat) : Int)

def DuI (w : World) (s : Shared) (S I T : Addr) (ns : List Int) (i : Nat) (s' : Shared) : Prop :=
  ∃ (h' : Heap) (tk' : Nat) (M : Str → Option Value) (W : Addr) (ws : List Value) (c1 c2 : Nat) (oN oL oI : Obj) (v₀ : Option Value) (t₁ : Tok) (olds : List (Addr × Obj)),
    s' = { s with heap := h', toks := tk' } ∧
    Fr s.heap s.heap.objs.size h' (fun y => if y = Str.ofString "steps" then some (.ref S) else if y = Str.ofString "waits" then some (.ref W) else if y = Str.ofString "told" then some (.ref T) else M y) ∧
    News s.heap s.heap.objs.size h' ((s.heap.objs.size + 1 + 1, oN) :: (s.heap.objs.size + 1, oL) :: (I, oI) :: (T, lstc (olds.map fun p => .ref p.1) c2) :: (W, lstc ws c1) :: olds) ∧
    oN.data = .cell v₀ ∧ oL.data = .cell (some (.int ((stAt ns i).1 : Nat) t₁)) ∧ oI.cls = .type "list_iterator" ∧ oI.data = .fields #[.ref S, .int i 0] ∧ IntsAre ws (casts (stAt ns i).2) ∧
    Paired RowOf olds (rowsAt ns i) ∧ W ≠ T ∧ (∀ p ∈ olds, p.1 ≠ T)

theorem turn_endD {w : World} {s : Shared} {S I T : Addr} {ns : List Int} {i : Nat}
    {h₆ h₇ : Heap} {tk : Nat} {m : Str → Option Value} {W D : Addr} {ws ys : List Value} {c1 c2 c3 : Nat} {oN oL oI : Obj} {v₀ : Option Value} {t₁ : Tok} {olds : List (Addr × Obj)}
    (F : Fr s.heap s.heap.objs.size h₆ m) (N : News s.heap s.heap.objs.size h₆ ((D, lstc ys c3) :: (s.heap.objs.size + 1 + 1, oN) :: (s.heap.objs.size + 1, oL) :: (I, oI) :: (T, lstc (olds.map fun p => .ref p.1) c2) :: (W, lstc ws c1) :: olds))
    (m1 : m (Str.ofString "steps") = some (.ref S)) (m3 : m (Str.ofString "waits") = some (.ref W)) (m4 : m (Str.ofString "told") = some (.ref T))
    (hs : Heap.SameBut T h₆ h₇) (hT : h₇.get? T = some { cls := .type "list", data := .seq ((olds.map fun p => Value.ref p.1).toArray.push (.ref D)) (c2 + 1) })
    (hoN : oN.data = .cell v₀) (hoL : oL.data = .cell (some (.int ((stAt ns (i + 1)).1 : Nat) t₁))) (hcI : oI.cls = .type "list_iterator") (hdI : oI.data = .fields #[.ref S, .int ((i + 1 : Nat) : Int) 0])
    (hws : IntsAre ws (casts (stAt ns (i + 1)).2)) (hys : WordsAre ys (stAt ns (i + 1)).2)
    (holds : Paired RowOf olds (rowsAt ns i)) (hWT : W ≠ T) (hDT : D ≠ T) (hoT : ∀ p ∈ olds, p.1 ≠ T) :
    DuI w s S I T ns (i + 1) { s with heap := h₇, toks := tk } := by
  have hTm := N _ (.tail _ (.tail _ (.tail _ (.tail _ (.head _)))))
  have F₇ := F.change hs hTm.2.1 hTm.2.2
  have hNT : s.heap.objs.size + 1 + 1 ≠ T := ne_of_obj (N _ (.tail _ (.head _))).1 hTm.1 (by rw [hoN]; exact fun q => nomatch q)
  have hLT : s.heap.objs.size + 1 ≠ T := ne_of_obj (N _ (.tail _ (.tail _ (.head _)))).1 hTm.1 (by rw [hoL]; exact fun q => nomatch q)
  have hIT : I ≠ T := ne_of_obj (N _ (.tail _ (.tail _ (.tail _ (.head _))))).1 hTm.1 (by rw [hdI]; exact fun q => nomatch q)
  refine ⟨h₇, tk, m, W, ws, c1, c2 + 1, oN, oL, oI, v₀, t₁, olds ++ [(D, lstc ys c3)], rfl, pin (pin (pin F₇ m4) ?_) ?_, ?_, hoN, hoL, hcI, hdI, hws, ?_, hWT, ?_⟩
  · show (if _ then _ else _) = _
    rw [if_neg (by decide)]; exact m3
  · show (if _ then _ else if _ then _ else _) = _
    rw [if_neg (by decide), if_neg (by decide)]; exact m1
  · have oth : ∀ p, p ∈ (D, lstc ys c3) :: (s.heap.objs.size + 1 + 1, oN) :: (s.heap.objs.size + 1, oL) :: (I, oI) :: (T, lstc (olds.map fun p => Value.ref p.1) c2) :: (W, lstc ws c1) :: olds → p.1 ≠ T → h₇.get? p.1 = some p.2 ∧ p.1 ≠ s.heap.objs.size ∧ s.heap.get? p.1 = none := fun p hp hne =>
      ⟨(hs.2 p.1 hne).trans (N p hp).1, (N p hp).2⟩
    intro p hp
    rcases List.mem_cons.mp hp with rfl | hp
    · exact oth _ (.tail _ (.head _)) hNT
    rcases List.mem_cons.mp hp with rfl | hp
    · exact oth _ (.tail _ (.tail _ (.head _))) hLT
    rcases List.mem_cons.mp hp with rfl | hp
    · exact oth _ (.tail _ (.tail _ (.tail _ (.head _)))) hIT
    rcases List.mem_cons.mp hp with rfl | hp
    · refine ⟨?_, hTm.2⟩
      rw [hT]
      simp [lstc]
    rcases List.mem_cons.mp hp with rfl | hp
    · exact oth _ (.tail _ (.tail _ (.tail _ (.tail _ (.tail _ (.head _)))))) hWT
    rcases List.mem_append.mp hp with hp | hp
    · exact oth _ (.tail _ (.tail _ (.tail _ (.tail _ (.tail _ (.tail _ hp)))))) (hoT p hp)
    · rw [List.mem_singleton.mp hp]; exact oth _ (.head _) hDT
  · rw [rowsAt_succ]
    exact holds.snoc ⟨ys, c3, rfl, hys⟩
  · intro p hp
    rcases List.mem_append.mp hp with hp | hp
    · exact hoT p hp
    · rw [List.mem_singleton.mp hp]; exact hDT

theorem casts_at {ws : List Value} {wn : List Nat} (h : IntsAre ws (casts wn)) {j : Nat} {v : Value} (e : ws[j]? = some v) : ∃ wd t, wn[j]? = some wd ∧ v = .int (wd : Nat) t := by
  obtain ⟨z, t, rfl, hz⟩ := h.at j v e
  rw [casts, List.getElem?_map] at hz
  obtain ⟨wd, hwd, rfl⟩ := Option.map_eq_some_iff.mp hz
  exact ⟨wd, t, hwd, rfl⟩
theorem casts_length {ws : List Value} {wn : List Nat} (h : IntsAre ws (casts wn)) : ws.length = wn.length := by rw [h.length, casts, List.length_map]

section
local macro_rules | `(tactic| walk_at "exec For Name Name cons nil") => `(tactic| refine Stop.out ?_)
local macro_rules | `(tactic| walk_at "call ref") => `(tactic| refine Stop.out ?_)
local macro_rules | `(tactic| walk_at "eval ListComp") => `(tactic| refine Stop.out ?_)
local macro_rules | `(tactic| walk_at "exec Assign cons ListComp") => `(tactic| refine Stop.out ?_)
local macro_rules | `(tactic| walk_at "call builtin:list.append") => `(tactic| refine Stop.out ?_)
local macro_rules | `(tactic| walk_at "binaryOp Add ref ref") => `(tactic| refine Stop.out ?_)
local macro_rules | `(tactic| walk_at "binaryOp Pow int int") => `(tactic| refine Stop.out ?_)
local macro_rules | `(tactic| k_room) => `(tactic| ((try simp only [depth_mark, depth_under_make, depth_under_kw, depth_in1, depth_deeper]); (try dsimp only at *); omega))

set_option maxRecDepth 100000 in
set_option maxHeartbeats 4000000 in
theorem due_ {w : World} {mean : ExcName → Option Value} {mg mb : Str → Option Value} {A : Around} {s : Shared} {Q : Value → Shared → Prop} {S : Addr} {sv : List Value} {ns : List Int}
   (C : Cx w mean mg mb A s.heap) (hroom : A.depth + 40 < recursionLimit) (hh : A.handled = none)
   (hS : Lst s.heap S sv) (hi : IntsAre sv ns) (hlen : ns.length ≤ 13)
   (h : ∀ D h' tk rs, Lst h' D rs → RowsAre h' rs (rowsAt ns ns.length) → (∀ b o, s.heap.get? b = some o → h'.get? b = some o) → Q (.ref D) { s with heap := h', toks := tk }) :
   wpAny (model PR w) A (call (.ref 80) [.ref S]) Q (fun _ _ => False) s := by
  obtain ⟨_, dp, fr, gd, un⟩ := A
  cases hh
  obtain ⟨X, T, base, outer, B⟩ := id C
  have hfr := B.stack
  dsimp only at hfr
  subst hfr
  have TR : TopRead hd.view_39 LO mg mb s.heap := topRead_of T
  refine enterC (f := 80) (binds := [(Str.ofString "steps", .ref S)]) C (by rfl) (by rfl) (by omega) (BindsTo.of_eq rfl) (by rfl) (by decide +kernel) ?_
  intro h₁ tk cells base' outer' B' F N Y
  clear B' base' outer'
  obtain ⟨oN, oL, he, hoN, hoL⟩ := CellsAre.two Y
  subst he
  clear Y
  replace hoN : oN.data = .cell none := hoN
  replace hoL : oL.data = .cell none := hoL
  try dsimp only
  w_top on
  k_steps
  unfold Stop
  rename Fr _ _ _ _ => F
  rename News _ _ _ _ => N
  refine wpAny_For ?_
  k_steps
  dsimp only at *
  rename_i oL' hoL' l₁ _ l1 _ l₂ _ l2 _
  refine iterFor F N (hS.isList.at fun o e => F.keep _ o e) ?_
  intro I h₂ F₀ N₀ lI
  have g1 := lI _ _ (N _ (.head _)).1
  have g2 := lI _ _ (N _ (.tail _ (.head _))).1
  have g3 := lI _ _ (N _ (.tail _ (.tail _ (.head _)))).1
  refine forL (fun n s' => ∃ i, n = ns.length - i ∧ i ≤ ns.length ∧ DuI w s S I l₂ ns i s') ?turn ns.length ?start
  case start =>
    refine ⟨0, rfl, Nat.zero_le _, _, _, _, l₁, [], 0, 0, oN, oL', liO S 0, none, _, [], rfl, pin (x := Str.ofString "steps") (pin (x := Str.ofString "waits") (pin (x := Str.ofString "told") F₀ rfl) rfl) rfl,
      ?_, hoN, hoL', rfl, rfl, .nil, .nil, neN (by omega), fun p hp => nomatch hp⟩
    intro p hp
    refine N₀ p ?_
    simp only [List.mem_cons, List.mem_nil_iff, or_false, List.map_nil] at hp ⊢
    rcases hp with rfl | rfl | rfl | rfl | rfl
    · exact .inr (.inr (.inr (.inl rfl)))
    · exact .inr (.inr (.inr (.inr rfl)))
    · exact .inl rfl
    · exact .inr (.inl rfl)
    · exact .inr (.inr (.inl rfl))
  case turn =>
    clear N₀ F₀ F N g1 g2 g3 lI hoN hoL' hoL
    rintro n s' ⟨i, rfl, hi', h', tk', M, W, ws, c1, c2, oN, oL, oI, v₀, t₁, olds, rfl, F, N, hoN, hoL, hcI, hdI, hws, holds, hWT, hoT⟩
    cases hv : sv[i]? with
    | none =>
      refine wpAny_pyNext_list_end rfl ⟨oI, (N _ (.tail _ (.tail _ (.head _)))).1, hcI, hdI⟩ (hS.isList.at fun o e => F.keep _ o e) (by simpa using hv) ?_
      intro h₃ hs
      dsimp only
      have hin : i = ns.length := by
        have := hi.length
        have : sv.length ≤ i := by simpa using hv
        omega
      subst hin
      have hIm := N _ (.tail _ (.tail _ (.head _)))
      have k₃ : ∀ b ob, b ≠ I → h'.get? b = some ob → h₃.get? b = some ob := fun b ob hb e => hs b ob hb e
      have F₃ : Fr s.heap s.heap.objs.size h₃ _ := ⟨F.ns.extBut hs (Ne.symm hIm.2.1), fun b ob e => k₃ b ob (fun q => by rw [q, hIm.2.2] at e; cases e) (F.keep b ob e), F.above⟩
      have N₃ : News s.heap s.heap.objs.size h₃ [] := News.nil
      have hTn := N _ (.tail _ (.tail _ (.tail _ (.head _))))
      have hTI : l₂ ≠ I := ne_of_obj hTn.1 hIm.1 (by rw [hdI]; exact fun q => nomatch q)
      have hrows : RowsAre h₃ (olds.map fun p => .ref p.1) (rowsAt ns ns.length) := by
        have hold : ∀ p ∈ olds, h₃.get? p.1 = some p.2 ∨ ∀ row, ¬ RowOf p row := fun p hp => by
          have hpn := N p (.tail _ (.tail _ (.tail _ (.tail _ (.tail _ hp)))))
          by_cases hq : p.1 = I
          · refine .inr fun row hr => ?_
            obtain ⟨ws, c, e, _⟩ := hr
            exact ne_of_obj hpn.1 hIm.1 (by rw [hdI, e]; exact fun q => nomatch q) hq
          · exact .inl (k₃ _ _ hq hpn.1)
        exact rows_of holds hold
      have hTl : Lst h₃ l₂ (olds.map fun p => .ref p.1) := ⟨c2, k₃ _ _ hTI hTn.1⟩
      have haf₃ := F₃.keep
      clear hTn hIm k₃ hs N F holds hoT hWT hws
      k_steps
      refine h _ _ _ _ hTl hrows haf₃
    | some v =>
      obtain ⟨n, t, rfl, hn⟩ := hi.at i v hv
      refine wpAny_pyNext_list_item ⟨oI, (N _ (.tail _ (.tail _ (.head _)))).1, hcI, hdI⟩ (hS.isList.at fun o e => F.keep _ o e) (by simpa using hv) ?_
      intro h₃ hit hs
      dsimp only
      obtain ⟨oI', eI', hcI', hdI'⟩ := hit
      have hIm := N _ (.tail _ (.tail _ (.head _)))
      have hCm := N _ (.head _)
      have hCI : s.heap.objs.size + 1 + 1 ≠ I := ne_of_obj hCm.1 hIm.1 (by rw [hdI, hoN]; exact fun q => nomatch q)
      have hLm := N _ (.tail _ (.head _))
      have hLI : s.heap.objs.size + 1 ≠ I := ne_of_obj hLm.1 hIm.1 (by rw [hdI, hoL]; exact fun q => nomatch q)
      have F₃ := F.change hs hIm.2.1 hIm.2.2
      refine wpAny_assign_Name (wpAny_storeName_cell (c := s.heap.objs.size + 1 + 1) (v₀ := v₀) rfl rfl rfl ⟨oN, (hs.2 _ hCI).trans hCm.1, hoN⟩ ?_)
      intro h₄ hc₄ hs₄
      obtain ⟨oN', eo', hoN'⟩ := hc₄
      have F₄ := F₃.change hs₄ hCm.2.1 hCm.2.2
      have hseq : ∀ p ∈ (l₂, lstc (olds.map fun p => .ref p.1) c2) :: (W, lstc ws c1) :: olds, ∃ a k, p.2.data = .seq a k := fun p hp => by
        simp only [List.mem_cons] at hp
        rcases hp with rfl | rfl | hp
        · exact ⟨_, _, rfl⟩
        · exact ⟨_, _, rfl⟩
        · obtain ⟨_, _, ws, c, e, _⟩ := paired_mem holds p hp
          exact ⟨_, _, by rw [e]⟩
      have N₄ : News s.heap s.heap.objs.size h₄ ((s.heap.objs.size + 1 + 1, oN') :: (s.heap.objs.size + 1, oL) :: (I, oI') :: (l₂, lstc (olds.map fun p => .ref p.1) c2) :: (W, lstc ws c1) :: olds) := by
        intro p hp
        rcases List.mem_cons.mp hp with rfl | hp
        · exact ⟨eo', hCm.2⟩
        rcases List.mem_cons.mp hp with rfl | hp
        · exact ⟨(hs₄.2 _ (Nat.ne_of_lt (Nat.lt_succ_self _))).trans ((hs.2 _ hLI).trans hLm.1), hLm.2⟩
        rcases List.mem_cons.mp hp with rfl | hp
        · exact ⟨(hs₄.2 _ (Ne.symm hCI)).trans eI', hIm.2⟩
        · have hpm := N p (.tail _ (.tail _ (.tail _ hp)))
          obtain ⟨a, k, e⟩ := hseq p hp
          exact ⟨(hs₄.2 _ (ne_of_obj hpm.1 hCm.1 (by rw [e, hoN]; exact fun q => nomatch q))).trans ((hs.2 _ (ne_of_obj hpm.1 hIm.1 (by rw [e, hdI]; exact fun q => nomatch q))).trans hpm.1), hpm.2⟩
      have hfine := Fine.at (ns := ns) hi'
      clear F N F₃ hs hs₄ hIm hCm eI' eo' hcI hdI hoN hLm
      generalize hp : stAt ns i = p at hoL hws hfine
      obtain ⟨last, wn⟩ := p
      dsimp only at hoL hws
      k_steps
      all_goals try dsimp only at *
      all_goals have hst := stAt_succ hn
      all_goals rw [hp] at hst
      all_goals unfold stp at hst
      all_goals have hfl := hfine.last
      all_goals have hwl := casts_length hws
      all_goals have hle := hfine.len
      all_goals have hsl := sizeLine_eq
      all_goals have hil : i < ns.length := (List.getElem?_eq_some_iff.mp hn).1
      all_goals have hpow := hfine.waits
      all_goals dsimp only at hst hfl hwl hle hpow
      · rename Fr _ _ _ _ => F
        rename News _ _ _ _ => N
        rename n.fmod 4 < 2 => h2
        have e4 : n.fmod 4 = n % 4 := Int.fmod_eq_emod_of_nonneg _ (by decide)
        have e5 : (n.fdiv 4).fmod 40 = n / 4 % 40 := by rw [Int.fdiv_eq_ediv_of_nonneg _ (by decide), Int.fmod_eq_emod_of_nonneg _ (by decide)]
        have h40 := Int.emod_lt_of_pos (n / 4) (by decide : (0 : Int) < 40)
        have h41 := Int.emod_nonneg (n / 4) (by decide : (40 : Int) ≠ 0)
        rw [if_pos (by omega)] at hst
        have hv0 : ((last : Int) + (n.fdiv 4).fmod 40 + 1) = ((last + (n / 4 % 40).toNat + 1 : Nat) : Int) := by omega
        rw [hv0]
        generalize hnl : last + (n / 4 % 40).toNat + 1 = nl at hst ⊢
        have hLm := N _ (.tail _ (.head _))
        refine wpAny_storeName_cell (c := s.heap.objs.size + 1) (v₀ := some (.int (last : Nat) t₁)) rfl rfl rfl ⟨oL, hLm.1, hoL⟩ ?_
        intro h₅ hc₅ hs₅
        obtain ⟨oL', eL', hoL'⟩ := hc₅
        have F₅ := F.change hs₅ hLm.2.1 hLm.2.2
        have N₅ : News s.heap s.heap.objs.size h₅ ((s.heap.objs.size + 1 + 1, oN') :: (s.heap.objs.size + 1, oL') :: (I, oI') :: (l₂, lstc (olds.map fun p => .ref p.1) c2) :: (W, lstc ws c1) :: olds) := by
          intro p hp
          rcases List.mem_cons.mp hp with rfl | hp
          · have z := N _ (.head _)
            exact ⟨(hs₅.2 _ (Ne.symm (Nat.ne_of_lt (Nat.lt_succ_self _)))).trans z.1, z.2⟩
          rcases List.mem_cons.mp hp with rfl | hp
          · exact ⟨eL', hLm.2⟩
          rcases List.mem_cons.mp hp with rfl | hp
          · have z := N _ (.tail _ (.tail _ (.head _)))
            exact ⟨(hs₅.2 _ (ne_of_obj z.1 hLm.1 (by rw [hoL, hdI']; exact fun q => nomatch q))).trans z.1, z.2⟩
          · have z := N p (.tail _ (.tail _ (.tail _ hp)))
            obtain ⟨a, k, e⟩ := hseq p hp
            exact ⟨(hs₅.2 _ (ne_of_obj z.1 hLm.1 (by rw [e, hoL]; exact fun q => nomatch q))).trans z.1, z.2⟩
        clear F N hs₅ eL' hLm hoL
        k_steps
        try dsimp only at *
        unfold Stop
        rename Fr _ _ _ _ => F
        rename News _ _ _ (_ :: _ :: _ :: _) => N
        obtain ⟨tq, hKm⟩ : ∃ t, Lst _ _ [.int ((nl : Nat) : Int) t] := ⟨_, 0, (N _ (.head _)).1⟩
        refine addOwn F N (xs := ws) (ys := [.int (nl : Nat) tq]) ⟨c1, (N _ (.tail _ (.tail _ (.tail _ (.tail _ (.tail _ (.head _)))))) ).1⟩ hKm (by simp only [List.length_cons, List.length_nil]; omega) ?_
        intro D h₆ F₆ N₆ hD
        have hDT : D ≠ l₂ := Ne.symm (Nat.ne_of_lt (hD _ _ (N _ (.tail _ (.tail _ (.tail _ (.tail _ (.head _)))))).1))
        have hws' : IntsAre (ws ++ [.int (nl : Nat) tq]) (casts (wn ++ [nl])) := by
          rw [casts, List.map_append]; exact IntsAre.append hws (.cons _ _ .nil)
        have N₇ : News s.heap s.heap.objs.size h₆ ((s.heap.objs.size + 1 + 1, oN') :: (s.heap.objs.size + 1, oL') :: (I, oI') :: (l₂, lstc (olds.map fun p => .ref p.1) c2) :: (D, lstc (ws ++ [.int (nl : Nat) tq]) 0) :: olds) := by
          intro p hp
          refine N₆ p ?_
          simp only [List.mem_cons] at hp ⊢
          rcases hp with hp | hp | hp | hp | hp | hp <;> simp [hp]
        clear F N hD N₆ hKm
        generalize hwn : wn ++ [nl] = wn' at hst hws'
        generalize hwS : ws ++ [Value.int (nl : Nat) tq] = ws' at hws' N₇
        clear hwn hwS
        k_steps
        try dsimp only at *
        unfold Stop
        rename Fr _ _ _ _ => F
        rename News _ _ _ (_ :: _ :: _ :: _) => N
        have hfb : ∀ w ∈ wn', 1 ≤ w ∧ w < 4096 := fun w hw => by
          have := Fine.at (ns := ns) hil
          rw [hst] at this
          have hw1 := this.waits w hw
          have hw2 := this.last
          dsimp only at hw1 hw2
          omega
        have hwl' := casts_length hws'
        have hle' : wn'.length ≤ 13 := by
          have := (Fine.at (ns := ns) hil).len
          rw [hst] at this
          dsimp only at this
          omega
        refine compJ (cl := []) (by with_unfolding_all rfl) (by decide) rfl (by decide) rfl ?_
        k_steps
        try dsimp only at *
        have hDl := Lst.isList (ys := ws') ⟨0, (N _ (.tail _ (.tail _ (.tail _ (.tail _ (.head _)))))).1⟩
        refine ⟨(ws').length, _, fun i ys => WordsAre ys (wn'.take i), source_list rfl hDl, by omega, ?turns, .nil, ?done⟩
        case turns =>
          intro j v ys C h₂ tk₂ m₂ E₂ hj hP hJ hC hk₂ hn₂ hx₂
          obtain ⟨oC, F₂, N₂, hC₂⟩ := turn_ctx F N hC hk₂ hn₂
          have hP : (ws')[j]? = some v := by simpa using hP
          obtain ⟨wd, t', hwd, rfl⟩ := casts_at hws' hP
          have hwb := hfb wd (List.mem_of_getElem? hwd)
          refine wpAny_tests_nil ?_
          refine ⟨⟨_, _, rfl, fun _ _ e => e⟩, ?_⟩
          simp only [if_true]
          clear hDl hP
          k_steps
          try dsimp only at *
          unfold Stop
          refine wpAny_noRaise (lawword ⟨X.keeps F₂.keep, T.keeps F₂.keep, _, _, pushX B F₂ rfl rfl⟩ ?_ rfl (by omega) ?_)
          · show dp + 1 + 10 < _; omega
          intro t'' h₃ tk₃ hk₃
          refine ⟨⟨h₃, tk₃, rfl, hk₃⟩, ?_⟩
          show WordsAre _ (List.take (j + 1) wn')
          rw [List.take_add_one, hwd]
          exact Paired.snoc hJ ⟨_, rfl⟩
        case done =>
          intro D₂ h₇ tk₇ ys hD₂ hl hJ hk₇
          rw [hwl', List.take_length] at hJ
          obtain ⟨c₇, hl⟩ := hl
          have F₇ := F.keeps hk₇
          have hD₂L : D₂ ≠ s.heap.objs.size := Ne.symm (Nat.ne_of_lt (Nat.lt_of_lt_of_le F.ns.lt hD₂))
          have hD₂T : D₂ ≠ l₂ := Ne.symm (Nat.ne_of_lt (Nat.lt_of_lt_of_le (Heap.lt_size (N _ (.tail _ (.tail _ (.tail _ (.head _))))).1) hD₂))
          have N₇ : News s.heap s.heap.objs.size h₇ ((D₂, lstc ys c₇) :: (s.heap.objs.size + 1 + 1, oN') :: (s.heap.objs.size + 1, oL') :: (I, oI') :: (l₂, lstc (olds.map fun p => .ref p.1) c2) :: (D, lstc (ws') 0) :: olds) := by
            intro p hp
            rcases List.mem_cons.mp hp with rfl | hp
            · refine ⟨hl, hD₂L, ?_⟩
              cases q : s.heap.get? D₂ with
              | none => rfl
              | some ob => exact absurd (Heap.lt_size (F.keep _ _ q)) (Nat.not_lt.mpr hD₂)
            · exact N.grown hk₇ p hp
          clear F N hk₇ hDl hl
          k_steps
          try dsimp only at *
          unfold Stop
          rename Fr _ _ _ _ => F
          rename News _ _ _ (_ :: _ :: _ :: _) => N
          refine append_at (N _ (.tail _ (.tail _ (.tail _ (.tail _ (.head _)))))).1 ?_ ?_
          · intro h₈ hs hT
            k_steps
            exact ⟨ns.length - (i + 1), by omega, i + 1, rfl, hil, turn_endD F (c1 := 0) (c2 := c2) (c3 := c₇) (D := D₂) (W := D) (ws := ws') (ys := ys) (olds := olds) (oN := oN') (oL := oL') (oI := oI') N rfl rfl rfl hs hT hoN' (by rw [hst]; exact hoL') hcI' (by rw [hdI']) (by rw [hst]; exact hws') (by rw [hst]; exact hJ) holds hDT hD₂T hoT⟩
          · rw [List.size_toArray, List.length_map, holds.length]
            simp only [rowsAt, List.length_map, List.length_range]
            omega
      · rename Fr _ _ _ _ => F
        rename News _ _ _ _ => N
        rename n.fmod 4 = 2 => h2
        have e4 : n.fmod 4 = n % 4 := Int.fmod_eq_emod_of_nonneg _ (by decide)
        have e5 : (n.fdiv 4).fmod ((last : Int) + 1) = n / 4 % ((last : Int) + 1) := by rw [Int.fdiv_eq_ediv_of_nonneg _ (by decide), Int.fmod_eq_emod_of_nonneg _ (by omega)]
        have h40 := Int.emod_lt_of_pos (n / 4) (by omega : (0 : Int) < (last : Int) + 1)
        have h41 := Int.emod_nonneg (n / 4) (by omega : ((last : Int) + 1) ≠ 0)
        rw [if_neg (by omega), if_pos (by omega)] at hst
        generalize hk : (n / 4 % ((last : Int) + 1)) = kz at hst h40 h41 e5
        obtain ⟨k, rfl⟩ := Int.eq_ofNat_of_zero_le h41
        have hkt : ((k : Nat) : Int).toNat = k := by omega
        rw [hkt] at hst
        unfold Stop
        refine assignJ (cl := [(Str.ofString "n", s.heap.objs.size + 1 + 1), (Str.ofString "last", s.heap.objs.size + 1)]) (by with_unfolding_all rfl) (by with_unfolding_all rfl) (by decide) rfl (by decide) rfl rfl rfl ?_
        k_steps
        try dsimp only at *
        have hWl := Lst.isList (ys := ws) ⟨c1, (N _ (.tail _ (.tail _ (.tail _ (.tail _ (.head _)))))).1⟩
        refine ⟨ws.length, _, fun i ys => IntsAre ys (casts ((wn.take i).filter fun w => decide (w ≠ k))), _, source_list rfl hWl, by omega, ?turns, .nil, F.ns, ?done⟩
        case turns =>
          intro j v ys C h₂ tk₂ m₂ E₂ hj hP hJ hC hk₂ hn₂ hx₂
          obtain ⟨oC, F₂, N₂, hC₂⟩ := turn_ctx F N hC hk₂ hn₂
          have hP : ws[j]? = some v := by simpa using hP
          obtain ⟨wd, t', hwd, rfl⟩ := casts_at hws hP
          have hwb := hfine.waits wd (List.mem_of_getElem? hwd)
          refine wpAny_tests_one ?_
          clear hWl hP
          k_steps
          try dsimp only at *
          have hbl : (((wd : Nat) : Int) != (n.fdiv 4).fmod ((last : Int) + 1)) = decide (wd ≠ k) := by
            rw [e5, Bool.eq_iff_iff, bne_iff_ne, decide_eq_true_eq]; omega
          rw [hbl]
          have htf := take_succ_filter (fun w => decide (w ≠ k)) wn j wd hwd
          refine ⟨⟨_, _, rfl, fun _ _ e => e⟩, ?_⟩
          by_cases hc : wd ≠ k
          · rw [decide_eq_true hc] at htf ⊢
            rw [if_pos rfl] at htf ⊢
            k_steps
            refine EltEnd.same ?_
            show IntsAre _ (casts (List.filter _ (List.take (j + 1) wn)))
            rw [htf, casts, List.map_append]
            exact IntsAre.append hJ (.cons _ _ .nil)
          · rw [decide_eq_false hc] at htf ⊢
            rw [if_neg Bool.false_ne_true] at htf ⊢
            show IntsAre _ (casts (List.filter _ (List.take (j + 1) wn)))
            rw [htf, List.append_nil]
            exact hJ
        case done =>
          intro D h₆ tk₆ ws' hD hDl hws' hns hk₆
          rw [hwl, List.take_length] at hws'
          obtain ⟨c₆, hDl⟩ := hDl
          have hDL : D ≠ s.heap.objs.size := Ne.symm (Nat.ne_of_lt (Nat.lt_of_lt_of_le F.ns.lt hD))
          have hDT : D ≠ l₂ := Ne.symm (Nat.ne_of_lt (Nat.lt_of_lt_of_le (Heap.lt_size (N _ (.tail _ (.tail _ (.tail _ (.head _))))).1) hD))
          have F₆ : Fr s.heap s.heap.objs.size h₆ _ := ⟨hns, fun b ob e => hk₆ b ob (fun q => absurd (Heap.lt_size e) (by rw [q]; exact Nat.lt_irrefl _)) (F.keep b ob e), F.above⟩
          have N₆ : News s.heap s.heap.objs.size h₆ ((s.heap.objs.size + 1 + 1, oN') :: (s.heap.objs.size + 1, oL) :: (I, oI') :: (l₂, lstc (olds.map fun p => .ref p.1) c2) :: (D, lstc ws' c₆) :: olds) := by
            have oth : ∀ p, p ∈ (s.heap.objs.size + 1 + 1, oN') :: (s.heap.objs.size + 1, oL) :: (I, oI') :: (l₂, lstc (olds.map fun p => Value.ref p.1) c2) :: (W, lstc ws c1) :: olds → h₆.get? p.1 = some p.2 ∧ p.1 ≠ s.heap.objs.size ∧ s.heap.get? p.1 = none := fun p hp =>
              ⟨hk₆ _ _ (N p hp).2.1 (N p hp).1, (N p hp).2⟩
            intro p hp
            rcases List.mem_cons.mp hp with rfl | hp
            · exact oth _ (.head _)
            rcases List.mem_cons.mp hp with rfl | hp
            · exact oth _ (.tail _ (.head _))
            rcases List.mem_cons.mp hp with rfl | hp
            · exact oth _ (.tail _ (.tail _ (.head _)))
            rcases List.mem_cons.mp hp with rfl | hp
            · exact oth _ (.tail _ (.tail _ (.tail _ (.head _))))
            rcases List.mem_cons.mp hp with rfl | hp
            · refine ⟨hDl, hDL, ?_⟩
              cases q : s.heap.get? D with
              | none => rfl
              | some ob => exact absurd (Heap.lt_size (F.keep _ _ q)) (Nat.not_lt.mpr hD)
            · exact oth _ (.tail _ (.tail _ (.tail _ (.tail _ (.tail _ hp)))))
          clear F N hk₆ hWl hDl hns
          generalize hwn : (wn.filter fun w => decide (w ≠ k)) = wn' at hst hws'
          clear hwn
          k_steps
          try dsimp only at *
          unfold Stop
          rename Fr _ _ _ _ => F
          rename News _ _ _ (_ :: _ :: _ :: _) => N
          have hfb : ∀ w ∈ wn', 1 ≤ w ∧ w < 4096 := fun w hw => by
            have := Fine.at (ns := ns) hil
            rw [hst] at this
            have hw1 := this.waits w hw
            have hw2 := this.last
            dsimp only at hw1 hw2
            omega
          have hwl' := casts_length hws'
          have hle' : wn'.length ≤ 13 := by
            have := (Fine.at (ns := ns) hil).len
            rw [hst] at this
            dsimp only at this
            omega
          refine compJ (cl := []) (by with_unfolding_all rfl) (by decide) rfl (by decide) rfl ?_
          k_steps
          try dsimp only at *
          have hDl := Lst.isList (ys := ws') ⟨c₆, (N _ (.tail _ (.tail _ (.tail _ (.tail _ (.head _)))))).1⟩
          refine ⟨(ws').length, _, fun i ys => WordsAre ys (wn'.take i), source_list rfl hDl, by omega, ?turns, .nil, ?done⟩
          case turns =>
            intro j v ys C h₂ tk₂ m₂ E₂ hj hP hJ hC hk₂ hn₂ hx₂
            obtain ⟨oC, F₂, N₂, hC₂⟩ := turn_ctx F N hC hk₂ hn₂
            have hP : (ws')[j]? = some v := by simpa using hP
            obtain ⟨wd, t', hwd, rfl⟩ := casts_at hws' hP
            have hwb := hfb wd (List.mem_of_getElem? hwd)
            refine wpAny_tests_nil ?_
            refine ⟨⟨_, _, rfl, fun _ _ e => e⟩, ?_⟩
            simp only [if_true]
            clear hDl hP
            k_steps
            try dsimp only at *
            unfold Stop
            refine wpAny_noRaise (lawword ⟨X.keeps F₂.keep, T.keeps F₂.keep, _, _, pushX B F₂ rfl rfl⟩ ?_ rfl (by omega) ?_)
            · show dp + 1 + 10 < _; omega
            intro t'' h₃ tk₃ hk₃
            refine ⟨⟨h₃, tk₃, rfl, hk₃⟩, ?_⟩
            show WordsAre _ (List.take (j + 1) wn')
            rw [List.take_add_one, hwd]
            exact Paired.snoc hJ ⟨_, rfl⟩
          case done =>
            intro D₂ h₇ tk₇ ys hD₂ hl hJ hk₇
            rw [hwl', List.take_length] at hJ
            obtain ⟨c₇, hl⟩ := hl
            have F₇ := F.keeps hk₇
            have hD₂L : D₂ ≠ s.heap.objs.size := Ne.symm (Nat.ne_of_lt (Nat.lt_of_lt_of_le F.ns.lt hD₂))
            have hD₂T : D₂ ≠ l₂ := Ne.symm (Nat.ne_of_lt (Nat.lt_of_lt_of_le (Heap.lt_size (N _ (.tail _ (.tail _ (.tail _ (.head _))))).1) hD₂))
            have N₇ : News s.heap s.heap.objs.size h₇ ((D₂, lstc ys c₇) :: (s.heap.objs.size + 1 + 1, oN') :: (s.heap.objs.size + 1, oL) :: (I, oI') :: (l₂, lstc (olds.map fun p => .ref p.1) c2) :: (D, lstc (ws') c₆) :: olds) := by
              intro p hp
              rcases List.mem_cons.mp hp with rfl | hp
              · refine ⟨hl, hD₂L, ?_⟩
                cases q : s.heap.get? D₂ with
                | none => rfl
                | some ob => exact absurd (Heap.lt_size (F.keep _ _ q)) (Nat.not_lt.mpr hD₂)
              · exact N.grown hk₇ p hp
            clear F N hk₇ hDl hl
            k_steps
            try dsimp only at *
            unfold Stop
            rename Fr _ _ _ _ => F
            rename News _ _ _ (_ :: _ :: _ :: _) => N
            refine append_at (N _ (.tail _ (.tail _ (.tail _ (.tail _ (.head _)))))).1 ?_ ?_
            · intro h₈ hs hT
              k_steps
              exact ⟨ns.length - (i + 1), by omega, i + 1, rfl, hil, turn_endD F (c1 := c₆) (c2 := c2) (c3 := c₇) (D := D₂) (W := D) (ws := ws') (ys := ys) (olds := olds) (oN := oN') (oL := oL) (oI := oI') N rfl rfl rfl hs hT hoN' (by rw [hst]; exact hoL) hcI' (by rw [hdI']) (by rw [hst]; exact hws') (by rw [hst]; exact hJ) holds hDT hD₂T hoT⟩
            · rw [List.size_toArray, List.length_map, holds.length]
              simp only [rowsAt, List.length_map, List.length_range]
              omega
      · rename Fr _ _ _ _ => F
        rename News _ _ _ _ => N
        rename n.fmod 4 ≠ 2 => h2
        rename ¬ n.fmod 4 < 2 => h1
        have e4 : n.fmod 4 = n % 4 := Int.fmod_eq_emod_of_nonneg _ (by decide)
        have e5 : (n.fdiv 4).fmod 3 = n / 4 % 3 := by rw [Int.fdiv_eq_ediv_of_nonneg _ (by decide), Int.fmod_eq_emod_of_nonneg _ (by decide)]
        have h40 := Int.emod_lt_of_pos (n / 4) (by decide : (0 : Int) < 3)
        have h41 := Int.emod_nonneg (n / 4) (by decide : (3 : Int) ≠ 0)
        rw [if_neg (by omega), if_neg (by omega)] at hst
        generalize hk : n / 4 % 3 = kz at hst h40 h41 e5
        obtain ⟨k, rfl⟩ := Int.eq_ofNat_of_zero_le h41
        have hkt : ((k : Nat) : Int).toNat = k := by omega
        rw [hkt] at hst
        unfold Stop
        refine assignJ (cl := [(Str.ofString "n", s.heap.objs.size + 1 + 1)]) (by with_unfolding_all rfl) (by with_unfolding_all rfl) (by decide) rfl (by decide) rfl rfl rfl ?_
        k_steps
        try dsimp only at *
        have hWl := Lst.isList (ys := ws) ⟨c1, (N _ (.tail _ (.tail _ (.tail _ (.tail _ (.head _)))))).1⟩
        refine ⟨ws.length, _, fun i ys => IntsAre ys (casts ((wn.take i).filter fun w => decide (w < 16 ^ k ∨ 16 ^ (k + 1) ≤ w))), _, source_list rfl hWl, by omega, ?turns, .nil, F.ns, ?done⟩
        case turns =>
          intro j v ys C h₂ tk₂ m₂ E₂ hj hP hJ hC hk₂ hn₂ hx₂
          obtain ⟨oC, F₂, N₂, hC₂⟩ := turn_ctx F N hC hk₂ hn₂
          have hP : ws[j]? = some v := by simpa using hP
          obtain ⟨wd, t', hwd, rfl⟩ := casts_at hws hP
          have hwb := hfine.waits wd (List.mem_of_getElem? hwd)
          refine wpAny_tests_one ?_
          clear hWl hP
          k_steps
          try dsimp only at *
          unfold Stop
          have hp1 : (16 : Int) ^ ((n.fdiv 4).fmod 3).toNat = ((16 ^ k : Nat) : Int) := by rw [e5, hkt]; push_cast; rfl
          have hp2 : (16 : Int) ^ ((n.fdiv 4).fmod 3 + 1).toNat = ((16 ^ (k + 1) : Nat) : Int) := by
            have : ((n.fdiv 4).fmod 3 + 1).toNat = k + 1 := by omega
            rw [this]; push_cast; rfl
          refine pow_int_small (by omega) (by omega) (by decide) ?_
          rw [hp1]
          generalize 16 ^ k = pk at hJ ⊢
          generalize 16 ^ (k + 1) = pm at hJ hp2 ⊢
          k_steps
          all_goals try dsimp only at *
          all_goals have htf := take_succ_filter (fun w => decide (w < pk ∨ pm ≤ w)) wn j wd hwd
          · rename ((wd : Nat) : Int) < _ => hlt
            rw [decide_eq_true (Or.inl (by omega)), if_pos rfl] at htf
            refine ⟨⟨_, _, rfl, fun _ _ e => e⟩, ?_⟩
            simp only [if_true]
            k_steps
            refine EltEnd.same ?_
            show IntsAre _ (casts (List.filter _ (List.take (j + 1) wn)))
            rw [htf, casts, List.map_append]
            exact IntsAre.append hJ (.cons _ _ .nil)
          · rename ¬ ((wd : Nat) : Int) < _ => hlt
            unfold Stop
            refine pow_int_small (by omega) (by omega) (by decide) ?_
            rw [hp2]
            k_steps
            all_goals try dsimp only at *
            · rename ((pm : Nat) : Int) ≤ _ => hle2
              rw [decide_eq_true (Or.inr (by omega)), if_pos rfl] at htf
              refine ⟨⟨_, _, rfl, fun _ _ e => e⟩, ?_⟩
              simp only [if_true]
              k_steps
              refine EltEnd.same ?_
              show IntsAre _ (casts (List.filter _ (List.take (j + 1) wn)))
              rw [htf, casts, List.map_append]
              exact IntsAre.append hJ (.cons _ _ .nil)
            · rename ¬ ((pm : Nat) : Int) ≤ _ => hle2
              rw [decide_eq_false (by omega), if_neg Bool.false_ne_true] at htf
              refine ⟨⟨_, _, rfl, fun _ _ e => e⟩, ?_⟩
              simp only [Bool.false_eq_true, if_false]
              show IntsAre _ (casts (List.filter _ (List.take (j + 1) wn)))
              rw [htf, List.append_nil]
              exact hJ
        case done =>
          intro D h₆ tk₆ ws' hD hDl hws' hns hk₆
          rw [hwl, List.take_length] at hws'
          obtain ⟨c₆, hDl⟩ := hDl
          have hDL : D ≠ s.heap.objs.size := Ne.symm (Nat.ne_of_lt (Nat.lt_of_lt_of_le F.ns.lt hD))
          have hDT : D ≠ l₂ := Ne.symm (Nat.ne_of_lt (Nat.lt_of_lt_of_le (Heap.lt_size (N _ (.tail _ (.tail _ (.tail _ (.head _))))).1) hD))
          have F₆ : Fr s.heap s.heap.objs.size h₆ _ := ⟨hns, fun b ob e => hk₆ b ob (fun q => absurd (Heap.lt_size e) (by rw [q]; exact Nat.lt_irrefl _)) (F.keep b ob e), F.above⟩
          have N₆ : News s.heap s.heap.objs.size h₆ ((s.heap.objs.size + 1 + 1, oN') :: (s.heap.objs.size + 1, oL) :: (I, oI') :: (l₂, lstc (olds.map fun p => .ref p.1) c2) :: (D, lstc ws' c₆) :: olds) := by
            have oth : ∀ p, p ∈ (s.heap.objs.size + 1 + 1, oN') :: (s.heap.objs.size + 1, oL) :: (I, oI') :: (l₂, lstc (olds.map fun p => Value.ref p.1) c2) :: (W, lstc ws c1) :: olds → h₆.get? p.1 = some p.2 ∧ p.1 ≠ s.heap.objs.size ∧ s.heap.get? p.1 = none := fun p hp =>
              ⟨hk₆ _ _ (N p hp).2.1 (N p hp).1, (N p hp).2⟩
            intro p hp
            rcases List.mem_cons.mp hp with rfl | hp
            · exact oth _ (.head _)
            rcases List.mem_cons.mp hp with rfl | hp
            · exact oth _ (.tail _ (.head _))
            rcases List.mem_cons.mp hp with rfl | hp
            · exact oth _ (.tail _ (.tail _ (.head _)))
            rcases List.mem_cons.mp hp with rfl | hp
            · exact oth _ (.tail _ (.tail _ (.tail _ (.head _))))
            rcases List.mem_cons.mp hp with rfl | hp
            · refine ⟨hDl, hDL, ?_⟩
              cases q : s.heap.get? D with
              | none => rfl
              | some ob => exact absurd (Heap.lt_size (F.keep _ _ q)) (Nat.not_lt.mpr hD)
            · exact oth _ (.tail _ (.tail _ (.tail _ (.tail _ (.tail _ hp)))))
          clear F N hk₆ hWl hDl hns
          generalize hwn : (wn.filter fun w => decide (w < 16 ^ k ∨ 16 ^ (k + 1) ≤ w)) = wn' at hst hws'
          clear hwn
          k_steps
          try dsimp only at *
          unfold Stop
          rename Fr _ _ _ _ => F
          rename News _ _ _ (_ :: _ :: _ :: _) => N
          have hfb : ∀ w ∈ wn', 1 ≤ w ∧ w < 4096 := fun w hw => by
            have := Fine.at (ns := ns) hil
            rw [hst] at this
            have hw1 := this.waits w hw
            have hw2 := this.last
            dsimp only at hw1 hw2
            omega
          have hwl' := casts_length hws'
          have hle' : wn'.length ≤ 13 := by
            have := (Fine.at (ns := ns) hil).len
            rw [hst] at this
            dsimp only at this
            omega
          refine compJ (cl := []) (by with_unfolding_all rfl) (by decide) rfl (by decide) rfl ?_
          k_steps
          try dsimp only at *
          have hDl := Lst.isList (ys := ws') ⟨c₆, (N _ (.tail _ (.tail _ (.tail _ (.tail _ (.head _)))))).1⟩
          refine ⟨(ws').length, _, fun i ys => WordsAre ys (wn'.take i), source_list rfl hDl, by omega, ?turns, .nil, ?done⟩
          case turns =>
            intro j v ys C h₂ tk₂ m₂ E₂ hj hP hJ hC hk₂ hn₂ hx₂
            obtain ⟨oC, F₂, N₂, hC₂⟩ := turn_ctx F N hC hk₂ hn₂
            have hP : (ws')[j]? = some v := by simpa using hP
            obtain ⟨wd, t', hwd, rfl⟩ := casts_at hws' hP
            have hwb := hfb wd (List.mem_of_getElem? hwd)
            refine wpAny_tests_nil ?_
            refine ⟨⟨_, _, rfl, fun _ _ e => e⟩, ?_⟩
            simp only [if_true]
            clear hDl hP
            k_steps
            try dsimp only at *
            unfold Stop
            refine wpAny_noRaise (lawword ⟨X.keeps F₂.keep, T.keeps F₂.keep, _, _, pushX B F₂ rfl rfl⟩ ?_ rfl (by omega) ?_)
            · show dp + 1 + 10 < _; omega
            intro t'' h₃ tk₃ hk₃
            refine ⟨⟨h₃, tk₃, rfl, hk₃⟩, ?_⟩
            show WordsAre _ (List.take (j + 1) wn')
            rw [List.take_add_one, hwd]
            exact Paired.snoc hJ ⟨_, rfl⟩
          case done =>
            intro D₂ h₇ tk₇ ys hD₂ hl hJ hk₇
            rw [hwl', List.take_length] at hJ
            obtain ⟨c₇, hl⟩ := hl
            have F₇ := F.keeps hk₇
            have hD₂L : D₂ ≠ s.heap.objs.size := Ne.symm (Nat.ne_of_lt (Nat.lt_of_lt_of_le F.ns.lt hD₂))
            have hD₂T : D₂ ≠ l₂ := Ne.symm (Nat.ne_of_lt (Nat.lt_of_lt_of_le (Heap.lt_size (N _ (.tail _ (.tail _ (.tail _ (.head _))))).1) hD₂))
            have N₇ : News s.heap s.heap.objs.size h₇ ((D₂, lstc ys c₇) :: (s.heap.objs.size + 1 + 1, oN') :: (s.heap.objs.size + 1, oL) :: (I, oI') :: (l₂, lstc (olds.map fun p => .ref p.1) c2) :: (D, lstc (ws') c₆) :: olds) := by
              intro p hp
              rcases List.mem_cons.mp hp with rfl | hp
              · refine ⟨hl, hD₂L, ?_⟩
                cases q : s.heap.get? D₂ with
                | none => rfl
                | some ob => exact absurd (Heap.lt_size (F.keep _ _ q)) (Nat.not_lt.mpr hD₂)
              · exact N.grown hk₇ p hp
            clear F N hk₇ hDl hl
            k_steps
            try dsimp only at *
            unfold Stop
            rename Fr _ _ _ _ => F
            rename News _ _ _ (_ :: _ :: _ :: _) => N
            refine append_at (N _ (.tail _ (.tail _ (.tail _ (.tail _ (.head _)))))).1 ?_ ?_
            · intro h₈ hs hT
              k_steps
              exact ⟨ns.length - (i + 1), by omega, i + 1, rfl, hil, turn_endD F (c1 := c₆) (c2 := c2) (c3 := c₇) (D := D₂) (W := D) (ws := ws') (ys := ys) (olds := olds) (oN := oN') (oL := oL) (oI := oI') N rfl rfl rfl hs hT hoN' (by rw [hst]; exact hoL) hcI' (by rw [hdI']) (by rw [hst]; exact hws') (by rw [hst]; exact hJ) holds hDT hD₂T hoT⟩
            · rw [List.size_toArray, List.length_map, holds.length]
              simp only [rowsAt, List.length_map, List.length_range]
              omega
end
end Mine
end

section
open PySem PySem.W PyProof.Rows PySem.Calls PySem.SeqAt
namespace Mine
theorem all_true (n : Nat) : ((List.range n).all fun _ => true) = true := by simp
theorem words_eq {vs vs' : List Value} {row : List Nat} (hv : WordsAre vs row) (hv' : WordsAre vs' row) (A : Around) (s : Shared) :
    ∀ j (h1 : j < vs.toArray.size) (h2 : j < vs'.toArray.size), EqAt A s vs.toArray[j] vs'.toArray[j] true := by
  intro j h1 h2
  have e1 : vs[j]? = some vs.toArray[j] := by simp
  have e2 : vs'[j]? = some vs'.toArray[j] := by simp
  obtain ⟨w, hw, t, ht⟩ := paired_get hv j _ e1
  obtain ⟨w', hw', t', ht'⟩ := paired_get hv' j _ e2
  rw [hw] at hw'
  cases hw'
  rw [ht, ht']
  have := eqBytes (A := A) (s := s) (wordL w).toArray (wordL w).toArray t t'
  rw [beq_self_eq_true] at this
  exact this
theorem row_eq {A : Around} {s : Shared} {r r' : Addr} {ws ws' : List Value} {row : List Nat} (hu : A.units < cLine) (hl : Lst s.heap r ws) (hl' : Lst s.heap r' ws') (hw : WordsAre ws row) (hw' : WordsAre ws' row) :
    EqAt A s (.ref r) (.ref r') true := by
  by_cases hr : r = r'
  · subst hr; exact EqAt.same _
  · have := RcAt.lists (A := A) (e := fun _ => true) hl.isList hl'.isList (by rw [List.size_toArray, List.size_toArray, hw.length, hw'.length]) hu (words_eq hw hw' A.in1 s)
    rw [all_true] at this
    exact EqAt.of_refs hr this
theorem rows_eq {prog : Program} {w : World} {A : Around} {s : Shared} {Q E : Value → Shared → Prop} {D D' : Addr} {rs rs' : List Value} {rows : List (List Nat)} (hu : A.units < cLine) (hu1 : A.in1.units < cLine)
    (hl : Lst s.heap D rs) (hl' : Lst s.heap D' rs') (hr : RowsAre s.heap rs rows) (hr' : RowsAre s.heap rs' rows) (h : Q (.bool true) s) :
    wpAny (model prog w) A (compareOp .Eq (.ref D) (.ref D')) Q E s := by
  refine eq_listAt (e := fun _ => true) hl.isList hl'.isList (by rw [List.size_toArray, List.size_toArray, hr.length, hr'.length]) hu ?_ (by rw [all_true]; exact h)
  intro j h1 h2
  have e1 : rs[j]? = some rs.toArray[j] := by simp
  have e2 : rs'[j]? = some rs'.toArray[j] := by simp
  obtain ⟨row, hw, r, ws, ht, hl₁, hw₁⟩ := paired_get hr j _ e1
  obtain ⟨row', hw', r', ws', ht', hl₂, hw₂⟩ := paired_get hr' j _ e2
  rw [hw] at hw'
  cases hw'
  rw [ht, ht']
  exact row_eq hu1 hl₁ hl₂ hw₁ hw₂
theorem rows_keeps {h h' : Heap} {rs : List Value} {rows : List (List Nat)} (k : ∀ b o, h.get? b = some o → h'.get? b = some o) (hr : RowsAre h rs rows) : RowsAre h' rs rows :=
  hr.mono fun _ _ ⟨r, ws, e, hl, hw⟩ => ⟨r, ws, e, hl.keeps fun o x => k _ o x, hw⟩
theorem drawn_ints {t₁ t₂ t₃ t₄ t₅ : Tok} {vs : List Value} {ns : List Int} (h : IntsAre vs ns) : IntsAre ([.int 8 t₁, .int 60 t₂, .int 148 t₃, .int 78 t₄, .int 3 t₅] ++ vs) ([8, 60, 148, 78, 3] ++ ns) :=
  IntsAre.append (.cons 8 _ (.cons 60 _ (.cons 148 _ (.cons 78 _ (.cons 3 _ .nil))))) h
theorem law_deep (env : Env) : (callerA.deeper env).depth + 40 < recursionLimit := by
  show callerA.depth + 1 + 40 < _
  decide +kernel
theorem law_units (env : Env) : (callerA.deeper env).units < cLine := by
  show callerA.units + _ < _
  decide +kernel
theorem law_units1 (env : Env) : (callerA.deeper env).in1.units < cLine := by
  show callerA.units + _ + _ < _
  decide +kernel
theorem one_frame {env : Env} {L : Addr} (hf : env.frame = some L) : [env].filterMap (·.frame) = [L] := by simp [hf]
theorem law_back {g h h' : Heap} {L : Addr} {m : Str → Option Value} {news : List (Addr × Obj)} {env : Env} (F : Fr g L h m) (N : News g L h news) (hf : env.frame = some L) (haf : After ([env].filterMap (·.frame)) h h') : Fr g L h' m ∧ News g L h' news := by
  rw [one_frame hf] at haf
  have up : ∀ b o, b ≠ L → h.get? b = some o → h'.get? b = some o := fun b o hb e => haf.exact_ b o (fun hm => hb (List.mem_singleton.mp hm)) e
  exact ⟨⟨haf.slots.ns F.ns, fun b o e => up b o (Nat.ne_of_lt (Nat.lt_of_lt_of_le (Heap.lt_size e) F.above)) (F.keep b o e), F.above⟩, fun p hp => ⟨up _ _ (N p hp).2.1 (N p hp).1, (N p hp).2⟩⟩
end Mine
end

section
open PySem PySem.W PyProof.Rows PySem.Calls

section
local macro_rules | `(tactic| walk_at "call ref") => `(tactic| refine Mine.Stop.out ?_)
local macro_rules | `(tactic| walk_at "binaryOp Add ref ref") => `(tactic| refine Mine.Stop.out ?_)
local macro_rules | `(tactic| walk_at "compareOp Eq ref ref") => `(tactic| refine Mine.Stop.out ?_)
set_option maxRecDepth 100000 in
set_option maxHeartbeats 8000000 in
theorem PySem.Challenge.cw_ij0001_01_holds : PySem.Challenge.rw_ij0001_01.Holds := by
  refine Mine.hd ?_
  k_go0
  all_goals try k_fold
  w_top on
  k_steps
  unfold Mine.Stop
  rename Fr _ _ _ _ => F
  rename News _ _ _ _ => N
  rename (Mine.hd.heap_39 _).In _ => KX
  rename Below callerA _ _ _ => K0
  rename Top Mine.hd.view_39 _ _ _ _ _ => TT
  rename IntsAre _ (List.take 8 _) => hI8
  have hl8 := hI8.length
  have hl8' := List.length_take_le 8 _ |> (Nat.le_trans (Nat.le_of_eq hI8.length) ·)
  have hsl := sizeLine_eq
  refine Mine.addOwn F N ⟨0, (N _ (.tail _ (.head _))).1⟩ ⟨0, (N _ (.head _)).1⟩ (by simp only [List.length_cons, List.length_nil]; omega) ?_
  intro D h₆ F₆ N₆ hD
  clear F N hD
  k_steps
  unfold Mine.Stop
  rename Fr _ _ _ _ => F
  rename News _ _ _ _ => N
  try dsimp only at *
  refine wpAny_noRaise (Mine.told_ (pushX K0 F rfl rfl) KX TT (Mine.law_deep _) rfl ⟨0, (N _ (.head _)).1⟩ (by rw [Mine.one_frame rfl]; exact fun hm => (N _ (.head _)).2.1 (List.mem_singleton.mp hm)) (Mine.drawn_ints hI8) ?_ ?_)
  · simp only [List.length_append, List.length_cons, List.length_nil]; omega
  intro D₁ h₇ tk₇ rs hD₁ hl₁ hr₁ haf
  try dsimp only at hD₁ hl₁ hr₁ haf
  obtain ⟨F₇, N₇⟩ := Mine.law_back F N rfl haf
  clear F N haf
  k_steps
  unfold Mine.Stop
  rename Fr _ _ _ _ => F
  rename News _ _ _ _ => N
  try dsimp only at *
  refine wpAny_noRaise (Mine.due_ (ns := [8, 60, 148, 78, 3] ++ List.take 8 _) ⟨KX.keeps F.keep, TT.keeps F.keep, _, _, pushX K0 F rfl rfl⟩ (Mine.law_deep _) rfl ⟨0, (N _ (.head _)).1⟩ (Mine.drawn_ints hI8) ?_ ?_)
  · simp only [List.length_append, List.length_cons, List.length_nil]; omega
  intro D₂ h₈ tk₈ rs₂ hl₂ hr₂ hk₈
  try dsimp only at hl₂ hr₂ hk₈
  have F₈ := F.keeps hk₈
  have N₈ := N.grown hk₈
  have hl₁' := hl₁.keeps fun o e => hk₈ _ o e
  have hr₁' := Mine.rows_keeps hk₈ hr₁
  clear F N hk₈ hl₁ hr₁
  k_steps
  try unfold Mine.Stop
  try dsimp only at *
  refine Mine.rows_eq (Mine.law_units _) (Mine.law_units1 _) hl₁' hl₂ hr₁' hr₂ ?_
  clear hl₁' hl₂ hr₁' hr₂
  k_steps
end
end
