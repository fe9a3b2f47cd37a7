import PyProof.Rows.All
import Wide.All
import OpenK.AllK
import Wide.FinOn
import KE.KLcPair
import PySem.Challenge.RW_hi0003_01
open PySem PySem.W PyProof.Rows
set_option Elab.async false
namespace Mine
set_option maxRecDepth 100000 in
set_option maxHeartbeats 8000000 in
open_top hd for PySem.Challenge.rw_hi0003_01
section
open PySem.Calls
abbrev T4 (x0 x1 x2 x3 : Int) (t0 t1 t2 t3 : Tok) : Obj := { cls := .type "tuple", data := .seq #[.int x0 t0, .int x1 t1, .int x2 t2, .int x3 t3] }

abbrev Ret4 (h₀ : Heap) (L : Addr) (m : Str → Option Value) (news : List (Addr × Obj)) (s : Shared) (Q : Value → Shared → Prop) (y0 y1 y2 y3 : Int) : Prop :=
  ∀ (D : Addr) (t0 t1 t2 t3 : Tok) (h' : Heap) (tk' : Nat), Fr h₀ L h' m → News h₀ L h' ((D, T4 y0 y1 y2 y3 t0 t1 t2 t3) :: news) → (∀ p ∈ news, p.1 < D) → Q (.ref D) { s with heap := h', toks := tk' }

/-- f, called with vs, gives what `ret` takes -/
def Con (n : Nat) (w : World) (f : Addr) (vs : List Value) (news : List (Addr × Obj)) (R : Heap → Addr → (Str → Option Value) → Shared → (Value → Shared → Prop) → Prop) : Prop :=
  ∀ (loose : List Str) (mean : ExcName → Option Value) (mg mb : Str → Option Value) (dp un : Nat) (gd : Option (List Code)) (cn : Str) (cs : Scope) (a : Addr) (ccd : Value) (cl : List (Str × Addr)) (outer : List Env) (A₀ : Around) (base h₀ : Heap) (L : Addr) (m : Str → Option Value) (s : Shared)
    (Q E : Value → Shared → Prop),
    Below A₀ base outer h₀ → Fr h₀ L s.heap m → (hd.heap_39 w.params).In h₀ → News h₀ L s.heap news → Top topProg loose mean mg mb h₀ → cs.kind = .function → dp + 20 * n < recursionLimit → un + 400 * n < cLine →
    R h₀ L m s Q →
    wpAny (model PySem.Challenge.rw_hi0003_01.row.prog w) (ktrTop dp un gd cn cs L a ccd cl outer) (call (.ref f) vs) Q E s

theorem ret4 {h₀ h' : Heap} {L D : Addr} {m : Str → Option Value} {news led : List (Addr × Obj)} {s : Shared} {Q : Value → Shared → Prop} {x0 x1 x2 x3 y0 y1 y2 y3 : Int} {t0 t1 t2 t3 : Tok} {tk' : Nat}
    (hret : Ret4 h₀ L m news s Q y0 y1 y2 y3) (F : Fr h₀ L h' m) (N : News h₀ L h' led) (hm : (D, T4 x0 x1 x2 x3 t0 t1 t2 t3) ∈ led) (e0 : x0 = y0) (e1 : x1 = y1) (e2 : x2 = y2) (e3 : x3 = y3)
    (hs : ∀ p ∈ news, p ∈ led) (hl : ∀ p ∈ news, p.1 < D) : Q (.ref D) { s with heap := h', toks := tk' } := by
  subst e0 e1 e2 e3
  exact hret D t0 t1 t2 t3 h' tk' F (fun p hp => (List.mem_cons.mp hp).elim (fun e => e ▸ N _ hm) fun h => N p (hs p h)) hl




section slice
variable {prog : Program} {w : World} {A : Around} {E : Value → Shared → Prop} {s : Shared} {h₀ : Heap} {L : Addr} {m : Str → Option Value} {news : List (Addr × Obj)}

theorem applied4 {sl : Addr} {u : Tok} {Q : Int × Int × Nat → Shared → Prop} (hs : s.heap.IsSliceOf sl .none (.int 4 u) .none) (h : Q (0, 1, 4) s) :
    wpAny (model prog w) A (Builtin.Slice.sliceApplied (.ref sl) (pure (5 : Int))) Q E s := by
  obtain ⟨os, hos, hcs, hds⟩ := id hs
  unfold Builtin.Slice.sliceApplied Builtin.Slice.sliceFields
  refine wpAny_bind (wpAny_bind (wpAny_field hos hds (x := .none) rfl (wpAny_bind (wpAny_field hos hds (x := .int 4 u) rfl (wpAny_bind (wpAny_field hos hds (x := .none) rfl (wpAny_pure ?_)))))))
  refine wpAny_bind (slicePart_none ?_)
  show wpAny _ _ (if ((1 : Int) == 0) = true then _ else _) _ _ s
  rw [if_neg (by decide)]
  refine wpAny_bind (slicePart_none (wpAny_bind (slicePart_int (wpAny_bind (wpAny_pure ?_)))))
  exact wpAny_pure h

theorem getItem5 {t sl : Addr} {v0 v1 v2 v3 v4 : Value} {u : Tok} {Q : Value → Shared → Prop} (ht : IsTup s.heap t #[v0, v1, v2, v3, v4]) (hs : s.heap.IsSliceOf sl .none (.int 4 u) .none)
    (h : Q (.ref s.heap.objs.size) { s with heap := s.heap.push { cls := .type "tuple", data := .seq #[v0, v1, v2, v3] } }) : wpAny (model prog w) A (getItem (.ref t) (.ref sl)) Q E s := by
  have hcut : sizeOk (.seq #[v0, v1, v2, v3]) := by
    exact Nat.le_of_ble_eq_true rfl
  obtain ⟨os, hos, hcs, hds⟩ := id hs
  have hTs : s.TypeIs (.ref sl) "slice" := ⟨os, hos, hcs⟩
  unfold getItem
  try with_reducible refine wpAny_holding ?_
  first | refine wpAny_bind (wpAny_pure ?_) | skip
  refine wpAny_bind (wpAny_sequenceKey ht.typeIs (by decide) ?_)
  refine wpAny_bind (wpAny_callSpecial?_slot (name := Str.ofString "__getitem__") ht.typeIs slot_tuple_getitem
    (wpAny_call_entry slot_tuple_getitem ht.typeIs entry_tuple_getitem ?_ (args_tuple_getitem _ _)))
  show wpAny _ _ (Builtin.Tuple.tupleItemsOf (.ref t) >>= _) _ _ s
  refine wpAny_bind (tupleItemsOf_ ht ?_)
  refine wpAny_bind (wpAny_typeOf hTs ?_)
  rw [if_pos (by decide)]
  refine wpAny_bind (applied4 hs ?_)
  show wpAny _ _ (if (((0 : Int) == 0 && (1 : Int) == 1 && (4 : Nat) == (5 : Nat)) = true) then _ else _) _ _ s
  rw [if_neg (by decide)]
  first
    | exact wpAny_bind (m := Builtin.Tuple.tupleExact _) (wpAny_newObj_type (wpAny_pure ⟨_, rfl, wpAny_pure h⟩) hcut)
    | exact wpAny_bind (m := Builtin.Tuple.tupleExact _) (wpAny_newObj_type (wpAny_bind (wpAny_pure (wpAny_pure ⟨_, rfl, wpAny_pure h⟩))) hcut)
    | exact wpAny_bind (wpAny_bind (m := Builtin.Tuple.tupleExact _) (wpAny_newObj_type (wpAny_pure (wpAny_pure ⟨_, rfl, wpAny_pure h⟩)) hcut))
    | exact wpAny_bind (wpAny_bind (m := Builtin.Tuple.tupleExact _) (wpAny_newObj_type (wpAny_pure ⟨_, rfl, wpAny_pure h⟩) hcut))

theorem slice5 {value slice : Expr} {t : Addr} {v0 v1 v2 v3 v4 : Value} {u : Tok} {Q : Value → Shared → Prop}
    (F : Fr h₀ L s.heap m) (N : News h₀ L s.heap news) (ht : IsTup s.heap t #[v0, v1, v2, v3, v4])
    (h : ∀ D h', Fr h₀ L h' m → News h₀ L h' ((D, { cls := .type "tuple", data := .seq #[v0, v1, v2, v3] }) :: news) → (∀ p ∈ news, p.1 < D) → Q (.ref D) { s with heap := h' })
    (hs : subscripted slice false (.ref t) (.ref s.heap.objs.size) = operate [.ref s.heap.objs.size, .ref t] (getItem (.ref t) (.ref s.heap.objs.size)))
    (hg : ∀ r, letTemporaryGo value (.ref t) r = pure ()) :
    wpAny (model prog w) A (subscriptTail value slice (.ref t) (.ref s.heap.objs.size)) Q E { s with heap := s.heap.push { cls := .type "slice", data := .fields #[.none, .int 4 u, .none] } } := by
  have ht' : IsTup (s.heap.push { cls := .type "slice", data := .fields #[.none, .int 4 u, .none] }) t #[v0, v1, v2, v3, v4] := ht.keeps fun _ _ e => Heap.get?_push_of_some _ e
  refine subscriptTail_ops (s := { s with heap := s.heap.push { cls := .type "slice", data := .fields #[.none, .int 4 u, .none] } }) ht'.typeIs slot_tuple_getitem.lookup
    (getItem5 ht' (Heap.IsSliceOf.new ..) ?_) hs hg
  have N1 := News.push (F.push { cls := .type "slice", data := .fields #[.none, .int 4 u, .none] }) (N.grown fun _ _ e => Heap.get?_push_of_some _ e) { cls := .type "tuple", data := .seq #[v0, v1, v2, v3] }
  exact h _ _ ((F.push _).push _) N1 fun p hp => by
    have := Heap.lt_size (N p hp).1
    show p.1 < (s.heap.push _).objs.size
    rw [Heap.size_push]; exact Nat.lt_succ_of_lt this
end slice




section comp
open LCg
variable {prog : Program} {w : World} {A : Around} {E : Value → Shared → Prop} {s : Shared} {h₀ : Heap} {L : Addr} {m : Str → Option Value} {env : Env}

/-- a made tuple's items -/
def TupIn (ax : Addr) (its : Array Value) (news : List (Addr × Obj)) : Prop := ∃ o, (ax, o) ∈ news ∧ o.cls = .type "tuple" ∧ ∃ n, o.data = .seq its n

def TupSrc (prog : Program) (w : World) (A : Around) (h₀ : Heap) (L : Addr) (m : Str → Option Value) (env : Env) (elt : Expr) (x : Str) (scope : Scope) (cl : List (Str × Addr)) (Fin : Shared → List Value → List (Addr × Obj) → Prop) (xv : Value) (s₁ : Shared) : Prop :=
  ∃ ax its news, xv = .ref ax ∧ A.handled = none ∧ Fr h₀ L s₁.heap m ∧ News h₀ L s₁.heap news ∧ TupIn ax its news ∧ its.size ≤ sizeLine ∧
    ∀ s₂ : Shared, (∃ h, s₂ = { s₁ with heap := h }) → CompRest prog w A h₀ L m env elt x scope cl s₂ (TupIn ax its) (fun i v => its[i]? = some v) (Fin s₂) its.size 0 [] news

theorem TupSrc.made {elt : Expr} {x : Str} {scope : Scope} {cl : List (Str × Addr)} {Fin : Shared → List Value → List (Addr × Obj) → Prop} {ax : Addr} {its : Array Value} {k : Nat} {news : List (Addr × Obj)} {s₁ : Shared}
    (hh : A.handled = none) (F : Fr h₀ L s₁.heap m) (N : News h₀ L s₁.heap news) (hm : (ax, ({ cls := .type "tuple", data := .seq its k } : Obj)) ∈ news) (hsz : its.size ≤ sizeLine)
    (h : ∀ g, CompRest prog w A h₀ L m env elt x scope cl { s₁ with heap := g } (TupIn ax its) (fun i v => its[i]? = some v) (Fin { s₁ with heap := g }) its.size 0 [] news) :
    TupSrc prog w A h₀ L m env elt x scope cl Fin (.ref ax) s₁ := ⟨ax, its, news, rfl, hh, F, N, ⟨_, hm, rfl, _, rfl⟩, hsz, fun _ ⟨g, e⟩ => e ▸ h g⟩

theorem ListComp_Tup {elt iter : Expr} {x : Str} {px : Pos} {scope : Scope} {cl : List (Str × Addr)} {pos : Pos} {Q : Value → Shared → Prop} (_F₀ : Fr h₀ L s.heap m)
    (hclos : closureFor scope env = pure cl) (hcell : ∀ y ∈ scope.names, y.2 ≠ .cell) (hkind : scope.kind = .function)
    (hnames : ∀ y ∈ scope.names, y.2 = .local → scope.names.lookup y.1 = some .local) (hx : scope.names.lookup x = some .local)
    (h : wpAny (model prog w) A (eval iter env) (TupSrc prog w A h₀ L m env elt x scope cl (fun s₂ => FinE h₀ L m s₂ Q)) E s)
    (hs : ∀ x, foldedSetIterable iter env x = pure x := by intro _; rfl) :
    wpAny (model prog w) A (eval (.ListComp elt [⟨.Name x px, iter, [], 0⟩] scope pos) env) Q E s := by
  rw [eval_ListComp]
  refine wpAny_comprehension_free (use := none) rfl hs hclos hkind hnames (wpAny_mono h (fun xv s₁ h₁ => ?_) fun _ _ e => e)
  obtain ⟨ax, its, news, rfl, hh, F, N, S, hsz, R⟩ := h₁
  have hl : s₁.heap.IsTuple ax its := by obtain ⟨o, hm, r⟩ := S; exact ⟨o, (N _ hm).1, r⟩
  have hlt : ax < s₁.heap.objs.size := by obtain ⟨_, e, _⟩ := hl; exact Heap.lt_size e
  refine wpAny_pyIter_tuple hl ?_
  have up : ∀ b o, s₁.heap.get? b = some o → (s₁.heap.push { cls := .type "tuple_iterator", data := .fields #[.ref ax, .int 0 0] }).get? b = some o := fun b o e => Heap.get?_push_of_some _ e
  refine block_U (Walks.tuple hh s₁.heap.objs.size ax (Nat.ne_of_lt hlt) its) hsz (fun i h st => by obtain ⟨o, e, _⟩ := st.1; exact ⟨o, e⟩) (S := TupIn ax its) ?_ hcell hkind hx ⟨⟨_, Heap.get?_push_size _ rfl, rfl, rfl⟩, hl.push _⟩ (fun b hb => ?_)
    (F.keeps up) (N.grown up) (Nat.ne_of_lt F.ns.lt) (next_is_new F) (fun p hp => Nat.ne_of_lt (Heap.lt_size (N p hp).1)) S (R _ ⟨_, rfl⟩) ?_
  · intro i h h' o nw st e e' _ N' S'
    refine ⟨?_, ?_⟩
    · obtain ⟨o', q, r⟩ := st.1
      rw [e] at q; cases q
      exact ⟨o, e', r⟩
    · obtain ⟨o', hm, r⟩ := S'
      exact ⟨o', (N' _ hm).1, r⟩
  · show b < (s₁.heap.push _).objs.size
    rw [Heap.size_push]
    rcases List.mem_cons.mp hb with rfl | hb
    · exact Nat.lt_succ_self _
    · rw [List.mem_singleton.mp hb]; exact Nat.lt_succ_of_lt hlt
  · intro D C h tk m' ys news' F' N' o1 hn hC₀ hD₀ hCL hDL hCD offC fin
    refine ⟨m', hn, fun h'' hs'' => fin D h'' tk (F'.change hs'' hCL hC₀) (fun p hp => ?_) o1⟩
    refine ⟨hs''.extBut _ _ ?_ (N' p hp).1, (N' p hp).2⟩
    rcases List.mem_cons.mp hp with rfl | hp
    · exact Ne.symm hCD
    · exact offC p hp
end comp





theorem Con.use {n : Nat} {w : World} {f : Addr} {vs : List Value} {news : List (Addr × Obj)} {R : Heap → Addr → (Str → Option Value) → Shared → (Value → Shared → Prop) → Prop} (C : Con n w f vs news R)
    {loose : List Str} {mean : ExcName → Option Value} {mg mb : Str → Option Value} {dp un : Nat} {gd : Option (List Code)} {cn : Str} {cs : Scope} {a : Addr} {ccd : Value} {cl : List (Str × Addr)} {outer : List Env} {A₀ : Around} {base h₀ : Heap} {L : Addr} {m : Str → Option Value} {s : Shared}
    {Q E : Value → Shared → Prop}
    (B : Below A₀ base outer h₀) (F : Fr h₀ L s.heap m) (X : (hd.heap_39 w.params).In h₀) (N : News h₀ L s.heap news) (T : Top topProg loose mean mg mb h₀) (hk : cs.kind = .function) (h1 : dp + 20 * n < recursionLimit) (h2 : un + 400 * n < cLine)
    (r : R h₀ L m s Q) :
    wpAny (model PySem.Challenge.rw_hi0003_01.row.prog w) (ktrTop dp un gd cn cs L a ccd cl outer) (call (.ref f) vs) Q E s := C _ _ _ _ _ _ _ _ _ _ _ _ _ _ _ _ _ _ _ _ _ B F X N T hk h1 h2 r
abbrev T2 (q r : Int) (t u : Tok) : Obj := { cls := .type "tuple", data := .seq #[.int q t, .int r u] }

abbrev Ret2 (h₀ : Heap) (L : Addr) (m : Str → Option Value) (news : List (Addr × Obj)) (s : Shared) (Q : Value → Shared → Prop) (q r : Int) : Prop :=
  ∀ (D : Addr) (t u : Tok) (h' : Heap) (tk' : Nat), Fr h₀ L h' m → News h₀ L h' ((D, T2 q r t u) :: news) → (∀ p ∈ news, p.1 < D) → Q (.ref D) { s with heap := h', toks := tk' }

theorem ret2 {h₀ h' : Heap} {L D : Addr} {m : Str → Option Value} {news led : List (Addr × Obj)} {s : Shared} {Q : Value → Shared → Prop} {x0 x1 y0 y1 : Int} {t0 t1 : Tok} {tk' : Nat}
    (hret : Ret2 h₀ L m news s Q y0 y1) (F : Fr h₀ L h' m) (N : News h₀ L h' led) (hm : (D, T2 x0 x1 t0 t1) ∈ led) (e0 : x0 = y0) (e1 : x1 = y1)
    (hs : ∀ p ∈ news, p ∈ led) (hl : ∀ p ∈ news, p.1 < D) : Q (.ref D) { s with heap := h', toks := tk' } := by
  subst e0 e1
  exact hret D t0 t1 h' tk' F (fun p hp => (List.mem_cons.mp hp).elim (fun e => e ▸ N _ hm) fun h => N p (hs p h)) hl

section
variable {prog : Program} {w : World} {A : Around} {E : Value → Shared → Prop} {s : Shared} {a b c n : Int} {t u : Tok} {Q : Value → Shared → Prop}
theorem floordiv_is (hb : b ≠ 0) (e : a.fdiv b = c) (hp : Builtin.divisionGoesByPylong a b = false) (h : Q (.int c s.toks) { s with toks := s.toks + 1 }) :
    wpAny (model prog w) A (binaryOp .FloorDiv (.int a t) (.int b u)) Q E s := floordiv_int hb (e.symm ▸ h) (Or.inl hp)
theorem rshift_is (hn : 0 ≤ n) (e : a.fdiv (2 ^ n.toNat) = c) (h : Q (.int c s.toks) { s with toks := s.toks + 1 }) :
    wpAny (model prog w) A (binaryOp .RShift (.int a t) (.int n u)) Q E s := rshift_int hn (e.symm ▸ h)
theorem lshift_is (hn : 0 ≤ n) (hn2 : n ≤ 1000000) (ha : a.natAbs < 2 ^ 64) (e : a * 2 ^ n.toNat = c) (h : Q (.int c s.toks) { s with toks := s.toks + 1 }) :
    wpAny (model prog w) A (binaryOp .LShift (.int a t) (.int n u)) Q E s := lshift_int_small hn hn2 ha (e.symm ▸ h)
theorem xor_is (e : Builtin.bitXor a b = c) (h : Q (.int c s.toks) { s with toks := s.toks + 1 }) :
    wpAny (model prog w) A (binaryOp .BitXor (.int a t) (.int b u)) Q E s := xor_int (e.symm ▸ h)
end

/-- as Con, where the two nested defs' code records stand -/
def ConD (n : Nat) (w : World) (f : Addr) (vs : List Value) (news : List (Addr × Obj)) (R : Heap → Addr → (Str → Option Value) → Shared → (Value → Shared → Prop) → Prop) : Prop :=
  ∀ (loose : List Str) (mean : ExcName → Option Value) (mg mb : Str → Option Value) (dp un : Nat) (gd : Option (List Code)) (cn : Str) (cs : Scope) (a : Addr) (ccd : Value) (cl : List (Str × Addr)) (outer : List Env) (A₀ : Around) (base h₀ : Heap) (L : Addr) (m : Str → Option Value) (s : Shared)
    (Q E : Value → Shared → Prop),
    Below A₀ base outer h₀ → Fr h₀ L s.heap m → (hd.heap_39 w.params).In h₀ → News h₀ L s.heap news → Top topProg loose mean mg mb h₀ → cs.kind = .function → dp + 20 * n < recursionLimit → un + 400 * n < cLine → CodeHd base 48 44 → CodeHd base 55 51 →
    R h₀ L m s Q →
    wpAny (model PySem.Challenge.rw_hi0003_01.row.prog w) (ktrTop dp un gd cn cs L a ccd cl outer) (call (.ref f) vs) Q E s

theorem ConD.use {n : Nat} {w : World} {f : Addr} {vs : List Value} {news : List (Addr × Obj)} {R : Heap → Addr → (Str → Option Value) → Shared → (Value → Shared → Prop) → Prop} (C : ConD n w f vs news R)
    {loose : List Str} {mean : ExcName → Option Value} {mg mb : Str → Option Value} {dp un : Nat} {gd : Option (List Code)} {cn : Str} {cs : Scope} {a : Addr} {ccd : Value} {cl : List (Str × Addr)} {outer : List Env} {A₀ : Around} {base h₀ : Heap} {L : Addr} {m : Str → Option Value} {s : Shared}
    {Q E : Value → Shared → Prop}
    (B : Below A₀ base outer h₀) (F : Fr h₀ L s.heap m) (X : (hd.heap_39 w.params).In h₀) (N : News h₀ L s.heap news) (T : Top topProg loose mean mg mb h₀) (hk : cs.kind = .function) (h1 : dp + 20 * n < recursionLimit) (h2 : un + 400 * n < cLine) (h3 : CodeHd base 48 44) (h4 : CodeHd base 55 51)
    (r : R h₀ L m s Q) :
    wpAny (model PySem.Challenge.rw_hi0003_01.row.prog w) (ktrTop dp un gd cn cs L a ccd cl outer) (call (.ref f) vs) Q E s := C _ _ _ _ _ _ _ _ _ _ _ _ _ _ _ _ _ _ _ _ _ B F X N T hk h1 h2 h3 h4 r

theorem below_ne {news : List (Addr × Obj)} {L c : Addr} (h : ∀ p ∈ news, p.1 < L) (e : @LE.le Nat _ L c) : ∀ p ∈ news, p.1 ≠ c := fun p hp => Nat.ne_of_lt (Nat.lt_of_lt_of_le (h p hp) e)
theorem above_ne {news : List (Addr × Obj)} {L c : Addr} (h : AllLt L news) (e : @LE.le Nat _ L c) : ∀ p ∈ news, p.1 ≠ c := below_ne (ktn_ltOf h) e

/-- the table of a def's nested def: not yet run, or run once -/
inductive TabSt (P : Addr) (l c : Nat) (q : Str) : List (Addr × Obj) → Prop
  | fresh : TabSt P l c q [(P, tabObj #[])]
  | used {c' : Addr} {oc : Obj} {vs : Array Value} {t : Tok} : oc.data = .fields vs → vs[1]? = some (.str q t) → TabSt P l c q [(c', oc), (P, tabObj (#[] ++ #[rawInt l, rawInt c, .ref c']))]

/-- the code record that stands in the table behind the call: a new one, or the one that stood -/
inductive TabOut (P : Addr) (l c : Nat) : List (Addr × Obj) → List (Addr × Obj) → Addr → Obj → Prop
  | fresh {rest : List (Addr × Obj)} {c' : Addr} {oc : Obj} : (∀ p ∈ (P, tabObj #[]) :: rest, p.1 < c') → TabOut P l c [(P, tabObj #[])] rest c' oc
  | used {rest : List (Addr × Obj)} {c' : Addr} {oc : Obj} : TabOut P l c [(c', oc), (P, tabObj (#[] ++ #[rawInt l, rawInt c, .ref c']))] rest c' oc
theorem TabOut.less {P : Addr} {l c : Nat} {tabs rest rest' : List (Addr × Obj)} {c' : Addr} {oc : Obj} (h : TabOut P l c tabs rest c' oc) (k : ∀ p ∈ rest', p ∈ rest) : TabOut P l c tabs rest' c' oc := by
  cases h with
  | fresh h => exact .fresh fun p hp => (List.mem_cons.mp hp).elim (fun e => h p (e ▸ .head _)) fun e => h p (.tail _ (k p e))
  | used => exact .used

inductive SplitAt : List (Addr × Obj) → List (Addr × Obj) → List (Addr × Obj) → Prop
  | here {r} : SplitAt r [] r
  | next {p l pre r} : SplitAt l pre r → SplitAt (p :: l) (p :: pre) r
theorem SplitAt.eq {l pre r : List (Addr × Obj)} (h : SplitAt l pre r) : l = pre ++ r := by
  induction h with
  | here => rfl
  | next _ ih => rw [ih]; rfl

theorem updF_app {P : Addr} {o : Obj} {rest : List (Addr × Obj)} (h2 : ∀ p ∈ rest, p.1 ≠ P) : ∀ {pre : List (Addr × Obj)}, (∀ p ∈ pre, p.1 ≠ P) → UpdF P o (pre ++ (P, o) :: rest) (fun o' => pre ++ (P, o') :: rest)
  | [], _ => .head h2
  | _ :: _, h => .tail (h _ (.head _)) (updF_app h2 fun q hq => h q (.tail _ hq))

theorem off1_of {d : Addr} : ∀ {l : List (Addr × Obj)}, (∀ p ∈ l, p.1 ≠ d) → LCg.Off1 d l
  | [], _ => trivial
  | _ :: _, h => ⟨h _ (.head _), off1_of fun q hq => h q (.tail _ hq)⟩

section
variable {M : Model} {A : Around} {E : Value → Shared → Prop} {s : Shared} {h₀ : Heap} {L a c P : Addr} {m mg mb : Str → Option Value} {cn : Str} {cs : Scope} {ccd : Value} {cl : List (Str × Addr)}
  {p : Program} {loose : List Str} {mean : ExcName → Option Value} {name qual q : Str} {params : Arguments} {body : List Stmt} {scope : Scope} {pos : Pos} {firstLine : Nat} {clos : List (Str × Addr)} {led pre tabs rest : List (Addr × Obj)}

theorem def_K {Q : Value → Shared → Prop} (F : Fr h₀ L s.heap m) (N : News h₀ L s.heap led) (T : Top p loose mean mg mb h₀) (C : CodeHd h₀ c P) (hcd : ccd = .ref c)
    (hT : TabSt P pos.line pos.col q tabs) (hS : SplitAt led pre (tabs ++ rest)) (eq : qual = q) (h1 : ∀ p ∈ pre, p.1 ≠ P) (h2 : ∀ p ∈ rest, p.1 ≠ P) (h3 : ∀ x ∈ pre, ∀ y ∈ tabs, x.1 ≠ y.1)
    (hcl : closureFor scope (envX cn cs L a ccd cl) = pure clos)
    (h : ∀ f c' oc vs t ctv doc h' tk, Fr h₀ L h' m →
      News h₀ L h' ((f, fnMade name qual params body scope clos doc ((mg "__name__").getD .none) c' ctv) :: (c', oc) :: (P, tabObj (#[] ++ #[rawInt pos.line, rawInt pos.col, .ref c'])) :: (pre ++ rest)) →
      oc.data = .fields vs → vs[1]? = some (.str q t) → (∀ x ∈ pre ++ rest, x.1 < f) → LCg.Off1 c' pre → (@LT.lt Nat _ P f ∧ @Ne Nat c' P) → TabOut P pos.line pos.col tabs rest c' oc → Q (.ref f) { s with heap := h', toks := tk }) :
    wpAny M A (makeFunction name qual params (.stmts body) scope (envX cn cs L a ccd cl) [] [] [] pos firstLine) Q E s := by
  subst eq
  obtain rfl := hS.eq
  cases hT with
  | fresh =>
    have hP : (P, tabObj #[]) ∈ pre ++ ([(P, tabObj #[])] ++ rest) := List.mem_append_right _ (.head _)
    refine nest_K F N T C hcd (updF_app (rest := rest) h2 h1) trivial rfl hcl fun f c' oc vs t ctv doc h' tk F' N' hd hv l1 l2 => ?_
    refine h f c' oc vs t ctv doc h' tk F' (fun p hp => N' p ?_) hd hv (fun x hx => ?_) (off1_of fun x hx => ?_) ⟨?_, ?_⟩ ?_
    · rcases List.mem_cons.mp hp with rfl | hp
      · exact .head _
      rcases List.mem_cons.mp hp with rfl | hp
      · exact .tail _ (.head _)
      rcases List.mem_cons.mp hp with rfl | hp
      · exact .tail _ (.tail _ (List.mem_append_right _ (.head _)))
      rcases List.mem_append.mp hp with hp | hp
      · exact .tail _ (.tail _ (List.mem_append_left _ hp))
      · exact .tail _ (.tail _ (List.mem_append_right _ (.tail _ hp)))
    · refine Nat.lt_trans (l1 x ?_) l2
      rcases List.mem_append.mp hx with hx | hx
      · exact List.mem_append_left _ hx
      · exact List.mem_append_right _ (.tail _ hx)
    · exact Nat.ne_of_lt (l1 x (List.mem_append_left _ hx))
    · exact Nat.lt_trans (l1 _ hP) l2
    · exact Nat.ne_of_gt (l1 _ hP)
    · exact .fresh fun p hp => l1 p (List.mem_append_right _ hp)
  | @used c' oc vs t hd hv =>
    have hP : (P, tabObj (#[] ++ #[rawInt pos.line, rawInt pos.col, .ref c'])) ∈ pre ++ ([(c', oc), (P, tabObj (#[] ++ #[rawInt pos.line, rawInt pos.col, .ref c']))] ++ rest) := List.mem_append_right _ (.tail _ (.head _))
    have hc : (c', oc) ∈ pre ++ ([(c', oc), (P, tabObj (#[] ++ #[rawInt pos.line, rawInt pos.col, .ref c']))] ++ rest) := List.mem_append_right _ (.head _)
    refine nestHit_K (c' := c') F N T C hcd hP (by simp [TriplesOk, rawInt]) (by simp [codeAmong, rawInt]) hcl fun f ctv doc h' tk F' N' l1 => ?_
    refine h f c' oc vs t ctv doc h' tk F' (fun p hp => N' p ?_) hd hv (fun x hx => ?_) (off1_of fun x hx => ?_) ⟨l1 _ hP, ?_⟩ .used
    · rcases List.mem_cons.mp hp with rfl | hp
      · exact .head _
      rcases List.mem_cons.mp hp with rfl | hp
      · exact .tail _ hc
      rcases List.mem_cons.mp hp with rfl | hp
      · exact .tail _ hP
      rcases List.mem_append.mp hp with hp | hp
      · exact .tail _ (List.mem_append_left _ hp)
      · exact .tail _ (List.mem_append_right _ (.tail _ (.tail _ hp)))
    · refine l1 x ?_
      rcases List.mem_append.mp hx with hx | hx
      · exact List.mem_append_left _ hx
      · exact List.mem_append_right _ (.tail _ (.tail _ hx))
    · exact h3 x hx _ (.head _)
    · rintro rfl
      have e1 := (N _ hc).1
      have e2 := (N _ hP).1
      rw [e1] at e2
      have e3 := Option.some.inj e2
      subst e3
      rw [show (tabObj (#[] ++ #[rawInt pos.line, rawInt pos.col, .ref c'])).data = .fields (#[] ++ #[rawInt pos.line, rawInt pos.col, .ref c']) from rfl] at hd
      injection hd with hd
      subst hd
      simp [rawInt] at hv
end

theorem codeRec_is {h₀ h : Heap} {L c : Addr} {oc : Obj} {vs : Array Value} {qual q : Str} {t : Tok} {news : List (Addr × Obj)} (N : News h₀ L h news) (hm : (c, oc) ∈ news) (hd : oc.data = .fields vs) (hv : vs[1]? = some (.str q t)) (e : qual = q) : h.CodeRec (.ref c) qual :=
  codeRec_news N hm hd (e ▸ hv)

theorem below_neR {tabs rest : List (Addr × Obj)} {L c : Addr} (h : ∀ p ∈ tabs ++ rest, p.1 < L) (e : @LE.le Nat _ L c) : ∀ p ∈ rest, p.1 ≠ c := below_ne (fun p hp => h p (List.mem_append_right _ hp)) e
theorem above_neR {tabs rest : List (Addr × Obj)} {L c : Addr} (h : AllLt L (tabs ++ rest)) (e : @LE.le Nat _ L c) : ∀ p ∈ rest, p.1 ≠ c := below_neR (ktn_ltOf h) e
theorem apart_of {tabs rest pre : List (Addr × Obj)} {L : Addr} (h : ∀ p ∈ tabs ++ rest, p.1 < L) (k : ∀ x ∈ pre, @LE.le Nat _ L x.1) : ∀ x ∈ pre, ∀ y ∈ tabs, x.1 ≠ y.1 :=
  fun x hx y hy => Nat.ne_of_gt (Nat.lt_of_lt_of_le (h y (List.mem_append_left _ hy)) (k x hx))

abbrev q49 : Str := Str.ofString "_int2digits.<locals>.inner"
abbrev q56 : Str := Str.ofString "_digits2int.<locals>.inner"

abbrev tabUsed (l c : Nat) (c' : Addr) : Obj := tabObj (#[] ++ #[rawInt l, rawInt c, .ref c'])

/-- an object comes back, the nested def's table has been used -/
abbrev RetO (P : Addr) (l c : Nat) (q : Str) (tabs : List (Addr × Obj)) (h₀ : Heap) (L : Addr) (m : Str → Option Value) (rest : List (Addr × Obj)) (s : Shared) (Q : Value → Shared → Prop) (O : Obj → Prop) : Prop :=
  ∀ (D : Addr) (o : Obj) (c' : Addr) (oc : Obj) (vs : Array Value) (t : Tok) (h' : Heap) (tk' : Nat), O o → Fr h₀ L h' m → News h₀ L h' ((D, o) :: (c', oc) :: (P, tabUsed l c c') :: rest) → oc.data = .fields vs → vs[1]? = some (.str q t) → TabOut P l c tabs rest c' oc → (∀ p ∈ tabs ++ rest, p.1 < D) → Q (.ref D) { s with heap := h', toks := tk' }
abbrev RetV (P : Addr) (l c : Nat) (q : Str) (tabs : List (Addr × Obj)) (h₀ : Heap) (L : Addr) (m : Str → Option Value) (rest : List (Addr × Obj)) (s : Shared) (Q : Value → Shared → Prop) (V : Value → Prop) : Prop :=
  ∀ (v : Value) (c' : Addr) (oc : Obj) (vs : Array Value) (t : Tok) (h' : Heap) (tk' : Nat), V v → Fr h₀ L h' m → News h₀ L h' ((c', oc) :: (P, tabUsed l c c') :: rest) → oc.data = .fields vs → vs[1]? = some (.str q t) → TabOut P l c tabs rest c' oc → Q v { s with heap := h', toks := tk' }

theorem retO {P : Addr} {l c : Nat} {q : Str} {h₀ h' : Heap} {L D c' : Addr} {m : Str → Option Value} {tabs rest led : List (Addr × Obj)} {s : Shared} {Q : Value → Shared → Prop} {O : Obj → Prop} {o oc : Obj} {vs : Array Value} {t : Tok} {tk' : Nat}
    (hret : RetO P l c q tabs h₀ L m rest s Q O) (F : Fr h₀ L h' m) (N : News h₀ L h' led) (hm : (D, o) ∈ led) (ho : O o) (hc : (c', oc) ∈ led) (hP : (P, tabUsed l c c') ∈ led) (hd : oc.data = .fields vs) (hv : vs[1]? = some (.str q t))
    (hs : ∀ p ∈ rest, p ∈ led) (hT : TabOut P l c tabs rest c' oc) (hl : ∀ p ∈ tabs ++ rest, p.1 < D) : Q (.ref D) { s with heap := h', toks := tk' } := by
  refine hret D o c' oc vs t h' tk' ho F (fun p hp => ?_) hd hv hT hl
  rcases List.mem_cons.mp hp with rfl | hp
  · exact N _ hm
  rcases List.mem_cons.mp hp with rfl | hp
  · exact N _ hc
  rcases List.mem_cons.mp hp with rfl | hp
  · exact N _ hP
  · exact N _ (hs _ hp)
theorem retV {P : Addr} {l c : Nat} {q : Str} {h₀ h' : Heap} {L c' : Addr} {m : Str → Option Value} {tabs rest led : List (Addr × Obj)} {s : Shared} {Q : Value → Shared → Prop} {V : Value → Prop} {v : Value} {oc : Obj} {vs : Array Value} {t : Tok} {tk' : Nat}
    (hret : RetV P l c q tabs h₀ L m rest s Q V) (F : Fr h₀ L h' m) (N : News h₀ L h' led) (ho : V v) (hc : (c', oc) ∈ led) (hP : (P, tabUsed l c c') ∈ led) (hd : oc.data = .fields vs) (hv : vs[1]? = some (.str q t))
    (hs : ∀ p ∈ rest, p ∈ led) (hT : TabOut P l c tabs rest c' oc) : Q v { s with heap := h', toks := tk' } := by
  refine hret v c' oc vs t h' tk' ho F (fun p hp => ?_) hd hv hT
  rcases List.mem_cons.mp hp with rfl | hp
  · exact N _ hc
  rcases List.mem_cons.mp hp with rfl | hp
  · exact N _ hP
  · exact N _ (hs _ hp)

section
variable {prog : Program} {w : World} {A : Around} {E : Value → Shared → Prop} {s : Shared} {a b c n : Int} {t u : Tok} {Q : Value → Shared → Prop}
theorem sub_is (e : a - b = c) (h : Q (.int c s.toks) { s with toks := s.toks + 1 }) : wpAny (model prog w) A (binaryOp .Sub (.int a t) (.int b u)) Q E s := sub_int (e.symm ▸ h)
theorem mul_is (e : a * b = c) (hm : IntMulOk a b) (h : Q (.int c s.toks) { s with toks := s.toks + 1 }) : wpAny (model prog w) A (binaryOp .Mult (.int a t) (.int b u)) Q E s := mul_int (e.symm ▸ h) hm
end

theorem TabSt.below {P : Addr} {l c : Nat} {q : Str} {tabs rest : List (Addr × Obj)} {L : Addr} (h : TabSt P l c q tabs) (k : ∀ p ∈ tabs ++ rest, p.1 < L) : @LT.lt Nat _ P L := by
  cases h with
  | fresh => exact k _ (List.mem_append_left _ (.head _))
  | used _ _ => exact k _ (List.mem_append_left _ (.tail _ (.head _)))

theorem bits_le {y : Int} (h0 : 0 ≤ y) (h1 : y ≤ 1000000) : (Builtin.Int.intBits y : Int) ≤ 100 := by
  have := intBits_le_64 (k := y) (by omega) (by omega)
  omega

section
variable {prog : Program} {w : World} {A : Around} {E : Value → Shared → Prop} {s : Shared} {a b c n : Int} {t u : Tok} {Q : Value → Shared → Prop} {h₀ : Heap} {L : Addr} {m : Str → Option Value} {news : List (Addr × Obj)}
theorem add_is (e : a + b = c) (h : Q (.int c s.toks) { s with toks := s.toks + 1 }) : wpAny (model prog w) A (binaryOp .Add (.int a t) (.int b u)) Q E s := add_int (e.symm ▸ h)
theorem divmod_O (F : Fr h₀ L s.heap m) (N : News h₀ L s.heap news) (hb : b ≠ 0) (hp : Builtin.divisionGoesByPylong a b = false)
    (h : ∀ D h', Fr h₀ L h' m → News h₀ L h' ((D, { cls := .type "tuple", data := .seq #[.int (a.fdiv b) s.toks, .int (a.fmod b) (s.toks + 1)] }) :: news) → (∀ p ∈ news, p.1 < D) → Q (.ref D) { s with toks := s.toks + 1 + 1, heap := h' }) :
    wpAny (model prog w) A (call (.builtin "divmod") [.int a t, .int b u]) Q E s :=
  divmod_N F N hb (fun h' F' N' => h _ h' F' N' fun p hp => Heap.lt_size (N p hp).1) (Or.inl hp)
end

theorem lt_all {l : List (Addr × Obj)} {L D : Addr} (h : ∀ p ∈ l, p.1 < L) (e : @LE.le Nat _ L D) : ∀ p ∈ l, p.1 < D := fun p hp => Nat.lt_of_lt_of_le (h p hp) e
theorem below_neRR {tabs tabs' rest : List (Addr × Obj)} {L c : Addr} (h : ∀ p ∈ tabs ++ (tabs' ++ rest), p.1 < L) (e : @LE.le Nat _ L c) : ∀ p ∈ rest, p.1 ≠ c :=
  below_neR (tabs := tabs') (fun p hp => h p (List.mem_append_right _ hp)) e
theorem offI_of {I : Addr} {it : Obj} : ∀ {l : List (Addr × Obj)}, (∀ p ∈ l, p.1 ≠ I) → OffI I it l
  | [], _ => trivial
  | _ :: _, h => ⟨.inl (h _ (.head _)), offI_of fun q hq => h q (.tail _ hq)⟩

inductive Drop1 (x : Addr × Obj) : List (Addr × Obj) → List (Addr × Obj) → Prop
  | here {r} : Drop1 x (x :: r) r
  | next {p l l'} : Drop1 x l l' → Drop1 x (p :: l) (p :: l')
theorem Drop1.mem {x : Addr × Obj} {l l' : List (Addr × Obj)} (h : Drop1 x l l') : ∀ p ∈ x :: l', p ∈ l := by
  induction h with
  | here => exact fun p hp => hp
  | next _ ih =>
    intro p hp
    rcases List.mem_cons.mp hp with rfl | hp
    · exact .tail _ (ih _ (.head _))
    · rcases List.mem_cons.mp hp with rfl | hp
      · exact .head _
      · exact .tail _ (ih _ (.tail _ hp))
theorem unr_end {h₀ : Heap} {L I : Addr} {it : Obj} {rest : (Str → Option Value) → List (Addr × Obj) → Prop} {s₁ : Shared} {h' : Heap} {tk : Nat} {m' : Str → Option Value} {all news' : List (Addr × Obj)} (F : Fr h₀ L h' m') (N : News h₀ L h' all) (hD : Drop1 (I, it) all news')
    (off : ∀ p ∈ news', p.1 ≠ I) (r : rest m' news') : UnrEnd h₀ L s₁ I it rest { s₁ with heap := h', toks := tk } := UnrEnd.intro F N news' hD.mem off r

theorem TabSt.belowR {P : Addr} {l c : Nat} {q : Str} {tabs tabs' rest : List (Addr × Obj)} {D : Addr} (h : TabSt P l c q tabs) (k : ∀ p ∈ tabs' ++ (tabs ++ rest), p.1 < D) : @LT.lt Nat _ P D := h.below (rest := rest) fun p hp => k p (List.mem_append_right _ hp)
theorem TabOut.ne {P P' : Addr} {l c l' k : Nat} {q : Str} {tabs tabs' rest : List (Addr × Obj)} {c' : Addr} {oc : Obj} (h : TabOut P l c tabs (tabs' ++ rest) c' oc) (hB : ∀ p ∈ tabs, p.1 ≠ P') (hT : TabSt P' l' k q tabs') : @Ne Nat c' P' := by
  cases h with
  | fresh h => exact Nat.ne_of_gt (hT.below (rest := rest) fun p hp => h p (.tail _ hp))
  | used => exact hB _ (.head _)
theorem regroup {h₀ h : Heap} {L D c1 : Addr} {O o1 : Obj} {tabsB rest led : List (Addr × Obj)} (N : News h₀ L h led) (hD : (D, O) ∈ led) (hP : (44, tabUsed 50 4 c1) ∈ led) (hc : (c1, o1) ∈ led) (hs : ∀ p ∈ tabsB ++ rest, p ∈ led) :
    News h₀ L h (tabsB ++ ((D, O) :: (c1, o1) :: (44, tabUsed 50 4 c1) :: rest)) := by
  intro p hp
  rcases List.mem_append.mp hp with hp | hp
  · exact N p (hs p (List.mem_append_left _ hp))
  rcases List.mem_cons.mp hp with rfl | hp
  · exact N _ hD
  rcases List.mem_cons.mp hp with rfl | hp
  · exact N _ hc
  rcases List.mem_cons.mp hp with rfl | hp
  · exact N _ hP
  · exact N p (hs p (List.mem_append_right _ hp))

abbrev RetP (tabsA tabsB : List (Addr × Obj)) (h₀ : Heap) (L : Addr) (m : Str → Option Value) (rest : List (Addr × Obj)) (s : Shared) (Q : Value → Shared → Prop) (q r : Int) : Prop :=
  ∀ (D : Addr) (t u : Tok) (c1 : Addr) (o1 : Obj) (vs1 : Array Value) (t1 : Tok) (c2 : Addr) (o2 : Obj) (vs2 : Array Value) (t2 : Tok) (h' : Heap) (tk' : Nat), Fr h₀ L h' m →
    News h₀ L h' ((D, T2 q r t u) :: (c2, o2) :: (51, tabUsed 65 4 c2) :: (c1, o1) :: (44, tabUsed 50 4 c1) :: rest) → o1.data = .fields vs1 → vs1[1]? = some (.str q49 t1) → o2.data = .fields vs2 → vs2[1]? = some (.str q56 t2) →
    TabOut 44 50 4 tabsA rest c1 o1 → TabOut 51 65 4 tabsB rest c2 o2 → (∀ p ∈ rest, p.1 < D) → Q (.ref D) { s with heap := h', toks := tk' }

theorem retP {tabsA tabsB rest rest1 rest2 led : List (Addr × Obj)} {h₀ h' : Heap} {L D c1 c2 : Addr} {m : Str → Option Value} {s : Shared} {Q : Value → Shared → Prop} {q r x y : Int} {t u t1 t2 : Tok} {o1 o2 : Obj} {vs1 vs2 : Array Value} {tk' : Nat}
    (hret : RetP tabsA tabsB h₀ L m rest s Q q r) (F : Fr h₀ L h' m) (N : News h₀ L h' led) (hm : (D, T2 x y t u) ∈ led) (e0 : x = q) (e1 : y = r) (hP1 : (44, tabUsed 50 4 c1) ∈ led) (hc1 : (c1, o1) ∈ led) (hP2 : (51, tabUsed 65 4 c2) ∈ led) (hc2 : (c2, o2) ∈ led)
    (d1 : o1.data = .fields vs1) (v1 : vs1[1]? = some (.str q49 t1)) (d2 : o2.data = .fields vs2) (v2 : vs2[1]? = some (.str q56 t2)) (hs : ∀ p ∈ rest, p ∈ led) (hTA : TabOut 44 50 4 tabsA rest1 c1 o1) (k1 : ∀ p ∈ rest, p ∈ rest1) (hTB : TabOut 51 65 4 tabsB rest2 c2 o2) (k2 : ∀ p ∈ rest, p ∈ rest2)
    (hl : ∀ p ∈ rest, p.1 < D) : Q (.ref D) { s with heap := h', toks := tk' } := by
  subst e0 e1
  refine hret D t u c1 o1 vs1 t1 c2 o2 vs2 t2 h' tk' F (fun p hp => ?_) d1 v1 d2 v2 (hTA.less k1) (hTB.less k2) hl
  rcases List.mem_cons.mp hp with rfl | hp
  · exact N _ hm
  rcases List.mem_cons.mp hp with rfl | hp
  · exact N _ hc2
  rcases List.mem_cons.mp hp with rfl | hp
  · exact N _ hP2
  rcases List.mem_cons.mp hp with rfl | hp
  · exact N _ hc1
  rcases List.mem_cons.mp hp with rfl | hp
  · exact N _ hP1
  · exact N _ (hs _ hp)

theorem ConD.more {n n' : Nat} {w : World} {f : Addr} {vs : List Value} {news : List (Addr × Obj)} {R : Heap → Addr → (Str → Option Value) → Shared → (Value → Shared → Prop) → Prop} (C : ConD n w f vs news R) (h : n ≤ n') : ConD n' w f vs news R := by
  unfold ConD at C ⊢
  intro loose mean mg mb dp un gd cn cs a ccd cl outer A₀ base h₀ L m s Q E B F X N T hk hd hu C1 C2 hret
  exact C loose mean mg mb dp un gd cn cs a ccd cl outer A₀ base h₀ L m s Q E B F X N T hk (by omega) (by omega) C1 C2 hret
end
section
def chk (b x : Int) : Bool :=
  let n : Int := (Builtin.Int.intBits b : Int)
  let β : Int := (Builtin.Int.intBits x : Int)
  let d := (β + n - 1).fdiv n
  let p : Int := 2 ^ n.toNat
  let hi := x.fdiv p
  let up := hi * p
  let lo := Builtin.bitXor x up
  let q1 := hi.fdiv b
  let r1 := hi.fmod b
  let s1 := r1 * p
  let q0 := (s1 + lo).fdiv b
  let r0 := (s1 + lo).fmod b
  let z := q1 * p
  decide (1 ≤ n) && decide (n ≤ 100) && decide (β ≤ 100) && decide (0 ≤ x.fdiv b) && decide (x.fdiv b ≤ 1000) &&
  ((decide (d = 0) && decide (x = 0)) || (decide (d = 1) && decide (1 ≤ x)) ||
   (decide (d = 2) && decide (1 ≤ x) && decide (0 ≤ hi) && decide (hi ≤ 1000) && decide (0 ≤ lo) && decide (lo ≤ 1000) && decide (0 ≤ r1) && decide (r1 ≤ 1000) && decide (0 ≤ s1) && decide (s1 ≤ 1000) && decide (0 ≤ q1) && decide (q1 ≤ 1000) &&
    decide (0 ≤ q0) && decide (q0 ≤ 1000) && decide (z + q0 = x.fdiv b) && decide (r0 = x.fmod b)))
theorem chk_all : ∀ b : Fin 36, ∀ k : Fin 4, chk ((b.val : Int) + 1) ((k.val : Int) * ((b.val : Int) + 1)) = true ∧ (k.val = 0 ∨ chk ((b.val : Int) + 1) ((k.val : Int) * ((b.val : Int) + 1) - 1) = true) := by decide +kernel
theorem chk_mul {b k : Int} (b0 : 1 ≤ b) (b1 : b ≤ 36) (k0 : 0 ≤ k) (k1 : k ≤ 3) : chk b (k * b) = true := by
  have h := (chk_all ⟨(b - 1).toNat, by omega⟩ ⟨k.toNat, by omega⟩).1
  have e1 : (((b - 1).toNat : Nat) : Int) + 1 = b := by omega
  have e2 : ((k.toNat : Nat) : Int) = k := by omega
  simpa only [e1, e2] using h
theorem chk_pred {b k : Int} (b0 : 1 ≤ b) (b1 : b ≤ 36) (k0 : 1 ≤ k) (k1 : k ≤ 3) : chk b (k * b - 1) = true := by
  have h := (chk_all ⟨(b - 1).toNat, by omega⟩ ⟨k.toNat, by omega⟩).2
  have e1 : (((b - 1).toNat : Nat) : Int) + 1 = b := by omega
  have e2 : ((k.toNat : Nat) : Int) = k := by omega
  simp only [e1, e2] at h
  rcases h with h | h
  · omega
  · exact h
end
section
open PySem.Calls
def lawFD : List Stmt × Scope := match PySem.Challenge.pw_hi0003_01.main.body.getLast? with
  | some (.FunctionDef _ _ b _ _ _ sc _ _ _) => (b, sc)
  | _ => ([], default)
def lawSt (i : Nat) : Stmt := lawFD.1.getD i (.Pass default)
def lawSc : Scope := lawFD.2

/-- one statement of law's: from the ledger led, where the frame holds what P says, to what R takes -/
structure LSt (w : World) (stm : Stmt) (L : Addr) (led : List (Addr × Obj)) (P : (Str → Option Value) → Prop) (R : Heap → (Str → Option Value) → Shared → (Flow → Shared → Prop) → Prop) : Prop where
  out : ∀ (loose : List Str) (mean : ExcName → Option Value) (mg mb : Str → Option Value) (dp un : Nat) (gd : Option (List Code)) (outer : List Env) (A₀ : Around) (base h₀ : Heap) (fa : Addr) (cd : Value) (m : Str → Option Value) (s : Shared) (Q : Flow → Shared → Prop) (E : Value → Shared → Prop),
    Below A₀ base outer h₀ → Fr h₀ L s.heap m → (hd.heap_39 w.params).In h₀ → News h₀ L s.heap led → Top topProg loose mean mg mb h₀ → dp + 200 < recursionLimit → un + 4000 < cLine → CodeHd base 48 44 → CodeHd base 55 51 → P m → R h₀ m s Q →
    wpAny (model PySem.Challenge.rw_hi0003_01.row.prog w) (ktrTop dp un gd (Str.ofString "law") lawSc L fa cd (cellsFrom (L + 1) lawSc.names []) outer) (exec stm (envOfC (Str.ofString "law") lawSc L fa cd)) Q E s

abbrev qm0 (a b c d x y z w : Int) : Int := a * x + b * (0 - y) + c * (0 - z) + d * (0 - w)
abbrev qm1 (a b c d x y z w : Int) : Int := a * y + b * x + c * w + d * (0 - z)
abbrev qm2 (a b c d x y z w : Int) : Int := a * z + b * (0 - w) + c * x + d * y
abbrev qm3 (a b c d x y z w : Int) : Int := a * w + b * z + c * (0 - y) + d * x
abbrev sq4 (a b c d : Int) : Int := a * a + b * b + c * c + d * d
theorem no4 {a0 a1 a2 a3 c0 c1 c2 c3 : Int} (e0 : a0 = c0) (e1 : a1 = c1) (e2 : a2 = c2) (e3 : a3 = c3) (h : (a0 == c0 && (a1 == c1 && (a2 == c2 && a3 == c3))) = false) : False := by
  subst e0 e1 e2 e3
  simp at h
theorem no9 {b0 b1 b2 b3 c0 c1 c2 c3 k0 k1 k2 : Int} (f : (b0 = c0 ∧ b1 = c1 ∧ b2 = c2 ∧ b3 = c3) ↔ (k0 = 0 ∧ k1 = 0 ∧ k2 = 0)) (h : ((b0 == c0 && (b1 == c1 && (b2 == c2 && b3 == c3))) != decide ([k0, k1, k2] = [0, 0, 0])) = true) : False := by
  have e : (b0 == c0 && (b1 == c1 && (b2 == c2 && b3 == c3))) = decide ([k0, k1, k2] = [0, 0, 0]) := by
    rw [Bool.eq_iff_iff]
    simp only [Bool.and_eq_true, beq_iff_eq, decide_eq_true_eq, List.cons.injEq, and_true]
    exact f
  rw [e] at h
  simp at h
section comp
open LCg
variable {prog : Program} {w : World} {A : Around} {E : Value → Shared → Prop} {s : Shared} {h₀ : Heap} {L : Addr} {m : Str → Option Value} {env : Env}

theorem Assign_ListComp_Tup {elt iter : Expr} {x y : Str} {px py : Pos} {scope : Scope} {cl : List (Str × Addr)} {pos spos : Pos} {Q : Flow → Shared → Prop} (_F₀ : Fr h₀ L s.heap m) (hLe : env.locals = L)
    (hsw : swapsWith (.ListComp elt [⟨.Name x px, iter, [], 0⟩] scope pos) (some (.Name y py)) spos.line env = pure true)
    (hclos : closureFor scope env = pure cl) (hcell : ∀ z ∈ scope.names, z.2 ≠ .cell) (hkind : scope.kind = .function)
    (hnames : ∀ z ∈ scope.names, z.2 = .local → scope.names.lookup z.1 = some .local) (hx : scope.names.lookup x = some .local)
    (hy : env.kindOf y = some .local) (hp : (env.scope.kind == .class || (env.scope.kind == .module && env.locals != env.globals)) = false)
    (h : wpAny (model prog w) A (eval iter env) (TupSrc prog w A h₀ L m env elt x scope cl (fun s₂ => FinA h₀ L m s₂ y Q)) E s)
    (hs : ∀ x, foldedSetIterable iter env x = pure x := by intro _; rfl) :
    wpAny (model prog w) A (exec (.Assign [.Name y py] (.ListComp elt [⟨.Name x px, iter, [], 0⟩] scope pos) spos) env) Q E s := by
  subst hLe
  rw [exec_Assign_Name_used _ _ _ _ hsw]
  refine wpAny_bind (wpAny_standAt (wpAny_bind ?_))
  show wpAny _ A (do let _ ← comprehension (.ListComp elt [⟨.Name x px, iter, [], 0⟩] scope pos) scope env _ (newList []) false (eval iter env) (some (assign (.Name y py) env))) _ _ s
  refine wpAny_bind (wpAny_mono (wpAny_comprehension_free (use := some (assign (.Name y py) env)) (Q := fun _ s' => Q .next s') rfl hs hclos hkind hnames
    (wpAny_mono h (fun xv s₁ h₁ => ?_) fun _ _ e => e)) (fun _ s' hq => wpAny_pure (wpAny_pure hq)) fun _ _ e => e)
  obtain ⟨ax, its, news, rfl, hh, F, N, S, hsz, R⟩ := h₁
  have hl : s₁.heap.IsTuple ax its := by obtain ⟨o, hm, r⟩ := S; exact ⟨o, (N _ hm).1, r⟩
  have hlt : ax < s₁.heap.objs.size := by obtain ⟨_, e, _⟩ := hl; exact Heap.lt_size e
  refine wpAny_pyIter_tuple hl ?_
  have up : ∀ b o, s₁.heap.get? b = some o → (s₁.heap.push { cls := .type "tuple_iterator", data := .fields #[.ref ax, .int 0 0] }).get? b = some o := fun b o e => Heap.get?_push_of_some _ e
  refine block_U (Walks.tuple hh s₁.heap.objs.size ax (Nat.ne_of_lt hlt) its) hsz (fun i h st => by obtain ⟨o, e, _⟩ := st.1; exact ⟨o, e⟩) (S := TupIn ax its) ?_ hcell hkind hx ⟨⟨_, Heap.get?_push_size _ rfl, rfl, rfl⟩, hl.push _⟩ (fun b hb => ?_)
    (F.keeps up) (N.grown up) (Nat.ne_of_lt F.ns.lt) (next_is_new F) (fun p hp => Nat.ne_of_lt (Heap.lt_size (N p hp).1)) S (R _ ⟨_, rfl⟩) ?_
  · intro i h h' o nw st e e' _ N' S'
    refine ⟨?_, ?_⟩
    · obtain ⟨o', q, r⟩ := st.1
      rw [e] at q; cases q
      exact ⟨o, e', r⟩
    · obtain ⟨o', hm, r⟩ := S'
      exact ⟨o', (N' _ hm).1, r⟩
  · show b < (s₁.heap.push _).objs.size
    rw [Heap.size_push]
    rcases List.mem_cons.mp hb with rfl | hb
    · exact Nat.lt_succ_self _
    · rw [List.mem_singleton.mp hb]; exact Nat.lt_succ_of_lt hlt
  · intro D C h' tk m' ys news' F' N' o1 hn hC₀ hD₀ hCL hDL hCD offC fin
    show wpAny _ A (assign (.Name y py) env (.ref D)) _ _ _
    refine wpAny_assign_Name (wpAny_storeName_local hy F'.ns (fun h₂ hn₂ hs₂ => ?_) hp)
    have hL₀ : h₀.get? env.locals = none := Heap.get?_none_of_le F'.above
    have F₂ : Fr h₀ env.locals h₂ (fun z => if z = y then some (.ref D) else m z) := ⟨hn₂, fun b o e => hs₂.extBut b o (fun q => by rw [q, hL₀] at e; cases e) (F'.keep b o e), F'.above⟩
    refine ⟨m', hn.sameBut hs₂ hCL, fun h'' hs'' => fin D h'' _ (F₂.change hs'' hCL hC₀) (fun p hp => ?_) o1⟩
    have z : h₂.get? p.1 = some p.2 := hs₂.extBut _ _ (N' p hp).2.1 (N' p hp).1
    refine ⟨hs''.extBut _ _ ?_ z, (N' p hp).2⟩
    rcases List.mem_cons.mp hp with rfl | hp
    · exact Ne.symm hCD
    · exact offC p hp
end comp

theorem drop2 {h₀ h : Heap} {L : Addr} {oA oB : Obj} {led l1 rest : List (Addr × Obj)} (N : News h₀ L h led) (d1 : Drop1 (51, oB) led l1) (d2 : Drop1 (44, oA) l1 rest) : News h₀ L h ([(44, oA)] ++ ([(51, oB)] ++ rest)) := fun p hp => by
  rcases List.mem_cons.mp hp with rfl | hp
  · exact N _ (d1.mem _ (.tail _ (d2.mem _ (.head _))))
  rcases List.mem_cons.mp hp with rfl | hp
  · exact N _ (d1.mem _ (.head _))
  · exact N _ (d1.mem _ (.tail _ (d2.mem _ (.tail _ hp))))
theorem drop4 {h₀ h : Heap} {L c1 c2 : Addr} {o1 o2 oA oB : Obj} {led l1 l2 l3 rest : List (Addr × Obj)} (N : News h₀ L h led) (d1 : Drop1 (51, oB) led l1) (d2 : Drop1 (c2, o2) l1 l2) (d3 : Drop1 (44, oA) l2 l3) (d4 : Drop1 (c1, o1) l3 rest) :
    News h₀ L h ([(c1, o1), (44, oA)] ++ ([(c2, o2), (51, oB)] ++ rest)) := fun p hp => by
  have m3 : ∀ p ∈ (44, oA) :: l3, p ∈ led := fun p hp => d1.mem _ (.tail _ (d2.mem _ (.tail _ (d3.mem _ hp))))
  rcases List.mem_cons.mp hp with rfl | hp
  · exact N _ (m3 _ (.tail _ (d4.mem _ (.head _))))
  rcases List.mem_cons.mp hp with rfl | hp
  · exact N _ (m3 _ (.head _))
  rcases List.mem_cons.mp hp with rfl | hp
  · exact N _ (d1.mem _ (.tail _ (d2.mem _ (.head _))))
  rcases List.mem_cons.mp hp with rfl | hp
  · exact N _ (d1.mem _ (.head _))
  · exact N _ (m3 _ (.tail _ (d4.mem _ (.tail _ hp))))

theorem sq_ge (a : Int) : 0 ≤ a * a := by
  rcases Int.le_total 0 a with h | h
  · exact Int.mul_nonneg h h
  · exact Int.mul_nonneg_of_nonpos_of_nonpos h h
theorem sq_gt {a : Int} (h : a ≠ 0) : 1 ≤ a * a := by
  rcases Int.lt_or_gt_of_ne h with h | h
  · have := Int.mul_pos_of_neg_of_neg h h
    omega
  · have := Int.mul_pos h h
    omega
theorem sq_pos {a b c d : Int} (h : (a == 0 && (b == 0 && (c == 0 && d == 0))) = false) : 1 ≤ sq4 a b c d := by
  have ha := sq_ge a
  have hb := sq_ge b
  have hc := sq_ge c
  have hd := sq_ge d
  show 1 ≤ a * a + b * b + c * c + d * d
  by_cases e : a = 0
  · by_cases e1 : b = 0
    · by_cases e2 : c = 0
      · by_cases e3 : d = 0
        · subst e e1 e2 e3; simp at h
        · have := sq_gt e3; omega
      · have := sq_gt e2; omega
    · have := sq_gt e1; omega
  · have := sq_gt e; omega

theorem tabOut_first {P : Addr} {l c : Nat} {rest : List (Addr × Obj)} {c' : Addr} {oc : Obj} {tabs : List (Addr × Obj)} (h : TabOut P l c tabs rest c' oc) (e : tabs.length = 1) : ∀ p ∈ (P, tabObj #[]) :: rest, p.1 < c' := by
  cases h with
  | fresh h => exact h
  | used => cases e
theorem tabOut_again {P : Addr} {l c : Nat} {rest : List (Addr × Obj)} {c' c1 : Addr} {oc o1 oP : Obj} {tabs : List (Addr × Obj)} (h : TabOut P l c tabs rest c' oc) (e : tabs = [(c1, o1), (P, oP)]) : c' = c1 ∧ oc = o1 := by
  cases h with
  | fresh h => cases e
  | used =>
    have e1 := (List.cons.inj e).1
    exact ⟨congrArg Prod.fst e1, congrArg Prod.snd e1⟩
end
section
open PySem.Calls
/-- the statements of law's last branch, and the element of its first comprehension -/
def lawIn (i : Nat) : Stmt := match lawSt 10 with
  | .If _ b _ _ => b.getD i (.Pass default)
  | _ => .Pass default
def lawElt : PySem.Expr × Scope := match lawIn 0 with
  | .Assign _ (.ListComp e _ sc _) _ => (e, sc)
  | _ => (.Name (Str.ofString "") default, default)

theorem ne_obj {h₀ h : Heap} {L a b : Addr} {o o' : Obj} {led : List (Addr × Obj)} (N : News h₀ L h led) (h1 : (a, o) ∈ led) (h2 : (b, o') ∈ led) (hne : o ≠ o') : a ≠ b := by
  rintro rfl
  have e1 := (N _ h1).1
  have e2 := (N _ h2).1
  rw [e1] at e2
  exact hne (Option.some.inj e2)
theorem code_ne {l c : Nat} {c' : Addr} {oc : Obj} {vs : Array Value} {q : Str} {t : Tok} (hd : oc.data = .fields vs) (hv : vs[1]? = some (.str q t)) : oc ≠ tabUsed l c c' := by
  rintro rfl
  injection hd with hd
  subst hd
  simp [rawInt] at hv

/-- the ledger: both tables, each in one of its states, and the rest -/
inductive TL : List (Addr × Obj) → List (Addr × Obj) → Prop
  | mk {tabsA tabsB base : List (Addr × Obj)} : TabSt 44 50 4 q49 tabsA → TabSt 51 65 4 q56 tabsB → (∀ p ∈ tabsB ++ base, p.1 ≠ 44) → (∀ p ∈ base, p.1 ≠ 51) → (∀ p ∈ tabsA, p.1 ≠ 51) → TL (tabsA ++ (tabsB ++ base)) base

theorem TabSt.has {P : Addr} {l c : Nat} {q : Str} {tabs : List (Addr × Obj)} (h : TabSt P l c q tabs) : ∃ o, (P, o) ∈ tabs := by
  cases h with
  | fresh => exact ⟨_, .head _⟩
  | used _ _ => exact ⟨_, .tail _ (.head _)⟩
theorem TabOut.off {P : Addr} {l c : Nat} {tabs rest : List (Addr × Obj)} {c' b : Addr} {oc o : Obj} (h : TabOut P l c tabs rest c' oc) (hb : (b, o) ∈ rest) (ht : ∀ p ∈ tabs, p.1 ≠ b) : c' ≠ b := by
  cases h with
  | fresh h => exact Nat.ne_of_gt (h _ (.tail _ hb))
  | used => exact ht _ (.head _)

theorem regroup3 {h₀ h : Heap} {L : Addr} {i c d : Addr × Obj} {tA tB base : List (Addr × Obj)} (N : News h₀ L h (i :: c :: d :: (tA ++ (tB ++ base)))) : News h₀ L h (tA ++ (tB ++ (i :: c :: d :: base))) := by
  intro p hp
  refine N p ?_
  rcases List.mem_append.mp hp with hp | hp
  · exact .tail _ (.tail _ (.tail _ (List.mem_append_left _ hp)))
  rcases List.mem_append.mp hp with hp | hp
  · exact .tail _ (.tail _ (.tail _ (List.mem_append_right _ (List.mem_append_left _ hp))))
  rcases List.mem_cons.mp hp with rfl | hp
  · exact .head _
  rcases List.mem_cons.mp hp with rfl | hp
  · exact .tail _ (.head _)
  rcases List.mem_cons.mp hp with rfl | hp
  · exact .tail _ (.tail _ (.head _))
  · exact .tail _ (.tail _ (.tail _ (List.mem_append_right _ (List.mem_append_right _ hp))))

theorem offA {P : Addr} {I C D : Addr} {oI oC oD o : Obj} {nw tabsB base : List (Addr × Obj)} (off : LCg.Off3 I C D nw) (hP : (P, o) ∈ nw) (h : ∀ p ∈ tabsB ++ base, p.1 ≠ P) : ∀ p ∈ tabsB ++ ((I, oI) :: (C, oC) :: (D, oD) :: base), p.1 ≠ P := by
  obtain ⟨h1, h2, h3⟩ := off.mem _ hP
  intro p hp
  rcases List.mem_append.mp hp with hp | hp
  · exact h p (List.mem_append_left _ hp)
  rcases List.mem_cons.mp hp with rfl | hp
  · exact Ne.symm h1
  rcases List.mem_cons.mp hp with rfl | hp
  · exact Ne.symm h2
  rcases List.mem_cons.mp hp with rfl | hp
  · exact Ne.symm h3
  · exact h p (List.mem_append_right _ hp)

/-- the end of a turn: what the call gave is laid anew -/
theorem turn_end {h₀ h' : Heap} {L I C D D' c1 c2 : Addr} {oI oC oD o1 o2 : Obj} {m : Str → Option Value} {s : Shared} {S : List (Addr × Obj) → Prop} {rest : Value → List (Addr × Obj) → Prop} {tabsA tabsB base : List (Addr × Obj)} {q r : Int} {t u t1 t2 : Tok} {vs1 vs2 : Array Value} {tk : Nat}
    (hA : TabSt 44 50 4 q49 tabsA) (hB : TabSt 51 65 4 q56 tabsB) (nA : ∀ p ∈ tabsB ++ base, p.1 ≠ 44) (nB : ∀ p ∈ base, p.1 ≠ 51) (off : LCg.Off3 I C D (tabsA ++ (tabsB ++ base))) (F : Fr h₀ L h' m)
    (N : News h₀ L h' ((D', T2 q r t u) :: (c2, o2) :: (51, tabUsed 65 4 c2) :: (c1, o1) :: (44, tabUsed 50 4 c1) :: (I, oI) :: (C, oC) :: (D, oD) :: base))
    (d1 : o1.data = .fields vs1) (v1 : vs1[1]? = some (.str q49 t1)) (d2 : o2.data = .fields vs2) (v2 : vs2[1]? = some (.str q56 t2))
    (hTA : TabOut 44 50 4 tabsA ((I, oI) :: (C, oC) :: (D, oD) :: base) c1 o1) (hTB : TabOut 51 65 4 tabsB ((I, oI) :: (C, oC) :: (D, oD) :: base) c2 o2) (hl : ∀ p ∈ (I, oI) :: (C, oC) :: (D, oD) :: base, p.1 < D')
    (hS : ∀ nw, (∀ p ∈ base, p ∈ nw) → S nw) (hr : ∀ nw, TL nw ((D', T2 q r t u) :: base) → rest (.ref D') nw) :
    LCg.CompEnd h₀ L m s I oI C oC D oD S rest (.ref D') { s with heap := h', toks := tk } := by
  obtain ⟨oP, hP⟩ := hA.has
  obtain ⟨oP', hP'⟩ := hB.has
  have hPn : (44, oP) ∈ tabsA ++ (tabsB ++ base) := List.mem_append_left _ hP
  have hPn' : (51, oP') ∈ tabsA ++ (tabsB ++ base) := List.mem_append_right _ (List.mem_append_left _ hP')
  have offb := off.mem
  have mI : (I, oI) ∈ (I, oI) :: (C, oC) :: (D, oD) :: base := .head _
  have mC : (C, oC) ∈ (I, oI) :: (C, oC) :: (D, oD) :: base := .tail _ (.head _)
  have mD : (D, oD) ∈ (I, oI) :: (C, oC) :: (D, oD) :: base := .tail _ (.tail _ (.head _))
  have tA : ∀ b, (∀ p ∈ tabsA ++ (tabsB ++ base), p.1 ≠ b) → ∀ p ∈ tabsA, p.1 ≠ b := fun b h p hp => h p (List.mem_append_left _ hp)
  have tB : ∀ b, (∀ p ∈ tabsA ++ (tabsB ++ base), p.1 ≠ b) → ∀ p ∈ tabsB, p.1 ≠ b := fun b h p hp => h p (List.mem_append_right _ (List.mem_append_left _ hp))
  have nI : ∀ p ∈ tabsA ++ (tabsB ++ base), p.1 ≠ I := fun p hp => (offb p hp).1
  have nC : ∀ p ∈ tabsA ++ (tabsB ++ base), p.1 ≠ C := fun p hp => (offb p hp).2.1
  have nD : ∀ p ∈ tabsA ++ (tabsB ++ base), p.1 ≠ D := fun p hp => (offb p hp).2.2
  have n1 : c2 ≠ 44 := ne_obj N (.tail _ (.head _)) (.tail _ (.tail _ (.tail _ (.tail _ (.head _))))) (code_ne d2 v2)
  have n2 : c1 ≠ 51 := ne_obj N (.tail _ (.tail _ (.tail _ (.head _)))) (.tail _ (.tail _ (.head _))) (code_ne d1 v1)
  have n3 : D' ≠ 44 := ne_obj N (.head _) (.tail _ (.tail _ (.tail _ (.tail _ (.head _))))) (by intro e; injection e; contradiction)
  have n4 : D' ≠ 51 := ne_obj N (.head _) (.tail _ (.tail _ (.head _))) (by intro e; injection e; contradiction)
  have hTL : TL ([(c1, o1), (44, tabUsed 50 4 c1)] ++ ([(c2, o2), (51, tabUsed 65 4 c2)] ++ ((D', T2 q r t u) :: base))) ((D', T2 q r t u) :: base) := by
    refine .mk (.used d1 v1) (.used d2 v2) ?_ ?_ ?_
    · intro p hp
      rcases List.mem_cons.mp hp with rfl | hp
      · exact n1
      rcases List.mem_cons.mp hp with rfl | hp
      · show (51 : Nat) ≠ 44
        decide
      rcases List.mem_cons.mp hp with rfl | hp
      · exact n3
      · exact nA p (List.mem_append_right _ hp)
    · intro p hp
      rcases List.mem_cons.mp hp with rfl | hp
      · exact n4
      · exact nB p hp
    · intro p hp
      rcases List.mem_cons.mp hp with rfl | hp
      · exact n2
      · rw [List.mem_singleton.mp hp]
        show (44 : Nat) ≠ 51
        decide
  refine ⟨h', tk, _, rfl, F, ?_, LCg.Off3.of ?_, hS _ ?_, hr _ hTL⟩
  · intro p hp
    refine N p ?_
    rcases List.mem_cons.mp hp with rfl | hp
    · exact .tail _ (.tail _ (.tail _ (.tail _ (.tail _ (.head _)))))
    rcases List.mem_cons.mp hp with rfl | hp
    · exact .tail _ (.tail _ (.tail _ (.tail _ (.tail _ (.tail _ (.head _))))))
    rcases List.mem_cons.mp hp with rfl | hp
    · exact .tail _ (.tail _ (.tail _ (.tail _ (.tail _ (.tail _ (.tail _ (.head _)))))))
    rcases List.mem_cons.mp hp with rfl | hp
    · exact .tail _ (.tail _ (.tail _ (.head _)))
    rcases List.mem_cons.mp hp with rfl | hp
    · exact .tail _ (.tail _ (.tail _ (.tail _ (.head _))))
    rcases List.mem_cons.mp hp with rfl | hp
    · exact .tail _ (.head _)
    rcases List.mem_cons.mp hp with rfl | hp
    · exact .tail _ (.tail _ (.head _))
    rcases List.mem_cons.mp hp with rfl | hp
    · exact .head _
    · exact .tail _ (.tail _ (.tail _ (.tail _ (.tail _ (.tail _ (.tail _ (.tail _ hp)))))))
  · intro p hp
    rcases List.mem_cons.mp hp with rfl | hp
    · exact ⟨hTA.off mI (tA _ nI), hTA.off mC (tA _ nC), hTA.off mD (tA _ nD)⟩
    rcases List.mem_cons.mp hp with rfl | hp
    · exact offb (44, oP) hPn
    rcases List.mem_cons.mp hp with rfl | hp
    · exact ⟨hTB.off mI (tB _ nI), hTB.off mC (tB _ nC), hTB.off mD (tB _ nD)⟩
    rcases List.mem_cons.mp hp with rfl | hp
    · exact offb (51, oP') hPn'
    rcases List.mem_cons.mp hp with rfl | hp
    · exact ⟨Nat.ne_of_gt (hl _ mI), Nat.ne_of_gt (hl _ mC), Nat.ne_of_gt (hl _ mD)⟩
    · exact offb p (List.mem_append_right _ (List.mem_append_right _ hp))
  · exact fun p hp => .tail _ (.tail _ (.tail _ (.tail _ (.tail _ hp))))

theorem TL.parts {nw base : List (Addr × Obj)} (h : TL nw base) : ∃ tabsA tabsB, nw = tabsA ++ (tabsB ++ base) ∧ TabSt 44 50 4 q49 tabsA ∧ TabSt 51 65 4 q56 tabsB ∧ (∀ p ∈ tabsB ++ base, p.1 ≠ 44) ∧ (∀ p ∈ base, p.1 ≠ 51) ∧ (∀ p ∈ tabsA, p.1 ≠ 51) := by
  cases h with
  | mk a b c d e => exact ⟨_, _, rfl, a, b, c, d, e⟩
theorem TL.sub {nw base : List (Addr × Obj)} (h : TL nw base) : ∀ p ∈ base, p ∈ nw := by
  cases h with
  | mk a b c d e => exact fun p hp => List.mem_append_right _ (List.mem_append_right _ hp)
theorem regroup4 {h₀ h : Heap} {L : Addr} {i c d : Addr × Obj} {nw tA tB base : List (Addr × Obj)} (N : News h₀ L h (i :: c :: d :: nw)) (e : nw = tA ++ (tB ++ base)) : News h₀ L h (tA ++ (tB ++ (i :: c :: d :: base))) := regroup3 (e ▸ N)

theorem TabSt.hasTab {P : Addr} {l c : Nat} {q : Str} {tabs : List (Addr × Obj)} (h : TabSt P l c q tabs) : ∃ ps, (P, tabObj ps) ∈ tabs := by
  cases h with
  | fresh => exact ⟨_, .head _⟩
  | used _ _ => exact ⟨_, .tail _ (.head _)⟩
theorem TL.tabs {nw base : List (Addr × Obj)} (h : TL nw base) : ∃ ps1 ps2, (44, tabObj ps1) ∈ nw ∧ (51, tabObj ps2) ∈ nw := by
  cases h with
  | mk a b c d e =>
    obtain ⟨p1, h1⟩ := a.hasTab
    obtain ⟨p2, h2⟩ := b.hasTab
    exact ⟨p1, p2, List.mem_append_left _ h1, List.mem_append_right _ (List.mem_append_left _ h2)⟩
theorem LSt.use {w : World} {stm : Stmt} {L : Addr} {led : List (Addr × Obj)} {P : (Str → Option Value) → Prop} {R : Heap → (Str → Option Value) → Shared → (Flow → Shared → Prop) → Prop} (C : LSt w stm L led P R)
    {loose : List Str} {mean : ExcName → Option Value} {mg mb : Str → Option Value} {dp un : Nat} {gd : Option (List Code)} {outer : List Env} {A₀ : Around} {base h₀ : Heap} {fa : Addr} {cd : Value} {m : Str → Option Value} {s : Shared} {Q : Flow → Shared → Prop} {E : Value → Shared → Prop}
    (B : Below A₀ base outer h₀) (F : Fr h₀ L s.heap m) (X : (hd.heap_39 w.params).In h₀) (N : News h₀ L s.heap led) (T : Top topProg loose mean mg mb h₀) (h1 : dp + 200 < recursionLimit) (h2 : un + 4000 < cLine) (C1 : CodeHd base 48 44) (C2 : CodeHd base 55 51) (hp : P m) (r : R h₀ m s Q) :
    wpAny (model PySem.Challenge.rw_hi0003_01.row.prog w) (ktrTop dp un gd (Str.ofString "law") lawSc L fa cd (cellsFrom (L + 1) lawSc.names []) outer) (exec stm (envOfC (Str.ofString "law") lawSc L fa cd)) Q E s :=
  C.out _ _ _ _ _ _ _ _ _ _ _ _ _ _ _ _ _ B F X N T h1 h2 C1 C2 hp r

theorem yes4 {a0 a1 a2 a3 c0 c1 c2 c3 : Int} (e0 : a0 = c0) (e1 : a1 = c1) (e2 : a2 = c2) (e3 : a3 = c3) : (a0 == c0 && (a1 == c1 && (a2 == c2 && a3 == c3))) = true := by
  subst e0 e1 e2 e3
  simp
theorem ret_yes {Q : Flow → Shared → Prop} {b : Bool} {s : Shared} (h : b = true) (r : Q (.ret (.bool true)) s) : Q (.ret (.bool b)) s := h ▸ r
/-- a walk's goal, shut: the elaborator does not look into it -/
structure Ok (p : Prop) : Prop where
  go : p
abbrev LWalk (w : World) (L : Addr) (dp un : Nat) (gd : Option (List Code)) (outer : List Env) (fa : Addr) (cd : Value) (sts : List Stmt) (Q : Flow → Shared → Prop) (E : Value → Shared → Prop) (s : Shared) : Prop :=
  wpAny (model PySem.Challenge.rw_hi0003_01.row.prog w) (ktrTop dp un gd (Str.ofString "law") lawSc L fa cd (cellsFrom (L + 1) lawSc.names []) outer) (execs sts (envOfC (Str.ofString "law") lawSc L fa cd)) Q E s
/-- what the next statements take -/
def After (w : World) (L : Addr) (dp un : Nat) (gd : Option (List Code)) (outer : List Env) (fa : Addr) (cd : Value) (sts : List Stmt) (Q : Flow → Shared → Prop) (E : Value → Shared → Prop) : Flow → Shared → Prop
  | .next, s => Ok (LWalk w L dp un gd outer fa cd sts Q E s)
  | f, s => Q f s
theorem LSt.cons {w : World} {stm : Stmt} {sts : List Stmt} {L : Addr} {led : List (Addr × Obj)} {P : (Str → Option Value) → Prop} {R : Heap → (Str → Option Value) → Shared → (Flow → Shared → Prop) → Prop} (C : LSt w stm L led P R)
    {loose : List Str} {mean : ExcName → Option Value} {mg mb : Str → Option Value} {dp un : Nat} {gd : Option (List Code)} {outer : List Env} {A₀ : Around} {base h₀ : Heap} {fa : Addr} {cd : Value} {m : Str → Option Value} {s : Shared} {Q : Flow → Shared → Prop} {E : Value → Shared → Prop}
    (B : Below A₀ base outer h₀) (F : Fr h₀ L s.heap m) (X : (hd.heap_39 w.params).In h₀) (N : News h₀ L s.heap led) (T : Top topProg loose mean mg mb h₀) (h1 : dp + 200 < recursionLimit) (h2 : un + 4000 < cLine) (C1 : CodeHd base 48 44) (C2 : CodeHd base 55 51) (hp : P m) (r : R h₀ m s (After w L dp un gd outer fa cd sts Q E)) :
    Ok (LWalk w L dp un gd outer fa cd (stm :: sts) Q E s) :=
  ⟨wpAny_execs_cons (wpAny_mono (C.use B F X N T h1 h2 C1 C2 hp r) (fun f _ h => by cases f <;> first | exact Ok.go h | exact h) fun _ _ h => h)⟩
theorem After.nx {w : World} {L : Addr} {dp un : Nat} {gd : Option (List Code)} {outer : List Env} {fa : Addr} {cd : Value} {sts : List Stmt} {Q : Flow → Shared → Prop} {E : Value → Shared → Prop} {s : Shared} (h : Ok (LWalk w L dp un gd outer fa cd sts Q E s)) : After w L dp un gd outer fa cd sts Q E .next s := h
theorem After.rt {w : World} {L : Addr} {dp un : Nat} {gd : Option (List Code)} {outer : List Env} {fa : Addr} {cd : Value} {sts : List Stmt} {Q : Flow → Shared → Prop} {E : Value → Shared → Prop} {s : Shared} {v : Value} (h : Q (.ret v) s) : After w L dp un gd outer fa cd sts Q E (.ret v) s := h
end
section
open PySem.Calls
section compPF
open LCg LCp
variable {prog : Program} {w : World} {A : Around} {E : Value → Shared → Prop} {s : Shared} {h₀ : Heap} {L : Addr} {m : Str → Option Value} {env : Env}

/-- the loop of a comprehension whose one test never holds, over a target of names -/
theorem loop_PF {elt iter c : PySem.Expr} {elts : List PySem.Expr} {x1} {tp : Pos} {scope : Scope} {pos : Pos} {it acc : Value} {env : Env} {R : Result → Shared → Prop} (I : Nat → Shared → Prop)
    (turn : ∀ n s, I n s → wpAny (model prog w) A (pyNext it) (fun r s₁ => match r with
      | none => R (.ok .next) s₁
      | some v => wpAny (model prog w) A (letOwnedTupleGo (.Tuple elts x1 tp) it v) (fun _ s₁' => wpAny (model prog w) A (assign (.Tuple elts x1 tp) env v) (fun _ s₂ =>
          wpAny (model prog w) A (isTrue c env (eval c env)) (fun ok s₃ => ok = false ∧ ∃ m, m < n ∧ I m s₃) (notedBy (model prog w) A env fun e s' => R (.error e) s') s₂)
          (notedBy (model prog w) A env fun e s' => R (.error e) s') s₁') (notedBy (model prog w) A env fun e s' => R (.error e) s') s₁) (notedBy (model prog w) A env fun e s' => R (.error e) s') s)
    (n : Nat) (h : I n s) : codeAny (model prog w) A (.compLoop (.ListComp elt [⟨.Tuple elts x1 tp, iter, [c], 0⟩] scope pos) 0 it acc env) R s := by
  refine codeAny_loop rfl I (fun n s hI => ?_) n h
  show wpAny _ A ((compTurn (.ListComp elt [⟨.Tuple elts x1 tp, iter, [c], 0⟩] scope pos) 0 it acc env).onRaise (fun x => do noteFrame x env; theTreesLotGoes x)) _ _ s
  refine wpAny_noted ?_
  rw [compTurn_list]
  refine wpAny_bind (wpAny_standAt (wpAny_bind (wpAny_mono (turn n s hI) (fun r s₁ h₁ => ?_) fun _ _ h' => h')))
  cases r with
  | none => exact wpAny_pure h₁
  | some v =>
    refine wpAny_bind (wpAny_mono h₁ (fun _ s₁' h₁' => ?_) fun _ _ h' => h')
    refine wpAny_bind (wpAny_mono h₁' (fun _ s₂ h₂ => wpAny_bind (wpAny_mono (wpAny_tests_one h₂) (fun ok s₃ h₃ => ?_) fun _ _ h' => h')) fun _ _ h' => h')
    obtain ⟨rfl, h₃⟩ := h₃
    exact wpAny_pure ⟨rfl, h₃⟩

theorem block_PF {elt iter c : PySem.Expr} {x x₂ : Str} {px px₂ tp : Pos} {tk} {scope : Scope} {cl : List (Str × Addr)} {pos : Pos} {s₂ : Shared} {I ax : Addr} {its : Array Value} {nl : Nat} {news : List (Addr × Obj)} {RR : Value → Addr → Result → Shared → Prop}
    (hcell : ∀ y ∈ scope.names, y.2 ≠ .cell) (hkind : scope.kind = .function) (hx : scope.names.lookup x = some .local) (hx₂ : scope.names.lookup x₂ = some .local) (hxx : x ≠ x₂) (hh : A.handled = none)
    (hit : s₂.heap.IsListIter I ax 0) (hne : ax ≠ I) (F : Fr h₀ L s₂.heap m) (N : News h₀ L s₂.heap news) (hm : (ax, ({ cls := .type "list", data := .seq its nl } : Obj)) ∈ news) (hIL : L ≠ I) (hI₀ : h₀.get? I = none) (off : ∀ p ∈ news, p.1 ≠ I)
    (test : ∀ (i : Nat) (v : Value), its[i]? = some v → ∃ (t : Addr) (ot : Obj) (v₁ v₂ : Value) (nt : Nat), v = .ref t ∧ (t, ot) ∈ news ∧ ot.cls = .type "tuple" ∧ ot.data = .seq #[v₁, v₂] nt ∧
      ∀ C g tk m₂ (E' : Value → Shared → Prop), g.Ns C m₂ → m₂ x = some v₁ → m₂ x₂ = some v₂ →
        wpAny (model prog w) A (isTrue c (compEnvC scope cl C env) (eval c (compEnvC scope cl C env))) (fun ok s' => ok = false ∧ ∃ tk', s' = { s₂ with heap := g, toks := tk' }) E' { s₂ with heap := g, toks := tk })
    (hRR : ∀ D C h tk m', Fr h₀ L h m → News h₀ L h ((D, lst []) :: news) → (∀ p ∈ news, p.1 ≠ D) → h.Ns C m' → h₀.get? C = none → h₀.get? D = none → C ≠ L → D ≠ L → C ≠ D → (∀ p ∈ news, p.1 ≠ C) → RR (.ref D) C (.ok .next) { s₂ with heap := h, toks := tk }) :
    wpAny (model prog w) A (newList []) (fun acc s₃ => wpAny (model prog w) A (newFunctionEnv scope env.globals cl [] env.qual none .none (some env)) (fun cenv s₄ =>
      codeAny (model prog w) A (.compStart (.ListComp elt [⟨.Tuple [.Name x px, .Name x₂ px₂] tk tp, iter, [c], 0⟩] scope pos) 0 (.ref I) acc { cenv with scope := relabel scope env }) (RR acc cenv.locals) s₄) E s₃) E s₂ := by
  refine wpAny_newObj_type (wpAny_newFunctionEnv hcell (by intro y hy; simp at hy) (fun h₁ hns₁ hsb₁ => ?_) hkind)
  dsimp only at hns₁ hsb₁ ⊢
  generalize hH2 : s₂.heap.push { cls := .type "list", dict := none, data := .seq ([] : List Value).toArray } = H2 at hns₁ hsb₁ ⊢
  have hC : H2.objs.size = s₂.heap.objs.size + 1 := by rw [← hH2, Heap.size_push]
  have hDC : s₂.heap.objs.size ≠ H2.objs.size := by rw [hC]; exact Nat.ne_of_lt (Nat.lt_succ_self _)
  have below : ∀ b, b < s₂.heap.objs.size → b ≠ H2.objs.size ∧ b ≠ s₂.heap.objs.size := fun b hb => ⟨by rw [hC]; exact Nat.ne_of_lt (Nat.lt_succ_of_lt hb), Nat.ne_of_lt hb⟩
  have hIlt : I < s₂.heap.objs.size := by obtain ⟨_, e, _⟩ := id hit; exact Heap.lt_size e
  have old : ∀ b o, s₂.heap.get? b = some o → h₁.get? b = some o := fun b o e => hsb₁.extBut b o (below b (Heap.lt_size e)).1 (Heap.get?_push_of_some _ (hH2 ▸ Heap.get?_push_of_some _ e))
  have hacc : h₁.get? s₂.heap.objs.size = some (lst []) := hsb₁.extBut _ _ hDC (Heap.get?_push_of_some _ (hH2 ▸ Heap.get?_push_size _ rfl))
  have fresh : ∀ a, s₂.heap.objs.size ≤ a → s₂.heap.get? a = none := fun a ha => by
    cases e : s₂.heap.get? a with
    | none => rfl
    | some o' => exact absurd (Heap.lt_size e) (Nat.not_lt.mpr ha)
  have fresh₀ : ∀ a, s₂.heap.objs.size ≤ a → h₀.get? a = none := fun a ha => by
    cases e : h₀.get? a with
    | none => rfl
    | some o' => have := F.keep a o' e; rw [fresh a ha] at this; cases this
  have hD₀ : h₀.get? s₂.heap.objs.size = none := fresh₀ _ (Nat.le_refl _)
  have hC₀ : h₀.get? H2.objs.size = none := fresh₀ _ (by rw [hC]; exact Nat.le_succ _)
  have hLlt : L < s₂.heap.objs.size := F.ns.lt
  have hDL : s₂.heap.objs.size ≠ L := Ne.symm (below L hLlt).2
  have hCL : H2.objs.size ≠ L := Ne.symm (below L hLlt).1
  have hCI : I ≠ H2.objs.size := (below I hIlt).1
  have hDI : I ≠ s₂.heap.objs.size := (below I hIlt).2
  have offD : ∀ p ∈ news, p.1 ≠ s₂.heap.objs.size := fun p hp => (below _ (Heap.lt_size (N p hp).1)).2
  have offC : ∀ p ∈ news, p.1 ≠ H2.objs.size := fun p hp => (below _ (Heap.lt_size (N p hp).1)).1
  have W := Walks.list (prog := prog) (w := w) hh I ax hne its
  have loop : ∀ s₃ : Shared, s₃ = { s₂ with heap := h₁, toks := s₂.toks + ([] : List (Str × Value)).length } →
      codeAny (model prog w) A (.compLoop (.ListComp elt [⟨.Tuple [.Name x px, .Name x₂ px₂] tk tp, iter, [c], 0⟩] scope pos) 0 (.ref I) (.ref s₂.heap.objs.size) (compEnvC scope cl H2.objs.size env))
        (RR (.ref s₂.heap.objs.size) H2.objs.size) s₃ := by
    rintro s₃ rfl
    refine loop_PF
      (fun k s' => ∃ h' tk i m', s' = { s₂ with heap := h', toks := tk } ∧ i ≤ its.size ∧ k = its.size + 1 - i ∧ (h'.IsListIter I ax i ∧ h'.IsList ax its) ∧ Fr h₀ L h' m ∧ h'.Ns H2.objs.size m' ∧ News h₀ L h' ((s₂.heap.objs.size, lst []) :: news)) ?_ (its.size + 1)
      ⟨h₁, _, 0, _, rfl, Nat.zero_le _, rfl, ⟨by obtain ⟨o, e, r⟩ := hit; exact ⟨o, old _ _ e, r⟩, ⟨_, old _ _ (N _ hm).1, rfl, _, rfl⟩⟩, F.keeps old, hns₁, fun p hp => ?_⟩
    · rintro k s' ⟨h', tk, i, m', rfl, hi, rfl, hst', F', hn', N'⟩
      by_cases hlt : i < its.size
      · refine W.item i _ _ _ hlt hst' fun v h₂ tk₂ hPv hst₂ hk₂ => ?_
        obtain ⟨t, ot, v₁, v₂, nt, rfl, hmt, hct, hdt, R''⟩ := test i v hPv
        have N₂ : News h₀ L h₂ ((s₂.heap.objs.size, lst []) :: news) := news_but N' hk₂ fun p hp => by
          rcases List.mem_cons.mp hp with rfl | hp
          · exact Ne.symm hDI
          · exact off p hp
        have ht : IsTup h₂ t #[v₁, v₂] := ⟨ot, (N₂ _ (List.mem_cons_of_mem _ hmt)).1, hct, nt, hdt⟩
        refine wpAny_letOwnedTupleGo_listiter hst₂.1 ?_
        refine assign_Tuple_tuple hh ht rfl rfl fun h₅ he => ?_
        have he' : ∀ b o, h₂.get? b = some o → h₅.get? b = some o := fun b o e => he b o (Nat.ne_of_lt (Heap.lt_size e)) e
        refine assignInOrder_cons (wpAny_assign_Name (wpAny_storeName_local (lookup_relabel_local hx) ((hn'.at' fun o e => hk₂ _ o (by simpa using Ne.symm hCI) e).at' fun o e => he' _ o e) (fun h₆ hn₆ hs₆ => ?_) (by simp [compEnvC, relabel, hkind])))
        refine assignInOrder_cons (wpAny_assign_Name (wpAny_storeName_local (lookup_relabel_local hx₂) hn₆ (fun h₃ hn₃ hs₃ => ?_) (by simp [compEnvC, relabel, hkind])))
        refine assignInOrder_nil ?_
        have old3 : ∀ b o, b ≠ H2.objs.size → h₂.get? b = some o → h₃.get? b = some o := fun b o hb e => hs₃.extBut b o hb (hs₆.extBut b o hb (he' b o e))
        have F₃ : Fr h₀ L h₃ m := (((fr_but F' hk₂ hIL hI₀).keeps he').change hs₆ hCL hC₀).change hs₃ hCL hC₀
        have N₃ : News h₀ L h₃ ((s₂.heap.objs.size, lst []) :: news) := fun p hp => by
          have z := N₂ p hp
          refine ⟨old3 _ _ ?_ z.1, z.2⟩
          rcases List.mem_cons.mp hp with rfl | hp
          · exact hDC
          · exact offC p hp
        have hst₃ : h₃.IsListIter I ax (i + 1) ∧ h₃.IsList ax its := by
          refine ⟨?_, ⟨_, (N₃ _ (List.mem_cons_of_mem _ hm)).1, rfl, _, rfl⟩⟩
          obtain ⟨o, e, r⟩ := hst₂.1
          exact ⟨o, old3 _ _ hCI e, r⟩
        refine wpAny_mono (R'' H2.objs.size h₃ _ _ _ hn₃ (by simp [hxx]) (by simp)) (fun ok s₄ h₄ => ?_) fun _ _ e => e
        obtain ⟨rfl, tk₄, rfl⟩ := h₄
        exact ⟨rfl, its.size + 1 - (i + 1), by omega, h₃, tk₄, i + 1, _, rfl, hlt, rfl, hst₃, F₃, hn₃, N₃⟩
      · obtain rfl : i = its.size := Nat.le_antisymm hi (Nat.not_lt.mp hlt)
        refine W.done _ _ _ hst' fun h₂ tk₂ hk₂ => ?_
        exact hRR _ _ h₂ tk₂ _ (fr_but F' hk₂ hIL hI₀) (news_but N' hk₂ fun p hp => by
          rcases List.mem_cons.mp hp with rfl | hp
          · exact Ne.symm hDI
          · exact off p hp) offD (hn'.at' fun o e => hk₂ _ o (by simpa using Ne.symm hCI) e) hC₀ hD₀ hCL hDL (Ne.symm hDC) offC
    · rcases List.mem_cons.mp hp with rfl | hp
      · exact ⟨hacc, hDL, hD₀⟩
      · exact ⟨old _ _ (N p hp).1, (N p hp).2⟩
  exact codeAny_compStart_list (loop _ rfl) (W.self 0 _ _ _ ⟨by obtain ⟨o, e, r⟩ := hit; exact ⟨o, old _ _ e, r⟩, ⟨_, old _ _ (N _ hm).1, rfl, _, rfl⟩⟩ (loop _ rfl))

def SrcPF (prog : Program) (w : World) (A : Around) (h₀ : Heap) (L : Addr) (m : Str → Option Value) (env : Env) (c : PySem.Expr) (x x₂ : Str) (scope : Scope) (cl : List (Str × Addr)) (Q : Value → Shared → Prop) (xv : Value) (s₁ : Shared) : Prop :=
  ∃ (ax : Addr) (its : Array Value) (news : List (Addr × Obj)) (n : Nat), xv = .ref ax ∧ A.handled = none ∧ Fr h₀ L s₁.heap m ∧ News h₀ L s₁.heap news ∧ (ax, ({ cls := .type "list", data := .seq its n } : Obj)) ∈ news ∧
    (∀ (i : Nat) (v : Value), its[i]? = some v → ∃ (t : Addr) (ot : Obj) (v₁ v₂ : Value) (nt : Nat), v = .ref t ∧ (t, ot) ∈ news ∧ ot.cls = .type "tuple" ∧ ot.data = .seq #[v₁, v₂] nt ∧
      ∀ C g tk m₂ (E' : Value → Shared → Prop), g.Ns C m₂ → m₂ x = some v₁ → m₂ x₂ = some v₂ →
        wpAny (model prog w) A (isTrue c (compEnvC scope cl C env) (eval c (compEnvC scope cl C env))) (fun ok s' => ok = false ∧ ∃ tk', s' = { s₁ with heap := g, toks := tk' }) E' { s₁ with heap := g, toks := tk }) ∧
    ∀ D g tk, Fr h₀ L g m → News h₀ L g ((D, lst []) :: news) → (∀ p ∈ news, p.1 ≠ D) → Q (.ref D) { s₁ with heap := g, toks := tk }

theorem ListComp_PF {elt iter c : PySem.Expr} {x x₂ : Str} {px px₂ tp : Pos} {tk} {scope : Scope} {cl : List (Str × Addr)} {pos : Pos} {Q : Value → Shared → Prop} (_F₀ : Fr h₀ L s.heap m)
    (hclos : closureFor scope env = pure cl) (hcell : ∀ y ∈ scope.names, y.2 ≠ .cell) (hkind : scope.kind = .function)
    (hnames : ∀ y ∈ scope.names, y.2 = .local → scope.names.lookup y.1 = some .local) (hx : scope.names.lookup x = some .local) (hx₂ : scope.names.lookup x₂ = some .local) (hxx : x ≠ x₂)
    (h : wpAny (model prog w) A (eval iter env) (SrcPF prog w A h₀ L m env c x x₂ scope cl Q) E s)
    (hs : ∀ x, foldedSetIterable iter env x = pure x := by intro _; rfl) :
    wpAny (model prog w) A (eval (.ListComp elt [⟨.Tuple [.Name x px, .Name x₂ px₂] tk tp, iter, [c], 0⟩] scope pos) env) Q E s := by
  rw [eval_ListComp]
  refine wpAny_comprehension_free (use := none) rfl hs hclos hkind hnames (wpAny_mono h (fun xv s₁ h₁ => ?_) fun _ _ e => e)
  obtain ⟨ax, its, news, n, rfl, hh, F, N, hm, test, fin⟩ := h₁
  have hl : s₁.heap.IsList ax its := ⟨_, (N _ hm).1, rfl, _, rfl⟩
  have hlt : ax < s₁.heap.objs.size := by obtain ⟨_, e, _⟩ := hl; exact Heap.lt_size e
  refine wpAny_pyIter_list hl ?_
  have up : ∀ b o, s₁.heap.get? b = some o → (s₁.heap.push { cls := .type "list_iterator", data := .fields #[.ref ax, .int 0 0] }).get? b = some o := fun b o e => Heap.get?_push_of_some _ e
  refine block_PF (I := s₁.heap.objs.size) hcell hkind hx hx₂ hxx hh ⟨_, Heap.get?_push_size _ rfl, rfl, rfl⟩ (Nat.ne_of_lt hlt) (F.keeps up) (N.grown up) hm (Nat.ne_of_lt F.ns.lt) (next_is_new F) (fun p hp => Nat.ne_of_lt (Heap.lt_size (N p hp).1)) test ?_
  intro D C h tk m' F' N' offD hn hC₀ hD₀ hCL hDL hCD offC
  refine ⟨m', hn, fun h'' hs'' => fin D h'' tk (F'.change hs'' hCL hC₀) (fun p hp => ?_) offD⟩
  refine ⟨hs''.extBut _ _ ?_ (N' p hp).1, (N' p hp).2⟩
  rcases List.mem_cons.mp hp with rfl | hp
  · exact Ne.symm hCD
  · exact offC p hp
end compPF
end
section
open PySem.Calls
theorem mul9 {a b : Int} (a0 : -3 ≤ a) (a1 : a ≤ 3) (b0 : -3 ≤ b) (b1 : b ≤ 3) : -9 ≤ a * b ∧ a * b ≤ 9 := by
  have h : a = -3 ∨ a = -2 ∨ a = -1 ∨ a = 0 ∨ a = 1 ∨ a = 2 ∨ a = 3 := by omega
  rcases h with rfl | rfl | rfl | rfl | rfl | rfl | rfl <;> constructor <;> omega
abbrev Sm (a : Int) : Prop := -3 ≤ a ∧ a ≤ 3
theorem Sm.neg {a : Int} (h : Sm a) : Sm (0 - a) := ⟨by have := h.2; omega, by have := h.1; omega⟩
theorem sum4 {a b c d x y z w : Int} (ha : Sm a) (hb : Sm b) (hc : Sm c) (hd : Sm d) (hx : Sm x) (hy : Sm y) (hz : Sm z) (hw : Sm w) : -36 ≤ a * x + b * y + c * z + d * w ∧ a * x + b * y + c * z + d * w ≤ 36 := by
  have h1 := mul9 ha.1 ha.2 hx.1 hx.2
  have h2 := mul9 hb.1 hb.2 hy.1 hy.2
  have h3 := mul9 hc.1 hc.2 hz.1 hz.2
  have h4 := mul9 hd.1 hd.2 hw.1 hw.2
  omega
theorem sq_le {a b c d : Int} (ha : Sm a) (hb : Sm b) (hc : Sm c) (hd : Sm d) : 0 ≤ sq4 a b c d ∧ sq4 a b c d ≤ 36 := by
  have h := sum4 ha hb hc hd ha hb hc hd
  have h1 := sq_ge a
  have h2 := sq_ge b
  have h3 := sq_ge c
  have h4 := sq_ge d
  exact ⟨by show 0 ≤ a * a + b * b + c * c + d * d; omega, h.2⟩
theorem al3 (x0 x1 x2 x3 y0 y1 y2 y3 : Int) : sq4 (qm0 x0 x1 x2 x3 y0 y1 y2 y3) (qm1 x0 x1 x2 x3 y0 y1 y2 y3) (qm2 x0 x1 x2 x3 y0 y1 y2 y3) (qm3 x0 x1 x2 x3 y0 y1 y2 y3) = sq4 x0 x1 x2 x3 * sq4 y0 y1 y2 y3 := by
  unfold sq4 qm0 qm1 qm2 qm3; grind
theorem al4_0 (x0 x1 x2 x3 y0 y1 y2 y3 z0 z1 z2 z3 : Int) : qm0 (qm0 x0 x1 x2 x3 y0 y1 y2 y3) (qm1 x0 x1 x2 x3 y0 y1 y2 y3) (qm2 x0 x1 x2 x3 y0 y1 y2 y3) (qm3 x0 x1 x2 x3 y0 y1 y2 y3) z0 z1 z2 z3 = qm0 x0 x1 x2 x3 (qm0 y0 y1 y2 y3 z0 z1 z2 z3) (qm1 y0 y1 y2 y3 z0 z1 z2 z3) (qm2 y0 y1 y2 y3 z0 z1 z2 z3) (qm3 y0 y1 y2 y3 z0 z1 z2 z3) := by
  unfold qm0 qm1 qm2 qm3; grind
theorem al5_0 (x0 x1 x2 x3 y0 y1 y2 y3 : Int) : qm0 x0 x1 x2 x3 y0 y1 y2 y3 = qm0 y0 (0 - y1) (0 - y2) (0 - y3) x0 (0 - x1) (0 - x2) (0 - x3) := by
  unfold qm0; grind
theorem al6_0 (x0 x1 x2 x3 : Int) : qm0 x0 x1 x2 x3 x0 (0 - x1) (0 - x2) (0 - x3) = sq4 x0 x1 x2 x3 := by
  unfold sq4 qm0; grind
theorem al7_0 (x0 x1 x2 x3 y0 y1 y2 y3 z0 z1 z2 z3 : Int) : qm0 (x0 + y0) (x1 + y1) (x2 + y2) (x3 + y3) z0 z1 z2 z3 = qm0 x0 x1 x2 x3 z0 z1 z2 z3 + qm0 y0 y1 y2 y3 z0 z1 z2 z3 := by
  unfold qm0; grind
theorem al10_0 (x0 x1 x2 x3 y0 y1 y2 y3 : Int) : qm0 (qm0 x0 x1 x2 x3 y0 y1 y2 y3) (qm1 x0 x1 x2 x3 y0 y1 y2 y3) (qm2 x0 x1 x2 x3 y0 y1 y2 y3) (qm3 x0 x1 x2 x3 y0 y1 y2 y3) y0 (0 - y1) (0 - y2) (0 - y3) = x0 * sq4 y0 y1 y2 y3 := by
  unfold sq4 qm0 qm1 qm2 qm3; grind
theorem al13_0 (x0 x1 x2 x3 y0 y1 y2 y3 : Int) : qm0 (2 * x0) (2 * x1) (2 * x2) (2 * x3) y0 y1 y2 y3 = 2 * qm0 x0 x1 x2 x3 y0 y1 y2 y3 := by
  unfold qm0; grind
theorem al4_1 (x0 x1 x2 x3 y0 y1 y2 y3 z0 z1 z2 z3 : Int) : qm1 (qm0 x0 x1 x2 x3 y0 y1 y2 y3) (qm1 x0 x1 x2 x3 y0 y1 y2 y3) (qm2 x0 x1 x2 x3 y0 y1 y2 y3) (qm3 x0 x1 x2 x3 y0 y1 y2 y3) z0 z1 z2 z3 = qm1 x0 x1 x2 x3 (qm0 y0 y1 y2 y3 z0 z1 z2 z3) (qm1 y0 y1 y2 y3 z0 z1 z2 z3) (qm2 y0 y1 y2 y3 z0 z1 z2 z3) (qm3 y0 y1 y2 y3 z0 z1 z2 z3) := by
  unfold qm0 qm1 qm2 qm3; grind
theorem al5_1 (x0 x1 x2 x3 y0 y1 y2 y3 : Int) : 0 - qm1 x0 x1 x2 x3 y0 y1 y2 y3 = qm1 y0 (0 - y1) (0 - y2) (0 - y3) x0 (0 - x1) (0 - x2) (0 - x3) := by
  unfold qm1; grind
theorem al6_1 (x0 x1 x2 x3 : Int) : qm1 x0 x1 x2 x3 x0 (0 - x1) (0 - x2) (0 - x3) = 0 := by
  unfold qm1; grind
theorem al7_1 (x0 x1 x2 x3 y0 y1 y2 y3 z0 z1 z2 z3 : Int) : qm1 (x0 + y0) (x1 + y1) (x2 + y2) (x3 + y3) z0 z1 z2 z3 = qm1 x0 x1 x2 x3 z0 z1 z2 z3 + qm1 y0 y1 y2 y3 z0 z1 z2 z3 := by
  unfold qm1; grind
theorem al10_1 (x0 x1 x2 x3 y0 y1 y2 y3 : Int) : qm1 (qm0 x0 x1 x2 x3 y0 y1 y2 y3) (qm1 x0 x1 x2 x3 y0 y1 y2 y3) (qm2 x0 x1 x2 x3 y0 y1 y2 y3) (qm3 x0 x1 x2 x3 y0 y1 y2 y3) y0 (0 - y1) (0 - y2) (0 - y3) = x1 * sq4 y0 y1 y2 y3 := by
  unfold sq4 qm0 qm1 qm2 qm3; grind
theorem al13_1 (x0 x1 x2 x3 y0 y1 y2 y3 : Int) : qm1 (2 * x0) (2 * x1) (2 * x2) (2 * x3) y0 y1 y2 y3 = 2 * qm1 x0 x1 x2 x3 y0 y1 y2 y3 := by
  unfold qm1; grind
theorem al4_2 (x0 x1 x2 x3 y0 y1 y2 y3 z0 z1 z2 z3 : Int) : qm2 (qm0 x0 x1 x2 x3 y0 y1 y2 y3) (qm1 x0 x1 x2 x3 y0 y1 y2 y3) (qm2 x0 x1 x2 x3 y0 y1 y2 y3) (qm3 x0 x1 x2 x3 y0 y1 y2 y3) z0 z1 z2 z3 = qm2 x0 x1 x2 x3 (qm0 y0 y1 y2 y3 z0 z1 z2 z3) (qm1 y0 y1 y2 y3 z0 z1 z2 z3) (qm2 y0 y1 y2 y3 z0 z1 z2 z3) (qm3 y0 y1 y2 y3 z0 z1 z2 z3) := by
  unfold qm0 qm1 qm2 qm3; grind
theorem al5_2 (x0 x1 x2 x3 y0 y1 y2 y3 : Int) : 0 - qm2 x0 x1 x2 x3 y0 y1 y2 y3 = qm2 y0 (0 - y1) (0 - y2) (0 - y3) x0 (0 - x1) (0 - x2) (0 - x3) := by
  unfold qm2; grind
theorem al6_2 (x0 x1 x2 x3 : Int) : qm2 x0 x1 x2 x3 x0 (0 - x1) (0 - x2) (0 - x3) = 0 := by
  unfold qm2; grind
theorem al7_2 (x0 x1 x2 x3 y0 y1 y2 y3 z0 z1 z2 z3 : Int) : qm2 (x0 + y0) (x1 + y1) (x2 + y2) (x3 + y3) z0 z1 z2 z3 = qm2 x0 x1 x2 x3 z0 z1 z2 z3 + qm2 y0 y1 y2 y3 z0 z1 z2 z3 := by
  unfold qm2; grind
theorem al10_2 (x0 x1 x2 x3 y0 y1 y2 y3 : Int) : qm2 (qm0 x0 x1 x2 x3 y0 y1 y2 y3) (qm1 x0 x1 x2 x3 y0 y1 y2 y3) (qm2 x0 x1 x2 x3 y0 y1 y2 y3) (qm3 x0 x1 x2 x3 y0 y1 y2 y3) y0 (0 - y1) (0 - y2) (0 - y3) = x2 * sq4 y0 y1 y2 y3 := by
  unfold sq4 qm0 qm1 qm2 qm3; grind
theorem al13_2 (x0 x1 x2 x3 y0 y1 y2 y3 : Int) : qm2 (2 * x0) (2 * x1) (2 * x2) (2 * x3) y0 y1 y2 y3 = 2 * qm2 x0 x1 x2 x3 y0 y1 y2 y3 := by
  unfold qm2; grind
theorem al4_3 (x0 x1 x2 x3 y0 y1 y2 y3 z0 z1 z2 z3 : Int) : qm3 (qm0 x0 x1 x2 x3 y0 y1 y2 y3) (qm1 x0 x1 x2 x3 y0 y1 y2 y3) (qm2 x0 x1 x2 x3 y0 y1 y2 y3) (qm3 x0 x1 x2 x3 y0 y1 y2 y3) z0 z1 z2 z3 = qm3 x0 x1 x2 x3 (qm0 y0 y1 y2 y3 z0 z1 z2 z3) (qm1 y0 y1 y2 y3 z0 z1 z2 z3) (qm2 y0 y1 y2 y3 z0 z1 z2 z3) (qm3 y0 y1 y2 y3 z0 z1 z2 z3) := by
  unfold qm0 qm1 qm2 qm3; grind
theorem al5_3 (x0 x1 x2 x3 y0 y1 y2 y3 : Int) : 0 - qm3 x0 x1 x2 x3 y0 y1 y2 y3 = qm3 y0 (0 - y1) (0 - y2) (0 - y3) x0 (0 - x1) (0 - x2) (0 - x3) := by
  unfold qm3; grind
theorem al6_3 (x0 x1 x2 x3 : Int) : qm3 x0 x1 x2 x3 x0 (0 - x1) (0 - x2) (0 - x3) = 0 := by
  unfold qm3; grind
theorem al7_3 (x0 x1 x2 x3 y0 y1 y2 y3 z0 z1 z2 z3 : Int) : qm3 (x0 + y0) (x1 + y1) (x2 + y2) (x3 + y3) z0 z1 z2 z3 = qm3 x0 x1 x2 x3 z0 z1 z2 z3 + qm3 y0 y1 y2 y3 z0 z1 z2 z3 := by
  unfold qm3; grind
theorem al10_3 (x0 x1 x2 x3 y0 y1 y2 y3 : Int) : qm3 (qm0 x0 x1 x2 x3 y0 y1 y2 y3) (qm1 x0 x1 x2 x3 y0 y1 y2 y3) (qm2 x0 x1 x2 x3 y0 y1 y2 y3) (qm3 x0 x1 x2 x3 y0 y1 y2 y3) y0 (0 - y1) (0 - y2) (0 - y3) = x3 * sq4 y0 y1 y2 y3 := by
  unfold sq4 qm0 qm1 qm2 qm3; grind
theorem al13_3 (x0 x1 x2 x3 y0 y1 y2 y3 : Int) : qm3 (2 * x0) (2 * x1) (2 * x2) (2 * x3) y0 y1 y2 y3 = 2 * qm3 x0 x1 x2 x3 y0 y1 y2 y3 := by
  unfold qm3; grind
theorem al9_0 (x0 x1 x2 x3 y0 y1 y2 y3 : Int) : qm0 x0 x1 x2 x3 y0 y1 y2 y3 = qm0 y0 y1 y2 y3 x0 x1 x2 x3 + 0 := by
  unfold qm0; grind
theorem al9_1 (x0 x1 x2 x3 y0 y1 y2 y3 : Int) : qm1 x0 x1 x2 x3 y0 y1 y2 y3 = qm1 y0 y1 y2 y3 x0 x1 x2 x3 + 2 * (x2 * y3 - x3 * y2) := by
  unfold qm1; grind
theorem al9_2 (x0 x1 x2 x3 y0 y1 y2 y3 : Int) : qm2 x0 x1 x2 x3 y0 y1 y2 y3 = qm2 y0 y1 y2 y3 x0 x1 x2 x3 + -2 * (x1 * y3 - x3 * y1) := by
  unfold qm2; grind
theorem al9_3 (x0 x1 x2 x3 y0 y1 y2 y3 : Int) : qm3 x0 x1 x2 x3 y0 y1 y2 y3 = qm3 y0 y1 y2 y3 x0 x1 x2 x3 + 2 * (x1 * y2 - x2 * y1) := by
  unfold qm3; grind
theorem al9 (x0 x1 x2 x3 y0 y1 y2 y3 : Int) : (qm0 x0 x1 x2 x3 y0 y1 y2 y3 = qm0 y0 y1 y2 y3 x0 x1 x2 x3 ∧ qm1 x0 x1 x2 x3 y0 y1 y2 y3 = qm1 y0 y1 y2 y3 x0 x1 x2 x3 ∧ qm2 x0 x1 x2 x3 y0 y1 y2 y3 = qm2 y0 y1 y2 y3 x0 x1 x2 x3 ∧ qm3 x0 x1 x2 x3 y0 y1 y2 y3 = qm3 y0 y1 y2 y3 x0 x1 x2 x3) ↔ ((x1 * y2 - x2 * y1) = 0 ∧ (x2 * y3 - x3 * y2) = 0 ∧ (x1 * y3 - x3 * y1) = 0) := by
  have h0 := al9_0 x0 x1 x2 x3 y0 y1 y2 y3
  have h1 := al9_1 x0 x1 x2 x3 y0 y1 y2 y3
  have h2 := al9_2 x0 x1 x2 x3 y0 y1 y2 y3
  have h3 := al9_3 x0 x1 x2 x3 y0 y1 y2 y3
  generalize qm0 x0 x1 x2 x3 y0 y1 y2 y3 = A0 at *
  generalize qm1 x0 x1 x2 x3 y0 y1 y2 y3 = A1 at *
  generalize qm2 x0 x1 x2 x3 y0 y1 y2 y3 = A2 at *
  generalize qm3 x0 x1 x2 x3 y0 y1 y2 y3 = A3 at *
  generalize qm0 y0 y1 y2 y3 x0 x1 x2 x3 = C0 at *
  generalize qm1 y0 y1 y2 y3 x0 x1 x2 x3 = C1 at *
  generalize qm2 y0 y1 y2 y3 x0 x1 x2 x3 = C2 at *
  generalize qm3 y0 y1 y2 y3 x0 x1 x2 x3 = C3 at *
  omega
end
section
theorem sm_mod (k : Int) : Sm (k.fmod 7 - 3) := by
  have e : k.fmod 7 = k % 7 := Int.fmod_eq_emod_of_nonneg k (by decide)
  have h0 := Int.emod_nonneg k (show (7 : Int) ≠ 0 by decide)
  have h1 := Int.emod_lt_of_pos k (show (0 : Int) < 7 by decide)
  constructor <;> omega
theorem twelveM {ws : List Value} {ns : List Int} (h : IntsAre ws (List.map (fun k => k.fmod 7 - 3) (List.take 12 (ns ++ (List.replicate 12 [(0 : Int)]).flatten)))) : ∃ (k0 k1 k2 k3 k4 k5 k6 k7 k8 k9 k10 k11 : Int) (i0 i1 i2 i3 i4 i5 i6 i7 i8 i9 i10 i11 : Tok), ws = [Value.int k0 i0, Value.int k1 i1, Value.int k2 i2, Value.int k3 i3, Value.int k4 i4, Value.int k5 i5, Value.int k6 i6, Value.int k7 i7, Value.int k8 i8, Value.int k9 i9, Value.int k10 i10, Value.int k11 i11] ∧ (Sm k0 ∧ Sm k1 ∧ Sm k2 ∧ Sm k3 ∧ Sm k4 ∧ Sm k5 ∧ Sm k6 ∧ Sm k7 ∧ Sm k8 ∧ Sm k9 ∧ Sm k10 ∧ Sm k11) := by
  have hl : (List.map (fun k => k.fmod 7 - 3) (List.take 12 (ns ++ (List.replicate 12 [(0 : Int)]).flatten))).length = 12 := by simp
  have hs : ∀ k ∈ (List.map (fun k => k.fmod 7 - 3) (List.take 12 (ns ++ (List.replicate 12 [(0 : Int)]).flatten))), Sm k := fun k hk => by
    obtain ⟨j, _, rfl⟩ := List.mem_map.mp hk
    exact sm_mod j
  generalize (List.map (fun k => k.fmod 7 - 3) (List.take 12 (ns ++ (List.replicate 12 [(0 : Int)]).flatten))) = l at h hl hs
  rcases l with _ | ⟨k0, l⟩
  · simp at hl
  obtain ⟨i0, ws0, rfl, h0⟩ := h.cons_inv
  rcases l with _ | ⟨k1, l⟩
  · simp at hl
  obtain ⟨i1, ws1, rfl, h1⟩ := h0.cons_inv
  rcases l with _ | ⟨k2, l⟩
  · simp at hl
  obtain ⟨i2, ws2, rfl, h2⟩ := h1.cons_inv
  rcases l with _ | ⟨k3, l⟩
  · simp at hl
  obtain ⟨i3, ws3, rfl, h3⟩ := h2.cons_inv
  rcases l with _ | ⟨k4, l⟩
  · simp at hl
  obtain ⟨i4, ws4, rfl, h4⟩ := h3.cons_inv
  rcases l with _ | ⟨k5, l⟩
  · simp at hl
  obtain ⟨i5, ws5, rfl, h5⟩ := h4.cons_inv
  rcases l with _ | ⟨k6, l⟩
  · simp at hl
  obtain ⟨i6, ws6, rfl, h6⟩ := h5.cons_inv
  rcases l with _ | ⟨k7, l⟩
  · simp at hl
  obtain ⟨i7, ws7, rfl, h7⟩ := h6.cons_inv
  rcases l with _ | ⟨k8, l⟩
  · simp at hl
  obtain ⟨i8, ws8, rfl, h8⟩ := h7.cons_inv
  rcases l with _ | ⟨k9, l⟩
  · simp at hl
  obtain ⟨i9, ws9, rfl, h9⟩ := h8.cons_inv
  rcases l with _ | ⟨k10, l⟩
  · simp at hl
  obtain ⟨i10, ws10, rfl, h10⟩ := h9.cons_inv
  rcases l with _ | ⟨k11, l⟩
  · simp at hl
  obtain ⟨i11, ws11, rfl, h11⟩ := h10.cons_inv
  rcases l with _ | ⟨k, l⟩
  · obtain rfl := h11.nil_inv
    exact ⟨k0, k1, k2, k3, k4, k5, k6, k7, k8, k9, k10, k11, i0, i1, i2, i3, i4, i5, i6, i7, i8, i9, i10, i11, rfl, hs k0 (by simp), hs k1 (by simp), hs k2 (by simp), hs k3 (by simp), hs k4 (by simp), hs k5 (by simp), hs k6 (by simp), hs k7 (by simp), hs k8 (by simp), hs k9 (by simp), hs k10 (by simp), hs k11 (by simp)⟩
  · simp at hl
end
section
local macro_rules | `(tactic| walk_at $s:str) => do
  let t := Lean.Syntax.mkStrLit ("x " ++ s.getString)
  `(tactic| k_extra $t)
local macro_rules | `(tactic| k_mem) => `(tactic| assumption)
local macro_rules | `(tactic| lcg_src) => `(tactic| exact ⟨_, by k_mem, rfl, _, rfl⟩)
local macro_rules | `(tactic| k_all) => `(tactic| first | exact Mine.below_ne (by assumption) (by omega) | exact Mine.above_ne (by assumption) (by omega))
section
section
theorem kw1 : True := by
  k_with_none
  k_with "x c sub" => (intro p hp; repeat (first | exact hp | refine List.mem_cons_of_mem _ ?_))
  k_with "x binaryOp Add ref ref" => (k_here; k_dflt (refine' kde_addT ?k1_x ?k2_x ?k3_x ?k4_x ?k5_x ?k6_x ?k7_x ?k8_x ?_; (case k1_x => k_asm); (case k2_x => k_asm); (case k3_x => kun_tup); (case k4_x => kun_tup); (case k5_x => exact List.cons_ne_nil _ _); (case k6_x => exact List.cons_ne_nil _ _); (case k7_x => exact Nat.le_of_ble_eq_true rfl); (case k8_x => kun_lit); k_whole); intro D' h' F' N' l1; (try k_lt l1); (try k_sweep))
  k_with "x subscriptTail Name Slice ref ref" => (k_here; (with_reducible show wpAny _ _ (subscriptTail _ (PySem.Expr.Slice none _ none _) (Value.ref _) (Value.ref _)) _ _ _); k_dflt (refine' slice5 ?F_x ?N_x ?t_x ?_ ?s_x ?g_x; (case F_x => k_asm); (case N_x => k_asm); (case t_x => kun_tup); (case s_x => with_unfolding_all rfl); (case g_x => intro _; with_unfolding_all rfl); k_whole); intro D' h' F' N' l1; (try k_lt l1); (try k_sweep))
  k_with "x c enter" => (refine' code_def ?k1_x ?k2_x ?k3_x ?k4_x ?k5_x ?kA_x ?kF_x ?kK_x ?k6_x ?k7_x ?k8_x ?k9_x ?kB_x ?_ ?c2_x ?c3_x ?c4_x ?c5_x; (case kA_x => exact rfl); (case kF_x => exact rfl); (case kK_x => first | exact rfl | assumption); (case k1_x => k_asm); (case k2_x => k_asm); (case k3_x => k_asm); (case k4_x => k_asm); (case k5_x => k_asm); (case k6_x => k_is); (case k7_x => k_is); (case k8_x => ktr_room); (case k9_x => exact BindsTo.of_eq rfl); (case c5_x => decide); (case kB_x => exact locs rfl); (case c2_x => exact rfl); (case c3_x => exact rfl); (case c4_x => exact rfl); k_whole; intro g' L' h' FG' F' N' B' X' T'; (try dsimp only); (try k_lift B'); (try k_fold))
  k_with "x c enterC" => (refine' code_defC ?k1_x ?k2_x ?k3_x ?k4_x ?k5_x ?kA_x ?kF_x ?kK_x ?k6_x ?k7_x ?k8_x ?k9_x ?kB_x ?kD_x ?_ ?c2_x ?c3_x ?c4_x; (case kA_x => exact rfl); (case kF_x => exact rfl); (case kK_x => first | exact rfl | assumption); (case k1_x => k_asm); (case k2_x => k_asm); (case k3_x => k_asm); (case k4_x => k_asm); (case k5_x => k_asm); (case k6_x => k_is); (case k7_x => k_is); (case k8_x => ktr_room); (case k9_x => exact BindsTo.of_eq rfl); (case kB_x => exact rfl); (case kD_x => decide +kernel); (case c2_x => exact rfl); (case c3_x => exact rfl); (case c4_x => exact rfl); k_whole; intro g' L' h' tk' cells' FG' F' N' Y' B' X' T' l1; (try k_lt l1); k_cells Y'; (try simp only [List.cons_append, List.nil_append] at N'); (try dsimp only); (try k_lift B'); (try k_fold))
  k_with "x CompEnd" => (k_here; (refine LCg.CompEnd.intro (by assumption) (by assumption) _ (fun _ h => h) (by first | assumption | (simp only [LCg.Off3, and_true]; assumption)) (by lcg_src) ?_))
  k_with "x exec For Tuple Call cons nil" => (k_here; (rename Fr _ _ _ _ => lF'); (rename News _ _ _ _ => lN'); with_unfolding_all ((refine' For_turns lF' ?_); k_whole; (refine MethodCall_ ?_); (refine ld lF' (by rfl) ?_); (refine getMethod_tab (knd := PySem.strKind _ _) (enc := PyData.str) PySem.F.slot_dict_items PySem.F.type_dict_items (by k_tabat) ?_); (refine callWith_method0 ?_); (refine call_items_tab (knd := PySem.strKind _ _) (enc := PyData.str) (by k_tabat) lF' lN' ?_); intro h' o' hv' F' N'; (replace N' := kti_tail N'); (refine kti_items (knd := PySem.strKind _ _) (enc := PyData.str) (xs := []) (by rfl) F' N' hv' (by k_tabat) (by k_mem) (fun _ _ h => Value.isStrOf_shape h) (by rfl) ?_)); clear lF' lN'; intro i' l1; (try k_lt l1))
  k_with "x c lt" => first | assumption | (refine ktn_ltOf ?_; first | assumption | (apply And.right; assumption) | ((iterate 2 apply And.right); assumption) | ((iterate 3 apply And.right); assumption) | ((iterate 4 apply And.right); assumption) | ((iterate 5 apply And.right); assumption) | ((iterate 6 apply And.right); assumption) | ((iterate 7 apply And.right); assumption) | ((iterate 8 apply And.right); assumption) | ((iterate 9 apply And.right); assumption) | ((iterate 10 apply And.right); assumption) | ((iterate 11 apply And.right); assumption) | ((iterate 12 apply And.right); assumption) | ((iterate 13 apply And.right); assumption) | ((iterate 14 apply And.right); assumption))
  k_with "x eval ListComp" => (k_here; k_dflt (refine ListComp_Tup (_F₀ := by k_asm) (by with_unfolding_all rfl) (by decide) (by rfl) (by decide) (by rfl) ?_))
  k_with "x TupSrc" => (k_here; k_dflt (refine TupSrc.made (by rfl) (by k_asm) (by k_asm) (by k_mem) (by first | size_fits | exact Nat.le_of_ble_eq_true rfl) ?_; intro g'; lcg_lit))
  k_with "x call ref" => (k_here; k_dflt (refine wpAny_call ?_; first | walk_at "c enter" | walk_at "c enterC"))
  trivial
set_option maxRecDepth 100000 in
set_option maxHeartbeats 8000000 in
theorem turned_c (w : World) (news : List (Addr × Obj)) (x : Addr) (x0 x1 x2 x3 : Int) (t0 t1 t2 t3 : Tok) (hx : (x, T4 x0 x1 x2 x3 t0 t1 t2 t3) ∈ news) :
    Con 1 w 96 [.ref x] news (fun h₀ L m s Q => Ret4 h₀ L m news s Q x0 (0 - x1) (0 - x2) (0 - x3)) := by
  unfold Con; k_fill
  intro loose mean mg mb dp un gd cn cs a ccd cl outer A₀ base h₀ L m s Q E B F X N T hk hd hu hret
  refine wpAny_call ?_
  k_dflt walk_at "c enter"
  w_top off
  k_steps
  refine ret4 hret (by k_asm) (by k_asm) (by k_mem) rfl rfl rfl rfl (by walk_at "c sub") (by walk_at "c lt")

set_option maxRecDepth 100000 in
set_option maxHeartbeats 8000000 in
theorem sum_c (w : World) (news : List (Addr × Obj)) (x y : Addr) (x0 x1 x2 x3 y0 y1 y2 y3 : Int) (t0 t1 t2 t3 u0 u1 u2 u3 : Tok) (hx : (x, T4 x0 x1 x2 x3 t0 t1 t2 t3) ∈ news) (hy : (y, T4 y0 y1 y2 y3 u0 u1 u2 u3) ∈ news) :
    Con 1 w 77 [.ref x, .ref y] news (fun h₀ L m s Q => Ret4 h₀ L m news s Q (x0 + y0) (x1 + y1) (x2 + y2) (x3 + y3)) := by
  unfold Con; k_fill
  intro loose mean mg mb dp un gd cn cs a ccd cl outer A₀ base h₀ L m s Q E B F X N T hk hd hu hret
  refine wpAny_call ?_
  k_dflt walk_at "c enter"
  w_top off
  k_steps
  refine ret4 hret (by k_asm) (by k_asm) (by k_mem) (Int.add_comm _ _) (Int.add_comm _ _) (Int.add_comm _ _) (Int.add_comm _ _) (by walk_at "c sub") (by walk_at "c lt")

set_option maxRecDepth 100000 in
set_option maxHeartbeats 8000000 in
theorem scaled_c (w : World) (news : List (Addr × Obj)) (x : Addr) (f x0 x1 x2 x3 : Int) (tf t0 t1 t2 t3 : Tok) (hx : (x, T4 x0 x1 x2 x3 t0 t1 t2 t3) ∈ news) (b0 : -1000000 ≤ f) (b1 : f ≤ 1000000) :
    Con 1 w 82 [.int f tf, .ref x] news (fun h₀ L m s Q => Ret4 h₀ L m news s Q (f * x0) (f * x1) (f * x2) (f * x3)) := by
  unfold Con; k_fill
  intro loose mean mg mb dp un gd cn cs a ccd cl outer A₀ base h₀ L m s Q E B F X N T hk hd hu hret
  refine wpAny_call ?_
  k_dflt walk_at "c enterC"
  w_top off
  k_steps
  refine ret4 hret (by k_asm) (by k_asm) (by k_mem) rfl rfl rfl rfl (by walk_at "c sub") (by walk_at "c lt")
end
section
local macro_rules | `(tactic| k_all) => `(tactic| first | assumption | exact Mine.below_neR (by assumption) (by omega) | exact Mine.above_neR (by assumption) (by omega))
local macro_rules | `(tactic| is_list) => `(tactic| exact News.isList (by k_asm) (by k_mem))
theorem kw2 : True := by
  k_with_none
  k_with "x c sub" => (intro p hp; repeat (first | exact hp | refine List.mem_cons_of_mem _ ?_))
  k_with "x binaryOp Add ref ref" => (k_here; k_dflt (refine' kde_addT ?k1_x ?k2_x ?k3_x ?k4_x ?k5_x ?k6_x ?k7_x ?k8_x ?_; (case k1_x => k_asm); (case k2_x => k_asm); (case k3_x => kun_tup); (case k4_x => kun_tup); (case k5_x => exact List.cons_ne_nil _ _); (case k6_x => exact List.cons_ne_nil _ _); (case k7_x => exact Nat.le_of_ble_eq_true rfl); (case k8_x => kun_lit); k_whole); intro D' h' F' N' l1; (try k_lt l1); (try k_sweep))
  k_with "x subscriptTail Name Slice ref ref" => (k_here; (with_reducible show wpAny _ _ (subscriptTail _ (PySem.Expr.Slice none _ none _) (Value.ref _) (Value.ref _)) _ _ _); k_dflt (refine' slice5 ?F_x ?N_x ?t_x ?_ ?s_x ?g_x; (case F_x => k_asm); (case N_x => k_asm); (case t_x => kun_tup); (case s_x => with_unfolding_all rfl); (case g_x => intro _; with_unfolding_all rfl); k_whole); intro D' h' F' N' l1; (try k_lt l1); (try k_sweep))
  k_with "x c enter" => (refine' code_def ?k1_x ?k2_x ?k3_x ?k4_x ?k5_x ?kA_x ?kF_x ?kK_x ?k6_x ?k7_x ?k8_x ?k9_x ?kB_x ?_ ?c2_x ?c3_x ?c4_x ?c5_x; (case kA_x => exact rfl); (case kF_x => exact rfl); (case kK_x => first | exact rfl | assumption); (case k1_x => k_asm); (case k2_x => k_asm); (case k3_x => k_asm); (case k4_x => k_asm); (case k5_x => k_asm); (case k6_x => k_is); (case k7_x => k_is); (case k8_x => ktr_room); (case k9_x => exact BindsTo.of_eq rfl); (case c5_x => decide); (case kB_x => exact locs rfl); (case c2_x => exact rfl); (case c3_x => exact rfl); (case c4_x => exact rfl); k_whole; intro g' L' h' FG' F' N' B' X' T'; (try dsimp only); (try k_lift B'); (try k_fold))
  k_with "x c enterC" => (refine' code_defC ?k1_x ?k2_x ?k3_x ?k4_x ?k5_x ?kA_x ?kF_x ?kK_x ?k6_x ?k7_x ?k8_x ?k9_x ?kB_x ?kD_x ?_ ?c2_x ?c3_x ?c4_x; (case kA_x => exact rfl); (case kF_x => exact rfl); (case kK_x => first | exact rfl | assumption); (case k1_x => k_asm); (case k2_x => k_asm); (case k3_x => k_asm); (case k4_x => k_asm); (case k5_x => k_asm); (case k6_x => k_is); (case k7_x => k_is); (case k8_x => ktr_room); (case k9_x => exact BindsTo.of_eq rfl); (case kB_x => exact rfl); (case kD_x => decide +kernel); (case c2_x => exact rfl); (case c3_x => exact rfl); (case c4_x => exact rfl); k_whole; intro g' L' h' tk' cells' FG' F' N' Y' B' X' T' l1; (try k_lt l1); k_cells Y'; (try simp only [List.cons_append, List.nil_append] at N'); (try dsimp only); (try k_lift B'); (try k_fold))
  k_with "x CompEnd" => (k_here; (refine LCg.CompEnd.intro (by assumption) (by assumption) _ (fun _ h => h) (by first | assumption | (simp only [LCg.Off3, and_true]; assumption)) (by lcg_src) ?_))
  k_with "x exec For Tuple Call cons nil" => (k_here; (rename Fr _ _ _ _ => lF'); (rename News _ _ _ _ => lN'); with_unfolding_all ((refine' For_turns lF' ?_); k_whole; (refine MethodCall_ ?_); (refine ld lF' (by rfl) ?_); (refine getMethod_tab (knd := PySem.strKind _ _) (enc := PyData.str) PySem.F.slot_dict_items PySem.F.type_dict_items (by k_tabat) ?_); (refine callWith_method0 ?_); (refine call_items_tab (knd := PySem.strKind _ _) (enc := PyData.str) (by k_tabat) lF' lN' ?_); intro h' o' hv' F' N'; (replace N' := kti_tail N'); (refine kti_items (knd := PySem.strKind _ _) (enc := PyData.str) (xs := []) (by rfl) F' N' hv' (by k_tabat) (by k_mem) (fun _ _ h => Value.isStrOf_shape h) (by rfl) ?_)); clear lF' lN'; intro i' l1; (try k_lt l1))
  k_with "x c lt" => first | assumption | (refine ktn_ltOf ?_; first | assumption | (apply And.right; assumption) | ((iterate 2 apply And.right); assumption) | ((iterate 3 apply And.right); assumption) | ((iterate 4 apply And.right); assumption) | ((iterate 5 apply And.right); assumption) | ((iterate 6 apply And.right); assumption) | ((iterate 7 apply And.right); assumption) | ((iterate 8 apply And.right); assumption) | ((iterate 9 apply And.right); assumption) | ((iterate 10 apply And.right); assumption) | ((iterate 11 apply And.right); assumption) | ((iterate 12 apply And.right); assumption) | ((iterate 13 apply And.right); assumption) | ((iterate 14 apply And.right); assumption))
  k_with "x eval ListComp" => (k_here; k_dflt (refine ListComp_Tup (_F₀ := by k_asm) (by with_unfolding_all rfl) (by decide) (by rfl) (by decide) (by rfl) ?_))
  k_with "x TupSrc" => (k_here; k_dflt (refine TupSrc.made (by rfl) (by k_asm) (by k_asm) (by k_mem) (by first | size_fits | exact Nat.le_of_ble_eq_true rfl) ?_; intro g'; lcg_lit))
  k_with "x binaryOp FloorDiv int int" => (k_here; k_dflt (refine' floordiv_is ?kb_x ?ke_x ?kp_x ?_; (case ke_x => assumption); (case kb_x => omega); (case kp_x => exact PyProof.noPylong_small (by omega))))
  k_with "x binaryOp RShift int int" => (k_here; k_dflt (first | (refine' rshift_is (c := 1) ?kb_x ?ke_x ?_; (case ke_x => decide); (case kb_x => decide)) | (refine' rshift_is ?kb_x ?ke_x ?_; (case ke_x => assumption); (case kb_x => omega))))
  k_with "x binaryOp Sub int int" => (k_here; k_dflt (refine' sub_is (c := 1) ?ke_x ?_; (case ke_x => decide)))
  k_with "x binaryOp Mult int int" => (k_here; k_dflt (refine' mul_is ?ke_x ?km_x ?_; (case ke_x => exact Int.one_mul _); (case km_x => mul_fits)))
  k_with "x binaryOp LShift int int" => (k_here; k_dflt (refine' lshift_is ?ka_x ?kb_x ?kc_x ?ke_x ?_; (case ke_x => assumption); (case ka_x => omega); (case kb_x => omega); (case kc_x => omega)))
  k_with "x binaryOp BitXor int int" => (k_here; k_dflt (refine' xor_is ?ke_x ?_; (case ke_x => assumption)))
  k_with "x call ref" => (k_here; kn_here; k_dflt (refine wpAny_call ?_; (refine' code_nest ?k1_x ?k2_x ?k3_x ?k4_x ?k5_x ?kA_x ?kF_x ?kK_x ?k6_x ?k7_x ?k8_x ?k9_x ?kB_x ?_ ?c2_x ?c3_x ?c4_x ?c5_x; (case kA_x => exact rfl); (case kF_x => exact rfl); (case kK_x => exact rfl); (case k1_x => k_asm); (case k2_x => k_asm); (case k3_x => k_asm); (case k4_x => k_asm); (case k5_x => k_asm); (case k6_x => k_mem); (case k7_x => exact codeRec_is (by k_asm) (by k_mem) (by assumption) (by assumption) (by kernel_rfl)); (case k8_x => ktr_room); (case k9_x => exact BindsTo.of_eq rfl); (case c5_x => decide); (case kB_x => exact locs rfl); (case c2_x => exact rfl); (case c3_x => exact rfl); (case c4_x => exact rfl); k_whole; intro g' L' h' FG' F' N' B' X' T'; (try dsimp only); (try k_lift B'); (try k_fold))))
  k_with "x c split" => repeat (first | exact SplitAt.here | apply SplitAt.next)
  k_with "x c apart" => (refine apart_of (by assumption) ?_; (repeat (refine List.forall_mem_cons.mpr ⟨by (try dsimp only); omega, ?_⟩)); exact List.forall_mem_nil _)
  k_with "x exec FunctionDef" => (k_here; kn_here; k_dflt (refine' nestDef_K ?d0_x ?k0_x ?a0_x ?_; (case d0_x => exact rfl); (case k0_x => exact rfl); (case a0_x => exact rfl)); (k_dflt (refine' def_K ?F_x ?N_x ?T_x ?C_x ?cd_x ?hT_x ?hS_x ?eq_x ?h1_x ?h2_x ?h3_x ?cl_x ?_; (case F_x => k_asm); (case N_x => k_asm); (case T_x => k_asm); (case cd_x => exact rfl); (case C_x => kn_code); (case hT_x => assumption); (case hS_x => walk_at "c split"); (case eq_x => kernel_rfl); (case h1_x => k_all); (case h2_x => assumption); (case h3_x => walk_at "c apart"); (case cl_x => exact rfl); k_whole); intro f' c' oc' vs' t' ct' dc' h' tk' F' N' d1' d2' l1 o1 l2 hO'; (try simp only [List.cons_append, List.nil_append] at N' l1); (try dsimp only at N'); (try k_lt l1); (try simp only [LCg.Off1, and_true] at o1)))
  k_with "x c retO" => ((case F_x => k_asm); (case N_x => k_asm); (case hm_x => k_mem); (case ho_x => exact ⟨_, _, rfl⟩); (case hP_x => k_mem); (case hc_x => k_mem); (case hd_x => assumption); (case hv_x => assumption); (case hs_x => walk_at "c sub"); (case hT_x => assumption); (try (case hl_x => exact Mine.lt_all (by assumption) (by omega))))
  k_with "x c retO1" => ((case F_x => k_asm); (case N_x => k_asm); (case hm_x => k_mem); (case ho_x => exact ⟨_, rfl⟩); (case hP_x => k_mem); (case hc_x => k_mem); (case hd_x => assumption); (case hv_x => assumption); (case hs_x => walk_at "c sub"); (case hT_x => assumption); (try (case hl_x => exact Mine.lt_all (by assumption) (by omega))))
  k_with "x c retO0" => ((case F_x => k_asm); (case N_x => k_asm); (case hm_x => k_mem); (case ho_x => exact rfl); (case hP_x => k_mem); (case hc_x => k_mem); (case hd_x => assumption); (case hv_x => assumption); (case hs_x => walk_at "c sub"); (case hT_x => assumption); (try (case hl_x => exact Mine.lt_all (by assumption) (by omega))))
  k_with "x c retV" => ((case F_x => k_asm); (case N_x => k_asm); (case hP_x => k_mem); (case hc_x => k_mem); (case hd_x => assumption); (case hv_x => assumption); (case hs_x => walk_at "c sub"); (case hT_x => assumption); (try (case hl_x => exact Mine.lt_all (by assumption) (by omega))))
  trivial
set_option maxRecDepth 100000 in
set_option maxHeartbeats 8000000 in
theorem i2d_2 (w : World) (tabs rest : List (Addr × Obj)) (x n hi up lo : Int) (t u : Tok) (x0 : 1 ≤ x) (x1 : x ≤ 1000) (n0 : 1 ≤ n) (n1 : n ≤ 100) (z0 : (Builtin.Int.intBits x : Int) ≤ 100) (hq : ((Builtin.Int.intBits x : Int) + n - 1).fdiv n = 2)
    (hh : x.fdiv (2 ^ n.toNat) = hi) (hu : hi * 2 ^ n.toNat = up) (hl : Builtin.bitXor x up = lo) (h0 : 0 ≤ hi) (h1 : hi ≤ 1000) (hT : TabSt 44 50 4 q49 tabs) (hr : ∀ p ∈ rest, p.1 ≠ 44) :
    ConD 2 w 49 [.int x t, .int n u] (tabs ++ rest) (fun h₀ L m s Q => RetO 44 50 4 q49 tabs h₀ L m rest s Q fun o => ∃ t u, o = W.listOf #[.int lo t, .int hi u] 0) := by
  unfold ConD; k_fill
  intro loose mean mg mb dp un gd cn cs a ccd cl outer A₀ base h₀ L m s Q E B F X N T hk hd hu C1 C2 hret
  refine wpAny_call ?_
  k_dflt walk_at "c enterC"
  have h44 := hT.below (by assumption)
  w_top off
  k_steps
  · refine' retO hret ?F_x ?N_x ?hm_x ?ho_x ?hc_x ?hP_x ?hd_x ?hv_x ?hs_x ?hT_x ?hl_x; walk_at "c retO"
  · exfalso; omega
set_option maxRecDepth 100000 in
set_option maxHeartbeats 8000000 in
theorem i2d_1 (w : World) (tabs rest : List (Addr × Obj)) (x n : Int) (t u : Tok) (x0 : 1 ≤ x) (x1 : x ≤ 1000) (n0 : 1 ≤ n) (n1 : n ≤ 100) (z0 : (Builtin.Int.intBits x : Int) ≤ 100) (hq : ((Builtin.Int.intBits x : Int) + n - 1).fdiv n = 1)
    (hT : TabSt 44 50 4 q49 tabs) (hr : ∀ p ∈ rest, p.1 ≠ 44) :
    ConD 2 w 49 [.int x t, .int n u] (tabs ++ rest) (fun h₀ L m s Q => RetO 44 50 4 q49 tabs h₀ L m rest s Q fun o => ∃ t, o = W.listOf #[.int x t] 0) := by
  unfold ConD; k_fill
  intro loose mean mg mb dp un gd cn cs a ccd cl outer A₀ base h₀ L m s Q E B F X N T hk hd hu C1 C2 hret
  refine wpAny_call ?_
  k_dflt walk_at "c enterC"
  have h44 := hT.below (by assumption)
  w_top off
  k_steps
  · refine' retO hret ?F_x ?N_x ?hm_x ?ho_x ?hc_x ?hP_x ?hd_x ?hv_x ?hs_x ?hT_x ?hl_x; walk_at "c retO1"
  · exfalso; omega

set_option maxRecDepth 100000 in
set_option maxHeartbeats 8000000 in
theorem i2d_0 (w : World) (tabs rest : List (Addr × Obj)) (n : Int) (t u : Tok) (n0 : 1 ≤ n) (n1 : n ≤ 100) (hq : ((Builtin.Int.intBits 0 : Int) + n - 1).fdiv n = 0) (z0 : (Builtin.Int.intBits 0 : Int) ≤ 100)
    (hT : TabSt 44 50 4 q49 tabs) (hr : ∀ p ∈ rest, p.1 ≠ 44) :
    ConD 2 w 49 [.int 0 t, .int n u] (tabs ++ rest) (fun h₀ L m s Q => RetO 44 50 4 q49 tabs h₀ L m rest s Q fun o => o = W.listOf #[] 0) := by
  unfold ConD; k_fill
  intro loose mean mg mb dp un gd cn cs a ccd cl outer A₀ base h₀ L m s Q E B F X N T hk hd hu C1 C2 hret
  refine wpAny_call ?_
  k_dflt walk_at "c enterC"
  have h44 := hT.below (by assumption)
  w_top off
  k_steps
  · refine' retO hret ?F_x ?N_x ?hm_x ?ho_x ?hc_x ?hP_x ?hd_x ?hv_x ?hs_x ?hT_x ?hl_x; walk_at "c retO0"
set_option maxRecDepth 100000 in
set_option maxHeartbeats 8000000 in
theorem d2i_2 (w : World) (tabs rest : List (Addr × Obj)) (D : Addr) (k : Nat) (x y n : Int) (t u v : Tok) (x0 : 0 ≤ x) (x1 : x ≤ 1000) (y0 : 0 ≤ y) (y1 : y ≤ 1000) (n0 : 1 ≤ n) (n1 : n ≤ 100) (z : Int) (hz : y * 2 ^ n.toNat = z)
    (hT : TabSt 51 65 4 q56 tabs) (hr : ∀ p ∈ rest, p.1 ≠ 51) (hD : (D, ({ cls := .type "list", data := .seq #[.int x t, .int y u] k } : Obj)) ∈ rest) :
    ConD 2 w 56 [.ref D, .int n v] (tabs ++ rest) (fun h₀ L m s Q => RetV 51 65 4 q56 tabs h₀ L m rest s Q fun o => ∃ t, o = .int (z + x) t) := by
  unfold ConD; k_fill
  intro loose mean mg mb dp un gd cn cs a ccd cl outer A₀ base h₀ L m s Q E B F X N T hk hd hu C1 C2 hret
  refine wpAny_call ?_
  k_dflt walk_at "c enterC"
  have h51 := hT.below (by assumption)
  w_top off
  k_steps
  refine' retV hret ?F_x ?N_x (ktn_int (by subst hz; rfl)) ?hc_x ?hP_x ?hd_x ?hv_x ?hs_x ?hT_x; walk_at "c retV"

set_option maxRecDepth 100000 in
set_option maxHeartbeats 8000000 in
theorem d2i_1 (w : World) (tabs rest : List (Addr × Obj)) (D : Addr) (k : Nat) (x n : Int) (t v : Tok) (x0 : 0 ≤ x) (x1 : x ≤ 1000) (n0 : 1 ≤ n) (n1 : n ≤ 100)
    (hT : TabSt 51 65 4 q56 tabs) (hr : ∀ p ∈ rest, p.1 ≠ 51) (hD : (D, ({ cls := .type "list", data := .seq #[.int x t] k } : Obj)) ∈ rest) :
    ConD 2 w 56 [.ref D, .int n v] (tabs ++ rest) (fun h₀ L m s Q => RetV 51 65 4 q56 tabs h₀ L m rest s Q fun o => ∃ t, o = .int x t) := by
  unfold ConD; k_fill
  intro loose mean mg mb dp un gd cn cs a ccd cl outer A₀ base h₀ L m s Q E B F X N T hk hd hu C1 C2 hret
  refine wpAny_call ?_
  k_dflt walk_at "c enterC"
  have h51 := hT.below (by assumption)
  w_top off
  k_steps
  refine' retV hret ?F_x ?N_x (ktn_int (by rfl)) ?hc_x ?hP_x ?hd_x ?hv_x ?hs_x ?hT_x; walk_at "c retV"

set_option maxRecDepth 100000 in
set_option maxHeartbeats 8000000 in
theorem d2i_0 (w : World) (tabs rest : List (Addr × Obj)) (D : Addr) (k : Nat) (n : Int) (v : Tok) (n0 : 1 ≤ n) (n1 : n ≤ 100)
    (hT : TabSt 51 65 4 q56 tabs) (hr : ∀ p ∈ rest, p.1 ≠ 51) (hD : (D, ({ cls := .type "list", data := .seq #[] k } : Obj)) ∈ rest) :
    ConD 2 w 56 [.ref D, .int n v] (tabs ++ rest) (fun h₀ L m s Q => RetV 51 65 4 q56 tabs h₀ L m rest s Q fun o => ∃ t, o = .int 0 t) := by
  unfold ConD; k_fill
  intro loose mean mg mb dp un gd cn cs a ccd cl outer A₀ base h₀ L m s Q E B F X N T hk hd hu C1 C2 hret
  refine wpAny_call ?_
  k_dflt walk_at "c enterC"
  have h51 := hT.below (by assumption)
  w_top off
  k_steps
  refine' retV hret ?F_x ?N_x (ktn_int (by rfl)) ?hc_x ?hP_x ?hd_x ?hv_x ?hs_x ?hT_x; walk_at "c retV"

theorem d2i_2r (w : World) (tabs rest : List (Addr × Obj)) (D : Addr) (k : Nat) (x y n : Int) (t u v : Tok) (x0 : 0 ≤ x) (x1 : x ≤ 1000) (y0 : 0 ≤ y) (y1 : y ≤ 1000) (n0 : 1 ≤ n) (n1 : n ≤ 100) (z : Int) (hz : y * 2 ^ n.toNat = z)
    (hT : TabSt 51 65 4 q56 tabs) (hr : ∀ p ∈ (D, ({ cls := .type "list", data := .seq #[.int x t, .int y u] k } : Obj)) :: rest, p.1 ≠ 51) :
    ConD 2 w 56 [.ref D, .int n v] (tabs ++ ((D, ({ cls := .type "list", data := .seq #[.int x t, .int y u] k } : Obj)) :: rest)) (fun h₀ L m s Q => RetV 51 65 4 q56 tabs h₀ L m ((D, ({ cls := .type "list", data := .seq #[.int x t, .int y u] k } : Obj)) :: rest) s Q fun o => ∃ t, o = .int (z + x) t) :=
  d2i_2 w tabs _ D k x y n t u v x0 x1 y0 y1 n0 n1 z hz hT hr (.head _)
theorem d2i_1r (w : World) (tabs rest : List (Addr × Obj)) (D : Addr) (k : Nat) (x n : Int) (t v : Tok) (x0 : 0 ≤ x) (x1 : x ≤ 1000) (n0 : 1 ≤ n) (n1 : n ≤ 100)
    (hT : TabSt 51 65 4 q56 tabs) (hr : ∀ p ∈ (D, ({ cls := .type "list", data := .seq #[.int x t] k } : Obj)) :: rest, p.1 ≠ 51) :
    ConD 2 w 56 [.ref D, .int n v] (tabs ++ ((D, ({ cls := .type "list", data := .seq #[.int x t] k } : Obj)) :: rest)) (fun h₀ L m s Q => RetV 51 65 4 q56 tabs h₀ L m ((D, ({ cls := .type "list", data := .seq #[.int x t] k } : Obj)) :: rest) s Q fun o => ∃ t, o = .int x t) :=
  d2i_1 w tabs _ D k x n t v x0 x1 n0 n1 hT hr (.head _)
theorem d2i_0r (w : World) (tabs rest : List (Addr × Obj)) (D : Addr) (k : Nat) (n : Int) (v : Tok) (n0 : 1 ≤ n) (n1 : n ≤ 100)
    (hT : TabSt 51 65 4 q56 tabs) (hr : ∀ p ∈ (D, ({ cls := .type "list", data := .seq #[] k } : Obj)) :: rest, p.1 ≠ 51) :
    ConD 2 w 56 [.ref D, .int n v] (tabs ++ ((D, ({ cls := .type "list", data := .seq #[] k } : Obj)) :: rest)) (fun h₀ L m s Q => RetV 51 65 4 q56 tabs h₀ L m ((D, ({ cls := .type "list", data := .seq #[] k } : Obj)) :: rest) s Q fun o => ∃ t, o = .int 0 t) :=
  d2i_0 w tabs _ D k n v n0 n1 hT hr (.head _)
end
section
theorem kw3 : True := by
  k_with_none
  k_with "x c sub" => (intro p hp; repeat (first | exact hp | refine List.mem_cons_of_mem _ ?_))
  k_with "x binaryOp Add ref ref" => (k_here; k_dflt (refine' kde_addT ?k1_x ?k2_x ?k3_x ?k4_x ?k5_x ?k6_x ?k7_x ?k8_x ?_; (case k1_x => k_asm); (case k2_x => k_asm); (case k3_x => kun_tup); (case k4_x => kun_tup); (case k5_x => exact List.cons_ne_nil _ _); (case k6_x => exact List.cons_ne_nil _ _); (case k7_x => exact Nat.le_of_ble_eq_true rfl); (case k8_x => kun_lit); k_whole); intro D' h' F' N' l1; (try k_lt l1); (try k_sweep))
  k_with "x subscriptTail Name Slice ref ref" => (k_here; (with_reducible show wpAny _ _ (subscriptTail _ (PySem.Expr.Slice none _ none _) (Value.ref _) (Value.ref _)) _ _ _); k_dflt (refine' slice5 ?F_x ?N_x ?t_x ?_ ?s_x ?g_x; (case F_x => k_asm); (case N_x => k_asm); (case t_x => kun_tup); (case s_x => with_unfolding_all rfl); (case g_x => intro _; with_unfolding_all rfl); k_whole); intro D' h' F' N' l1; (try k_lt l1); (try k_sweep))
  k_with "x c enter" => (refine' code_def ?k1_x ?k2_x ?k3_x ?k4_x ?k5_x ?kA_x ?kF_x ?kK_x ?k6_x ?k7_x ?k8_x ?k9_x ?kB_x ?_ ?c2_x ?c3_x ?c4_x ?c5_x; (case kA_x => exact rfl); (case kF_x => exact rfl); (case kK_x => first | exact rfl | assumption); (case k1_x => k_asm); (case k2_x => k_asm); (case k3_x => k_asm); (case k4_x => k_asm); (case k5_x => k_asm); (case k6_x => k_is); (case k7_x => k_is); (case k8_x => ktr_room); (case k9_x => exact BindsTo.of_eq rfl); (case c5_x => decide); (case kB_x => exact locs rfl); (case c2_x => exact rfl); (case c3_x => exact rfl); (case c4_x => exact rfl); k_whole; intro g' L' h' FG' F' N' B' X' T'; (try dsimp only); (try k_lift B'); (try k_fold))
  k_with "x c enterC" => (refine' code_defC ?k1_x ?k2_x ?k3_x ?k4_x ?k5_x ?kA_x ?kF_x ?kK_x ?k6_x ?k7_x ?k8_x ?k9_x ?kB_x ?kD_x ?_ ?c2_x ?c3_x ?c4_x; (case kA_x => exact rfl); (case kF_x => exact rfl); (case kK_x => first | exact rfl | assumption); (case k1_x => k_asm); (case k2_x => k_asm); (case k3_x => k_asm); (case k4_x => k_asm); (case k5_x => k_asm); (case k6_x => k_is); (case k7_x => k_is); (case k8_x => ktr_room); (case k9_x => exact BindsTo.of_eq rfl); (case kB_x => exact rfl); (case kD_x => decide +kernel); (case c2_x => exact rfl); (case c3_x => exact rfl); (case c4_x => exact rfl); k_whole; intro g' L' h' tk' cells' FG' F' N' Y' B' X' T' l1; (try k_lt l1); k_cells Y'; (try simp only [List.cons_append, List.nil_append] at N'); (try dsimp only); (try k_lift B'); (try k_fold))
  k_with "x CompEnd" => (k_here; (refine LCg.CompEnd.intro (by assumption) (by assumption) _ (fun _ h => h) (by first | assumption | (simp only [LCg.Off3, and_true]; assumption)) (by lcg_src) ?_))
  k_with "x exec For Tuple Call cons nil" => (k_here; (rename Fr _ _ _ _ => lF'); (rename News _ _ _ _ => lN'); with_unfolding_all ((refine' For_turns lF' ?_); k_whole; (refine MethodCall_ ?_); (refine ld lF' (by rfl) ?_); (refine getMethod_tab (knd := PySem.strKind _ _) (enc := PyData.str) PySem.F.slot_dict_items PySem.F.type_dict_items (by k_tabat) ?_); (refine callWith_method0 ?_); (refine call_items_tab (knd := PySem.strKind _ _) (enc := PyData.str) (by k_tabat) lF' lN' ?_); intro h' o' hv' F' N'; (replace N' := kti_tail N'); (refine kti_items (knd := PySem.strKind _ _) (enc := PyData.str) (xs := []) (by rfl) F' N' hv' (by k_tabat) (by k_mem) (fun _ _ h => Value.isStrOf_shape h) (by rfl) ?_)); clear lF' lN'; intro i' l1; (try k_lt l1))
  k_with "x c lt" => first | assumption | (refine ktn_ltOf ?_; first | assumption | (apply And.right; assumption) | ((iterate 2 apply And.right); assumption) | ((iterate 3 apply And.right); assumption) | ((iterate 4 apply And.right); assumption) | ((iterate 5 apply And.right); assumption) | ((iterate 6 apply And.right); assumption) | ((iterate 7 apply And.right); assumption) | ((iterate 8 apply And.right); assumption) | ((iterate 9 apply And.right); assumption) | ((iterate 10 apply And.right); assumption) | ((iterate 11 apply And.right); assumption) | ((iterate 12 apply And.right); assumption) | ((iterate 13 apply And.right); assumption) | ((iterate 14 apply And.right); assumption))
  k_with "x eval ListComp" => (k_here; k_dflt (refine ListComp_Tup (_F₀ := by k_asm) (by with_unfolding_all rfl) (by decide) (by rfl) (by decide) (by rfl) ?_))
  k_with "x TupSrc" => (k_here; k_dflt (refine TupSrc.made (by rfl) (by k_asm) (by k_asm) (by k_mem) (by first | size_fits | exact Nat.le_of_ble_eq_true rfl) ?_; intro g'; lcg_lit))
  k_with "x call builtin:divmod" => (k_here; k_dflt (refine' divmod_O ?F_x ?N_x ?b_x ?p_x ?_; (case F_x => k_asm); (case N_x => k_asm); (case b_x => omega); (case p_x => exact PyProof.noPylong_small (by omega)); k_whole); intro D' h' F' N' l1; (try k_lt l1); (try k_sweep))
  trivial
set_option maxRecDepth 100000 in
set_option maxHeartbeats 8000000 in
theorem div_c (w : World) (news : List (Addr × Obj)) (x b n : Int) (t u v : Tok) (x0 : 0 ≤ x) (x1 : x ≤ 100000) (b0 : 1 ≤ b) (b1 : b ≤ 1000) (n0 : 1 ≤ n) (n1 : n ≤ 100) (z0 : (Builtin.Int.intBits x : Int) ≤ 100) :
    Con 1 w 35 [.int x t, .int b u, .int n v] news (fun h₀ L m s Q => Ret2 h₀ L m news s Q (x.fdiv b) (x.fmod b)) := by
  unfold Con; k_fill
  intro loose mean mg mb dp un gd cn cs a ccd cl outer A₀ base h₀ L m s Q E B F X N T hk hd hu hret
  refine wpAny_call ?_
  k_dflt walk_at "c enter"
  w_top off
  k_steps
  refine ret2 hret (by k_asm) (by k_asm) (by k_mem) rfl rfl (by walk_at "c sub") (by walk_at "c lt")

theorem div_q (w : World) (news : List (Addr × Obj)) (x b n q r : Int) (t u v : Tok) (hq : x.fdiv b = q) (hr : x.fmod b = r) (x0 : 0 ≤ x) (x1 : x ≤ 100000) (b0 : 1 ≤ b) (b1 : b ≤ 1000) (n0 : 1 ≤ n) (n1 : n ≤ 100) (z0 : (Builtin.Int.intBits x : Int) ≤ 100) :
    Con 1 w 35 [.int x t, .int b u, .int n v] news (fun h₀ L m s Q => Ret2 h₀ L m news s Q q r) := by
  subst hq hr
  exact div_c w news x b n t u v x0 x1 b0 b1 n0 n1 z0
end
end
section
theorem kw4 : True := by
  k_with_none
  k_with "x c sub" => (intro p hp; repeat (first | exact hp | refine List.mem_cons_of_mem _ ?_))
  k_with "x binaryOp Add ref ref" => (k_here; k_dflt (refine' kde_addT ?k1_x ?k2_x ?k3_x ?k4_x ?k5_x ?k6_x ?k7_x ?k8_x ?_; (case k1_x => k_asm); (case k2_x => k_asm); (case k3_x => kun_tup); (case k4_x => kun_tup); (case k5_x => exact List.cons_ne_nil _ _); (case k6_x => exact List.cons_ne_nil _ _); (case k7_x => exact Nat.le_of_ble_eq_true rfl); (case k8_x => kun_lit); k_whole); intro D' h' F' N' l1; (try k_lt l1); (try k_sweep))
  k_with "x subscriptTail Name Slice ref ref" => (k_here; (with_reducible show wpAny _ _ (subscriptTail _ (PySem.Expr.Slice none _ none _) (Value.ref _) (Value.ref _)) _ _ _); k_dflt (refine' slice5 ?F_x ?N_x ?t_x ?_ ?s_x ?g_x; (case F_x => k_asm); (case N_x => k_asm); (case t_x => kun_tup); (case s_x => with_unfolding_all rfl); (case g_x => intro _; with_unfolding_all rfl); k_whole); intro D' h' F' N' l1; (try k_lt l1); (try k_sweep))
  k_with "x c enter" => (refine' code_def ?k1_x ?k2_x ?k3_x ?k4_x ?k5_x ?kA_x ?kF_x ?kK_x ?k6_x ?k7_x ?k8_x ?k9_x ?kB_x ?_ ?c2_x ?c3_x ?c4_x ?c5_x; (case kA_x => exact rfl); (case kF_x => exact rfl); (case kK_x => first | exact rfl | assumption); (case k1_x => k_asm); (case k2_x => k_asm); (case k3_x => k_asm); (case k4_x => k_asm); (case k5_x => k_asm); (case k6_x => k_is); (case k7_x => k_is); (case k8_x => ktr_room); (case k9_x => exact BindsTo.of_eq rfl); (case c5_x => decide); (case kB_x => exact locs rfl); (case c2_x => exact rfl); (case c3_x => exact rfl); (case c4_x => exact rfl); k_whole; intro g' L' h' FG' F' N' B' X' T'; (try dsimp only); (try k_lift B'); (try k_fold))
  k_with "x c enterC" => (refine' code_defC ?k1_x ?k2_x ?k3_x ?k4_x ?k5_x ?kA_x ?kF_x ?kK_x ?k6_x ?k7_x ?k8_x ?k9_x ?kB_x ?kD_x ?_ ?c2_x ?c3_x ?c4_x; (case kA_x => exact rfl); (case kF_x => exact rfl); (case kK_x => first | exact rfl | assumption); (case k1_x => k_asm); (case k2_x => k_asm); (case k3_x => k_asm); (case k4_x => k_asm); (case k5_x => k_asm); (case k6_x => k_is); (case k7_x => k_is); (case k8_x => ktr_room); (case k9_x => exact BindsTo.of_eq rfl); (case kB_x => exact rfl); (case kD_x => decide +kernel); (case c2_x => exact rfl); (case c3_x => exact rfl); (case c4_x => exact rfl); k_whole; intro g' L' h' tk' cells' FG' F' N' Y' B' X' T' l1; (try k_lt l1); k_cells Y'; (try simp only [List.cons_append, List.nil_append] at N'); (try dsimp only); (try k_lift B'); (try k_fold))
  k_with "x CompEnd" => (k_here; (refine LCg.CompEnd.intro (by assumption) (by assumption) _ (fun _ h => h) (by first | assumption | (simp only [LCg.Off3, and_true]; assumption)) (by lcg_src) ?_))
  k_with "x exec For Tuple Call cons nil" => (k_here; (rename Fr _ _ _ _ => lF'); (rename News _ _ _ _ => lN'); with_unfolding_all ((refine' For_turns lF' ?_); k_whole; (refine MethodCall_ ?_); (refine ld lF' (by rfl) ?_); (refine getMethod_tab (knd := PySem.strKind _ _) (enc := PyData.str) PySem.F.slot_dict_items PySem.F.type_dict_items (by k_tabat) ?_); (refine callWith_method0 ?_); (refine call_items_tab (knd := PySem.strKind _ _) (enc := PyData.str) (by k_tabat) lF' lN' ?_); intro h' o' hv' F' N'; (replace N' := kti_tail N'); (refine kti_items (knd := PySem.strKind _ _) (enc := PyData.str) (xs := []) (by rfl) F' N' hv' (by k_tabat) (by k_mem) (fun _ _ h => Value.isStrOf_shape h) (by rfl) ?_)); clear lF' lN'; intro i' l1; (try k_lt l1))
  k_with "x c lt" => first | assumption | (refine ktn_ltOf ?_; first | assumption | (apply And.right; assumption) | ((iterate 2 apply And.right); assumption) | ((iterate 3 apply And.right); assumption) | ((iterate 4 apply And.right); assumption) | ((iterate 5 apply And.right); assumption) | ((iterate 6 apply And.right); assumption) | ((iterate 7 apply And.right); assumption) | ((iterate 8 apply And.right); assumption) | ((iterate 9 apply And.right); assumption) | ((iterate 10 apply And.right); assumption) | ((iterate 11 apply And.right); assumption) | ((iterate 12 apply And.right); assumption) | ((iterate 13 apply And.right); assumption) | ((iterate 14 apply And.right); assumption))
  k_with "x c use" => ((case k1_x => k_asm); (case k2_x => k_asm); (case k3_x => k_asm); (case k4_x => k_asm); (case k5_x => k_asm); (case k6_x => first | exact rfl | assumption); (case kd_x => ktr_room); (case ku_x => ktr_units))
  k_with "x call ref" => (k_here; k_dflt (refine' Con.use (turned_c _ _ _ _ _ _ _ _ _ _ _ ?hx_x) ?k1_x ?k2_x ?k3_x ?k4_x ?k5_x ?k6_x ?kd_x ?ku_x ?_; walk_at "c use"; (case hx_x => k_mem); k_whole; intro D' t0' t1' t2' t3' h' tk' F' N' l1; (try k_lt l1); (try k_sweep); (try dsimp only)))
  k_with "x call ref" => (k_here; k_dflt (refine' Con.use (sum_c _ _ _ _ _ _ _ _ _ _ _ _ _ _ _ _ _ _ _ _ ?hx_x ?hy_x) ?k1_x ?k2_x ?k3_x ?k4_x ?k5_x ?k6_x ?kd_x ?ku_x ?_; walk_at "c use"; (case hx_x => k_mem); (case hy_x => k_mem); k_whole; intro D' t0' t1' t2' t3' h' tk' F' N' l1; (try k_lt l1); (try k_sweep); (try dsimp only)))
  k_with "x call ref" => (k_here; k_dflt (refine' Con.use (scaled_c _ _ _ _ _ _ _ _ _ _ _ _ _ ?hx_x ?b0_x ?b1_x) ?k1_x ?k2_x ?k3_x ?k4_x ?k5_x ?k6_x ?kd_x ?ku_x ?_; walk_at "c use"; (case hx_x => k_mem); (case b0_x => omega); (case b1_x => omega); k_whole; intro D' t0' t1' t2' t3' h' tk' F' N' l1; (try k_lt l1); (try k_sweep); (try dsimp only)))
  k_with "x eval ListComp" => (k_here; k_dflt (refine ListComp_Tup (_F₀ := by k_asm) (by with_unfolding_all rfl) (by decide) (by rfl) (by decide) (by rfl) ?_))
  k_with "x TupSrc" => (k_here; k_dflt (refine TupSrc.made (by rfl) (by k_asm) (by k_asm) (by k_mem) (by first | size_fits | exact Nat.le_of_ble_eq_true rfl) ?_; intro g'; lcg_lit))
  trivial
set_option maxRecDepth 100000 in
set_option maxHeartbeats 8000000 in
theorem times_c (w : World) (news : List (Addr × Obj)) (x y : Addr) (a b c d o0 o1 o2 o3 : Int) (t0 t1 t2 t3 u0 u1 u2 u3 : Tok) (hx : (x, T4 a b c d t0 t1 t2 t3) ∈ news) (hy : (y, T4 o0 o1 o2 o3 u0 u1 u2 u3) ∈ news)
    (a0 : -1000000 ≤ a) (a1 : a ≤ 1000000) (b0 : -1000000 ≤ b) (b1 : b ≤ 1000000) (c0 : -1000000 ≤ c) (c1 : c ≤ 1000000) (d0 : -1000000 ≤ d) (d1 : d ≤ 1000000) :
    Con 2 w 89 [.ref x, .ref y] news (fun h₀ L m s Q => Ret4 h₀ L m news s Q
      (a * o0 + b * (0 - o1) + c * (0 - o2) + d * (0 - o3)) (a * o1 + b * o0 + c * o3 + d * (0 - o2)) (a * o2 + b * (0 - o3) + c * o0 + d * o1) (a * o3 + b * o2 + c * (0 - o1) + d * o0)) := by
  unfold Con; k_fill
  intro loose mean mg mb dp un gd cn cs a ccd cl outer A₀ base h₀ L m s Q E B F X N T hk hd hu hret
  refine wpAny_call ?_
  k_dflt walk_at "c enter"
  w_top off
  k_steps
  refine ret4 hret (by k_asm) (by k_asm) (by k_mem) rfl rfl rfl rfl (by walk_at "c sub") (by walk_at "c lt")

set_option maxRecDepth 100000 in
set_option maxHeartbeats 8000000 in
theorem squares_c (w : World) (news : List (Addr × Obj)) (x : Addr) (x0 x1 x2 x3 : Int) (t0 t1 t2 t3 : Tok) (hx : (x, T4 x0 x1 x2 x3 t0 t1 t2 t3) ∈ news)
    (a0 : -1000000 ≤ x0) (a1 : x0 ≤ 1000000) (b0 : -1000000 ≤ x1) (b1 : x1 ≤ 1000000) (c0 : -1000000 ≤ x2) (c1 : x2 ≤ 1000000) (d0 : -1000000 ≤ x3) (d1 : x3 ≤ 1000000) :
    Con 1 w 101 [.ref x] news (fun h₀ L m s Q => CbRet h₀ L m news s Q (fun t => .int (x0 * x0 + x1 * x1 + x2 * x2 + x3 * x3) t)) := by
  unfold Con; k_fill
  intro loose mean mg mb dp un gd cn cs a ccd cl outer A₀ base h₀ L m s Q E B F X N T hk hd hu hret
  refine wpAny_call ?_
  k_dflt walk_at "c enter"
  w_top off
  k_steps
  refine cb_retI hret ?_ (by k_asm) (cb_drop (by k_asm) (by walk_at "c sub"))
  omega
section
local macro_rules | `(tactic| k_all) => `(tactic| first | assumption | exact Mine.below_ne (by assumption) (by omega) | exact Mine.below_neR (by assumption) (by omega) | exact Mine.below_neRR (by assumption) (by omega))
theorem kw5 : True := by
  k_with_none
  k_with "x c sub" => (intro p hp; repeat (first | exact hp | refine List.mem_cons_of_mem _ ?_))
  k_with "x binaryOp Add ref ref" => (k_here; k_dflt (refine' kde_addT ?k1_x ?k2_x ?k3_x ?k4_x ?k5_x ?k6_x ?k7_x ?k8_x ?_; (case k1_x => k_asm); (case k2_x => k_asm); (case k3_x => kun_tup); (case k4_x => kun_tup); (case k5_x => exact List.cons_ne_nil _ _); (case k6_x => exact List.cons_ne_nil _ _); (case k7_x => exact Nat.le_of_ble_eq_true rfl); (case k8_x => kun_lit); k_whole); intro D' h' F' N' l1; (try k_lt l1); (try k_sweep))
  k_with "x subscriptTail Name Slice ref ref" => (k_here; (with_reducible show wpAny _ _ (subscriptTail _ (PySem.Expr.Slice none _ none _) (Value.ref _) (Value.ref _)) _ _ _); k_dflt (refine' slice5 ?F_x ?N_x ?t_x ?_ ?s_x ?g_x; (case F_x => k_asm); (case N_x => k_asm); (case t_x => kun_tup); (case s_x => with_unfolding_all rfl); (case g_x => intro _; with_unfolding_all rfl); k_whole); intro D' h' F' N' l1; (try k_lt l1); (try k_sweep))
  k_with "x c enter" => (refine' code_def ?k1_x ?k2_x ?k3_x ?k4_x ?k5_x ?kA_x ?kF_x ?kK_x ?k6_x ?k7_x ?k8_x ?k9_x ?kB_x ?_ ?c2_x ?c3_x ?c4_x ?c5_x; (case kA_x => exact rfl); (case kF_x => exact rfl); (case kK_x => first | exact rfl | assumption); (case k1_x => k_asm); (case k2_x => k_asm); (case k3_x => k_asm); (case k4_x => k_asm); (case k5_x => k_asm); (case k6_x => k_is); (case k7_x => k_is); (case k8_x => ktr_room); (case k9_x => exact BindsTo.of_eq rfl); (case c5_x => decide); (case kB_x => exact locs rfl); (case c2_x => exact rfl); (case c3_x => exact rfl); (case c4_x => exact rfl); k_whole; intro g' L' h' FG' F' N' B' X' T'; (try dsimp only); (try k_lift B'); (try k_fold))
  k_with "x c enterC" => (refine' code_defC ?k1_x ?k2_x ?k3_x ?k4_x ?k5_x ?kA_x ?kF_x ?kK_x ?k6_x ?k7_x ?k8_x ?k9_x ?kB_x ?kD_x ?_ ?c2_x ?c3_x ?c4_x; (case kA_x => exact rfl); (case kF_x => exact rfl); (case kK_x => first | exact rfl | assumption); (case k1_x => k_asm); (case k2_x => k_asm); (case k3_x => k_asm); (case k4_x => k_asm); (case k5_x => k_asm); (case k6_x => k_is); (case k7_x => k_is); (case k8_x => ktr_room); (case k9_x => exact BindsTo.of_eq rfl); (case kB_x => exact rfl); (case kD_x => decide +kernel); (case c2_x => exact rfl); (case c3_x => exact rfl); (case c4_x => exact rfl); k_whole; intro g' L' h' tk' cells' FG' F' N' Y' B' X' T' l1; (try k_lt l1); k_cells Y'; (try simp only [List.cons_append, List.nil_append] at N'); (try dsimp only); (try k_lift B'); (try k_fold))
  k_with "x CompEnd" => (k_here; (refine LCg.CompEnd.intro (by assumption) (by assumption) _ (fun _ h => h) (by first | assumption | (simp only [LCg.Off3, and_true]; assumption)) (by lcg_src) ?_))
  k_with "x exec For Tuple Call cons nil" => (k_here; (rename Fr _ _ _ _ => lF'); (rename News _ _ _ _ => lN'); with_unfolding_all ((refine' For_turns lF' ?_); k_whole; (refine MethodCall_ ?_); (refine ld lF' (by rfl) ?_); (refine getMethod_tab (knd := PySem.strKind _ _) (enc := PyData.str) PySem.F.slot_dict_items PySem.F.type_dict_items (by k_tabat) ?_); (refine callWith_method0 ?_); (refine call_items_tab (knd := PySem.strKind _ _) (enc := PyData.str) (by k_tabat) lF' lN' ?_); intro h' o' hv' F' N'; (replace N' := kti_tail N'); (refine kti_items (knd := PySem.strKind _ _) (enc := PyData.str) (xs := []) (by rfl) F' N' hv' (by k_tabat) (by k_mem) (fun _ _ h => Value.isStrOf_shape h) (by rfl) ?_)); clear lF' lN'; intro i' l1; (try k_lt l1))
  k_with "x c lt" => first | assumption | (refine ktn_ltOf ?_; first | assumption | (apply And.right; assumption) | ((iterate 2 apply And.right); assumption) | ((iterate 3 apply And.right); assumption) | ((iterate 4 apply And.right); assumption) | ((iterate 5 apply And.right); assumption) | ((iterate 6 apply And.right); assumption) | ((iterate 7 apply And.right); assumption) | ((iterate 8 apply And.right); assumption) | ((iterate 9 apply And.right); assumption) | ((iterate 10 apply And.right); assumption) | ((iterate 11 apply And.right); assumption) | ((iterate 12 apply And.right); assumption) | ((iterate 13 apply And.right); assumption) | ((iterate 14 apply And.right); assumption))
  k_with "x c use" => ((case k1_x => k_asm); (case k2_x => k_asm); (case k3_x => k_asm); (case k4_x => k_asm); (case k5_x => k_asm); (case k6_x => first | exact rfl | assumption); (case kd_x => ktr_room); (case ku_x => ktr_units))
  k_with "x call ref" => (k_here; k_dflt (refine' Con.use (turned_c _ _ _ _ _ _ _ _ _ _ _ ?hx_x) ?k1_x ?k2_x ?k3_x ?k4_x ?k5_x ?k6_x ?kd_x ?ku_x ?_; walk_at "c use"; (case hx_x => k_mem); k_whole; intro D' t0' t1' t2' t3' h' tk' F' N' l1; (try k_lt l1); (try k_sweep); (try dsimp only)))
  k_with "x call ref" => (k_here; k_dflt (refine' Con.use (sum_c _ _ _ _ _ _ _ _ _ _ _ _ _ _ _ _ _ _ _ _ ?hx_x ?hy_x) ?k1_x ?k2_x ?k3_x ?k4_x ?k5_x ?k6_x ?kd_x ?ku_x ?_; walk_at "c use"; (case hx_x => k_mem); (case hy_x => k_mem); k_whole; intro D' t0' t1' t2' t3' h' tk' F' N' l1; (try k_lt l1); (try k_sweep); (try dsimp only)))
  k_with "x call ref" => (k_here; k_dflt (refine' Con.use (scaled_c _ _ _ _ _ _ _ _ _ _ _ _ _ ?hx_x ?b0_x ?b1_x) ?k1_x ?k2_x ?k3_x ?k4_x ?k5_x ?k6_x ?kd_x ?ku_x ?_; walk_at "c use"; (case hx_x => k_mem); (case b0_x => omega); (case b1_x => omega); k_whole; intro D' t0' t1' t2' t3' h' tk' F' N' l1; (try k_lt l1); (try k_sweep); (try dsimp only)))
  k_with "x eval ListComp" => (k_here; k_dflt (refine ListComp_Tup (_F₀ := by k_asm) (by with_unfolding_all rfl) (by decide) (by rfl) (by decide) (by rfl) ?_))
  k_with "x TupSrc" => (k_here; k_dflt (refine TupSrc.made (by rfl) (by k_asm) (by k_asm) (by k_mem) (by first | size_fits | exact Nat.le_of_ble_eq_true rfl) ?_; intro g'; lcg_lit))
  k_with "x c useD" => ((case k1_x => k_asm); (case k2_x => k_asm); (case k3_x => k_asm); (case k4_x => k_asm); (case k5_x => k_asm); (case k6_x => first | exact rfl | assumption); (case kd_x => ktr_room); (case ku_x => ktr_units); (case C1_x => kn_code); (case C2_x => kn_code))
  k_with "x binaryOp Add int int" => (k_here; k_dflt (refine' add_is ?e_x ?_; (case e_x => exact Int.zero_add _)))
  k_with "x binaryOp LShift int int" => (k_here; k_dflt (refine' lshift_is ?ka_x ?kb_x ?kc_x ?ke_x ?_; (case ke_x => first | exact Int.zero_mul _ | assumption); (case ka_x => omega); (case kb_x => omega); (case kc_x => omega)))
  k_with "x call ref" => (k_here; k_dflt (refine' Con.use (div_q _ _ _ _ _ _ _ _ _ _ ?hq_x ?hr_x ?x0_x ?x1_x ?b0_x ?b1_x ?n0_x ?n1_x ?z0_x) ?k1_x ?k2_x ?k3_x ?k4_x ?k5_x ?k6_x ?kd_x ?ku_x ?_; walk_at "c use"; (case hq_x => assumption); (case hr_x => assumption); (case x0_x => omega); (case x1_x => omega); (case b0_x => omega); (case b1_x => omega); (case n0_x => omega); (case n1_x => omega); (case z0_x => exact bits_le (by omega) (by omega)); k_whole; intro D' t0' t1' h' tk' F' N' l1; (try k_lt l1); (try k_sweep); (try dsimp only)))
  k_with "x call ref" => (k_here; k_dflt (refine' ConD.use (i2d_2 _ _ _ _ _ _ _ _ _ _ ?x0_x ?x1_x ?n0_x ?n1_x ?z0_x ?hq_x ?hh_x ?hu_x ?hl_x ?h0_x ?h1_x ?hT_x ?hr_x) ?k1_x ?k2_x ?k3_x ?k4_x ?k5_x ?k6_x ?kd_x ?ku_x ?C1_x ?C2_x ?_; (case hT_x => assumption); walk_at "c useD"; (case hq_x => assumption); (case hh_x => assumption); (case hu_x => assumption); (case hl_x => assumption); (case x0_x => omega); (case x1_x => omega); (case n0_x => omega); (case n1_x => omega); (case z0_x => omega); (case h0_x => omega); (case h1_x => omega); (case hr_x => assumption); intro D' o' c' oc' vs' t' h' tk' hO' F' N' d1' d2' hT' l1; (try k_sweep); (obtain ⟨ta', tb', hE'⟩ := hO'; subst hE'); (have h51' := Mine.TabSt.belowR (P := 51) (l := 65) (c := 4) (by assumption) l1); (have hne' := Mine.TabOut.ne (P' := 51) (l' := 65) (k := 4) hT' (by assumption) (by assumption)); (try dsimp only)))
  k_with "x pyIter ref" => (k_here; (with_reducible show wpAny _ _ (pyIter (Value.ref _)) (fun it s₂ => LoopAtV _ _ _ _ _ _ _ _ _ it s₂) _ _); (rename Fr _ _ _ _ => lF'); (rename News _ _ _ _ => lN'); (with_unfolding_all refine' iter_revUnr ?hh_x lF' lN' ?hof_x ?hm_x ?hc_x ?hd_x ?_; (case hh_x => exact rfl); (case hm_x => k_mem); (case hc_x => exact rfl); (case hd_x => exact rfl); (case hof_x => exact offI_of (by k_all)); k_whole); clear lF')
  k_with "x c drop" => repeat (first | exact Drop1.here | apply Drop1.next)
  k_with "x UnrEnd" => (k_here; (refine' unr_end ?F_x ?N_x ?d_x ?o_x ?_; (case F_x => k_asm); (case N_x => k_asm); (case d_x => walk_at "c drop"); (case o_x => k_all); refine And.intro (by k_mem) ?_))
  k_with "x c useV" => ((case hT_x => assumption); (case k1_x => k_asm); (case k2_x => k_asm); (case k3_x => k_asm); (case k5_x => k_asm); (case k6_x => first | exact rfl | assumption); (case kd_x => ktr_room); (case ku_x => ktr_units); (case C1_x => kn_code); (case C2_x => kn_code); (case k4_x => (refine' regroup ?rN_x ?rD_x ?rP_x ?rc_x ?rs_x; (case rN_x => k_asm); (case rD_x => k_mem); (case rP_x => k_mem); (case rc_x => k_mem); (case rs_x => walk_at "c sub"))))
  k_with "x call ref" => (k_here; k_dflt (refine' ConD.use (d2i_2r _ _ _ _ _ _ _ _ _ _ _ ?x0_x ?x1_x ?y0_x ?y1_x ?n0_x ?n1_x _ ?hz_x ?hT_x ?hr_x) ?k1_x ?k2_x ?k3_x ?k4_x ?k5_x ?k6_x ?kd_x ?ku_x ?C1_x ?C2_x ?_; walk_at "c useV"; (case hz_x => assumption); (case x0_x => omega); (case x1_x => omega); (case y0_x => omega); (case y1_x => omega); (case n0_x => omega); (case n1_x => omega); (case hr_x => k_all); intro v' c' oc' vs' t' h' tk' hV' F' N' d1' d2' hT'; (try k_sweep); (obtain ⟨ta', hE'⟩ := hV'; subst hE'); (try dsimp only)))
  k_with "x c retP" => ((case F_x => k_asm); (case N_x => k_asm); (case hm_x => k_mem); (case hP1_x => k_mem); (case hP2_x => k_mem); (case hc1_x => k_mem); (case hc2_x => k_mem); (case d1_x => assumption); (case v1_x => assumption); (case d2_x => assumption); (case v2_x => assumption); (case hs_x => walk_at "c sub"); (case hTA_x => assumption); (case k1_x => exact fun p hp => List.mem_append_right _ hp); (case hTB_x => assumption); (case k2_x => walk_at "c sub"); (case hl_x => walk_at "c lt"))
  k_with "x call ref" => (k_here; k_dflt (refine' ConD.use (d2i_1r _ _ _ _ _ _ _ _ _ ?x0_x ?x1_x ?n0_x ?n1_x ?hT_x ?hr_x) ?k1_x ?k2_x ?k3_x ?k4_x ?k5_x ?k6_x ?kd_x ?ku_x ?C1_x ?C2_x ?_; walk_at "c useV"; (case x0_x => omega); (case x1_x => omega); (case n0_x => omega); (case n1_x => omega); (case hr_x => k_all); intro v' c' oc' vs' t' h' tk' hV' F' N' d1' d2' hT'; (try k_sweep); (obtain ⟨ta', hE'⟩ := hV'; subst hE'); (try dsimp only)))
  k_with "x call ref" => (k_here; k_dflt (refine' ConD.use (d2i_0r _ _ _ _ _ _ _ ?n0_x ?n1_x ?hT_x ?hr_x) ?k1_x ?k2_x ?k3_x ?k4_x ?k5_x ?k6_x ?kd_x ?ku_x ?C1_x ?C2_x ?_; walk_at "c useV"; (case n0_x => omega); (case n1_x => omega); (case hr_x => k_all); intro v' c' oc' vs' t' h' tk' hV' F' N' d1' d2' hT'; (try k_sweep); (obtain ⟨ta', hE'⟩ := hV'; subst hE'); (try dsimp only)))
  k_with "x call ref" => (k_here; k_dflt (refine' ConD.use (i2d_1 _ _ _ _ _ _ _ ?x0_x ?x1_x ?n0_x ?n1_x ?z0_x ?hq_x ?hT_x ?hr_x) ?k1_x ?k2_x ?k3_x ?k4_x ?k5_x ?k6_x ?kd_x ?ku_x ?C1_x ?C2_x ?_; (case hT_x => assumption); walk_at "c useD"; (case hq_x => assumption); (case x0_x => omega); (case x1_x => omega); (case n0_x => omega); (case n1_x => omega); (case z0_x => omega); (case hr_x => assumption); intro D' o' c' oc' vs' t' h' tk' hO' F' N' d1' d2' hT' l1; (try k_sweep); (obtain ⟨ta', hE'⟩ := hO'; subst hE'); (have h51' := Mine.TabSt.belowR (P := 51) (l := 65) (c := 4) (by assumption) l1); (have hne' := Mine.TabOut.ne (P' := 51) (l' := 65) (k := 4) hT' (by assumption) (by assumption)); (try dsimp only)))
  k_with "x call ref" => (k_here; k_dflt (refine' ConD.use (i2d_0 _ _ _ _ _ _ ?n0_x ?n1_x ?hq_x ?z0_x ?hT_x ?hr_x) ?k1_x ?k2_x ?k3_x ?k4_x ?k5_x ?k6_x ?kd_x ?ku_x ?C1_x ?C2_x ?_; (case hT_x => assumption); walk_at "c useD"; (case hq_x => assumption); (case n0_x => omega); (case n1_x => omega); (case z0_x => omega); (case hr_x => assumption); intro D' o' c' oc' vs' t' h' tk' hO' F' N' d1' d2' hT' l1; (try k_sweep); subst hO'; (have h51' := Mine.TabSt.belowR (P := 51) (l := 65) (c := 4) (by assumption) l1); (have hne' := Mine.TabOut.ne (P' := 51) (l' := 65) (k := 4) hT' (by assumption) (by assumption)); (try dsimp only)))
  trivial
set_option maxRecDepth 100000 in
set_option maxHeartbeats 8000000 in
theorem pos_2 (w : World) (tabsA tabsB rest : List (Addr × Obj)) (x b hi up lo q1 r1 s1 q0 r0 z : Int) (t u : Tok) (x0 : 1 ≤ x) (x1 : x ≤ 1000) (b0 : 1 ≤ b) (b1 : b ≤ 1000)
    (n0 : 1 ≤ (Builtin.Int.intBits b : Int)) (n1 : (Builtin.Int.intBits b : Int) ≤ 100) (z0 : (Builtin.Int.intBits x : Int) ≤ 100) (hq : ((Builtin.Int.intBits x : Int) + Builtin.Int.intBits b - 1).fdiv (Builtin.Int.intBits b) = 2)
    (hh : x.fdiv (2 ^ (Builtin.Int.intBits b : Int).toNat) = hi) (hu : hi * 2 ^ (Builtin.Int.intBits b : Int).toNat = up) (hl : Builtin.bitXor x up = lo) (h0 : 0 ≤ hi) (h1 : hi ≤ 1000) (l0 : 0 ≤ lo) (l1 : lo ≤ 1000)
    (e1 : hi.fdiv b = q1) (e2 : hi.fmod b = r1) (e3 : r1 * 2 ^ (Builtin.Int.intBits b : Int).toNat = s1) (e4 : (s1 + lo).fdiv b = q0) (e5 : (s1 + lo).fmod b = r0) (e6 : q1 * 2 ^ (Builtin.Int.intBits b : Int).toNat = z)
    (g0 : 0 ≤ r1) (g1 : r1 ≤ 1000) (g2 : 0 ≤ s1) (g3 : s1 ≤ 1000) (g4 : 0 ≤ q1) (g5 : q1 ≤ 1000) (g6 : 0 ≤ q0) (g7 : q0 ≤ 1000)
    (hTA : TabSt 44 50 4 q49 tabsA) (hTB : TabSt 51 65 4 q56 tabsB) (hA : ∀ p ∈ tabsB ++ rest, p.1 ≠ 44) (hB : ∀ p ∈ rest, p.1 ≠ 51) (hB' : ∀ p ∈ tabsA, p.1 ≠ 51) :
    ConD 3 w 63 [.int x t, .int b u] (tabsA ++ (tabsB ++ rest)) (fun h₀ L m s Q => RetP tabsA tabsB h₀ L m rest s Q (z + q0) r0) := by
  unfold ConD; k_fill
  intro loose mean mg mb dp un gd cn cs a ccd cl outer A₀ base h₀ L m s Q E B F X N T hk hd hu C1 C2 hret
  refine wpAny_call ?_
  k_dflt walk_at "c enter"
  w_top off
  k_steps
  refine' retP hret ?F_x ?N_x ?hm_x rfl rfl ?hP1_x ?hc1_x ?hP2_x ?hc2_x ?d1_x ?v1_x ?d2_x ?v2_x ?hs_x ?hTA_x ?k1_x ?hTB_x ?k2_x ?hl_x; walk_at "c retP"
set_option maxRecDepth 100000 in
set_option maxHeartbeats 8000000 in
theorem pos_1 (w : World) (tabsA tabsB rest : List (Addr × Obj)) (x b q r : Int) (t u : Tok) (x0 : 1 ≤ x) (x1 : x ≤ 1000) (b0 : 1 ≤ b) (b1 : b ≤ 1000)
    (n0 : 1 ≤ (Builtin.Int.intBits b : Int)) (n1 : (Builtin.Int.intBits b : Int) ≤ 100) (z0 : (Builtin.Int.intBits x : Int) ≤ 100) (hq : ((Builtin.Int.intBits x : Int) + Builtin.Int.intBits b - 1).fdiv (Builtin.Int.intBits b) = 1)
    (e1 : x.fdiv b = q) (e2 : x.fmod b = r) (g4 : 0 ≤ q) (g5 : q ≤ 1000)
    (hTA : TabSt 44 50 4 q49 tabsA) (hTB : TabSt 51 65 4 q56 tabsB) (hA : ∀ p ∈ tabsB ++ rest, p.1 ≠ 44) (hB : ∀ p ∈ rest, p.1 ≠ 51) (hB' : ∀ p ∈ tabsA, p.1 ≠ 51) :
    ConD 3 w 63 [.int x t, .int b u] (tabsA ++ (tabsB ++ rest)) (fun h₀ L m s Q => RetP tabsA tabsB h₀ L m rest s Q q r) := by
  unfold ConD; k_fill
  intro loose mean mg mb dp un gd cn cs a ccd cl outer A₀ base h₀ L m s Q E B F X N T hk hd hu C1 C2 hret
  refine wpAny_call ?_
  k_dflt walk_at "c enter"
  w_top off
  k_steps
  refine' retP hret ?F_x ?N_x ?hm_x rfl rfl ?hP1_x ?hc1_x ?hP2_x ?hc2_x ?d1_x ?v1_x ?d2_x ?v2_x ?hs_x ?hTA_x ?k1_x ?hTB_x ?k2_x ?hl_x; walk_at "c retP"

set_option maxRecDepth 100000 in
set_option maxHeartbeats 8000000 in
theorem pos_0 (w : World) (tabsA tabsB rest : List (Addr × Obj)) (b : Int) (t u : Tok) (b0 : 1 ≤ b) (b1 : b ≤ 1000)
    (n0 : 1 ≤ (Builtin.Int.intBits b : Int)) (n1 : (Builtin.Int.intBits b : Int) ≤ 100) (z0 : (Builtin.Int.intBits 0 : Int) ≤ 100) (hq : ((Builtin.Int.intBits 0 : Int) + Builtin.Int.intBits b - 1).fdiv (Builtin.Int.intBits b) = 0)
    (hTA : TabSt 44 50 4 q49 tabsA) (hTB : TabSt 51 65 4 q56 tabsB) (hA : ∀ p ∈ tabsB ++ rest, p.1 ≠ 44) (hB : ∀ p ∈ rest, p.1 ≠ 51) (hB' : ∀ p ∈ tabsA, p.1 ≠ 51) :
    ConD 3 w 63 [.int 0 t, .int b u] (tabsA ++ (tabsB ++ rest)) (fun h₀ L m s Q => RetP tabsA tabsB h₀ L m rest s Q 0 0) := by
  unfold ConD; k_fill
  intro loose mean mg mb dp un gd cn cs a ccd cl outer A₀ base h₀ L m s Q E B F X N T hk hd hu C1 C2 hret
  refine wpAny_call ?_
  k_dflt walk_at "c enter"
  w_top off
  k_steps
  refine' retP hret ?F_x ?N_x ?hm_x rfl rfl ?hP1_x ?hc1_x ?hP2_x ?hc2_x ?d1_x ?v1_x ?d2_x ?v2_x ?hs_x ?hTA_x ?k1_x ?hTB_x ?k2_x ?hl_x; walk_at "c retP"
theorem pos_c (w : World) (tabsA tabsB rest : List (Addr × Obj)) (x b : Int) (t u : Tok) (hc : chk b x = true) (x0 : 0 ≤ x) (x1 : x ≤ 1000) (b0 : 1 ≤ b) (b1 : b ≤ 1000)
    (hTA : TabSt 44 50 4 q49 tabsA) (hTB : TabSt 51 65 4 q56 tabsB) (hA : ∀ p ∈ tabsB ++ rest, p.1 ≠ 44) (hB : ∀ p ∈ rest, p.1 ≠ 51) (hB' : ∀ p ∈ tabsA, p.1 ≠ 51) :
    ConD 3 w 63 [.int x t, .int b u] (tabsA ++ (tabsB ++ rest)) (fun h₀ L m s Q => RetP tabsA tabsB h₀ L m rest s Q (x.fdiv b) (x.fmod b)) := by
  unfold chk at hc
  simp only [Bool.and_eq_true, Bool.or_eq_true, decide_eq_true_eq] at hc
  obtain ⟨⟨⟨⟨⟨n0, n1⟩, z0⟩, g4⟩, g5⟩, hc⟩ := hc
  rcases hc with (⟨hd, rfl⟩ | ⟨hd, hx⟩) | ⟨⟨⟨⟨⟨⟨⟨⟨⟨⟨⟨⟨⟨⟨⟨hd, hx⟩, a1⟩, a2⟩, a3⟩, a4⟩, a5⟩, a6⟩, a7⟩, a8⟩, a9⟩, a10⟩, a11⟩, a12⟩, e1⟩, e2⟩
  · have := pos_0 w tabsA tabsB rest b t u b0 b1 n0 n1 z0 hd hTA hTB hA hB hB'
    simpa only [Int.zero_fdiv, Int.zero_fmod] using this
  · exact pos_1 w tabsA tabsB rest x b _ _ t u hx x1 b0 b1 n0 n1 z0 hd rfl rfl g4 g5 hTA hTB hA hB hB'
  · have := pos_2 w tabsA tabsB rest x b _ _ _ _ _ _ _ _ _ t u hx x1 b0 b1 n0 n1 z0 hd rfl rfl rfl a1 a2 a3 a4 rfl rfl rfl rfl rfl rfl a5 a6 a7 a8 a9 a10 a11 a12 hTA hTB hA hB hB'
    rw [e1, e2] at this
    exact this
section
theorem kw6 : True := by
  k_with_none
  k_with "x c sub" => (intro p hp; repeat (first | exact hp | refine List.mem_cons_of_mem _ ?_))
  k_with "x binaryOp Add ref ref" => (k_here; k_dflt (refine' kde_addT ?k1_x ?k2_x ?k3_x ?k4_x ?k5_x ?k6_x ?k7_x ?k8_x ?_; (case k1_x => k_asm); (case k2_x => k_asm); (case k3_x => kun_tup); (case k4_x => kun_tup); (case k5_x => exact List.cons_ne_nil _ _); (case k6_x => exact List.cons_ne_nil _ _); (case k7_x => exact Nat.le_of_ble_eq_true rfl); (case k8_x => kun_lit); k_whole); intro D' h' F' N' l1; (try k_lt l1); (try k_sweep))
  k_with "x subscriptTail Name Slice ref ref" => (k_here; (with_reducible show wpAny _ _ (subscriptTail _ (PySem.Expr.Slice none _ none _) (Value.ref _) (Value.ref _)) _ _ _); k_dflt (refine' slice5 ?F_x ?N_x ?t_x ?_ ?s_x ?g_x; (case F_x => k_asm); (case N_x => k_asm); (case t_x => kun_tup); (case s_x => with_unfolding_all rfl); (case g_x => intro _; with_unfolding_all rfl); k_whole); intro D' h' F' N' l1; (try k_lt l1); (try k_sweep))
  k_with "x c enter" => (refine' code_def ?k1_x ?k2_x ?k3_x ?k4_x ?k5_x ?kA_x ?kF_x ?kK_x ?k6_x ?k7_x ?k8_x ?k9_x ?kB_x ?_ ?c2_x ?c3_x ?c4_x ?c5_x; (case kA_x => exact rfl); (case kF_x => exact rfl); (case kK_x => first | exact rfl | assumption); (case k1_x => k_asm); (case k2_x => k_asm); (case k3_x => k_asm); (case k4_x => k_asm); (case k5_x => k_asm); (case k6_x => k_is); (case k7_x => k_is); (case k8_x => ktr_room); (case k9_x => exact BindsTo.of_eq rfl); (case c5_x => decide); (case kB_x => exact locs rfl); (case c2_x => exact rfl); (case c3_x => exact rfl); (case c4_x => exact rfl); k_whole; intro g' L' h' FG' F' N' B' X' T'; (try dsimp only); (try k_lift B'); (try k_fold))
  k_with "x c enterC" => (refine' code_defC ?k1_x ?k2_x ?k3_x ?k4_x ?k5_x ?kA_x ?kF_x ?kK_x ?k6_x ?k7_x ?k8_x ?k9_x ?kB_x ?kD_x ?_ ?c2_x ?c3_x ?c4_x; (case kA_x => exact rfl); (case kF_x => exact rfl); (case kK_x => first | exact rfl | assumption); (case k1_x => k_asm); (case k2_x => k_asm); (case k3_x => k_asm); (case k4_x => k_asm); (case k5_x => k_asm); (case k6_x => k_is); (case k7_x => k_is); (case k8_x => ktr_room); (case k9_x => exact BindsTo.of_eq rfl); (case kB_x => exact rfl); (case kD_x => decide +kernel); (case c2_x => exact rfl); (case c3_x => exact rfl); (case c4_x => exact rfl); k_whole; intro g' L' h' tk' cells' FG' F' N' Y' B' X' T' l1; (try k_lt l1); k_cells Y'; (try simp only [List.cons_append, List.nil_append] at N'); (try dsimp only); (try k_lift B'); (try k_fold))
  k_with "x CompEnd" => (k_here; (refine LCg.CompEnd.intro (by assumption) (by assumption) _ (fun _ h => h) (by first | assumption | (simp only [LCg.Off3, and_true]; assumption)) (by lcg_src) ?_))
  k_with "x exec For Tuple Call cons nil" => (k_here; (rename Fr _ _ _ _ => lF'); (rename News _ _ _ _ => lN'); with_unfolding_all ((refine' For_turns lF' ?_); k_whole; (refine MethodCall_ ?_); (refine ld lF' (by rfl) ?_); (refine getMethod_tab (knd := PySem.strKind _ _) (enc := PyData.str) PySem.F.slot_dict_items PySem.F.type_dict_items (by k_tabat) ?_); (refine callWith_method0 ?_); (refine call_items_tab (knd := PySem.strKind _ _) (enc := PyData.str) (by k_tabat) lF' lN' ?_); intro h' o' hv' F' N'; (replace N' := kti_tail N'); (refine kti_items (knd := PySem.strKind _ _) (enc := PyData.str) (xs := []) (by rfl) F' N' hv' (by k_tabat) (by k_mem) (fun _ _ h => Value.isStrOf_shape h) (by rfl) ?_)); clear lF' lN'; intro i' l1; (try k_lt l1))
  k_with "x c lt" => first | assumption | (refine ktn_ltOf ?_; first | assumption | (apply And.right; assumption) | ((iterate 2 apply And.right); assumption) | ((iterate 3 apply And.right); assumption) | ((iterate 4 apply And.right); assumption) | ((iterate 5 apply And.right); assumption) | ((iterate 6 apply And.right); assumption) | ((iterate 7 apply And.right); assumption) | ((iterate 8 apply And.right); assumption) | ((iterate 9 apply And.right); assumption) | ((iterate 10 apply And.right); assumption) | ((iterate 11 apply And.right); assumption) | ((iterate 12 apply And.right); assumption) | ((iterate 13 apply And.right); assumption) | ((iterate 14 apply And.right); assumption))
  k_with "x c use" => ((case k1_x => k_asm); (case k2_x => k_asm); (case k3_x => k_asm); (case k4_x => k_asm); (case k5_x => k_asm); (case k6_x => first | exact rfl | assumption); (case kd_x => ktr_room); (case ku_x => ktr_units))
  k_with "x call ref" => (k_here; k_dflt (refine' Con.use (turned_c _ _ _ _ _ _ _ _ _ _ _ ?hx_x) ?k1_x ?k2_x ?k3_x ?k4_x ?k5_x ?k6_x ?kd_x ?ku_x ?_; walk_at "c use"; (case hx_x => k_mem); k_whole; intro D' t0' t1' t2' t3' h' tk' F' N' l1; (try k_lt l1); (try k_sweep); (try dsimp only)))
  k_with "x call ref" => (k_here; k_dflt (refine' Con.use (sum_c _ _ _ _ _ _ _ _ _ _ _ _ _ _ _ _ _ _ _ _ ?hx_x ?hy_x) ?k1_x ?k2_x ?k3_x ?k4_x ?k5_x ?k6_x ?kd_x ?ku_x ?_; walk_at "c use"; (case hx_x => k_mem); (case hy_x => k_mem); k_whole; intro D' t0' t1' t2' t3' h' tk' F' N' l1; (try k_lt l1); (try k_sweep); (try dsimp only)))
  k_with "x call ref" => (k_here; k_dflt (refine' Con.use (scaled_c _ _ _ _ _ _ _ _ _ _ _ _ _ ?hx_x ?b0_x ?b1_x) ?k1_x ?k2_x ?k3_x ?k4_x ?k5_x ?k6_x ?kd_x ?ku_x ?_; walk_at "c use"; (case hx_x => k_mem); (case b0_x => omega); (case b1_x => omega); k_whole; intro D' t0' t1' t2' t3' h' tk' F' N' l1; (try k_lt l1); (try k_sweep); (try dsimp only)))
  k_with "x eval ListComp" => (k_here; k_dflt (refine ListComp_Tup (_F₀ := by k_asm) (by with_unfolding_all rfl) (by decide) (by rfl) (by decide) (by rfl) ?_))
  k_with "x TupSrc" => (k_here; k_dflt (refine TupSrc.made (by rfl) (by k_asm) (by k_asm) (by k_mem) (by first | size_fits | exact Nat.le_of_ble_eq_true rfl) ?_; intro g'; lcg_lit))
  k_with "x c useD" => ((case k1_x => k_asm); (case k2_x => k_asm); (case k3_x => k_asm); (case k4_x => k_asm); (case k5_x => k_asm); (case k6_x => first | exact rfl | assumption); (case kd_x => ktr_room); (case ku_x => ktr_units); (case C1_x => kn_code); (case C2_x => kn_code))
  k_with "x binaryOp Add int int" => (k_here; k_dflt (refine' add_is ?e_x ?_; (case e_x => exact Int.zero_add _)))
  k_with "x binaryOp LShift int int" => (k_here; k_dflt (refine' lshift_is ?ka_x ?kb_x ?kc_x ?ke_x ?_; (case ke_x => first | exact Int.zero_mul _ | assumption); (case ka_x => omega); (case kb_x => omega); (case kc_x => omega)))
  k_with "x call ref" => (k_here; k_dflt (refine' Con.use (div_q _ _ _ _ _ _ _ _ _ _ ?hq_x ?hr_x ?x0_x ?x1_x ?b0_x ?b1_x ?n0_x ?n1_x ?z0_x) ?k1_x ?k2_x ?k3_x ?k4_x ?k5_x ?k6_x ?kd_x ?ku_x ?_; walk_at "c use"; (case hq_x => assumption); (case hr_x => assumption); (case x0_x => omega); (case x1_x => omega); (case b0_x => omega); (case b1_x => omega); (case n0_x => omega); (case n1_x => omega); (case z0_x => exact bits_le (by omega) (by omega)); k_whole; intro D' t0' t1' h' tk' F' N' l1; (try k_lt l1); (try k_sweep); (try dsimp only)))
  k_with "x call ref" => (k_here; k_dflt (refine' ConD.use (i2d_2 _ _ _ _ _ _ _ _ _ _ ?x0_x ?x1_x ?n0_x ?n1_x ?z0_x ?hq_x ?hh_x ?hu_x ?hl_x ?h0_x ?h1_x ?hT_x ?hr_x) ?k1_x ?k2_x ?k3_x ?k4_x ?k5_x ?k6_x ?kd_x ?ku_x ?C1_x ?C2_x ?_; (case hT_x => assumption); walk_at "c useD"; (case hq_x => assumption); (case hh_x => assumption); (case hu_x => assumption); (case hl_x => assumption); (case x0_x => omega); (case x1_x => omega); (case n0_x => omega); (case n1_x => omega); (case z0_x => omega); (case h0_x => omega); (case h1_x => omega); (case hr_x => assumption); intro D' o' c' oc' vs' t' h' tk' hO' F' N' d1' d2' hT' l1; (try k_sweep); (obtain ⟨ta', tb', hE'⟩ := hO'; subst hE'); (have h51' := Mine.TabSt.belowR (P := 51) (l := 65) (c := 4) (by assumption) l1); (have hne' := Mine.TabOut.ne (P' := 51) (l' := 65) (k := 4) hT' (by assumption) (by assumption)); (try dsimp only)))
  k_with "x pyIter ref" => (k_here; (with_reducible show wpAny _ _ (pyIter (Value.ref _)) (fun it s₂ => LoopAtV _ _ _ _ _ _ _ _ _ it s₂) _ _); (rename Fr _ _ _ _ => lF'); (rename News _ _ _ _ => lN'); (with_unfolding_all refine' iter_revUnr ?hh_x lF' lN' ?hof_x ?hm_x ?hc_x ?hd_x ?_; (case hh_x => exact rfl); (case hm_x => k_mem); (case hc_x => exact rfl); (case hd_x => exact rfl); (case hof_x => exact offI_of (by k_all)); k_whole); clear lF')
  k_with "x c drop" => repeat (first | exact Drop1.here | apply Drop1.next)
  k_with "x UnrEnd" => (k_here; (refine' unr_end ?F_x ?N_x ?d_x ?o_x ?_; (case F_x => k_asm); (case N_x => k_asm); (case d_x => walk_at "c drop"); (case o_x => k_all); refine And.intro (by k_mem) ?_))
  k_with "x c useV" => ((case hT_x => assumption); (case k1_x => k_asm); (case k2_x => k_asm); (case k3_x => k_asm); (case k5_x => k_asm); (case k6_x => first | exact rfl | assumption); (case kd_x => ktr_room); (case ku_x => ktr_units); (case C1_x => kn_code); (case C2_x => kn_code); (case k4_x => (refine' regroup ?rN_x ?rD_x ?rP_x ?rc_x ?rs_x; (case rN_x => k_asm); (case rD_x => k_mem); (case rP_x => k_mem); (case rc_x => k_mem); (case rs_x => walk_at "c sub"))))
  k_with "x call ref" => (k_here; k_dflt (refine' ConD.use (d2i_2r _ _ _ _ _ _ _ _ _ _ _ ?x0_x ?x1_x ?y0_x ?y1_x ?n0_x ?n1_x _ ?hz_x ?hT_x ?hr_x) ?k1_x ?k2_x ?k3_x ?k4_x ?k5_x ?k6_x ?kd_x ?ku_x ?C1_x ?C2_x ?_; walk_at "c useV"; (case hz_x => assumption); (case x0_x => omega); (case x1_x => omega); (case y0_x => omega); (case y1_x => omega); (case n0_x => omega); (case n1_x => omega); (case hr_x => k_all); intro v' c' oc' vs' t' h' tk' hV' F' N' d1' d2' hT'; (try k_sweep); (obtain ⟨ta', hE'⟩ := hV'; subst hE'); (try dsimp only)))
  k_with "x c retP" => ((case F_x => k_asm); (case N_x => k_asm); (case hm_x => k_mem); (case hP1_x => k_mem); (case hP2_x => k_mem); (case hc1_x => k_mem); (case hc2_x => k_mem); (case d1_x => assumption); (case v1_x => assumption); (case d2_x => assumption); (case v2_x => assumption); (case hs_x => walk_at "c sub"); (case hTA_x => assumption); (case k1_x => exact fun p hp => List.mem_append_right _ hp); (case hTB_x => assumption); (case k2_x => walk_at "c sub"); (case hl_x => walk_at "c lt"))
  k_with "x call ref" => (k_here; k_dflt (refine' ConD.use (d2i_1r _ _ _ _ _ _ _ _ _ ?x0_x ?x1_x ?n0_x ?n1_x ?hT_x ?hr_x) ?k1_x ?k2_x ?k3_x ?k4_x ?k5_x ?k6_x ?kd_x ?ku_x ?C1_x ?C2_x ?_; walk_at "c useV"; (case x0_x => omega); (case x1_x => omega); (case n0_x => omega); (case n1_x => omega); (case hr_x => k_all); intro v' c' oc' vs' t' h' tk' hV' F' N' d1' d2' hT'; (try k_sweep); (obtain ⟨ta', hE'⟩ := hV'; subst hE'); (try dsimp only)))
  k_with "x call ref" => (k_here; k_dflt (refine' ConD.use (d2i_0r _ _ _ _ _ _ _ ?n0_x ?n1_x ?hT_x ?hr_x) ?k1_x ?k2_x ?k3_x ?k4_x ?k5_x ?k6_x ?kd_x ?ku_x ?C1_x ?C2_x ?_; walk_at "c useV"; (case n0_x => omega); (case n1_x => omega); (case hr_x => k_all); intro v' c' oc' vs' t' h' tk' hV' F' N' d1' d2' hT'; (try k_sweep); (obtain ⟨ta', hE'⟩ := hV'; subst hE'); (try dsimp only)))
  k_with "x call ref" => (k_here; k_dflt (refine' ConD.use (i2d_1 _ _ _ _ _ _ _ ?x0_x ?x1_x ?n0_x ?n1_x ?z0_x ?hq_x ?hT_x ?hr_x) ?k1_x ?k2_x ?k3_x ?k4_x ?k5_x ?k6_x ?kd_x ?ku_x ?C1_x ?C2_x ?_; (case hT_x => assumption); walk_at "c useD"; (case hq_x => assumption); (case x0_x => omega); (case x1_x => omega); (case n0_x => omega); (case n1_x => omega); (case z0_x => omega); (case hr_x => assumption); intro D' o' c' oc' vs' t' h' tk' hO' F' N' d1' d2' hT' l1; (try k_sweep); (obtain ⟨ta', hE'⟩ := hO'; subst hE'); (have h51' := Mine.TabSt.belowR (P := 51) (l := 65) (c := 4) (by assumption) l1); (have hne' := Mine.TabOut.ne (P' := 51) (l' := 65) (k := 4) hT' (by assumption) (by assumption)); (try dsimp only)))
  k_with "x call ref" => (k_here; k_dflt (refine' ConD.use (i2d_0 _ _ _ _ _ _ ?n0_x ?n1_x ?hq_x ?z0_x ?hT_x ?hr_x) ?k1_x ?k2_x ?k3_x ?k4_x ?k5_x ?k6_x ?kd_x ?ku_x ?C1_x ?C2_x ?_; (case hT_x => assumption); walk_at "c useD"; (case hq_x => assumption); (case n0_x => omega); (case n1_x => omega); (case z0_x => omega); (case hr_x => assumption); intro D' o' c' oc' vs' t' h' tk' hO' F' N' d1' d2' hT' l1; (try k_sweep); subst hO'; (have h51' := Mine.TabSt.belowR (P := 51) (l := 65) (c := 4) (by assumption) l1); (have hne' := Mine.TabOut.ne (P' := 51) (l' := 65) (k := 4) hT' (by assumption) (by assumption)); (try dsimp only)))
  k_with "x call ref" => (k_here; k_dflt (refine' ConD.use (pos_c _ _ _ _ _ _ _ _ ?hc_x ?x0_x ?x1_x ?b0_x ?b1_x ?hTA_x ?hTB_x ?hA_x ?hB_x ?hB'_x) ?k1_x ?k2_x ?k3_x ?k4_x ?k5_x ?k6_x ?kd_x ?ku_x ?C1_x ?C2_x ?_; walk_at "c useD"; (case hc_x => assumption); (case hTA_x => assumption); (case hTB_x => assumption); (case hA_x => assumption); (case hB_x => assumption); (case hB'_x => assumption); (case x0_x => omega); (case x1_x => omega); (case b0_x => omega); (case b1_x => omega); intro D' ta' tb' c1' o1' vs1' t1' c2' o2' vs2' t2' h' tk' F' N' d1' v1' d2' v2' hTA' hTB' l1; (try k_sweep); (try dsimp only)))
  k_with "x c retP'" => ((case F_x => k_asm); (case N_x => k_asm); (case hm_x => k_mem); (case hP1_x => k_mem); (case hP2_x => k_mem); (case hc1_x => k_mem); (case hc2_x => k_mem); (case d1_x => assumption); (case v1_x => assumption); (case d2_x => assumption); (case v2_x => assumption); (case hs_x => walk_at "c sub"); (case hTA_x => assumption); (case k1_x => exact fun p hp => hp); (case hTB_x => assumption); (case k2_x => exact fun p hp => hp); (case hl_x => walk_at "c lt"))
  trivial
set_option maxRecDepth 100000 in
set_option maxHeartbeats 8000000 in
theorem idiv_nn (w : World) (tabsA tabsB rest : List (Addr × Obj)) (x b : Int) (t u : Tok) (hc : chk b x = true) (x0 : 0 ≤ x) (x1 : x ≤ 1000) (b0 : 1 ≤ b) (b1 : b ≤ 1000)
    (hTA : TabSt 44 50 4 q49 tabsA) (hTB : TabSt 51 65 4 q56 tabsB) (hA : ∀ p ∈ tabsB ++ rest, p.1 ≠ 44) (hB : ∀ p ∈ rest, p.1 ≠ 51) (hB' : ∀ p ∈ tabsA, p.1 ≠ 51) :
    ConD 4 w 70 [.int x t, .int b u] (tabsA ++ (tabsB ++ rest)) (fun h₀ L m s Q => RetP tabsA tabsB h₀ L m rest s Q (x.fdiv b) (x.fmod b)) := by
  unfold ConD; k_fill
  intro loose mean mg mb dp un gd cn cs a ccd cl outer A₀ base h₀ L m s Q E B F X N T hk hd hu C1 C2 hret
  refine wpAny_call ?_
  k_dflt walk_at "c enter"
  w_top off
  k_steps
  · exfalso; omega
  · refine' retP hret ?F_x ?N_x ?hm_x rfl rfl ?hP1_x ?hc1_x ?hP2_x ?hc2_x ?d1_x ?v1_x ?d2_x ?v2_x ?hs_x ?hTA_x ?k1_x ?hTB_x ?k2_x ?hl_x; walk_at "c retP'"
theorem kw7 : True := by
  k_with_none
  k_with "x c sub" => (intro p hp; repeat (first | exact hp | refine List.mem_cons_of_mem _ ?_))
  k_with "x binaryOp Add ref ref" => (k_here; k_dflt (refine' kde_addT ?k1_x ?k2_x ?k3_x ?k4_x ?k5_x ?k6_x ?k7_x ?k8_x ?_; (case k1_x => k_asm); (case k2_x => k_asm); (case k3_x => kun_tup); (case k4_x => kun_tup); (case k5_x => exact List.cons_ne_nil _ _); (case k6_x => exact List.cons_ne_nil _ _); (case k7_x => exact Nat.le_of_ble_eq_true rfl); (case k8_x => kun_lit); k_whole); intro D' h' F' N' l1; (try k_lt l1); (try k_sweep))
  k_with "x subscriptTail Name Slice ref ref" => (k_here; (with_reducible show wpAny _ _ (subscriptTail _ (PySem.Expr.Slice none _ none _) (Value.ref _) (Value.ref _)) _ _ _); k_dflt (refine' slice5 ?F_x ?N_x ?t_x ?_ ?s_x ?g_x; (case F_x => k_asm); (case N_x => k_asm); (case t_x => kun_tup); (case s_x => with_unfolding_all rfl); (case g_x => intro _; with_unfolding_all rfl); k_whole); intro D' h' F' N' l1; (try k_lt l1); (try k_sweep))
  k_with "x c enter" => (refine' code_def ?k1_x ?k2_x ?k3_x ?k4_x ?k5_x ?kA_x ?kF_x ?kK_x ?k6_x ?k7_x ?k8_x ?k9_x ?kB_x ?_ ?c2_x ?c3_x ?c4_x ?c5_x; (case kA_x => exact rfl); (case kF_x => exact rfl); (case kK_x => first | exact rfl | assumption); (case k1_x => k_asm); (case k2_x => k_asm); (case k3_x => k_asm); (case k4_x => k_asm); (case k5_x => k_asm); (case k6_x => k_is); (case k7_x => k_is); (case k8_x => ktr_room); (case k9_x => exact BindsTo.of_eq rfl); (case c5_x => decide); (case kB_x => exact locs rfl); (case c2_x => exact rfl); (case c3_x => exact rfl); (case c4_x => exact rfl); k_whole; intro g' L' h' FG' F' N' B' X' T'; (try dsimp only); (try k_lift B'); (try k_fold))
  k_with "x c enterC" => (refine' code_defC ?k1_x ?k2_x ?k3_x ?k4_x ?k5_x ?kA_x ?kF_x ?kK_x ?k6_x ?k7_x ?k8_x ?k9_x ?kB_x ?kD_x ?_ ?c2_x ?c3_x ?c4_x; (case kA_x => exact rfl); (case kF_x => exact rfl); (case kK_x => first | exact rfl | assumption); (case k1_x => k_asm); (case k2_x => k_asm); (case k3_x => k_asm); (case k4_x => k_asm); (case k5_x => k_asm); (case k6_x => k_is); (case k7_x => k_is); (case k8_x => ktr_room); (case k9_x => exact BindsTo.of_eq rfl); (case kB_x => exact rfl); (case kD_x => decide +kernel); (case c2_x => exact rfl); (case c3_x => exact rfl); (case c4_x => exact rfl); k_whole; intro g' L' h' tk' cells' FG' F' N' Y' B' X' T' l1; (try k_lt l1); k_cells Y'; (try simp only [List.cons_append, List.nil_append] at N'); (try dsimp only); (try k_lift B'); (try k_fold))
  k_with "x CompEnd" => (k_here; (refine LCg.CompEnd.intro (by assumption) (by assumption) _ (fun _ h => h) (by first | assumption | (simp only [LCg.Off3, and_true]; assumption)) (by lcg_src) ?_))
  k_with "x exec For Tuple Call cons nil" => (k_here; (rename Fr _ _ _ _ => lF'); (rename News _ _ _ _ => lN'); with_unfolding_all ((refine' For_turns lF' ?_); k_whole; (refine MethodCall_ ?_); (refine ld lF' (by rfl) ?_); (refine getMethod_tab (knd := PySem.strKind _ _) (enc := PyData.str) PySem.F.slot_dict_items PySem.F.type_dict_items (by k_tabat) ?_); (refine callWith_method0 ?_); (refine call_items_tab (knd := PySem.strKind _ _) (enc := PyData.str) (by k_tabat) lF' lN' ?_); intro h' o' hv' F' N'; (replace N' := kti_tail N'); (refine kti_items (knd := PySem.strKind _ _) (enc := PyData.str) (xs := []) (by rfl) F' N' hv' (by k_tabat) (by k_mem) (fun _ _ h => Value.isStrOf_shape h) (by rfl) ?_)); clear lF' lN'; intro i' l1; (try k_lt l1))
  k_with "x c lt" => first | assumption | (refine ktn_ltOf ?_; first | assumption | (apply And.right; assumption) | ((iterate 2 apply And.right); assumption) | ((iterate 3 apply And.right); assumption) | ((iterate 4 apply And.right); assumption) | ((iterate 5 apply And.right); assumption) | ((iterate 6 apply And.right); assumption) | ((iterate 7 apply And.right); assumption) | ((iterate 8 apply And.right); assumption) | ((iterate 9 apply And.right); assumption) | ((iterate 10 apply And.right); assumption) | ((iterate 11 apply And.right); assumption) | ((iterate 12 apply And.right); assumption) | ((iterate 13 apply And.right); assumption) | ((iterate 14 apply And.right); assumption))
  k_with "x c use" => ((case k1_x => k_asm); (case k2_x => k_asm); (case k3_x => k_asm); (case k4_x => k_asm); (case k5_x => k_asm); (case k6_x => first | exact rfl | assumption); (case kd_x => ktr_room); (case ku_x => ktr_units))
  k_with "x call ref" => (k_here; k_dflt (refine' Con.use (turned_c _ _ _ _ _ _ _ _ _ _ _ ?hx_x) ?k1_x ?k2_x ?k3_x ?k4_x ?k5_x ?k6_x ?kd_x ?ku_x ?_; walk_at "c use"; (case hx_x => k_mem); k_whole; intro D' t0' t1' t2' t3' h' tk' F' N' l1; (try k_lt l1); (try k_sweep); (try dsimp only)))
  k_with "x call ref" => (k_here; k_dflt (refine' Con.use (sum_c _ _ _ _ _ _ _ _ _ _ _ _ _ _ _ _ _ _ _ _ ?hx_x ?hy_x) ?k1_x ?k2_x ?k3_x ?k4_x ?k5_x ?k6_x ?kd_x ?ku_x ?_; walk_at "c use"; (case hx_x => k_mem); (case hy_x => k_mem); k_whole; intro D' t0' t1' t2' t3' h' tk' F' N' l1; (try k_lt l1); (try k_sweep); (try dsimp only)))
  k_with "x call ref" => (k_here; k_dflt (refine' Con.use (scaled_c _ _ _ _ _ _ _ _ _ _ _ _ _ ?hx_x ?b0_x ?b1_x) ?k1_x ?k2_x ?k3_x ?k4_x ?k5_x ?k6_x ?kd_x ?ku_x ?_; walk_at "c use"; (case hx_x => k_mem); (case b0_x => omega); (case b1_x => omega); k_whole; intro D' t0' t1' t2' t3' h' tk' F' N' l1; (try k_lt l1); (try k_sweep); (try dsimp only)))
  k_with "x eval ListComp" => (k_here; k_dflt (refine ListComp_Tup (_F₀ := by k_asm) (by with_unfolding_all rfl) (by decide) (by rfl) (by decide) (by rfl) ?_))
  k_with "x TupSrc" => (k_here; k_dflt (refine TupSrc.made (by rfl) (by k_asm) (by k_asm) (by k_mem) (by first | size_fits | exact Nat.le_of_ble_eq_true rfl) ?_; intro g'; lcg_lit))
  k_with "x c useD" => ((case k1_x => k_asm); (case k2_x => k_asm); (case k3_x => k_asm); (case k4_x => k_asm); (case k5_x => k_asm); (case k6_x => first | exact rfl | assumption); (case kd_x => ktr_room); (case ku_x => ktr_units); (case C1_x => kn_code); (case C2_x => kn_code))
  k_with "x binaryOp Add int int" => (k_here; k_dflt (refine' add_is ?e_x ?_; (case e_x => exact Int.zero_add _)))
  k_with "x binaryOp LShift int int" => (k_here; k_dflt (refine' lshift_is ?ka_x ?kb_x ?kc_x ?ke_x ?_; (case ke_x => first | exact Int.zero_mul _ | assumption); (case ka_x => omega); (case kb_x => omega); (case kc_x => omega)))
  k_with "x call ref" => (k_here; k_dflt (refine' Con.use (div_q _ _ _ _ _ _ _ _ _ _ ?hq_x ?hr_x ?x0_x ?x1_x ?b0_x ?b1_x ?n0_x ?n1_x ?z0_x) ?k1_x ?k2_x ?k3_x ?k4_x ?k5_x ?k6_x ?kd_x ?ku_x ?_; walk_at "c use"; (case hq_x => assumption); (case hr_x => assumption); (case x0_x => omega); (case x1_x => omega); (case b0_x => omega); (case b1_x => omega); (case n0_x => omega); (case n1_x => omega); (case z0_x => exact bits_le (by omega) (by omega)); k_whole; intro D' t0' t1' h' tk' F' N' l1; (try k_lt l1); (try k_sweep); (try dsimp only)))
  k_with "x call ref" => (k_here; k_dflt (refine' ConD.use (i2d_2 _ _ _ _ _ _ _ _ _ _ ?x0_x ?x1_x ?n0_x ?n1_x ?z0_x ?hq_x ?hh_x ?hu_x ?hl_x ?h0_x ?h1_x ?hT_x ?hr_x) ?k1_x ?k2_x ?k3_x ?k4_x ?k5_x ?k6_x ?kd_x ?ku_x ?C1_x ?C2_x ?_; (case hT_x => assumption); walk_at "c useD"; (case hq_x => assumption); (case hh_x => assumption); (case hu_x => assumption); (case hl_x => assumption); (case x0_x => omega); (case x1_x => omega); (case n0_x => omega); (case n1_x => omega); (case z0_x => omega); (case h0_x => omega); (case h1_x => omega); (case hr_x => assumption); intro D' o' c' oc' vs' t' h' tk' hO' F' N' d1' d2' hT' l1; (try k_sweep); (obtain ⟨ta', tb', hE'⟩ := hO'; subst hE'); (have h51' := Mine.TabSt.belowR (P := 51) (l := 65) (c := 4) (by assumption) l1); (have hne' := Mine.TabOut.ne (P' := 51) (l' := 65) (k := 4) hT' (by assumption) (by assumption)); (try dsimp only)))
  k_with "x pyIter ref" => (k_here; (with_reducible show wpAny _ _ (pyIter (Value.ref _)) (fun it s₂ => LoopAtV _ _ _ _ _ _ _ _ _ it s₂) _ _); (rename Fr _ _ _ _ => lF'); (rename News _ _ _ _ => lN'); (with_unfolding_all refine' iter_revUnr ?hh_x lF' lN' ?hof_x ?hm_x ?hc_x ?hd_x ?_; (case hh_x => exact rfl); (case hm_x => k_mem); (case hc_x => exact rfl); (case hd_x => exact rfl); (case hof_x => exact offI_of (by k_all)); k_whole); clear lF')
  k_with "x c drop" => repeat (first | exact Drop1.here | apply Drop1.next)
  k_with "x UnrEnd" => (k_here; (refine' unr_end ?F_x ?N_x ?d_x ?o_x ?_; (case F_x => k_asm); (case N_x => k_asm); (case d_x => walk_at "c drop"); (case o_x => k_all); refine And.intro (by k_mem) ?_))
  k_with "x c useV" => ((case hT_x => assumption); (case k1_x => k_asm); (case k2_x => k_asm); (case k3_x => k_asm); (case k5_x => k_asm); (case k6_x => first | exact rfl | assumption); (case kd_x => ktr_room); (case ku_x => ktr_units); (case C1_x => kn_code); (case C2_x => kn_code); (case k4_x => (refine' regroup ?rN_x ?rD_x ?rP_x ?rc_x ?rs_x; (case rN_x => k_asm); (case rD_x => k_mem); (case rP_x => k_mem); (case rc_x => k_mem); (case rs_x => walk_at "c sub"))))
  k_with "x call ref" => (k_here; k_dflt (refine' ConD.use (d2i_2r _ _ _ _ _ _ _ _ _ _ _ ?x0_x ?x1_x ?y0_x ?y1_x ?n0_x ?n1_x _ ?hz_x ?hT_x ?hr_x) ?k1_x ?k2_x ?k3_x ?k4_x ?k5_x ?k6_x ?kd_x ?ku_x ?C1_x ?C2_x ?_; walk_at "c useV"; (case hz_x => assumption); (case x0_x => omega); (case x1_x => omega); (case y0_x => omega); (case y1_x => omega); (case n0_x => omega); (case n1_x => omega); (case hr_x => k_all); intro v' c' oc' vs' t' h' tk' hV' F' N' d1' d2' hT'; (try k_sweep); (obtain ⟨ta', hE'⟩ := hV'; subst hE'); (try dsimp only)))
  k_with "x c retP" => ((case F_x => k_asm); (case N_x => k_asm); (case hm_x => k_mem); (case hP1_x => k_mem); (case hP2_x => k_mem); (case hc1_x => k_mem); (case hc2_x => k_mem); (case d1_x => assumption); (case v1_x => assumption); (case d2_x => assumption); (case v2_x => assumption); (case hs_x => walk_at "c sub"); (case hTA_x => assumption); (case k1_x => exact fun p hp => List.mem_append_right _ hp); (case hTB_x => assumption); (case k2_x => walk_at "c sub"); (case hl_x => walk_at "c lt"))
  k_with "x call ref" => (k_here; k_dflt (refine' ConD.use (d2i_1r _ _ _ _ _ _ _ _ _ ?x0_x ?x1_x ?n0_x ?n1_x ?hT_x ?hr_x) ?k1_x ?k2_x ?k3_x ?k4_x ?k5_x ?k6_x ?kd_x ?ku_x ?C1_x ?C2_x ?_; walk_at "c useV"; (case x0_x => omega); (case x1_x => omega); (case n0_x => omega); (case n1_x => omega); (case hr_x => k_all); intro v' c' oc' vs' t' h' tk' hV' F' N' d1' d2' hT'; (try k_sweep); (obtain ⟨ta', hE'⟩ := hV'; subst hE'); (try dsimp only)))
  k_with "x call ref" => (k_here; k_dflt (refine' ConD.use (d2i_0r _ _ _ _ _ _ _ ?n0_x ?n1_x ?hT_x ?hr_x) ?k1_x ?k2_x ?k3_x ?k4_x ?k5_x ?k6_x ?kd_x ?ku_x ?C1_x ?C2_x ?_; walk_at "c useV"; (case n0_x => omega); (case n1_x => omega); (case hr_x => k_all); intro v' c' oc' vs' t' h' tk' hV' F' N' d1' d2' hT'; (try k_sweep); (obtain ⟨ta', hE'⟩ := hV'; subst hE'); (try dsimp only)))
  k_with "x call ref" => (k_here; k_dflt (refine' ConD.use (i2d_1 _ _ _ _ _ _ _ ?x0_x ?x1_x ?n0_x ?n1_x ?z0_x ?hq_x ?hT_x ?hr_x) ?k1_x ?k2_x ?k3_x ?k4_x ?k5_x ?k6_x ?kd_x ?ku_x ?C1_x ?C2_x ?_; (case hT_x => assumption); walk_at "c useD"; (case hq_x => assumption); (case x0_x => omega); (case x1_x => omega); (case n0_x => omega); (case n1_x => omega); (case z0_x => omega); (case hr_x => assumption); intro D' o' c' oc' vs' t' h' tk' hO' F' N' d1' d2' hT' l1; (try k_sweep); (obtain ⟨ta', hE'⟩ := hO'; subst hE'); (have h51' := Mine.TabSt.belowR (P := 51) (l := 65) (c := 4) (by assumption) l1); (have hne' := Mine.TabOut.ne (P' := 51) (l' := 65) (k := 4) hT' (by assumption) (by assumption)); (try dsimp only)))
  k_with "x call ref" => (k_here; k_dflt (refine' ConD.use (i2d_0 _ _ _ _ _ _ ?n0_x ?n1_x ?hq_x ?z0_x ?hT_x ?hr_x) ?k1_x ?k2_x ?k3_x ?k4_x ?k5_x ?k6_x ?kd_x ?ku_x ?C1_x ?C2_x ?_; (case hT_x => assumption); walk_at "c useD"; (case hq_x => assumption); (case n0_x => omega); (case n1_x => omega); (case z0_x => omega); (case hr_x => assumption); intro D' o' c' oc' vs' t' h' tk' hO' F' N' d1' d2' hT' l1; (try k_sweep); subst hO'; (have h51' := Mine.TabSt.belowR (P := 51) (l := 65) (c := 4) (by assumption) l1); (have hne' := Mine.TabOut.ne (P' := 51) (l' := 65) (k := 4) hT' (by assumption) (by assumption)); (try dsimp only)))
  k_with "x call ref" => (k_here; k_dflt (refine' ConD.use (pos_c _ _ _ _ _ _ _ _ ?hc_x ?x0_x ?x1_x ?b0_x ?b1_x ?hTA_x ?hTB_x ?hA_x ?hB_x ?hB'_x) ?k1_x ?k2_x ?k3_x ?k4_x ?k5_x ?k6_x ?kd_x ?ku_x ?C1_x ?C2_x ?_; walk_at "c useD"; (case hc_x => assumption); (case hTA_x => assumption); (case hTB_x => assumption); (case hA_x => assumption); (case hB_x => assumption); (case hB'_x => assumption); (case x0_x => omega); (case x1_x => omega); (case b0_x => omega); (case b1_x => omega); intro D' ta' tb' c1' o1' vs1' t1' c2' o2' vs2' t2' h' tk' F' N' d1' v1' d2' v2' hTA' hTB' l1; (try k_sweep); (try dsimp only)))
  k_with "x c retP'" => ((case F_x => k_asm); (case N_x => k_asm); (case hm_x => k_mem); (case hP1_x => k_mem); (case hP2_x => k_mem); (case hc1_x => k_mem); (case hc2_x => k_mem); (case d1_x => assumption); (case v1_x => assumption); (case d2_x => assumption); (case v2_x => assumption); (case hs_x => walk_at "c sub"); (case hTA_x => assumption); (case k1_x => exact fun p hp => hp); (case hTB_x => assumption); (case k2_x => exact fun p hp => hp); (case hl_x => walk_at "c lt"))
  k_with "x call ref" => (k_here; k_dflt (refine' ConD.use (idiv_nn _ _ _ _ _ _ _ _ ?hc_x ?x0_x ?x1_x ?b0_x ?b1_x ?hTA_x ?hTB_x ?hA_x ?hB_x ?hB'_x) ?k1_x ?k2_x ?k3_x ?k4_x ?k5_x ?k6_x ?kd_x ?ku_x ?C1_x ?C2_x ?_; walk_at "c useD"; (case hc_x => assumption); (case hTA_x => assumption); (case hTB_x => assumption); (case hA_x => assumption); (case hB_x => assumption); (case hB'_x => assumption); (case x0_x => omega); (case x1_x => omega); (case b0_x => omega); (case b1_x => omega); intro D' ta' tb' c1' o1' vs1' t1' c2' o2' vs2' t2' h' tk' F' N' d1' v1' d2' v2' hTA' hTB' l1; (try k_sweep); (try dsimp only)))
  trivial
set_option maxRecDepth 100000 in
set_option maxHeartbeats 8000000 in
theorem idiv_neg (w : World) (tabsA tabsB rest : List (Addr × Obj)) (x b : Int) (t u : Tok) (hc : chk b (Builtin.bitNot x) = true) (y0 : 0 ≤ Builtin.bitNot x) (y1 : Builtin.bitNot x ≤ 1000) (x1 : x < 0) (b0 : 1 ≤ b) (b1 : b ≤ 1000)
    (hTA : TabSt 44 50 4 q49 tabsA) (hTB : TabSt 51 65 4 q56 tabsB) (hA : ∀ p ∈ tabsB ++ rest, p.1 ≠ 44) (hB : ∀ p ∈ rest, p.1 ≠ 51) (hB' : ∀ p ∈ tabsA, p.1 ≠ 51) :
    ConD 5 w 70 [.int x t, .int b u] (tabsA ++ (tabsB ++ rest)) (fun h₀ L m s Q => RetP tabsA tabsB h₀ L m rest s Q (Builtin.bitNot ((Builtin.bitNot x).fdiv b)) (b + Builtin.bitNot ((Builtin.bitNot x).fmod b))) := by
  unfold ConD; k_fill
  intro loose mean mg mb dp un gd cn cs a ccd cl outer A₀ base h₀ L m s Q E B F X N T hk hd hu C1 C2 hret
  refine wpAny_call ?_
  k_dflt walk_at "c enter"
  w_top off
  k_steps
  · exfalso; omega
  · refine' retP hret ?F_x ?N_x ?hm_x rfl rfl ?hP1_x ?hc1_x ?hP2_x ?hc2_x ?d1_x ?v1_x ?d2_x ?v2_x ?hs_x ?hTA_x ?k1_x ?hTB_x ?k2_x ?hl_x; walk_at "c retP'"

/-- whole multiples of b, by b -/
theorem idiv_mul (w : World) (tabsA tabsB rest : List (Addr × Obj)) (x b k : Int) (t u : Tok) (hx : x = k * b) (k0 : -3 ≤ k) (k1 : k ≤ 3) (b0 : 1 ≤ b) (b1 : b ≤ 36)
    (hTA : TabSt 44 50 4 q49 tabsA) (hTB : TabSt 51 65 4 q56 tabsB) (hA : ∀ p ∈ tabsB ++ rest, p.1 ≠ 44) (hB : ∀ p ∈ rest, p.1 ≠ 51) (hB' : ∀ p ∈ tabsA, p.1 ≠ 51) :
    ConD 5 w 70 [.int x t, .int b u] (tabsA ++ (tabsB ++ rest)) (fun h₀ L m s Q => RetP tabsA tabsB h₀ L m rest s Q k 0) := by
  subst hx
  by_cases hk : 0 ≤ k
  · have e0 : 0 ≤ k * b := Int.mul_nonneg hk (by omega)
    have e1 : k * b ≤ 3 * 36 := Int.mul_le_mul k1 b1 (by omega) (by omega)
    have := idiv_nn w tabsA tabsB rest (k * b) b t u (chk_mul b0 b1 hk k1) e0 (by omega) b0 (by omega) hTA hTB hA hB hB'
    rw [Int.mul_fdiv_cancel k (by omega), Int.mul_fmod_left] at this
    exact this.more (by decide)
  · have hn : Builtin.bitNot (k * b) = (-k) * b - 1 := by
      show -(k * b) - 1 = _
      rw [Int.neg_mul]
    have e0 : 1 * 1 ≤ (-k) * b := Int.mul_le_mul (by omega) b0 (by omega) (by omega)
    have e1 : (-k) * b ≤ 3 * 36 := Int.mul_le_mul (by omega) b1 (by omega) (by omega)
    have e2 : k * b = -((-k) * b) := by rw [Int.neg_mul, Int.neg_neg]
    have hc : chk b (Builtin.bitNot (k * b)) = true := by rw [hn]; exact chk_pred b0 b1 (by omega) (by omega)
    have := idiv_neg w tabsA tabsB rest (k * b) b t u hc (by rw [hn]; omega) (by rw [hn]; omega) (by omega) b0 (by omega) hTA hTB hA hB hB'
    have e3 : (-k) * b - 1 = (b - 1) + (-k - 1) * b := by rw [Int.sub_mul]; omega
    have e4 : ((-k) * b - 1).fdiv b = -k - 1 := by
      rw [Int.fdiv_eq_ediv_of_nonneg _ (by omega), e3, Int.add_mul_ediv_right _ _ (by omega), Int.ediv_eq_zero_of_lt (by omega) (by omega)]
      omega
    have e5 : ((-k) * b - 1).fmod b = b - 1 := by
      rw [Int.fmod_eq_emod_of_nonneg _ (by omega), e3, Int.add_mul_emod_self_right, Int.emod_eq_of_lt (by omega) (by omega)]
    rw [hn, e4, e5] at this
    have e6 : Builtin.bitNot (-k - 1) = k := by show -(-k - 1) - 1 = k; omega
    have e7 : b + Builtin.bitNot (b - 1) = 0 := by show b + (-(b - 1) - 1) = 0; omega
    rw [e6, e7] at this
    exact this
end
end
end
section
section

theorem kw8 : True := by
  k_with_none
  k_with "x c sub" => (intro p hp; repeat (first | exact hp | refine List.mem_cons_of_mem _ ?_))
  k_with "x binaryOp Add ref ref" => (k_here; k_dflt (refine' kde_addT ?k1_x ?k2_x ?k3_x ?k4_x ?k5_x ?k6_x ?k7_x ?k8_x ?_; (case k1_x => k_asm); (case k2_x => k_asm); (case k3_x => kun_tup); (case k4_x => kun_tup); (case k5_x => exact List.cons_ne_nil _ _); (case k6_x => exact List.cons_ne_nil _ _); (case k7_x => exact Nat.le_of_ble_eq_true rfl); (case k8_x => kun_lit); k_whole); intro D' h' F' N' l1; (try k_lt l1); (try k_sweep))
  k_with "x subscriptTail Name Slice ref ref" => (k_here; (with_reducible show wpAny _ _ (subscriptTail _ (PySem.Expr.Slice none _ none _) (Value.ref _) (Value.ref _)) _ _ _); k_dflt (refine' slice5 ?F_x ?N_x ?t_x ?_ ?s_x ?g_x; (case F_x => k_asm); (case N_x => k_asm); (case t_x => kun_tup); (case s_x => with_unfolding_all rfl); (case g_x => intro _; with_unfolding_all rfl); k_whole); intro D' h' F' N' l1; (try k_lt l1); (try k_sweep))
  k_with "x c enter" => (refine' code_def ?k1_x ?k2_x ?k3_x ?k4_x ?k5_x ?kA_x ?kF_x ?kK_x ?k6_x ?k7_x ?k8_x ?k9_x ?kB_x ?_ ?c2_x ?c3_x ?c4_x ?c5_x; (case kA_x => exact rfl); (case kF_x => exact rfl); (case kK_x => first | exact rfl | assumption); (case k1_x => k_asm); (case k2_x => k_asm); (case k3_x => k_asm); (case k4_x => k_asm); (case k5_x => k_asm); (case k6_x => k_is); (case k7_x => k_is); (case k8_x => ktr_room); (case k9_x => exact BindsTo.of_eq rfl); (case c5_x => decide); (case kB_x => exact locs rfl); (case c2_x => exact rfl); (case c3_x => exact rfl); (case c4_x => exact rfl); k_whole; intro g' L' h' FG' F' N' B' X' T'; (try dsimp only); (try k_lift B'); (try k_fold))
  k_with "x c enterC" => (refine' code_defC ?k1_x ?k2_x ?k3_x ?k4_x ?k5_x ?kA_x ?kF_x ?kK_x ?k6_x ?k7_x ?k8_x ?k9_x ?kB_x ?kD_x ?_ ?c2_x ?c3_x ?c4_x; (case kA_x => exact rfl); (case kF_x => exact rfl); (case kK_x => first | exact rfl | assumption); (case k1_x => k_asm); (case k2_x => k_asm); (case k3_x => k_asm); (case k4_x => k_asm); (case k5_x => k_asm); (case k6_x => k_is); (case k7_x => k_is); (case k8_x => ktr_room); (case k9_x => exact BindsTo.of_eq rfl); (case kB_x => exact rfl); (case kD_x => decide +kernel); (case c2_x => exact rfl); (case c3_x => exact rfl); (case c4_x => exact rfl); k_whole; intro g' L' h' tk' cells' FG' F' N' Y' B' X' T' l1; (try k_lt l1); k_cells Y'; (try simp only [List.cons_append, List.nil_append] at N'); (try dsimp only); (try k_lift B'); (try k_fold))
  k_with "x CompEnd" => (k_here; (refine LCg.CompEnd.intro (by assumption) (by assumption) _ (fun _ h => h) (by first | assumption | (simp only [LCg.Off3, and_true]; assumption)) (by lcg_src) ?_))
  k_with "x exec For Tuple Call cons nil" => (k_here; (rename Fr _ _ _ _ => lF'); (rename News _ _ _ _ => lN'); with_unfolding_all ((refine' For_turns lF' ?_); k_whole; (refine MethodCall_ ?_); (refine ld lF' (by rfl) ?_); (refine getMethod_tab (knd := PySem.strKind _ _) (enc := PyData.str) PySem.F.slot_dict_items PySem.F.type_dict_items (by k_tabat) ?_); (refine callWith_method0 ?_); (refine call_items_tab (knd := PySem.strKind _ _) (enc := PyData.str) (by k_tabat) lF' lN' ?_); intro h' o' hv' F' N'; (replace N' := kti_tail N'); (refine kti_items (knd := PySem.strKind _ _) (enc := PyData.str) (xs := []) (by rfl) F' N' hv' (by k_tabat) (by k_mem) (fun _ _ h => Value.isStrOf_shape h) (by rfl) ?_)); clear lF' lN'; intro i' l1; (try k_lt l1))
  k_with "x c lt" => first | assumption | (refine ktn_ltOf ?_; first | assumption | (apply And.right; assumption) | ((iterate 2 apply And.right); assumption) | ((iterate 3 apply And.right); assumption) | ((iterate 4 apply And.right); assumption) | ((iterate 5 apply And.right); assumption) | ((iterate 6 apply And.right); assumption) | ((iterate 7 apply And.right); assumption) | ((iterate 8 apply And.right); assumption) | ((iterate 9 apply And.right); assumption) | ((iterate 10 apply And.right); assumption) | ((iterate 11 apply And.right); assumption) | ((iterate 12 apply And.right); assumption) | ((iterate 13 apply And.right); assumption) | ((iterate 14 apply And.right); assumption))
  k_with "x c use" => ((case k1_x => k_asm); (case k2_x => k_asm); (case k3_x => k_asm); (case k4_x => k_asm); (case k5_x => k_asm); (case k6_x => first | exact rfl | assumption); (case kd_x => ktr_room); (case ku_x => ktr_units))
  k_with "x call ref" => (k_here; k_dflt (refine' Con.use (turned_c _ _ _ _ _ _ _ _ _ _ _ ?hx_x) ?k1_x ?k2_x ?k3_x ?k4_x ?k5_x ?k6_x ?kd_x ?ku_x ?_; walk_at "c use"; (case hx_x => k_mem); k_whole; intro D' t0' t1' t2' t3' h' tk' F' N' l1; (try k_lt l1); (try k_sweep); (try dsimp only)))
  k_with "x call ref" => (k_here; k_dflt (refine' Con.use (sum_c _ _ _ _ _ _ _ _ _ _ _ _ _ _ _ _ _ _ _ _ ?hx_x ?hy_x) ?k1_x ?k2_x ?k3_x ?k4_x ?k5_x ?k6_x ?kd_x ?ku_x ?_; walk_at "c use"; (case hx_x => k_mem); (case hy_x => k_mem); k_whole; intro D' t0' t1' t2' t3' h' tk' F' N' l1; (try k_lt l1); (try k_sweep); (try dsimp only)))
  k_with "x call ref" => (k_here; k_dflt (refine' Con.use (scaled_c _ _ _ _ _ _ _ _ _ _ _ _ _ ?hx_x ?b0_x ?b1_x) ?k1_x ?k2_x ?k3_x ?k4_x ?k5_x ?k6_x ?kd_x ?ku_x ?_; walk_at "c use"; (case hx_x => k_mem); (case b0_x => omega); (case b1_x => omega); k_whole; intro D' t0' t1' t2' t3' h' tk' F' N' l1; (try k_lt l1); (try k_sweep); (try dsimp only)))
  k_with "x c m" => first | exact if_pos rfl | (refine (if_neg (by decide)).trans ?_; assumption)
  k_with "x c all" => (repeat (first | exact List.forall_mem_nil _ | refine List.forall_mem_cons.mpr ⟨by k_mem, ?_⟩))
  k_with "x eval Name" => (k_here; k_dflt (refine' nameX_L ?F_x ?v_x ?_ ?a_x ?b_x; (case F_x => k_asm); (case a_x => rfl); (case b_x => rfl); (case v_x => assumption); k_whole))
  k_with "x call ref" => (k_here; k_dflt (refine' Con.use (times_c _ _ _ _ _ _ _ _ _ _ _ _ _ _ _ _ _ _ _ _ ?hx_x ?hy_x ?a0_x ?a1_x ?b0_x ?b1_x ?c0_x ?c1_x ?d0_x ?d1_x) ?k1_x ?k2_x ?k3_x ?k4_x ?k5_x ?k6_x ?kd_x ?ku_x ?_; walk_at "c use"; (case hx_x => k_mem); (case hy_x => k_mem); (case a0_x => omega); (case a1_x => omega); (case b0_x => omega); (case b1_x => omega); (case c0_x => omega); (case c1_x => omega); (case d0_x => omega); (case d1_x => omega); k_whole; intro D' t0' t1' t2' t3' h' tk' F' N' l1; (try k_lt l1); (try k_sweep); (try dsimp only)))
  k_with "x call ref" => (k_here; k_dflt (refine' Con.use (squares_c _ _ _ _ _ _ _ _ _ _ _ ?hx_x ?a0_x ?a1_x ?b0_x ?b1_x ?c0_x ?c1_x ?d0_x ?d1_x) ?k1_x ?k2_x ?k3_x ?k4_x ?k5_x ?k6_x ?kd_x ?ku_x ?_; walk_at "c use"; (case hx_x => k_mem); (case a0_x => omega); (case a1_x => omega); (case b0_x => omega); (case b1_x => omega); (case c0_x => omega); (case c1_x => omega); (case d0_x => omega); (case d1_x => omega); k_whole; intro t0' h' tk' F' N'; (try k_sweep); (try dsimp only)))
  k_with "x exec Assign cons ListComp" => (k_here; (with_reducible show wpAny _ _ (exec (Stmt.Assign _ (PySem.Expr.ListComp _ [⟨PySem.Expr.Tuple _ _ _, _, _, _⟩] _ _) _) _) _ _ _); k_dflt (refine PyProof.Rows.LCp.Assign_ListComp_P (F₀ := by k_asm) (by rfl) (by with_unfolding_all rfl) (by with_unfolding_all rfl) (by decide) (by rfl) (by decide) (by rfl) (by rfl) (by decide) (by rfl) (by rfl) ?_))
  k_with "x eval ListComp" => (k_here; k_dflt (refine ListComp_Tup (_F₀ := by k_asm) (by with_unfolding_all rfl) (by decide) (by rfl) (by decide) (by rfl) ?_))
  k_with "x exec Assign cons ListComp" => (k_here; (with_reducible show wpAny _ _ (exec (Stmt.Assign _ (PySem.Expr.ListComp _ [⟨PySem.Expr.Name _ _, _, _, _⟩] _ _) _) _) _ _ _); k_dflt (refine Assign_ListComp_Tup (_F₀ := by k_asm) (by rfl) (by with_unfolding_all rfl) (by with_unfolding_all rfl) (by decide) (by rfl) (by decide) (by rfl) (by rfl) (by rfl) ?_))
  k_with "x c drop" => repeat (first | exact Drop1.here | apply Drop1.next)
  k_with "x c off" => ((try simp only [List.cons_append, List.nil_append]); (repeat (first | exact List.forall_mem_nil _ | (refine' List.forall_mem_cons.mpr ⟨?ca_x, ?_⟩; (case ca_x => k_ne)))))
  k_with "x c useI" => ((case k1_x => k_asm); (case k2_x => k_asm); (case k3_x => k_asm); (case k5_x => k_asm); (case k6_x => first | exact rfl | assumption); (case kd_x => ktr_room); (case ku_x => ktr_units); (case C1_x => kn_code); (case C2_x => kn_code))
  k_with "x call ref" => (k_here; k_dflt (refine' ConD.use (idiv_mul _ [(44, tabObj #[])] [(51, tabObj #[])] _ _ _ _ _ _ ?hx_x ?kk0_x ?kk1_x ?bb0_x ?bb1_x TabSt.fresh TabSt.fresh ?hA_x ?hB_x ?hB'_x) ?k1_x ?k2_x ?k3_x ?k4_x ?k5_x ?k6_x ?kd_x ?ku_x ?C1_x ?C2_x ?_; walk_at "c useI"; (case k4_x => (refine' drop2 ?dN_x ?dd1_x ?dd2_x; (case dN_x => k_asm); (case dd1_x => walk_at "c drop"); (case dd2_x => walk_at "c drop"))); (case hx_x => assumption); (case kk0_x => omega); (case kk1_x => omega); (case bb0_x => exact sq_pos (by assumption)); (case bb1_x => assumption); (case hA_x => walk_at "c off"); (case hB_x => walk_at "c off"); (case hB'_x => walk_at "c off"); intro D' ta' tb' c1' o1' vs1' t1' c2' o2' vs2' t2' h' tk' F' N' d1' v1' d2' v2' hTA' hTB' l1; (have l2 := tabOut_first hTA' rfl); (have l3 := tabOut_first hTB' rfl); clear hTA' hTB'; (try k_lt l1); (try k_lt l2); (try k_lt l3); (try k_sweep); (try dsimp only)))
  k_with "x call ref" => (k_here; k_dflt (refine' ConD.use (idiv_mul _ [(_, _), (44, tabUsed 50 4 _)] [(_, _), (51, tabUsed 65 4 _)] _ _ _ _ _ _ ?hx_x ?kk0_x ?kk1_x ?bb0_x ?bb1_x (TabSt.used ?ud1_x ?uv1_x) (TabSt.used ?ud2_x ?uv2_x) ?hA_x ?hB_x ?hB'_x) ?k1_x ?k2_x ?k3_x ?k4_x ?k5_x ?k6_x ?kd_x ?ku_x ?C1_x ?C2_x ?_; walk_at "c useI"; (case k4_x => (refine' drop4 ?dN_x ?dd1_x ?dd2_x ?dd3_x ?dd4_x; (case dN_x => k_asm); (case dd1_x => walk_at "c drop"); (case dd2_x => walk_at "c drop"); (case dd3_x => walk_at "c drop"); (case dd4_x => walk_at "c drop"))); (case ud1_x => assumption); (case uv1_x => assumption); (case ud2_x => assumption); (case uv2_x => assumption); (case hx_x => assumption); (case kk0_x => omega); (case kk1_x => omega); (case bb0_x => exact sq_pos (by assumption)); (case bb1_x => assumption); (case hA_x => walk_at "c off"); (case hB_x => walk_at "c off"); (case hB'_x => walk_at "c off"); intro D' ta' tb' c1' o1' vs1' t1' c2' o2' vs2' t2' h' tk' F' N' d1' v1' d2' v2' hTA' hTB' l1; (obtain ⟨e1', e2'⟩ := tabOut_again hTA' rfl); (obtain ⟨e3', e4'⟩ := tabOut_again hTB' rfl); subst e1' e2' e3' e4'; clear hTA' hTB'; (try k_lt l1); (try k_sweep); (try dsimp only)))
  k_with "x c fin" => (repeat (first | exact List.forall_mem_nil _ | refine List.forall_mem_cons.mpr ⟨by first | exact List.Mem.head _ | exact List.Mem.tail _ (by assumption) | exact List.Mem.tail _ (TL.sub (by assumption) _ (by k_mem)), ?_⟩))
  k_with "x call ref" => (k_here; k_dflt (refine' ConD.use (idiv_mul _ _ _ _ _ _ _ _ _ ?hx_x ?kk0_x ?kk1_x ?bb0_x ?bb1_x ?hTA_x ?hTB_x ?hA_x ?hB_x ?hB'_x) ?k1_x ?k2_x ?k3_x ?k4_x ?k5_x ?k6_x ?kd_x ?ku_x ?C1_x ?C2_x ?_; (case hTA_x => assumption); (case hTB_x => assumption); (case k4_x => (refine' regroup4 ?rN_x ?rE_x; (case rN_x => k_asm); (case rE_x => assumption))); walk_at "c useI"; (case hx_x => assumption); (case kk0_x => assumption); (case kk1_x => assumption); (case bb0_x => assumption); (case bb1_x => assumption); (case hA_x => assumption); (case hB_x => assumption); (case hB'_x => assumption); intro D' ta' tb' c1' o1' vs1' t1' c2' o2' vs2' t2' h' tk' F' N' d1' v1' d2' v2' hTA' hTB' l1; (try k_sweep); (try dsimp only)))
  trivial
set_option maxRecDepth 100000 in
set_option maxHeartbeats 8000000 in
theorem turn (w : World) (loose : List Str) (mean : ExcName → Option Value) (mg mb : Str → Option Value) (dp un : Nat) (gd : Option (List Code)) (outer : List Env) (A₀ : Around) (base₀ h₀ : Heap) (L fa : Addr) (cd : Value) (m : Str → Option Value) (s : Shared) (a2 ax : Addr) (its : Array Value) (o2 : Obj) (y0 y1 y2 y3 : Int) (u0 u1 u2 u3 : Tok)
    (B : Below A₀ base₀ outer h₀) (X : (hd.heap_39 w.params).In h₀) (T : Top topProg loose mean mg mb h₀) (hdp : dp + 200 < recursionLimit) (hu : un + 4000 < cLine) (C1 : CodeHd base₀ 48 44) (C2 : CodeHd base₀ 55 51)
    (c2 : o2.data = .cell (some (.ref a2))) (q0 : -3 ≤ y0) (q1 : y0 ≤ 3) (q2 : -3 ≤ y1) (q3 : y1 ≤ 3) (q4 : -3 ≤ y2) (q5 : y2 ≤ 3) (q6 : -3 ≤ y3) (q7 : y3 ≤ 3) (g0 : 1 ≤ y0 * y0 + y1 * y1 + y2 * y2 + y3 * y3) (g1 : y0 * y0 + y1 * y1 + y2 * y2 + y3 * y3 ≤ 36)
    (Fin : List Value → List (Addr × Obj) → Prop) (k i : Nat) (ys : List Value) (nw base : List (Addr × Obj)) (hTL : TL nw base) (hy : (a2, T4 y0 y1 y2 y3 u0 u1 u2 u3) ∈ base) (ho : (L + 2, o2) ∈ base) (hax : ∃ o, (ax, o) ∈ base ∧ o.cls = .type "tuple" ∧ ∃ n, o.data = .seq its n)
    (n x : Int) (v : Tok) (hi : its[i]? = some (.int n v)) (hx : n = x * (y0 * y0 + y1 * y1 + y2 * y2 + y3 * y3)) (p0 : -3 ≤ x) (p1 : x ≤ 3)
    (next : ∀ (D' : Addr) (t u : Tok) (nw' : List (Addr × Obj)), TL nw' ((D', T2 x 0 t u) :: base) →
      LCg.CompRest PySem.Challenge.rw_hi0003_01.row.prog w (ktrTop dp un gd (Str.ofString "law") lawSc L fa cd (cellsFrom (L + 1) lawSc.names []) outer) h₀ L m (envOfC (Str.ofString "law") lawSc L fa cd) lawElt.1 (Str.ofString "number") lawElt.2 [(Str.ofString "other", L + 2)] s (TupIn ax its) (fun i v => its[i]? = some v) Fin k (i + 1) (ys ++ [.ref D']) nw') :
    LCg.CompRest PySem.Challenge.rw_hi0003_01.row.prog w (ktrTop dp un gd (Str.ofString "law") lawSc L fa cd (cellsFrom (L + 1) lawSc.names []) outer) h₀ L m (envOfC (Str.ofString "law") lawSc L fa cd) lawElt.1 (Str.ofString "number") lawElt.2 [(Str.ofString "other", L + 2)] s (TupIn ax its) (fun i v => its[i]? = some v) Fin (k + 1) i ys nw := by
  revert X; k_fill; intro X
  have hy' := hTL.sub _ hy
  have ho' := hTL.sub _ ho
  obtain ⟨tabsA, tabsB, hnw, hTA, hTB, hA, hB, hB'⟩ := hTL.parts
  refine LCg.CompRest.succ fun v' I oI C oC D m₂ h tk E' hv hC hx' F N off ne => ?_
  have hv' : v' = .int n v := by rw [hi] at hv; exact (Option.some.inj hv).symm
  subst hv'
  have hA2 := offA (oI := oI) (oC := oC) (oD := LCg.lst ys) (hnw ▸ off) (List.mem_append_left _ hTA.has.choose_spec) hA
  have hB2 := offA (tabsB := []) (oI := oI) (oC := oC) (oD := LCg.lst ys) (hnw ▸ off) (List.mem_append_right _ (List.mem_append_left _ hTB.has.choose_spec)) hB
  rw [List.nil_append] at hB2
  have hk : lawElt = lawElt := rfl
  conv at hk => rhs; whnf
  have hsc : lawSc = lawSc := rfl
  conv at hsc => rhs; whnf
  rw [hk, hsc]
  rw [hk, hsc] at next
  clear hk hsc
  have hS : ∀ nw, (∀ p ∈ base, p ∈ nw) → TupIn ax its nw := fun nw k => by obtain ⟨o, h1, h2⟩ := hax; exact ⟨o, k _ h1, h2⟩
  clear hTL hv hax hi ne
  w_top off
  k_steps
  refine turn_end hTA hTB hA hB (hnw ▸ off) (by k_asm) (by k_asm) (by assumption) (by assumption) (by assumption) (by assumption) (by assumption) (by assumption) (by assumption) hS fun nw hTL' => ?_
  exact next _ _ _ nw hTL'
end
theorem kw9 : True := by
  k_with_none
  k_with "x c sub" => (intro p hp; repeat (first | exact hp | refine List.mem_cons_of_mem _ ?_))
  k_with "x binaryOp Add ref ref" => (k_here; k_dflt (refine' kde_addT ?k1_x ?k2_x ?k3_x ?k4_x ?k5_x ?k6_x ?k7_x ?k8_x ?_; (case k1_x => k_asm); (case k2_x => k_asm); (case k3_x => kun_tup); (case k4_x => kun_tup); (case k5_x => exact List.cons_ne_nil _ _); (case k6_x => exact List.cons_ne_nil _ _); (case k7_x => exact Nat.le_of_ble_eq_true rfl); (case k8_x => kun_lit); k_whole); intro D' h' F' N' l1; (try k_lt l1); (try k_sweep))
  k_with "x subscriptTail Name Slice ref ref" => (k_here; (with_reducible show wpAny _ _ (subscriptTail _ (PySem.Expr.Slice none _ none _) (Value.ref _) (Value.ref _)) _ _ _); k_dflt (refine' slice5 ?F_x ?N_x ?t_x ?_ ?s_x ?g_x; (case F_x => k_asm); (case N_x => k_asm); (case t_x => kun_tup); (case s_x => with_unfolding_all rfl); (case g_x => intro _; with_unfolding_all rfl); k_whole); intro D' h' F' N' l1; (try k_lt l1); (try k_sweep))
  k_with "x c enter" => (refine' code_def ?k1_x ?k2_x ?k3_x ?k4_x ?k5_x ?kA_x ?kF_x ?kK_x ?k6_x ?k7_x ?k8_x ?k9_x ?kB_x ?_ ?c2_x ?c3_x ?c4_x ?c5_x; (case kA_x => exact rfl); (case kF_x => exact rfl); (case kK_x => first | exact rfl | assumption); (case k1_x => k_asm); (case k2_x => k_asm); (case k3_x => k_asm); (case k4_x => k_asm); (case k5_x => k_asm); (case k6_x => k_is); (case k7_x => k_is); (case k8_x => ktr_room); (case k9_x => exact BindsTo.of_eq rfl); (case c5_x => decide); (case kB_x => exact locs rfl); (case c2_x => exact rfl); (case c3_x => exact rfl); (case c4_x => exact rfl); k_whole; intro g' L' h' FG' F' N' B' X' T'; (try dsimp only); (try k_lift B'); (try k_fold))
  k_with "x c enterC" => (refine' code_defC ?k1_x ?k2_x ?k3_x ?k4_x ?k5_x ?kA_x ?kF_x ?kK_x ?k6_x ?k7_x ?k8_x ?k9_x ?kB_x ?kD_x ?_ ?c2_x ?c3_x ?c4_x; (case kA_x => exact rfl); (case kF_x => exact rfl); (case kK_x => first | exact rfl | assumption); (case k1_x => k_asm); (case k2_x => k_asm); (case k3_x => k_asm); (case k4_x => k_asm); (case k5_x => k_asm); (case k6_x => k_is); (case k7_x => k_is); (case k8_x => ktr_room); (case k9_x => exact BindsTo.of_eq rfl); (case kB_x => exact rfl); (case kD_x => decide +kernel); (case c2_x => exact rfl); (case c3_x => exact rfl); (case c4_x => exact rfl); k_whole; intro g' L' h' tk' cells' FG' F' N' Y' B' X' T' l1; (try k_lt l1); k_cells Y'; (try simp only [List.cons_append, List.nil_append] at N'); (try dsimp only); (try k_lift B'); (try k_fold))
  k_with "x CompEnd" => (k_here; (refine LCg.CompEnd.intro (by assumption) (by assumption) _ (fun _ h => h) (by first | assumption | (simp only [LCg.Off3, and_true]; assumption)) (by lcg_src) ?_))
  k_with "x exec For Tuple Call cons nil" => (k_here; (rename Fr _ _ _ _ => lF'); (rename News _ _ _ _ => lN'); with_unfolding_all ((refine' For_turns lF' ?_); k_whole; (refine MethodCall_ ?_); (refine ld lF' (by rfl) ?_); (refine getMethod_tab (knd := PySem.strKind _ _) (enc := PyData.str) PySem.F.slot_dict_items PySem.F.type_dict_items (by k_tabat) ?_); (refine callWith_method0 ?_); (refine call_items_tab (knd := PySem.strKind _ _) (enc := PyData.str) (by k_tabat) lF' lN' ?_); intro h' o' hv' F' N'; (replace N' := kti_tail N'); (refine kti_items (knd := PySem.strKind _ _) (enc := PyData.str) (xs := []) (by rfl) F' N' hv' (by k_tabat) (by k_mem) (fun _ _ h => Value.isStrOf_shape h) (by rfl) ?_)); clear lF' lN'; intro i' l1; (try k_lt l1))
  k_with "x c lt" => first | assumption | (refine ktn_ltOf ?_; first | assumption | (apply And.right; assumption) | ((iterate 2 apply And.right); assumption) | ((iterate 3 apply And.right); assumption) | ((iterate 4 apply And.right); assumption) | ((iterate 5 apply And.right); assumption) | ((iterate 6 apply And.right); assumption) | ((iterate 7 apply And.right); assumption) | ((iterate 8 apply And.right); assumption) | ((iterate 9 apply And.right); assumption) | ((iterate 10 apply And.right); assumption) | ((iterate 11 apply And.right); assumption) | ((iterate 12 apply And.right); assumption) | ((iterate 13 apply And.right); assumption) | ((iterate 14 apply And.right); assumption))
  k_with "x c use" => ((case k1_x => k_asm); (case k2_x => k_asm); (case k3_x => k_asm); (case k4_x => k_asm); (case k5_x => k_asm); (case k6_x => first | exact rfl | assumption); (case kd_x => ktr_room); (case ku_x => ktr_units))
  k_with "x call ref" => (k_here; k_dflt (refine' Con.use (turned_c _ _ _ _ _ _ _ _ _ _ _ ?hx_x) ?k1_x ?k2_x ?k3_x ?k4_x ?k5_x ?k6_x ?kd_x ?ku_x ?_; walk_at "c use"; (case hx_x => k_mem); k_whole; intro D' t0' t1' t2' t3' h' tk' F' N' l1; (try k_lt l1); (try k_sweep); (try dsimp only)))
  k_with "x call ref" => (k_here; k_dflt (refine' Con.use (sum_c _ _ _ _ _ _ _ _ _ _ _ _ _ _ _ _ _ _ _ _ ?hx_x ?hy_x) ?k1_x ?k2_x ?k3_x ?k4_x ?k5_x ?k6_x ?kd_x ?ku_x ?_; walk_at "c use"; (case hx_x => k_mem); (case hy_x => k_mem); k_whole; intro D' t0' t1' t2' t3' h' tk' F' N' l1; (try k_lt l1); (try k_sweep); (try dsimp only)))
  k_with "x call ref" => (k_here; k_dflt (refine' Con.use (scaled_c _ _ _ _ _ _ _ _ _ _ _ _ _ ?hx_x ?b0_x ?b1_x) ?k1_x ?k2_x ?k3_x ?k4_x ?k5_x ?k6_x ?kd_x ?ku_x ?_; walk_at "c use"; (case hx_x => k_mem); (case b0_x => omega); (case b1_x => omega); k_whole; intro D' t0' t1' t2' t3' h' tk' F' N' l1; (try k_lt l1); (try k_sweep); (try dsimp only)))
  k_with "x c m" => first | exact if_pos rfl | (refine (if_neg (by decide)).trans ?_; assumption)
  k_with "x c all" => (repeat (first | exact List.forall_mem_nil _ | refine List.forall_mem_cons.mpr ⟨by k_mem, ?_⟩))
  k_with "x eval Name" => (k_here; k_dflt (refine' nameX_L ?F_x ?v_x ?_ ?a_x ?b_x; (case F_x => k_asm); (case a_x => rfl); (case b_x => rfl); (case v_x => assumption); k_whole))
  k_with "x call ref" => (k_here; k_dflt (refine' Con.use (times_c _ _ _ _ _ _ _ _ _ _ _ _ _ _ _ _ _ _ _ _ ?hx_x ?hy_x ?a0_x ?a1_x ?b0_x ?b1_x ?c0_x ?c1_x ?d0_x ?d1_x) ?k1_x ?k2_x ?k3_x ?k4_x ?k5_x ?k6_x ?kd_x ?ku_x ?_; walk_at "c use"; (case hx_x => k_mem); (case hy_x => k_mem); (case a0_x => omega); (case a1_x => omega); (case b0_x => omega); (case b1_x => omega); (case c0_x => omega); (case c1_x => omega); (case d0_x => omega); (case d1_x => omega); k_whole; intro D' t0' t1' t2' t3' h' tk' F' N' l1; (try k_lt l1); (try k_sweep); (try dsimp only)))
  k_with "x call ref" => (k_here; k_dflt (refine' Con.use (squares_c _ _ _ _ _ _ _ _ _ _ _ ?hx_x ?a0_x ?a1_x ?b0_x ?b1_x ?c0_x ?c1_x ?d0_x ?d1_x) ?k1_x ?k2_x ?k3_x ?k4_x ?k5_x ?k6_x ?kd_x ?ku_x ?_; walk_at "c use"; (case hx_x => k_mem); (case a0_x => omega); (case a1_x => omega); (case b0_x => omega); (case b1_x => omega); (case c0_x => omega); (case c1_x => omega); (case d0_x => omega); (case d1_x => omega); k_whole; intro t0' h' tk' F' N'; (try k_sweep); (try dsimp only)))
  k_with "x exec Assign cons ListComp" => (k_here; (with_reducible show wpAny _ _ (exec (Stmt.Assign _ (PySem.Expr.ListComp _ [⟨PySem.Expr.Tuple _ _ _, _, _, _⟩] _ _) _) _) _ _ _); k_dflt (refine PyProof.Rows.LCp.Assign_ListComp_P (F₀ := by k_asm) (by rfl) (by with_unfolding_all rfl) (by with_unfolding_all rfl) (by decide) (by rfl) (by decide) (by rfl) (by rfl) (by decide) (by rfl) (by rfl) ?_))
  k_with "x eval ListComp" => (k_here; k_dflt (refine ListComp_Tup (_F₀ := by k_asm) (by with_unfolding_all rfl) (by decide) (by rfl) (by decide) (by rfl) ?_))
  k_with "x exec Assign cons ListComp" => (k_here; (with_reducible show wpAny _ _ (exec (Stmt.Assign _ (PySem.Expr.ListComp _ [⟨PySem.Expr.Name _ _, _, _, _⟩] _ _) _) _) _ _ _); k_dflt (refine Assign_ListComp_Tup (_F₀ := by k_asm) (by rfl) (by with_unfolding_all rfl) (by with_unfolding_all rfl) (by decide) (by rfl) (by decide) (by rfl) (by rfl) (by rfl) ?_))
  k_with "x c drop" => repeat (first | exact Drop1.here | apply Drop1.next)
  k_with "x c off" => ((try simp only [List.cons_append, List.nil_append]); (repeat (first | exact List.forall_mem_nil _ | (refine' List.forall_mem_cons.mpr ⟨?ca_x, ?_⟩; (case ca_x => k_ne)))))
  k_with "x c useI" => ((case k1_x => k_asm); (case k2_x => k_asm); (case k3_x => k_asm); (case k5_x => k_asm); (case k6_x => first | exact rfl | assumption); (case kd_x => ktr_room); (case ku_x => ktr_units); (case C1_x => kn_code); (case C2_x => kn_code))
  k_with "x call ref" => (k_here; k_dflt (refine' ConD.use (idiv_mul _ [(44, tabObj #[])] [(51, tabObj #[])] _ _ _ _ _ _ ?hx_x ?kk0_x ?kk1_x ?bb0_x ?bb1_x TabSt.fresh TabSt.fresh ?hA_x ?hB_x ?hB'_x) ?k1_x ?k2_x ?k3_x ?k4_x ?k5_x ?k6_x ?kd_x ?ku_x ?C1_x ?C2_x ?_; walk_at "c useI"; (case k4_x => (refine' drop2 ?dN_x ?dd1_x ?dd2_x; (case dN_x => k_asm); (case dd1_x => walk_at "c drop"); (case dd2_x => walk_at "c drop"))); (case hx_x => assumption); (case kk0_x => omega); (case kk1_x => omega); (case bb0_x => exact sq_pos (by assumption)); (case bb1_x => assumption); (case hA_x => walk_at "c off"); (case hB_x => walk_at "c off"); (case hB'_x => walk_at "c off"); intro D' ta' tb' c1' o1' vs1' t1' c2' o2' vs2' t2' h' tk' F' N' d1' v1' d2' v2' hTA' hTB' l1; (have l2 := tabOut_first hTA' rfl); (have l3 := tabOut_first hTB' rfl); clear hTA' hTB'; (try k_lt l1); (try k_lt l2); (try k_lt l3); (try k_sweep); (try dsimp only)))
  k_with "x call ref" => (k_here; k_dflt (refine' ConD.use (idiv_mul _ [(_, _), (44, tabUsed 50 4 _)] [(_, _), (51, tabUsed 65 4 _)] _ _ _ _ _ _ ?hx_x ?kk0_x ?kk1_x ?bb0_x ?bb1_x (TabSt.used ?ud1_x ?uv1_x) (TabSt.used ?ud2_x ?uv2_x) ?hA_x ?hB_x ?hB'_x) ?k1_x ?k2_x ?k3_x ?k4_x ?k5_x ?k6_x ?kd_x ?ku_x ?C1_x ?C2_x ?_; walk_at "c useI"; (case k4_x => (refine' drop4 ?dN_x ?dd1_x ?dd2_x ?dd3_x ?dd4_x; (case dN_x => k_asm); (case dd1_x => walk_at "c drop"); (case dd2_x => walk_at "c drop"); (case dd3_x => walk_at "c drop"); (case dd4_x => walk_at "c drop"))); (case ud1_x => assumption); (case uv1_x => assumption); (case ud2_x => assumption); (case uv2_x => assumption); (case hx_x => assumption); (case kk0_x => omega); (case kk1_x => omega); (case bb0_x => exact sq_pos (by assumption)); (case bb1_x => assumption); (case hA_x => walk_at "c off"); (case hB_x => walk_at "c off"); (case hB'_x => walk_at "c off"); intro D' ta' tb' c1' o1' vs1' t1' c2' o2' vs2' t2' h' tk' F' N' d1' v1' d2' v2' hTA' hTB' l1; (obtain ⟨e1', e2'⟩ := tabOut_again hTA' rfl); (obtain ⟨e3', e4'⟩ := tabOut_again hTB' rfl); subst e1' e2' e3' e4'; clear hTA' hTB'; (try k_lt l1); (try k_sweep); (try dsimp only)))
  k_with "x c fin" => (repeat (first | exact List.forall_mem_nil _ | refine List.forall_mem_cons.mpr ⟨by first | exact List.Mem.head _ | exact List.Mem.tail _ (by assumption) | exact List.Mem.tail _ (TL.sub (by assumption) _ (by k_mem)), ?_⟩))
  trivial
set_option maxRecDepth 100000 in
set_option maxHeartbeats 8000000 in
theorem st10a (w : World) (L ab a1 a2 a3 : Addr) (o1 o2 o3 : Obj) (x0 x1 x2 x3 y0 y1 y2 y3 z0 z1 z2 z3 : Int) (t0 t1 t2 t3 u0 u1 u2 u3 v0 v1 v2 v3 : Tok) (b0 b1 b2 b3 : Int) (r0 r1 r2 r3 : Tok)
    (c1 : o1.data = .cell (some (.ref a1))) (c2 : o2.data = .cell (some (.ref a2)))
    (p0 : -3 ≤ x0) (p1 : x0 ≤ 3) (p2 : -3 ≤ x1) (p3 : x1 ≤ 3) (p4 : -3 ≤ x2) (p5 : x2 ≤ 3) (p6 : -3 ≤ x3) (p7 : x3 ≤ 3) (q0 : -3 ≤ y0) (q1 : y0 ≤ 3) (q2 : -3 ≤ y1) (q3 : y1 ≤ 3) (q4 : -3 ≤ y2) (q5 : y2 ≤ 3) (q6 : -3 ≤ y3) (q7 : y3 ≤ 3) (h0 : -36 ≤ b0) (h1 : b0 ≤ 36) (h2 : -36 ≤ b1) (h3 : b1 ≤ 36) (h4 : -36 ≤ b2) (h5 : b2 ≤ 36) (h6 : -36 ≤ b3) (h7 : b3 ≤ 36)
    (hL : @LT.lt Nat _ 51 L) (ha1 : @LT.lt Nat _ (L + 3) a1) (ha2 : @LT.lt Nat _ (L + 3) a2) (ha3 : @LT.lt Nat _ (L + 3) a3) (hab : @LT.lt Nat _ (L + 3) ab)
    (g0 : 1 ≤ sq4 y0 y1 y2 y3) (g1 : sq4 y0 y1 y2 y3 ≤ 36) (f0 : qm0 b0 b1 b2 b3 y0 (0 - y1) (0 - y2) (0 - y3) = x0 * sq4 y0 y1 y2 y3) (f1 : qm1 b0 b1 b2 b3 y0 (0 - y1) (0 - y2) (0 - y3) = x1 * sq4 y0 y1 y2 y3) (f2 : qm2 b0 b1 b2 b3 y0 (0 - y1) (0 - y2) (0 - y3) = x2 * sq4 y0 y1 y2 y3) (f3 : qm3 b0 b1 b2 b3 y0 (0 - y1) (0 - y2) (0 - y3) = x3 * sq4 y0 y1 y2 y3) :
    LSt w (lawIn 0) L [(ab, T4 b0 b1 b2 b3 r0 r1 r2 r3), (a1, T4 x0 x1 x2 x3 t0 t1 t2 t3), (a2, T4 y0 y1 y2 y3 u0 u1 u2 u3), (a3, T4 z0 z1 z2 z3 v0 v1 v2 v3), (L + 3, o3), (L + 2, o2), (L + 1, o1), (51, tabObj #[]), (44, tabObj #[])]
      (fun m => m (Str.ofString "third") = some (.ref a3) ∧ m (Str.ofString "both") = some (.ref ab))
      (fun h₀ m s Q => ∀ (aB D1 D2 D3 D4 : Addr) (ta0 tb0 ta1 tb1 ta2 tb2 ta3 tb3 : Tok) (ps1 ps2 : Array Value) (m' : Str → Option Value) (h' : Heap) (tk' : Nat), Fr h₀ L h' m' → m' (Str.ofString "third") = some (.ref a3) → m' (Str.ofString "both") = some (.ref ab) → m' (Str.ofString "back") = some (.ref aB) → News h₀ L h' [(aB, LCg.lst [.ref D1, .ref D2, .ref D3, .ref D4]), (D1, T2 x0 0 ta0 tb0), (D2, T2 x1 0 ta1 tb1), (D3, T2 x2 0 ta2 tb2), (D4, T2 x3 0 ta3 tb3), (ab, T4 b0 b1 b2 b3 r0 r1 r2 r3), (a1, T4 x0 x1 x2 x3 t0 t1 t2 t3), (a2, T4 y0 y1 y2 y3 u0 u1 u2 u3), (a3, T4 z0 z1 z2 z3 v0 v1 v2 v3), (L + 3, o3), (L + 2, o2), (L + 1, o1), (51, tabObj ps2), (44, tabObj ps1)] → Q .next { s with heap := h', toks := tk' }) := by
  refine LSt.mk ?_; k_fill
  intro loose mean mg mb dp un gd outer A₀ base h₀ fa cd m s Q E B F X N T hd hu C1 C2 hm hret
  have hsc : lawSc = lawSc := rfl
  conv at hsc => rhs; whnf
  have hst : lawIn 0 = lawIn 0 := rfl
  conv at hst => rhs; whnf
  rw [hst, hsc]
  clear hst hsc
  obtain ⟨hm3, hmb⟩ := hm
  w_top off
  k_steps
  refine' TupSrc.made ?hh_x ?hF_x ?hN_x ?hm_x ?hz_x ?_
  (case hh_x => exact rfl); (case hF_x => k_asm); (case hN_x => (refine' drop2 ?dN_x ?dd1_x ?dd2_x; (case dN_x => k_asm); (case dd1_x => walk_at "c drop"); (case dd2_x => walk_at "c drop"))); (case hm_x => k_mem); (case hz_x => exact Nat.le_of_ble_eq_true rfl)
  intro g'
  lcg_lit
  refine' turn w loose mean mg mb dp un gd outer A₀ base h₀ L fa cd m _ a2 _ _ o2 y0 y1 y2 y3 u0 u1 u2 u3 B X T hd hu C1 C2 c2 q0 q1 q2 q3 q4 q5 q6 q7 g0 g1 _ 3 0 _ _ _ (.mk .fresh .fresh ?hA_x ?hB_x ?hB'_x) (by k_mem) (by k_mem) ⟨_, by k_mem, rfl, _, rfl⟩ _ x0 _ rfl f0 p0 p1 ?nx0_x
  (case hA_x => walk_at "c off"); (case hB_x => walk_at "c off"); (case hB'_x => walk_at "c off")
  intro D1 ta0 tb0 nw1 hTL1
  refine turn w loose mean mg mb dp un gd outer A₀ base h₀ L fa cd m _ a2 _ _ o2 y0 y1 y2 y3 u0 u1 u2 u3 B X T hd hu C1 C2 c2 q0 q1 q2 q3 q4 q5 q6 q7 g0 g1 _ 2 1 _ _ _ hTL1 (by k_mem) (by k_mem) ⟨_, by k_mem, rfl, _, rfl⟩ _ x1 _ rfl f1 p2 p3 ?nx1_x
  intro D2 ta1 tb1 nw2 hTL2
  refine turn w loose mean mg mb dp un gd outer A₀ base h₀ L fa cd m _ a2 _ _ o2 y0 y1 y2 y3 u0 u1 u2 u3 B X T hd hu C1 C2 c2 q0 q1 q2 q3 q4 q5 q6 q7 g0 g1 _ 1 2 _ _ _ hTL2 (by k_mem) (by k_mem) ⟨_, by k_mem, rfl, _, rfl⟩ _ x2 _ rfl f2 p4 p5 ?nx2_x
  intro D3 ta2 tb2 nw3 hTL3
  refine turn w loose mean mg mb dp un gd outer A₀ base h₀ L fa cd m _ a2 _ _ o2 y0 y1 y2 y3 u0 u1 u2 u3 B X T hd hu C1 C2 c2 q0 q1 q2 q3 q4 q5 q6 q7 g0 g1 _ 0 3 _ _ _ hTL3 (by k_mem) (by k_mem) ⟨_, by k_mem, rfl, _, rfl⟩ _ x3 _ rfl f3 p6 p7 ?nx3_x
  intro D4 ta3 tb3 nw4 hTL4
  refine LCg.CompRest.zero ?_
  unfold LCg.FinA
  intro D h' tk' F' N' o1
  obtain ⟨ps1, ps2, h1, h2⟩ := hTL4.tabs
  exact hret D D1 D2 D3 D4 ta0 tb0 ta1 tb1 ta2 tb2 ta3 tb3 ps1 ps2 _ h' tk' F' (by walk_at "c m") (by walk_at "c m") (by walk_at "c m") (cb_drop N' (by walk_at "c fin"))
end
section
theorem kw10 : True := by
  k_with_none
  k_with "x c sub" => (intro p hp; repeat (first | exact hp | refine List.mem_cons_of_mem _ ?_))
  k_with "x binaryOp Add ref ref" => (k_here; k_dflt (refine' kde_addT ?k1_x ?k2_x ?k3_x ?k4_x ?k5_x ?k6_x ?k7_x ?k8_x ?_; (case k1_x => k_asm); (case k2_x => k_asm); (case k3_x => kun_tup); (case k4_x => kun_tup); (case k5_x => exact List.cons_ne_nil _ _); (case k6_x => exact List.cons_ne_nil _ _); (case k7_x => exact Nat.le_of_ble_eq_true rfl); (case k8_x => kun_lit); k_whole); intro D' h' F' N' l1; (try k_lt l1); (try k_sweep))
  k_with "x subscriptTail Name Slice ref ref" => (k_here; (with_reducible show wpAny _ _ (subscriptTail _ (PySem.Expr.Slice none _ none _) (Value.ref _) (Value.ref _)) _ _ _); k_dflt (refine' slice5 ?F_x ?N_x ?t_x ?_ ?s_x ?g_x; (case F_x => k_asm); (case N_x => k_asm); (case t_x => kun_tup); (case s_x => with_unfolding_all rfl); (case g_x => intro _; with_unfolding_all rfl); k_whole); intro D' h' F' N' l1; (try k_lt l1); (try k_sweep))
  k_with "x c enter" => (refine' code_def ?k1_x ?k2_x ?k3_x ?k4_x ?k5_x ?kA_x ?kF_x ?kK_x ?k6_x ?k7_x ?k8_x ?k9_x ?kB_x ?_ ?c2_x ?c3_x ?c4_x ?c5_x; (case kA_x => exact rfl); (case kF_x => exact rfl); (case kK_x => first | exact rfl | assumption); (case k1_x => k_asm); (case k2_x => k_asm); (case k3_x => k_asm); (case k4_x => k_asm); (case k5_x => k_asm); (case k6_x => k_is); (case k7_x => k_is); (case k8_x => ktr_room); (case k9_x => exact BindsTo.of_eq rfl); (case c5_x => decide); (case kB_x => exact locs rfl); (case c2_x => exact rfl); (case c3_x => exact rfl); (case c4_x => exact rfl); k_whole; intro g' L' h' FG' F' N' B' X' T'; (try dsimp only); (try k_lift B'); (try k_fold))
  k_with "x c enterC" => (refine' code_defC ?k1_x ?k2_x ?k3_x ?k4_x ?k5_x ?kA_x ?kF_x ?kK_x ?k6_x ?k7_x ?k8_x ?k9_x ?kB_x ?kD_x ?_ ?c2_x ?c3_x ?c4_x; (case kA_x => exact rfl); (case kF_x => exact rfl); (case kK_x => first | exact rfl | assumption); (case k1_x => k_asm); (case k2_x => k_asm); (case k3_x => k_asm); (case k4_x => k_asm); (case k5_x => k_asm); (case k6_x => k_is); (case k7_x => k_is); (case k8_x => ktr_room); (case k9_x => exact BindsTo.of_eq rfl); (case kB_x => exact rfl); (case kD_x => decide +kernel); (case c2_x => exact rfl); (case c3_x => exact rfl); (case c4_x => exact rfl); k_whole; intro g' L' h' tk' cells' FG' F' N' Y' B' X' T' l1; (try k_lt l1); k_cells Y'; (try simp only [List.cons_append, List.nil_append] at N'); (try dsimp only); (try k_lift B'); (try k_fold))
  k_with "x CompEnd" => (k_here; (refine LCg.CompEnd.intro (by assumption) (by assumption) _ (fun _ h => h) (by first | assumption | (simp only [LCg.Off3, and_true]; assumption)) (by lcg_src) ?_))
  k_with "x exec For Tuple Call cons nil" => (k_here; (rename Fr _ _ _ _ => lF'); (rename News _ _ _ _ => lN'); with_unfolding_all ((refine' For_turns lF' ?_); k_whole; (refine MethodCall_ ?_); (refine ld lF' (by rfl) ?_); (refine getMethod_tab (knd := PySem.strKind _ _) (enc := PyData.str) PySem.F.slot_dict_items PySem.F.type_dict_items (by k_tabat) ?_); (refine callWith_method0 ?_); (refine call_items_tab (knd := PySem.strKind _ _) (enc := PyData.str) (by k_tabat) lF' lN' ?_); intro h' o' hv' F' N'; (replace N' := kti_tail N'); (refine kti_items (knd := PySem.strKind _ _) (enc := PyData.str) (xs := []) (by rfl) F' N' hv' (by k_tabat) (by k_mem) (fun _ _ h => Value.isStrOf_shape h) (by rfl) ?_)); clear lF' lN'; intro i' l1; (try k_lt l1))
  k_with "x c lt" => first | assumption | (refine ktn_ltOf ?_; first | assumption | (apply And.right; assumption) | ((iterate 2 apply And.right); assumption) | ((iterate 3 apply And.right); assumption) | ((iterate 4 apply And.right); assumption) | ((iterate 5 apply And.right); assumption) | ((iterate 6 apply And.right); assumption) | ((iterate 7 apply And.right); assumption) | ((iterate 8 apply And.right); assumption) | ((iterate 9 apply And.right); assumption) | ((iterate 10 apply And.right); assumption) | ((iterate 11 apply And.right); assumption) | ((iterate 12 apply And.right); assumption) | ((iterate 13 apply And.right); assumption) | ((iterate 14 apply And.right); assumption))
  k_with "x c use" => ((case k1_x => k_asm); (case k2_x => k_asm); (case k3_x => k_asm); (case k4_x => k_asm); (case k5_x => k_asm); (case k6_x => first | exact rfl | assumption); (case kd_x => ktr_room); (case ku_x => ktr_units))
  k_with "x call ref" => (k_here; k_dflt (refine' Con.use (turned_c _ _ _ _ _ _ _ _ _ _ _ ?hx_x) ?k1_x ?k2_x ?k3_x ?k4_x ?k5_x ?k6_x ?kd_x ?ku_x ?_; walk_at "c use"; (case hx_x => k_mem); k_whole; intro D' t0' t1' t2' t3' h' tk' F' N' l1; (try k_lt l1); (try k_sweep); (try dsimp only)))
  k_with "x call ref" => (k_here; k_dflt (refine' Con.use (sum_c _ _ _ _ _ _ _ _ _ _ _ _ _ _ _ _ _ _ _ _ ?hx_x ?hy_x) ?k1_x ?k2_x ?k3_x ?k4_x ?k5_x ?k6_x ?kd_x ?ku_x ?_; walk_at "c use"; (case hx_x => k_mem); (case hy_x => k_mem); k_whole; intro D' t0' t1' t2' t3' h' tk' F' N' l1; (try k_lt l1); (try k_sweep); (try dsimp only)))
  k_with "x call ref" => (k_here; k_dflt (refine' Con.use (scaled_c _ _ _ _ _ _ _ _ _ _ _ _ _ ?hx_x ?b0_x ?b1_x) ?k1_x ?k2_x ?k3_x ?k4_x ?k5_x ?k6_x ?kd_x ?ku_x ?_; walk_at "c use"; (case hx_x => k_mem); (case b0_x => omega); (case b1_x => omega); k_whole; intro D' t0' t1' t2' t3' h' tk' F' N' l1; (try k_lt l1); (try k_sweep); (try dsimp only)))
  k_with "x c m" => first | exact if_pos rfl | (refine (if_neg (by decide)).trans ?_; assumption)
  k_with "x c all" => (repeat (first | exact List.forall_mem_nil _ | refine List.forall_mem_cons.mpr ⟨by k_mem, ?_⟩))
  k_with "x eval Name" => (k_here; k_dflt (refine' nameX_L ?F_x ?v_x ?_ ?a_x ?b_x; (case F_x => k_asm); (case a_x => rfl); (case b_x => rfl); (case v_x => assumption); k_whole))
  k_with "x call ref" => (k_here; k_dflt (refine' Con.use (times_c _ _ _ _ _ _ _ _ _ _ _ _ _ _ _ _ _ _ _ _ ?hx_x ?hy_x ?a0_x ?a1_x ?b0_x ?b1_x ?c0_x ?c1_x ?d0_x ?d1_x) ?k1_x ?k2_x ?k3_x ?k4_x ?k5_x ?k6_x ?kd_x ?ku_x ?_; walk_at "c use"; (case hx_x => k_mem); (case hy_x => k_mem); (case a0_x => omega); (case a1_x => omega); (case b0_x => omega); (case b1_x => omega); (case c0_x => omega); (case c1_x => omega); (case d0_x => omega); (case d1_x => omega); k_whole; intro D' t0' t1' t2' t3' h' tk' F' N' l1; (try k_lt l1); (try k_sweep); (try dsimp only)))
  k_with "x call ref" => (k_here; k_dflt (refine' Con.use (squares_c _ _ _ _ _ _ _ _ _ _ _ ?hx_x ?a0_x ?a1_x ?b0_x ?b1_x ?c0_x ?c1_x ?d0_x ?d1_x) ?k1_x ?k2_x ?k3_x ?k4_x ?k5_x ?k6_x ?kd_x ?ku_x ?_; walk_at "c use"; (case hx_x => k_mem); (case a0_x => omega); (case a1_x => omega); (case b0_x => omega); (case b1_x => omega); (case c0_x => omega); (case c1_x => omega); (case d0_x => omega); (case d1_x => omega); k_whole; intro t0' h' tk' F' N'; (try k_sweep); (try dsimp only)))
  k_with "x exec Assign cons ListComp" => (k_here; (with_reducible show wpAny _ _ (exec (Stmt.Assign _ (PySem.Expr.ListComp _ [⟨PySem.Expr.Tuple _ _ _, _, _, _⟩] _ _) _) _) _ _ _); k_dflt (refine PyProof.Rows.LCp.Assign_ListComp_P (F₀ := by k_asm) (by rfl) (by with_unfolding_all rfl) (by with_unfolding_all rfl) (by decide) (by rfl) (by decide) (by rfl) (by rfl) (by decide) (by rfl) (by rfl) ?_))
  k_with "x eval ListComp" => (k_here; k_dflt (refine ListComp_Tup (_F₀ := by k_asm) (by with_unfolding_all rfl) (by decide) (by rfl) (by decide) (by rfl) ?_))
  k_with "x TupSrc" => (k_here; k_dflt (refine TupSrc.made (by rfl) (by k_asm) (by k_asm) (by k_mem) (by first | size_fits | exact Nat.le_of_ble_eq_true rfl) ?_; intro g'; lcg_lit))
  trivial
set_option maxRecDepth 100000 in
set_option maxHeartbeats 8000000 in
theorem st1 (w : World) (L an : Addr) (o1 o2 o3 : Obj) (y0 y1 y2 y3 y4 y5 y6 y7 y8 y9 y10 y11 : Int) (w0 w1 w2 w3 w4 w5 w6 w7 w8 w9 w10 w11 : Tok)
    (c1 : o1.data = .cell none) (c2 : o2.data = .cell none) (c3 : o3.data = .cell none) (hL : @LT.lt Nat _ 51 L) (hn1 : @Ne Nat an (L + 1)) (hn2 : @Ne Nat an (L + 2)) (hn3 : @Ne Nat an (L + 3)) :
    LSt w (lawSt 1) L [(an, LCg.lst [.int y0 w0, .int y1 w1, .int y2 w2, .int y3 w3, .int y4 w4, .int y5 w5, .int y6 w6, .int y7 w7, .int y8 w8, .int y9 w9, .int y10 w10, .int y11 w11]), (L + 3, o3), (L + 2, o2), (L + 1, o1), (51, tabObj #[]), (44, tabObj #[])]
      (fun m => m (Str.ofString "numbers") = some (.ref an))
      (fun h₀ m s Q => ∀ (a1 a2 a3 : Addr) (o1' o2' : Obj) (m' : Str → Option Value) (h' : Heap) (tk' : Nat), Fr h₀ L h' m' → m' (Str.ofString "third") = some (.ref a3) → o1'.data = .cell (some (.ref a1)) → o2'.data = .cell (some (.ref a2)) → @LT.lt Nat _ (L + 3) a1 → @LT.lt Nat _ (L + 3) a2 → @LT.lt Nat _ (L + 3) a3 → News h₀ L h' [(a1, T4 y0 y1 y2 y3 w0 w1 w2 w3), (a2, T4 y4 y5 y6 y7 w4 w5 w6 w7), (a3, T4 y8 y9 y10 y11 w8 w9 w10 w11), (L + 3, o3), (L + 2, o2'), (L + 1, o1'), (51, tabObj #[]), (44, tabObj #[])] → Q .next { s with heap := h', toks := tk' }) := by
  refine LSt.mk ?_; k_fill
  intro loose mean mg mb dp un gd outer A₀ base h₀ fa cd m s Q E B F X N T hd hu C1 C2 hm hret
  have hsc : lawSc = lawSc := rfl
  conv at hsc => rhs; whnf
  have hst : lawSt 1 = lawSt 1 := rfl
  conv at hst => rhs; whnf
  rw [hst, hsc]
  clear hst hsc
  w_top off
  k_steps
  refine' hret _ _ _ _ _ _ _ _ ?F_x ?m3_x ?d1_x ?d2_x ?l1_x ?l2_x ?l3_x ?hN_x
  (case F_x => k_asm)
  (case hN_x => exact cb_drop (by k_asm) (by walk_at "c all"))
  (case m3_x => walk_at "c m")
  (case d1_x => assumption)
  (case d2_x => assumption)
  all_goals (refine ltN ?_; omega)
set_option maxRecDepth 100000 in
set_option maxHeartbeats 8000000 in
theorem st2 (w : World) (L a1 a2 a3 : Addr) (o1 o2 o3 : Obj) (x0 x1 x2 x3 y0 y1 y2 y3 z0 z1 z2 z3 : Int) (t0 t1 t2 t3 u0 u1 u2 u3 v0 v1 v2 v3 : Tok)
    (c1 : o1.data = .cell (some (.ref a1))) (c2 : o2.data = .cell (some (.ref a2)))
    (p0 : -3 ≤ x0) (p1 : x0 ≤ 3) (p2 : -3 ≤ x1) (p3 : x1 ≤ 3) (p4 : -3 ≤ x2) (p5 : x2 ≤ 3) (p6 : -3 ≤ x3) (p7 : x3 ≤ 3) :
    LSt w (lawSt 2) L [(a1, T4 x0 x1 x2 x3 t0 t1 t2 t3), (a2, T4 y0 y1 y2 y3 u0 u1 u2 u3), (a3, T4 z0 z1 z2 z3 v0 v1 v2 v3), (L + 3, o3), (L + 2, o2), (L + 1, o1), (51, tabObj #[]), (44, tabObj #[])]
      (fun m => m (Str.ofString "third") = some (.ref a3))
      (fun h₀ m s Q => ∀ (ab : Addr) (r0 r1 r2 r3 : Tok) (m' : Str → Option Value) (h' : Heap) (tk' : Nat), Fr h₀ L h' m' → m' (Str.ofString "third") = some (.ref a3) → m' (Str.ofString "both") = some (.ref ab) → @LT.lt Nat _ (L + 3) ab →
        News h₀ L h' [(ab, T4 (qm0 x0 x1 x2 x3 y0 y1 y2 y3) (qm1 x0 x1 x2 x3 y0 y1 y2 y3) (qm2 x0 x1 x2 x3 y0 y1 y2 y3) (qm3 x0 x1 x2 x3 y0 y1 y2 y3) r0 r1 r2 r3), (a1, T4 x0 x1 x2 x3 t0 t1 t2 t3), (a2, T4 y0 y1 y2 y3 u0 u1 u2 u3), (a3, T4 z0 z1 z2 z3 v0 v1 v2 v3), (L + 3, o3), (L + 2, o2), (L + 1, o1), (51, tabObj #[]), (44, tabObj #[])] → Q .next { s with heap := h', toks := tk' }) := by
  refine LSt.mk ?_; k_fill
  intro loose mean mg mb dp un gd outer A₀ base h₀ fa cd m s Q E B F X N T hd hu C1 C2 hm hret
  have hsc : lawSc = lawSc := rfl
  conv at hsc => rhs; whnf
  have hst : lawSt 2 = lawSt 2 := rfl
  conv at hst => rhs; whnf
  rw [hst, hsc]
  clear hst hsc
  w_top off
  k_steps
  exact hret _ _ _ _ _ _ _ _ (by k_asm) (by walk_at "c m") (by walk_at "c m") (by refine ltN ?_; omega) (by k_asm)
set_option maxRecDepth 100000 in
set_option maxHeartbeats 8000000 in
theorem st3 (w : World) (L ab a1 a2 a3 : Addr) (o1 o2 o3 : Obj) (x0 x1 x2 x3 y0 y1 y2 y3 z0 z1 z2 z3 : Int) (t0 t1 t2 t3 u0 u1 u2 u3 v0 v1 v2 v3 : Tok) (b0 b1 b2 b3 : Int) (r0 r1 r2 r3 : Tok)
    (c1 : o1.data = .cell (some (.ref a1))) (c2 : o2.data = .cell (some (.ref a2)))
    (p0 : -3 ≤ x0) (p1 : x0 ≤ 3) (p2 : -3 ≤ x1) (p3 : x1 ≤ 3) (p4 : -3 ≤ x2) (p5 : x2 ≤ 3) (p6 : -3 ≤ x3) (p7 : x3 ≤ 3) (q0 : -3 ≤ y0) (q1 : y0 ≤ 3) (q2 : -3 ≤ y1) (q3 : y1 ≤ 3) (q4 : -3 ≤ y2) (q5 : y2 ≤ 3) (q6 : -3 ≤ y3) (q7 : y3 ≤ 3) (g0 : -3 ≤ z0) (g1 : z0 ≤ 3) (g2 : -3 ≤ z1) (g3 : z1 ≤ 3) (g4 : -3 ≤ z2) (g5 : z2 ≤ 3) (g6 : -3 ≤ z3) (g7 : z3 ≤ 3) (h0 : -36 ≤ b0) (h1 : b0 ≤ 36) (h2 : -36 ≤ b1) (h3 : b1 ≤ 36) (h4 : -36 ≤ b2) (h5 : b2 ≤ 36) (h6 : -36 ≤ b3) (h7 : b3 ≤ 36)
    (s0 : 0 ≤ sq4 x0 x1 x2 x3) (s1 : sq4 x0 x1 x2 x3 ≤ 36) (s2 : 0 ≤ sq4 y0 y1 y2 y3) (s3 : sq4 y0 y1 y2 y3 ≤ 36) (e : sq4 b0 b1 b2 b3 = sq4 x0 x1 x2 x3 * sq4 y0 y1 y2 y3) :
    LSt w (lawSt 3) L [(ab, T4 b0 b1 b2 b3 r0 r1 r2 r3), (a1, T4 x0 x1 x2 x3 t0 t1 t2 t3), (a2, T4 y0 y1 y2 y3 u0 u1 u2 u3), (a3, T4 z0 z1 z2 z3 v0 v1 v2 v3), (L + 3, o3), (L + 2, o2), (L + 1, o1), (51, tabObj #[]), (44, tabObj #[])]
      (fun m => m (Str.ofString "third") = some (.ref a3) ∧ m (Str.ofString "both") = some (.ref ab))
      (fun h₀ m s Q => ∀ (h' : Heap) (tk' : Nat), Fr h₀ L h' m → News h₀ L h' [(ab, T4 b0 b1 b2 b3 r0 r1 r2 r3), (a1, T4 x0 x1 x2 x3 t0 t1 t2 t3), (a2, T4 y0 y1 y2 y3 u0 u1 u2 u3), (a3, T4 z0 z1 z2 z3 v0 v1 v2 v3), (L + 3, o3), (L + 2, o2), (L + 1, o1), (51, tabObj #[]), (44, tabObj #[])] → Q .next { s with heap := h', toks := tk' }) := by
  refine LSt.mk ?_; k_fill
  intro loose mean mg mb dp un gd outer A₀ base h₀ fa cd m s Q E B F X N T hd hu C1 C2 hm hret
  have hsc : lawSc = lawSc := rfl
  conv at hsc => rhs; whnf
  have hst : lawSt 3 = lawSt 3 := rfl
  conv at hst => rhs; whnf
  rw [hst, hsc]
  clear hst hsc
  obtain ⟨hm3, hmb⟩ := hm
  w_top off
  k_steps
  all_goals first | exact hret _ _ (by k_asm) (cb_drop (by k_asm) (by walk_at "c all")) | exact absurd e (by assumption)
set_option maxRecDepth 100000 in
set_option maxHeartbeats 8000000 in
theorem st4 (w : World) (L ab a1 a2 a3 : Addr) (o1 o2 o3 : Obj) (x0 x1 x2 x3 y0 y1 y2 y3 z0 z1 z2 z3 : Int) (t0 t1 t2 t3 u0 u1 u2 u3 v0 v1 v2 v3 : Tok) (b0 b1 b2 b3 : Int) (r0 r1 r2 r3 : Tok)
    (c1 : o1.data = .cell (some (.ref a1))) (c2 : o2.data = .cell (some (.ref a2)))
    (p0 : -3 ≤ x0) (p1 : x0 ≤ 3) (p2 : -3 ≤ x1) (p3 : x1 ≤ 3) (p4 : -3 ≤ x2) (p5 : x2 ≤ 3) (p6 : -3 ≤ x3) (p7 : x3 ≤ 3) (q0 : -3 ≤ y0) (q1 : y0 ≤ 3) (q2 : -3 ≤ y1) (q3 : y1 ≤ 3) (q4 : -3 ≤ y2) (q5 : y2 ≤ 3) (q6 : -3 ≤ y3) (q7 : y3 ≤ 3) (g0 : -3 ≤ z0) (g1 : z0 ≤ 3) (g2 : -3 ≤ z1) (g3 : z1 ≤ 3) (g4 : -3 ≤ z2) (g5 : z2 ≤ 3) (g6 : -3 ≤ z3) (g7 : z3 ≤ 3) (h0 : -36 ≤ b0) (h1 : b0 ≤ 36) (h2 : -36 ≤ b1) (h3 : b1 ≤ 36) (h4 : -36 ≤ b2) (h5 : b2 ≤ 36) (h6 : -36 ≤ b3) (h7 : b3 ≤ 36)
    (e0 : qm0 b0 b1 b2 b3 z0 z1 z2 z3 = qm0 x0 x1 x2 x3 (qm0 y0 y1 y2 y3 z0 z1 z2 z3) (qm1 y0 y1 y2 y3 z0 z1 z2 z3) (qm2 y0 y1 y2 y3 z0 z1 z2 z3) (qm3 y0 y1 y2 y3 z0 z1 z2 z3)) (e1 : qm1 b0 b1 b2 b3 z0 z1 z2 z3 = qm1 x0 x1 x2 x3 (qm0 y0 y1 y2 y3 z0 z1 z2 z3) (qm1 y0 y1 y2 y3 z0 z1 z2 z3) (qm2 y0 y1 y2 y3 z0 z1 z2 z3) (qm3 y0 y1 y2 y3 z0 z1 z2 z3)) (e2 : qm2 b0 b1 b2 b3 z0 z1 z2 z3 = qm2 x0 x1 x2 x3 (qm0 y0 y1 y2 y3 z0 z1 z2 z3) (qm1 y0 y1 y2 y3 z0 z1 z2 z3) (qm2 y0 y1 y2 y3 z0 z1 z2 z3) (qm3 y0 y1 y2 y3 z0 z1 z2 z3)) (e3 : qm3 b0 b1 b2 b3 z0 z1 z2 z3 = qm3 x0 x1 x2 x3 (qm0 y0 y1 y2 y3 z0 z1 z2 z3) (qm1 y0 y1 y2 y3 z0 z1 z2 z3) (qm2 y0 y1 y2 y3 z0 z1 z2 z3) (qm3 y0 y1 y2 y3 z0 z1 z2 z3)) :
    LSt w (lawSt 4) L [(ab, T4 b0 b1 b2 b3 r0 r1 r2 r3), (a1, T4 x0 x1 x2 x3 t0 t1 t2 t3), (a2, T4 y0 y1 y2 y3 u0 u1 u2 u3), (a3, T4 z0 z1 z2 z3 v0 v1 v2 v3), (L + 3, o3), (L + 2, o2), (L + 1, o1), (51, tabObj #[]), (44, tabObj #[])]
      (fun m => m (Str.ofString "third") = some (.ref a3) ∧ m (Str.ofString "both") = some (.ref ab))
      (fun h₀ m s Q => ∀ (h' : Heap) (tk' : Nat), Fr h₀ L h' m → News h₀ L h' [(ab, T4 b0 b1 b2 b3 r0 r1 r2 r3), (a1, T4 x0 x1 x2 x3 t0 t1 t2 t3), (a2, T4 y0 y1 y2 y3 u0 u1 u2 u3), (a3, T4 z0 z1 z2 z3 v0 v1 v2 v3), (L + 3, o3), (L + 2, o2), (L + 1, o1), (51, tabObj #[]), (44, tabObj #[])] → Q .next { s with heap := h', toks := tk' }) := by
  refine LSt.mk ?_; k_fill
  intro loose mean mg mb dp un gd outer A₀ base h₀ fa cd m s Q E B F X N T hd hu C1 C2 hm hret
  have hsc : lawSc = lawSc := rfl
  conv at hsc => rhs; whnf
  have hst : lawSt 4 = lawSt 4 := rfl
  conv at hst => rhs; whnf
  rw [hst, hsc]
  clear hst hsc
  obtain ⟨hm3, hmb⟩ := hm
  w_top off
  k_steps
  all_goals first | exact hret _ _ (by k_asm) (cb_drop (by k_asm) (by walk_at "c all")) | exact (no4 e0 e1 e2 e3 (by assumption)).elim
set_option maxRecDepth 100000 in
set_option maxHeartbeats 8000000 in
theorem st5 (w : World) (L ab a1 a2 a3 : Addr) (o1 o2 o3 : Obj) (x0 x1 x2 x3 y0 y1 y2 y3 z0 z1 z2 z3 : Int) (t0 t1 t2 t3 u0 u1 u2 u3 v0 v1 v2 v3 : Tok) (b0 b1 b2 b3 : Int) (r0 r1 r2 r3 : Tok)
    (c1 : o1.data = .cell (some (.ref a1))) (c2 : o2.data = .cell (some (.ref a2)))
    (p0 : -3 ≤ x0) (p1 : x0 ≤ 3) (p2 : -3 ≤ x1) (p3 : x1 ≤ 3) (p4 : -3 ≤ x2) (p5 : x2 ≤ 3) (p6 : -3 ≤ x3) (p7 : x3 ≤ 3) (q0 : -3 ≤ y0) (q1 : y0 ≤ 3) (q2 : -3 ≤ y1) (q3 : y1 ≤ 3) (q4 : -3 ≤ y2) (q5 : y2 ≤ 3) (q6 : -3 ≤ y3) (q7 : y3 ≤ 3) (g0 : -3 ≤ z0) (g1 : z0 ≤ 3) (g2 : -3 ≤ z1) (g3 : z1 ≤ 3) (g4 : -3 ≤ z2) (g5 : z2 ≤ 3) (g6 : -3 ≤ z3) (g7 : z3 ≤ 3) (h0 : -36 ≤ b0) (h1 : b0 ≤ 36) (h2 : -36 ≤ b1) (h3 : b1 ≤ 36) (h4 : -36 ≤ b2) (h5 : b2 ≤ 36) (h6 : -36 ≤ b3) (h7 : b3 ≤ 36)
    (f0 : b0 = qm0 y0 (0 - y1) (0 - y2) (0 - y3) x0 (0 - x1) (0 - x2) (0 - x3)) (f1 : 0 - b1 = qm1 y0 (0 - y1) (0 - y2) (0 - y3) x0 (0 - x1) (0 - x2) (0 - x3)) (f2 : 0 - b2 = qm2 y0 (0 - y1) (0 - y2) (0 - y3) x0 (0 - x1) (0 - x2) (0 - x3)) (f3 : 0 - b3 = qm3 y0 (0 - y1) (0 - y2) (0 - y3) x0 (0 - x1) (0 - x2) (0 - x3)) :
    LSt w (lawSt 5) L [(ab, T4 b0 b1 b2 b3 r0 r1 r2 r3), (a1, T4 x0 x1 x2 x3 t0 t1 t2 t3), (a2, T4 y0 y1 y2 y3 u0 u1 u2 u3), (a3, T4 z0 z1 z2 z3 v0 v1 v2 v3), (L + 3, o3), (L + 2, o2), (L + 1, o1), (51, tabObj #[]), (44, tabObj #[])]
      (fun m => m (Str.ofString "third") = some (.ref a3) ∧ m (Str.ofString "both") = some (.ref ab))
      (fun h₀ m s Q => ∀ (h' : Heap) (tk' : Nat), Fr h₀ L h' m → News h₀ L h' [(ab, T4 b0 b1 b2 b3 r0 r1 r2 r3), (a1, T4 x0 x1 x2 x3 t0 t1 t2 t3), (a2, T4 y0 y1 y2 y3 u0 u1 u2 u3), (a3, T4 z0 z1 z2 z3 v0 v1 v2 v3), (L + 3, o3), (L + 2, o2), (L + 1, o1), (51, tabObj #[]), (44, tabObj #[])] → Q .next { s with heap := h', toks := tk' }) := by
  refine LSt.mk ?_; k_fill
  intro loose mean mg mb dp un gd outer A₀ base h₀ fa cd m s Q E B F X N T hd hu C1 C2 hm hret
  have hsc : lawSc = lawSc := rfl
  conv at hsc => rhs; whnf
  have hst : lawSt 5 = lawSt 5 := rfl
  conv at hst => rhs; whnf
  rw [hst, hsc]
  clear hst hsc
  obtain ⟨hm3, hmb⟩ := hm
  w_top off
  k_steps
  all_goals first | exact hret _ _ (by k_asm) (cb_drop (by k_asm) (by walk_at "c all")) | exact (no4 f0 f1 f2 f3 (by assumption)).elim
set_option maxRecDepth 100000 in
set_option maxHeartbeats 8000000 in
theorem st6 (w : World) (L ab a1 a2 a3 : Addr) (o1 o2 o3 : Obj) (x0 x1 x2 x3 y0 y1 y2 y3 z0 z1 z2 z3 : Int) (t0 t1 t2 t3 u0 u1 u2 u3 v0 v1 v2 v3 : Tok) (b0 b1 b2 b3 : Int) (r0 r1 r2 r3 : Tok)
    (c1 : o1.data = .cell (some (.ref a1))) (c2 : o2.data = .cell (some (.ref a2)))
    (p0 : -3 ≤ x0) (p1 : x0 ≤ 3) (p2 : -3 ≤ x1) (p3 : x1 ≤ 3) (p4 : -3 ≤ x2) (p5 : x2 ≤ 3) (p6 : -3 ≤ x3) (p7 : x3 ≤ 3) (q0 : -3 ≤ y0) (q1 : y0 ≤ 3) (q2 : -3 ≤ y1) (q3 : y1 ≤ 3) (q4 : -3 ≤ y2) (q5 : y2 ≤ 3) (q6 : -3 ≤ y3) (q7 : y3 ≤ 3) (g0 : -3 ≤ z0) (g1 : z0 ≤ 3) (g2 : -3 ≤ z1) (g3 : z1 ≤ 3) (g4 : -3 ≤ z2) (g5 : z2 ≤ 3) (g6 : -3 ≤ z3) (g7 : z3 ≤ 3) (h0 : -36 ≤ b0) (h1 : b0 ≤ 36) (h2 : -36 ≤ b1) (h3 : b1 ≤ 36) (h4 : -36 ≤ b2) (h5 : b2 ≤ 36) (h6 : -36 ≤ b3) (h7 : b3 ≤ 36)
    (f0 : qm0 x0 x1 x2 x3 x0 (0 - x1) (0 - x2) (0 - x3) = sq4 x0 x1 x2 x3) (f1 : qm1 x0 x1 x2 x3 x0 (0 - x1) (0 - x2) (0 - x3) = 0) (f2 : qm2 x0 x1 x2 x3 x0 (0 - x1) (0 - x2) (0 - x3) = 0) (f3 : qm3 x0 x1 x2 x3 x0 (0 - x1) (0 - x2) (0 - x3) = 0) :
    LSt w (lawSt 6) L [(ab, T4 b0 b1 b2 b3 r0 r1 r2 r3), (a1, T4 x0 x1 x2 x3 t0 t1 t2 t3), (a2, T4 y0 y1 y2 y3 u0 u1 u2 u3), (a3, T4 z0 z1 z2 z3 v0 v1 v2 v3), (L + 3, o3), (L + 2, o2), (L + 1, o1), (51, tabObj #[]), (44, tabObj #[])]
      (fun m => m (Str.ofString "third") = some (.ref a3) ∧ m (Str.ofString "both") = some (.ref ab))
      (fun h₀ m s Q => ∀ (h' : Heap) (tk' : Nat), Fr h₀ L h' m → News h₀ L h' [(ab, T4 b0 b1 b2 b3 r0 r1 r2 r3), (a1, T4 x0 x1 x2 x3 t0 t1 t2 t3), (a2, T4 y0 y1 y2 y3 u0 u1 u2 u3), (a3, T4 z0 z1 z2 z3 v0 v1 v2 v3), (L + 3, o3), (L + 2, o2), (L + 1, o1), (51, tabObj #[]), (44, tabObj #[])] → Q .next { s with heap := h', toks := tk' }) := by
  refine LSt.mk ?_; k_fill
  intro loose mean mg mb dp un gd outer A₀ base h₀ fa cd m s Q E B F X N T hd hu C1 C2 hm hret
  have hsc : lawSc = lawSc := rfl
  conv at hsc => rhs; whnf
  have hst : lawSt 6 = lawSt 6 := rfl
  conv at hst => rhs; whnf
  rw [hst, hsc]
  clear hst hsc
  obtain ⟨hm3, hmb⟩ := hm
  w_top off
  k_steps
  all_goals first | exact hret _ _ (by k_asm) (cb_drop (by k_asm) (by walk_at "c all")) | exact (no4 f0 f1 f2 f3 (by assumption)).elim
set_option maxRecDepth 100000 in
set_option maxHeartbeats 8000000 in
theorem st7 (w : World) (L ab a1 a2 a3 : Addr) (o1 o2 o3 : Obj) (x0 x1 x2 x3 y0 y1 y2 y3 z0 z1 z2 z3 : Int) (t0 t1 t2 t3 u0 u1 u2 u3 v0 v1 v2 v3 : Tok) (b0 b1 b2 b3 : Int) (r0 r1 r2 r3 : Tok)
    (c1 : o1.data = .cell (some (.ref a1))) (c2 : o2.data = .cell (some (.ref a2)))
    (p0 : -3 ≤ x0) (p1 : x0 ≤ 3) (p2 : -3 ≤ x1) (p3 : x1 ≤ 3) (p4 : -3 ≤ x2) (p5 : x2 ≤ 3) (p6 : -3 ≤ x3) (p7 : x3 ≤ 3) (q0 : -3 ≤ y0) (q1 : y0 ≤ 3) (q2 : -3 ≤ y1) (q3 : y1 ≤ 3) (q4 : -3 ≤ y2) (q5 : y2 ≤ 3) (q6 : -3 ≤ y3) (q7 : y3 ≤ 3) (g0 : -3 ≤ z0) (g1 : z0 ≤ 3) (g2 : -3 ≤ z1) (g3 : z1 ≤ 3) (g4 : -3 ≤ z2) (g5 : z2 ≤ 3) (g6 : -3 ≤ z3) (g7 : z3 ≤ 3) (h0 : -36 ≤ b0) (h1 : b0 ≤ 36) (h2 : -36 ≤ b1) (h3 : b1 ≤ 36) (h4 : -36 ≤ b2) (h5 : b2 ≤ 36) (h6 : -36 ≤ b3) (h7 : b3 ≤ 36)
    (f0 : qm0 (x0 + y0) (x1 + y1) (x2 + y2) (x3 + y3) z0 z1 z2 z3 = qm0 x0 x1 x2 x3 z0 z1 z2 z3 + qm0 y0 y1 y2 y3 z0 z1 z2 z3) (f1 : qm1 (x0 + y0) (x1 + y1) (x2 + y2) (x3 + y3) z0 z1 z2 z3 = qm1 x0 x1 x2 x3 z0 z1 z2 z3 + qm1 y0 y1 y2 y3 z0 z1 z2 z3) (f2 : qm2 (x0 + y0) (x1 + y1) (x2 + y2) (x3 + y3) z0 z1 z2 z3 = qm2 x0 x1 x2 x3 z0 z1 z2 z3 + qm2 y0 y1 y2 y3 z0 z1 z2 z3) (f3 : qm3 (x0 + y0) (x1 + y1) (x2 + y2) (x3 + y3) z0 z1 z2 z3 = qm3 x0 x1 x2 x3 z0 z1 z2 z3 + qm3 y0 y1 y2 y3 z0 z1 z2 z3) :
    LSt w (lawSt 7) L [(ab, T4 b0 b1 b2 b3 r0 r1 r2 r3), (a1, T4 x0 x1 x2 x3 t0 t1 t2 t3), (a2, T4 y0 y1 y2 y3 u0 u1 u2 u3), (a3, T4 z0 z1 z2 z3 v0 v1 v2 v3), (L + 3, o3), (L + 2, o2), (L + 1, o1), (51, tabObj #[]), (44, tabObj #[])]
      (fun m => m (Str.ofString "third") = some (.ref a3) ∧ m (Str.ofString "both") = some (.ref ab))
      (fun h₀ m s Q => ∀ (h' : Heap) (tk' : Nat), Fr h₀ L h' m → News h₀ L h' [(ab, T4 b0 b1 b2 b3 r0 r1 r2 r3), (a1, T4 x0 x1 x2 x3 t0 t1 t2 t3), (a2, T4 y0 y1 y2 y3 u0 u1 u2 u3), (a3, T4 z0 z1 z2 z3 v0 v1 v2 v3), (L + 3, o3), (L + 2, o2), (L + 1, o1), (51, tabObj #[]), (44, tabObj #[])] → Q .next { s with heap := h', toks := tk' }) := by
  refine LSt.mk ?_; k_fill
  intro loose mean mg mb dp un gd outer A₀ base h₀ fa cd m s Q E B F X N T hd hu C1 C2 hm hret
  have hsc : lawSc = lawSc := rfl
  conv at hsc => rhs; whnf
  have hst : lawSt 7 = lawSt 7 := rfl
  conv at hst => rhs; whnf
  rw [hst, hsc]
  clear hst hsc
  obtain ⟨hm3, hmb⟩ := hm
  w_top off
  k_steps
  all_goals first | exact hret _ _ (by k_asm) (cb_drop (by k_asm) (by walk_at "c all")) | exact (no4 f0 f1 f2 f3 (by assumption)).elim
set_option maxRecDepth 100000 in
set_option maxHeartbeats 8000000 in
theorem st8 (w : World) (L ab a1 a2 a3 : Addr) (o1 o2 o3 : Obj) (x0 x1 x2 x3 y0 y1 y2 y3 z0 z1 z2 z3 : Int) (t0 t1 t2 t3 u0 u1 u2 u3 v0 v1 v2 v3 : Tok) (b0 b1 b2 b3 : Int) (r0 r1 r2 r3 : Tok)
    (c1 : o1.data = .cell (some (.ref a1))) (c2 : o2.data = .cell (some (.ref a2)))
    (p0 : -3 ≤ x0) (p1 : x0 ≤ 3) (p2 : -3 ≤ x1) (p3 : x1 ≤ 3) (p4 : -3 ≤ x2) (p5 : x2 ≤ 3) (p6 : -3 ≤ x3) (p7 : x3 ≤ 3) (q0 : -3 ≤ y0) (q1 : y0 ≤ 3) (q2 : -3 ≤ y1) (q3 : y1 ≤ 3) (q4 : -3 ≤ y2) (q5 : y2 ≤ 3) (q6 : -3 ≤ y3) (q7 : y3 ≤ 3) (g0 : -3 ≤ z0) (g1 : z0 ≤ 3) (g2 : -3 ≤ z1) (g3 : z1 ≤ 3) (g4 : -3 ≤ z2) (g5 : z2 ≤ 3) (g6 : -3 ≤ z3) (g7 : z3 ≤ 3) (h0 : -36 ≤ b0) (h1 : b0 ≤ 36) (h2 : -36 ≤ b1) (h3 : b1 ≤ 36) (h4 : -36 ≤ b2) (h5 : b2 ≤ 36) (h6 : -36 ≤ b3) (h7 : b3 ≤ 36) :
    LSt w (lawSt 8) L [(ab, T4 b0 b1 b2 b3 r0 r1 r2 r3), (a1, T4 x0 x1 x2 x3 t0 t1 t2 t3), (a2, T4 y0 y1 y2 y3 u0 u1 u2 u3), (a3, T4 z0 z1 z2 z3 v0 v1 v2 v3), (L + 3, o3), (L + 2, o2), (L + 1, o1), (51, tabObj #[]), (44, tabObj #[])]
      (fun m => m (Str.ofString "third") = some (.ref a3) ∧ m (Str.ofString "both") = some (.ref ab))
      (fun h₀ m s Q => ∀ (ac : Addr) (s0 s1 s2 : Tok) (m' : Str → Option Value) (h' : Heap) (tk' : Nat), Fr h₀ L h' m' → m' (Str.ofString "third") = some (.ref a3) → m' (Str.ofString "both") = some (.ref ab) → m' (Str.ofString "cross") = some (.ref ac) →
        News h₀ L h' ((ac, ({ cls := .type "list", data := .seq #[.int (x1 * y2 - x2 * y1) s0, .int (x2 * y3 - x3 * y2) s1, .int (x1 * y3 - x3 * y1) s2] 3 } : Obj)) :: [(ab, T4 b0 b1 b2 b3 r0 r1 r2 r3), (a1, T4 x0 x1 x2 x3 t0 t1 t2 t3), (a2, T4 y0 y1 y2 y3 u0 u1 u2 u3), (a3, T4 z0 z1 z2 z3 v0 v1 v2 v3), (L + 3, o3), (L + 2, o2), (L + 1, o1), (51, tabObj #[]), (44, tabObj #[])]) → Q .next { s with heap := h', toks := tk' }) := by
  refine LSt.mk ?_; k_fill
  intro loose mean mg mb dp un gd outer A₀ base h₀ fa cd m s Q E B F X N T hd hu C1 C2 hm hret
  have hsc : lawSc = lawSc := rfl
  conv at hsc => rhs; whnf
  have hst : lawSt 8 = lawSt 8 := rfl
  conv at hst => rhs; whnf
  rw [hst, hsc]
  clear hst hsc
  obtain ⟨hm3, hmb⟩ := hm
  w_top off
  k_steps
  exact hret _ _ _ _ _ _ _ (by k_asm) (by walk_at "c m") (by walk_at "c m") (by walk_at "c m") (cb_drop (by k_asm) (by walk_at "c all"))
set_option maxRecDepth 100000 in
set_option maxHeartbeats 8000000 in
theorem st9 (w : World) (L ac ab a1 a2 a3 : Addr) (o1 o2 o3 : Obj) (x0 x1 x2 x3 y0 y1 y2 y3 z0 z1 z2 z3 : Int) (t0 t1 t2 t3 u0 u1 u2 u3 v0 v1 v2 v3 : Tok) (b0 b1 b2 b3 : Int) (r0 r1 r2 r3 : Tok) (k0 k1 k2 : Int) (s0 s1 s2 : Tok)
    (c1 : o1.data = .cell (some (.ref a1))) (c2 : o2.data = .cell (some (.ref a2)))
    (p0 : -3 ≤ x0) (p1 : x0 ≤ 3) (p2 : -3 ≤ x1) (p3 : x1 ≤ 3) (p4 : -3 ≤ x2) (p5 : x2 ≤ 3) (p6 : -3 ≤ x3) (p7 : x3 ≤ 3) (q0 : -3 ≤ y0) (q1 : y0 ≤ 3) (q2 : -3 ≤ y1) (q3 : y1 ≤ 3) (q4 : -3 ≤ y2) (q5 : y2 ≤ 3) (q6 : -3 ≤ y3) (q7 : y3 ≤ 3) (g0 : -3 ≤ z0) (g1 : z0 ≤ 3) (g2 : -3 ≤ z1) (g3 : z1 ≤ 3) (g4 : -3 ≤ z2) (g5 : z2 ≤ 3) (g6 : -3 ≤ z3) (g7 : z3 ≤ 3) (h0 : -36 ≤ b0) (h1 : b0 ≤ 36) (h2 : -36 ≤ b1) (h3 : b1 ≤ 36) (h4 : -36 ≤ b2) (h5 : b2 ≤ 36) (h6 : -36 ≤ b3) (h7 : b3 ≤ 36)
    (f0 : (b0 = qm0 y0 y1 y2 y3 x0 x1 x2 x3 ∧ b1 = qm1 y0 y1 y2 y3 x0 x1 x2 x3 ∧ b2 = qm2 y0 y1 y2 y3 x0 x1 x2 x3 ∧ b3 = qm3 y0 y1 y2 y3 x0 x1 x2 x3) ↔ (k0 = 0 ∧ k1 = 0 ∧ k2 = 0)) :
    LSt w (lawSt 9) L [(ac, ({ cls := .type "list", data := .seq #[.int k0 s0, .int k1 s1, .int k2 s2] 3 } : Obj)), (ab, T4 b0 b1 b2 b3 r0 r1 r2 r3), (a1, T4 x0 x1 x2 x3 t0 t1 t2 t3), (a2, T4 y0 y1 y2 y3 u0 u1 u2 u3), (a3, T4 z0 z1 z2 z3 v0 v1 v2 v3), (L + 3, o3), (L + 2, o2), (L + 1, o1), (51, tabObj #[]), (44, tabObj #[])]
      (fun m => m (Str.ofString "third") = some (.ref a3) ∧ m (Str.ofString "both") = some (.ref ab) ∧ m (Str.ofString "cross") = some (.ref ac))
      (fun h₀ m s Q => ∀ (h' : Heap) (tk' : Nat), Fr h₀ L h' m → News h₀ L h' [(ac, ({ cls := .type "list", data := .seq #[.int k0 s0, .int k1 s1, .int k2 s2] 3 } : Obj)), (ab, T4 b0 b1 b2 b3 r0 r1 r2 r3), (a1, T4 x0 x1 x2 x3 t0 t1 t2 t3), (a2, T4 y0 y1 y2 y3 u0 u1 u2 u3), (a3, T4 z0 z1 z2 z3 v0 v1 v2 v3), (L + 3, o3), (L + 2, o2), (L + 1, o1), (51, tabObj #[]), (44, tabObj #[])] → Q .next { s with heap := h', toks := tk' }) := by
  refine LSt.mk ?_; k_fill
  intro loose mean mg mb dp un gd outer A₀ base h₀ fa cd m s Q E B F X N T hd hu C1 C2 hm hret
  have hsc : lawSc = lawSc := rfl
  conv at hsc => rhs; whnf
  have hst : lawSt 9 = lawSt 9 := rfl
  conv at hst => rhs; whnf
  rw [hst, hsc]
  clear hst hsc
  obtain ⟨hm3, hmb, hmc⟩ := hm
  w_top off
  k_steps
  all_goals first | exact hret _ _ (by k_asm) (cb_drop (by k_asm) (by walk_at "c all")) | exact (no9 f0 (by assumption)).elim
set_option maxRecDepth 100000 in
set_option maxHeartbeats 8000000 in
theorem st11 (w : World) (L ab a1 a2 a3 : Addr) (o1 o2 o3 : Obj) (x0 x1 x2 x3 y0 y1 y2 y3 z0 z1 z2 z3 : Int) (t0 t1 t2 t3 u0 u1 u2 u3 v0 v1 v2 v3 : Tok) (b0 b1 b2 b3 : Int) (r0 r1 r2 r3 : Tok) (ps1 ps2 : Array Value)
    (c1 : o1.data = .cell (some (.ref a1))) (c2 : o2.data = .cell (some (.ref a2))) (c3 : o3.data = .cell none)
    (hL : @LT.lt Nat _ 51 L) (ha1 : @LT.lt Nat _ (L + 3) a1) (ha2 : @LT.lt Nat _ (L + 3) a2) (ha3 : @LT.lt Nat _ (L + 3) a3) (hab : @LT.lt Nat _ (L + 3) ab) :
    LSt w (lawSt 11) L [(ab, T4 b0 b1 b2 b3 r0 r1 r2 r3), (a1, T4 x0 x1 x2 x3 t0 t1 t2 t3), (a2, T4 y0 y1 y2 y3 u0 u1 u2 u3), (a3, T4 z0 z1 z2 z3 v0 v1 v2 v3), (L + 3, o3), (L + 2, o2), (L + 1, o1), (51, tabObj ps2), (44, tabObj ps1)]
      (fun m => m (Str.ofString "third") = some (.ref a3) ∧ m (Str.ofString "both") = some (.ref ab))
      (fun h₀ m s Q => ∀ (pl n0 n1 n2 n3 : Addr) (i00 i01 i02 i03 i10 i11 i12 i13 i20 i21 i22 i23 i30 i31 i32 i33 : Tok) (o4 : Obj) (h' : Heap) (tk' : Nat), Fr h₀ L h' m → o4.data = .cell (some (.ref pl)) → News h₀ L h' [(pl, W.listOf #[.ref n0, .ref n1, .ref n2, .ref n3] 0), (n0, T4 1 0 0 0 i00 i01 i02 i03), (n1, T4 0 1 0 0 i10 i11 i12 i13), (n2, T4 0 0 1 0 i20 i21 i22 i23), (n3, T4 0 0 0 1 i30 i31 i32 i33), (ab, T4 b0 b1 b2 b3 r0 r1 r2 r3), (a1, T4 x0 x1 x2 x3 t0 t1 t2 t3), (a2, T4 y0 y1 y2 y3 u0 u1 u2 u3), (a3, T4 z0 z1 z2 z3 v0 v1 v2 v3), (L + 3, o4), (L + 2, o2), (L + 1, o1), (51, tabObj ps2), (44, tabObj ps1)] → Q .next { s with heap := h', toks := tk' }) := by
  refine LSt.mk ?_; k_fill
  intro loose mean mg mb dp un gd outer A₀ base h₀ fa cd m s Q E B F X N T hd hu C1 C2 hm hret
  have hsc : lawSc = lawSc := rfl
  conv at hsc => rhs; whnf
  have hst : lawSt 11 = lawSt 11 := rfl
  conv at hst => rhs; whnf
  rw [hst, hsc]
  clear hst hsc
  obtain ⟨hm3, hmb⟩ := hm
  w_top off
  k_steps
  exact hret _ _ _ _ _ _ _ _ _ _ _ _ _ _ _ _ _ _ _ _ _ _ _ _ (by k_asm) (by assumption) (cb_drop (by k_asm) (by walk_at "c all"))
set_option maxRecDepth 100000 in
set_option maxHeartbeats 8000000 in
theorem st13 (w : World) (L ab a1 a2 a3 : Addr) (o1 o2 o3 : Obj) (x0 x1 x2 x3 y0 y1 y2 y3 z0 z1 z2 z3 : Int) (t0 t1 t2 t3 u0 u1 u2 u3 v0 v1 v2 v3 : Tok) (b0 b1 b2 b3 : Int) (r0 r1 r2 r3 : Tok) (ps1 ps2 : Array Value)
    (c1 : o1.data = .cell (some (.ref a1))) (c2 : o2.data = .cell (some (.ref a2)))
    (p0 : -3 ≤ x0) (p1 : x0 ≤ 3) (p2 : -3 ≤ x1) (p3 : x1 ≤ 3) (p4 : -3 ≤ x2) (p5 : x2 ≤ 3) (p6 : -3 ≤ x3) (p7 : x3 ≤ 3)
    (f0 : qm0 (2 * x0) (2 * x1) (2 * x2) (2 * x3) y0 y1 y2 y3 = 2 * b0) (f1 : qm1 (2 * x0) (2 * x1) (2 * x2) (2 * x3) y0 y1 y2 y3 = 2 * b1) (f2 : qm2 (2 * x0) (2 * x1) (2 * x2) (2 * x3) y0 y1 y2 y3 = 2 * b2) (f3 : qm3 (2 * x0) (2 * x1) (2 * x2) (2 * x3) y0 y1 y2 y3 = 2 * b3) :
    LSt w (lawSt 13) L [(ab, T4 b0 b1 b2 b3 r0 r1 r2 r3), (a1, T4 x0 x1 x2 x3 t0 t1 t2 t3), (a2, T4 y0 y1 y2 y3 u0 u1 u2 u3), (a3, T4 z0 z1 z2 z3 v0 v1 v2 v3), (L + 3, o3), (L + 2, o2), (L + 1, o1), (51, tabObj ps2), (44, tabObj ps1)]
      (fun m => m (Str.ofString "third") = some (.ref a3) ∧ m (Str.ofString "both") = some (.ref ab))
      (fun h₀ m s Q => ∀ (h' : Heap) (tk' : Nat), Fr h₀ L h' m → News h₀ L h' [(ab, T4 b0 b1 b2 b3 r0 r1 r2 r3), (a1, T4 x0 x1 x2 x3 t0 t1 t2 t3), (a2, T4 y0 y1 y2 y3 u0 u1 u2 u3), (a3, T4 z0 z1 z2 z3 v0 v1 v2 v3), (L + 3, o3), (L + 2, o2), (L + 1, o1), (51, tabObj ps2), (44, tabObj ps1)] → Q (.ret (.bool true)) { s with heap := h', toks := tk' }) := by
  refine LSt.mk ?_; k_fill
  intro loose mean mg mb dp un gd outer A₀ base h₀ fa cd m s Q E B F X N T hd hu C1 C2 hm hret
  have hsc : lawSc = lawSc := rfl
  conv at hsc => rhs; whnf
  have hst : lawSt 13 = lawSt 13 := rfl
  conv at hst => rhs; whnf
  rw [hst, hsc]
  clear hst hsc
  obtain ⟨hm3, hmb⟩ := hm
  w_top off
  k_steps
  exact ret_yes (yes4 f0 f1 f2 f3) (hret _ _ (by k_asm) (cb_drop (by k_asm) (by walk_at "c all")))
section
theorem kw11 : True := by
  k_with_none
  k_with "x c sub" => (intro p hp; repeat (first | exact hp | refine List.mem_cons_of_mem _ ?_))
  k_with "x binaryOp Add ref ref" => (k_here; k_dflt (refine' kde_addT ?k1_x ?k2_x ?k3_x ?k4_x ?k5_x ?k6_x ?k7_x ?k8_x ?_; (case k1_x => k_asm); (case k2_x => k_asm); (case k3_x => kun_tup); (case k4_x => kun_tup); (case k5_x => exact List.cons_ne_nil _ _); (case k6_x => exact List.cons_ne_nil _ _); (case k7_x => exact Nat.le_of_ble_eq_true rfl); (case k8_x => kun_lit); k_whole); intro D' h' F' N' l1; (try k_lt l1); (try k_sweep))
  k_with "x subscriptTail Name Slice ref ref" => (k_here; (with_reducible show wpAny _ _ (subscriptTail _ (PySem.Expr.Slice none _ none _) (Value.ref _) (Value.ref _)) _ _ _); k_dflt (refine' slice5 ?F_x ?N_x ?t_x ?_ ?s_x ?g_x; (case F_x => k_asm); (case N_x => k_asm); (case t_x => kun_tup); (case s_x => with_unfolding_all rfl); (case g_x => intro _; with_unfolding_all rfl); k_whole); intro D' h' F' N' l1; (try k_lt l1); (try k_sweep))
  k_with "x c enter" => (refine' code_def ?k1_x ?k2_x ?k3_x ?k4_x ?k5_x ?kA_x ?kF_x ?kK_x ?k6_x ?k7_x ?k8_x ?k9_x ?kB_x ?_ ?c2_x ?c3_x ?c4_x ?c5_x; (case kA_x => exact rfl); (case kF_x => exact rfl); (case kK_x => first | exact rfl | assumption); (case k1_x => k_asm); (case k2_x => k_asm); (case k3_x => k_asm); (case k4_x => k_asm); (case k5_x => k_asm); (case k6_x => k_is); (case k7_x => k_is); (case k8_x => ktr_room); (case k9_x => exact BindsTo.of_eq rfl); (case c5_x => decide); (case kB_x => exact locs rfl); (case c2_x => exact rfl); (case c3_x => exact rfl); (case c4_x => exact rfl); k_whole; intro g' L' h' FG' F' N' B' X' T'; (try dsimp only); (try k_lift B'); (try k_fold))
  k_with "x c enterC" => (refine' code_defC ?k1_x ?k2_x ?k3_x ?k4_x ?k5_x ?kA_x ?kF_x ?kK_x ?k6_x ?k7_x ?k8_x ?k9_x ?kB_x ?kD_x ?_ ?c2_x ?c3_x ?c4_x; (case kA_x => exact rfl); (case kF_x => exact rfl); (case kK_x => first | exact rfl | assumption); (case k1_x => k_asm); (case k2_x => k_asm); (case k3_x => k_asm); (case k4_x => k_asm); (case k5_x => k_asm); (case k6_x => k_is); (case k7_x => k_is); (case k8_x => ktr_room); (case k9_x => exact BindsTo.of_eq rfl); (case kB_x => exact rfl); (case kD_x => decide +kernel); (case c2_x => exact rfl); (case c3_x => exact rfl); (case c4_x => exact rfl); k_whole; intro g' L' h' tk' cells' FG' F' N' Y' B' X' T' l1; (try k_lt l1); k_cells Y'; (try simp only [List.cons_append, List.nil_append] at N'); (try dsimp only); (try k_lift B'); (try k_fold))
  k_with "x CompEnd" => (k_here; (refine LCg.CompEnd.intro (by assumption) (by assumption) _ (fun _ h => h) (by first | assumption | (simp only [LCg.Off3, and_true]; assumption)) (by lcg_src) ?_))
  k_with "x exec For Tuple Call cons nil" => (k_here; (rename Fr _ _ _ _ => lF'); (rename News _ _ _ _ => lN'); with_unfolding_all ((refine' For_turns lF' ?_); k_whole; (refine MethodCall_ ?_); (refine ld lF' (by rfl) ?_); (refine getMethod_tab (knd := PySem.strKind _ _) (enc := PyData.str) PySem.F.slot_dict_items PySem.F.type_dict_items (by k_tabat) ?_); (refine callWith_method0 ?_); (refine call_items_tab (knd := PySem.strKind _ _) (enc := PyData.str) (by k_tabat) lF' lN' ?_); intro h' o' hv' F' N'; (replace N' := kti_tail N'); (refine kti_items (knd := PySem.strKind _ _) (enc := PyData.str) (xs := []) (by rfl) F' N' hv' (by k_tabat) (by k_mem) (fun _ _ h => Value.isStrOf_shape h) (by rfl) ?_)); clear lF' lN'; intro i' l1; (try k_lt l1))
  k_with "x c lt" => first | assumption | (refine ktn_ltOf ?_; first | assumption | (apply And.right; assumption) | ((iterate 2 apply And.right); assumption) | ((iterate 3 apply And.right); assumption) | ((iterate 4 apply And.right); assumption) | ((iterate 5 apply And.right); assumption) | ((iterate 6 apply And.right); assumption) | ((iterate 7 apply And.right); assumption) | ((iterate 8 apply And.right); assumption) | ((iterate 9 apply And.right); assumption) | ((iterate 10 apply And.right); assumption) | ((iterate 11 apply And.right); assumption) | ((iterate 12 apply And.right); assumption) | ((iterate 13 apply And.right); assumption) | ((iterate 14 apply And.right); assumption))
  k_with "x c use" => ((case k1_x => k_asm); (case k2_x => k_asm); (case k3_x => k_asm); (case k4_x => k_asm); (case k5_x => k_asm); (case k6_x => first | exact rfl | assumption); (case kd_x => ktr_room); (case ku_x => ktr_units))
  k_with "x call ref" => (k_here; k_dflt (refine' Con.use (turned_c _ _ _ _ _ _ _ _ _ _ _ ?hx_x) ?k1_x ?k2_x ?k3_x ?k4_x ?k5_x ?k6_x ?kd_x ?ku_x ?_; walk_at "c use"; (case hx_x => k_mem); k_whole; intro D' t0' t1' t2' t3' h' tk' F' N' l1; (try k_lt l1); (try k_sweep); (try dsimp only)))
  k_with "x call ref" => (k_here; k_dflt (refine' Con.use (sum_c _ _ _ _ _ _ _ _ _ _ _ _ _ _ _ _ _ _ _ _ ?hx_x ?hy_x) ?k1_x ?k2_x ?k3_x ?k4_x ?k5_x ?k6_x ?kd_x ?ku_x ?_; walk_at "c use"; (case hx_x => k_mem); (case hy_x => k_mem); k_whole; intro D' t0' t1' t2' t3' h' tk' F' N' l1; (try k_lt l1); (try k_sweep); (try dsimp only)))
  k_with "x call ref" => (k_here; k_dflt (refine' Con.use (scaled_c _ _ _ _ _ _ _ _ _ _ _ _ _ ?hx_x ?b0_x ?b1_x) ?k1_x ?k2_x ?k3_x ?k4_x ?k5_x ?k6_x ?kd_x ?ku_x ?_; walk_at "c use"; (case hx_x => k_mem); (case b0_x => omega); (case b1_x => omega); k_whole; intro D' t0' t1' t2' t3' h' tk' F' N' l1; (try k_lt l1); (try k_sweep); (try dsimp only)))
  k_with "x c m" => first | exact if_pos rfl | (refine (if_neg (by decide)).trans ?_; assumption)
  k_with "x c all" => (repeat (first | exact List.forall_mem_nil _ | refine List.forall_mem_cons.mpr ⟨by k_mem, ?_⟩))
  k_with "x eval Name" => (k_here; k_dflt (refine' nameX_L ?F_x ?v_x ?_ ?a_x ?b_x; (case F_x => k_asm); (case a_x => rfl); (case b_x => rfl); (case v_x => assumption); k_whole))
  k_with "x call ref" => (k_here; k_dflt (refine' Con.use (times_c _ _ _ _ _ _ _ _ _ _ _ _ _ _ _ _ _ _ _ _ ?hx_x ?hy_x ?a0_x ?a1_x ?b0_x ?b1_x ?c0_x ?c1_x ?d0_x ?d1_x) ?k1_x ?k2_x ?k3_x ?k4_x ?k5_x ?k6_x ?kd_x ?ku_x ?_; walk_at "c use"; (case hx_x => k_mem); (case hy_x => k_mem); (case a0_x => omega); (case a1_x => omega); (case b0_x => omega); (case b1_x => omega); (case c0_x => omega); (case c1_x => omega); (case d0_x => omega); (case d1_x => omega); k_whole; intro D' t0' t1' t2' t3' h' tk' F' N' l1; (try k_lt l1); (try k_sweep); (try dsimp only)))
  k_with "x call ref" => (k_here; k_dflt (refine' Con.use (squares_c _ _ _ _ _ _ _ _ _ _ _ ?hx_x ?a0_x ?a1_x ?b0_x ?b1_x ?c0_x ?c1_x ?d0_x ?d1_x) ?k1_x ?k2_x ?k3_x ?k4_x ?k5_x ?k6_x ?kd_x ?ku_x ?_; walk_at "c use"; (case hx_x => k_mem); (case a0_x => omega); (case a1_x => omega); (case b0_x => omega); (case b1_x => omega); (case c0_x => omega); (case c1_x => omega); (case d0_x => omega); (case d1_x => omega); k_whole; intro t0' h' tk' F' N'; (try k_sweep); (try dsimp only)))
  k_with "x exec Assign cons ListComp" => (k_here; (with_reducible show wpAny _ _ (exec (Stmt.Assign _ (PySem.Expr.ListComp _ [⟨PySem.Expr.Tuple _ _ _, _, _, _⟩] _ _) _) _) _ _ _); k_dflt (refine PyProof.Rows.LCp.Assign_ListComp_P (F₀ := by k_asm) (by rfl) (by with_unfolding_all rfl) (by with_unfolding_all rfl) (by decide) (by rfl) (by decide) (by rfl) (by rfl) (by decide) (by rfl) (by rfl) ?_))
  k_with "x eval ListComp" => (k_here; k_dflt (refine ListComp_Tup (_F₀ := by k_asm) (by with_unfolding_all rfl) (by decide) (by rfl) (by decide) (by rfl) ?_))
  k_with "x TupSrc" => (k_here; k_dflt (refine TupSrc.made (by rfl) (by k_asm) (by k_asm) (by k_mem) (by first | size_fits | exact Nat.le_of_ble_eq_true rfl) ?_; intro g'; lcg_lit))
  k_with "x exec Assign cons ListComp" => (k_here; k_dflt (refine LCg.Assign_ListComp_U (F₀ := by k_asm) (by rfl) (by with_unfolding_all rfl) (by rfl) (by decide) (by rfl) (by decide) (by rfl) (by rfl) (by rfl) ?_))
  trivial
set_option maxRecDepth 100000 in
set_option maxHeartbeats 8000000 in
theorem st0 (w : World) (L sa : Addr) (o1 o2 o3 : Obj) (vs : List Value) (ns : List Int)
    (c1 : o1.data = .cell none) (c2 : o2.data = .cell none) (c3 : o3.data = .cell none) (hL : @LT.lt Nat _ 51 L) (hI : IntsAre vs ns) (hlen : ns.length ≤ 63)
    {loose : List Str} {mean : ExcName → Option Value} {mg mb : Str → Option Value} {dp un : Nat} {gd : Option (List Code)} {outer : List Env} {A₀ : Around} {base h₀ : Heap} {fa : Addr} {cd : Value} {m : Str → Option Value} {s : Shared} {Q : Flow → Shared → Prop} {E : Value → Shared → Prop}
    (B : Below A₀ base outer h₀) (F : Fr h₀ L s.heap m) (X : (hd.heap_39 w.params).In h₀) (N : News h₀ L s.heap [(L + 3, o3), (L + 2, o2), (L + 1, o1), (51, tabObj #[]), (44, tabObj #[])]) (T : Top topProg loose mean mg mb h₀) (hd : dp + 200 < recursionLimit) (hu : un + 4000 < cLine) (C1 : CodeHd base 48 44) (C2 : CodeHd base 55 51)
    (hS : h₀.IsList sa vs.toArray) (hm : m (Str.ofString "script") = some (.ref sa))
    (hret : ∀ (an : Addr) (y0 y1 y2 y3 y4 y5 y6 y7 y8 y9 y10 y11 : Int) (w0 w1 w2 w3 w4 w5 w6 w7 w8 w9 w10 w11 : Tok) (m' : Str → Option Value) (h' : Heap) (tk' : Nat), Fr h₀ L h' m' → m' (Str.ofString "numbers") = some (.ref an) → @Ne Nat an (L + 1) → @Ne Nat an (L + 2) → @Ne Nat an (L + 3) → (Sm y0 ∧ Sm y1 ∧ Sm y2 ∧ Sm y3 ∧ Sm y4 ∧ Sm y5 ∧ Sm y6 ∧ Sm y7 ∧ Sm y8 ∧ Sm y9 ∧ Sm y10 ∧ Sm y11) → News h₀ L h' ((an, LCg.lst [.int y0 w0, .int y1 w1, .int y2 w2, .int y3 w3, .int y4 w4, .int y5 w5, .int y6 w6, .int y7 w7, .int y8 w8, .int y9 w9, .int y10 w10, .int y11 w11]) :: [(L + 3, o3), (L + 2, o2), (L + 1, o1), (51, tabObj #[]), (44, tabObj #[])]) → Q .next { s with heap := h', toks := tk' }) :
    wpAny (model PySem.Challenge.rw_hi0003_01.row.prog w) (ktrTop dp un gd (Str.ofString "law") lawSc L fa cd (cellsFrom (L + 1) lawSc.names []) outer) (exec (lawSt 0) (envOfC (Str.ofString "law") lawSc L fa cd)) Q E s := by
  k_fill
  have hsc : lawSc = lawSc := rfl
  conv at hsc => rhs; whnf
  have hst : lawSt 0 = lawSt 0 := rfl
  conv at hst => rhs; whnf
  rw [hst, hsc]
  clear hst hsc
  w_top off
  k_steps
  rename IntsAre _ (List.map _ _) => hI9
  obtain ⟨y0, y1, y2, y3, y4, y5, y6, y7, y8, y9, y10, y11, w0, w1, w2, w3, w4, w5, w6, w7, w8, w9, w10, w11, rfl, hb⟩ := twelveM hI9
  rename (_ ≠ _ ∧ _ ≠ _ ∧ _ ≠ _ ∧ _ ≠ _ ∧ _) => o9
  refine hret _ _ _ _ _ _ _ _ _ _ _ _ _ _ _ _ _ _ _ _ _ _ _ _ _ _ _ _ (by k_asm) (by walk_at "c m") (Ne.symm ?_) (Ne.symm ?_) (Ne.symm ?_) hb (cb_drop (by k_asm) (by walk_at "c all"))
  · exact o9.2.2.2.2.2.2.1
  · exact o9.2.2.2.2.2.1
  · exact o9.2.2.2.2.1
end
section
theorem kw12 : True := by
  k_with_none
  k_with "x c sub" => (intro p hp; repeat (first | exact hp | refine List.mem_cons_of_mem _ ?_))
  k_with "x binaryOp Add ref ref" => (k_here; k_dflt (refine' kde_addT ?k1_x ?k2_x ?k3_x ?k4_x ?k5_x ?k6_x ?k7_x ?k8_x ?_; (case k1_x => k_asm); (case k2_x => k_asm); (case k3_x => kun_tup); (case k4_x => kun_tup); (case k5_x => exact List.cons_ne_nil _ _); (case k6_x => exact List.cons_ne_nil _ _); (case k7_x => exact Nat.le_of_ble_eq_true rfl); (case k8_x => kun_lit); k_whole); intro D' h' F' N' l1; (try k_lt l1); (try k_sweep))
  k_with "x subscriptTail Name Slice ref ref" => (k_here; (with_reducible show wpAny _ _ (subscriptTail _ (PySem.Expr.Slice none _ none _) (Value.ref _) (Value.ref _)) _ _ _); k_dflt (refine' slice5 ?F_x ?N_x ?t_x ?_ ?s_x ?g_x; (case F_x => k_asm); (case N_x => k_asm); (case t_x => kun_tup); (case s_x => with_unfolding_all rfl); (case g_x => intro _; with_unfolding_all rfl); k_whole); intro D' h' F' N' l1; (try k_lt l1); (try k_sweep))
  k_with "x c enter" => (refine' code_def ?k1_x ?k2_x ?k3_x ?k4_x ?k5_x ?kA_x ?kF_x ?kK_x ?k6_x ?k7_x ?k8_x ?k9_x ?kB_x ?_ ?c2_x ?c3_x ?c4_x ?c5_x; (case kA_x => exact rfl); (case kF_x => exact rfl); (case kK_x => first | exact rfl | assumption); (case k1_x => k_asm); (case k2_x => k_asm); (case k3_x => k_asm); (case k4_x => k_asm); (case k5_x => k_asm); (case k6_x => k_is); (case k7_x => k_is); (case k8_x => ktr_room); (case k9_x => exact BindsTo.of_eq rfl); (case c5_x => decide); (case kB_x => exact locs rfl); (case c2_x => exact rfl); (case c3_x => exact rfl); (case c4_x => exact rfl); k_whole; intro g' L' h' FG' F' N' B' X' T'; (try dsimp only); (try k_lift B'); (try k_fold))
  k_with "x c enterC" => (refine' code_defC ?k1_x ?k2_x ?k3_x ?k4_x ?k5_x ?kA_x ?kF_x ?kK_x ?k6_x ?k7_x ?k8_x ?k9_x ?kB_x ?kD_x ?_ ?c2_x ?c3_x ?c4_x; (case kA_x => exact rfl); (case kF_x => exact rfl); (case kK_x => first | exact rfl | assumption); (case k1_x => k_asm); (case k2_x => k_asm); (case k3_x => k_asm); (case k4_x => k_asm); (case k5_x => k_asm); (case k6_x => k_is); (case k7_x => k_is); (case k8_x => ktr_room); (case k9_x => exact BindsTo.of_eq rfl); (case kB_x => exact rfl); (case kD_x => decide +kernel); (case c2_x => exact rfl); (case c3_x => exact rfl); (case c4_x => exact rfl); k_whole; intro g' L' h' tk' cells' FG' F' N' Y' B' X' T' l1; (try k_lt l1); k_cells Y'; (try simp only [List.cons_append, List.nil_append] at N'); (try dsimp only); (try k_lift B'); (try k_fold))
  k_with "x CompEnd" => (k_here; (refine LCg.CompEnd.intro (by assumption) (by assumption) _ (fun _ h => h) (by first | assumption | (simp only [LCg.Off3, and_true]; assumption)) (by lcg_src) ?_))
  k_with "x exec For Tuple Call cons nil" => (k_here; (rename Fr _ _ _ _ => lF'); (rename News _ _ _ _ => lN'); with_unfolding_all ((refine' For_turns lF' ?_); k_whole; (refine MethodCall_ ?_); (refine ld lF' (by rfl) ?_); (refine getMethod_tab (knd := PySem.strKind _ _) (enc := PyData.str) PySem.F.slot_dict_items PySem.F.type_dict_items (by k_tabat) ?_); (refine callWith_method0 ?_); (refine call_items_tab (knd := PySem.strKind _ _) (enc := PyData.str) (by k_tabat) lF' lN' ?_); intro h' o' hv' F' N'; (replace N' := kti_tail N'); (refine kti_items (knd := PySem.strKind _ _) (enc := PyData.str) (xs := []) (by rfl) F' N' hv' (by k_tabat) (by k_mem) (fun _ _ h => Value.isStrOf_shape h) (by rfl) ?_)); clear lF' lN'; intro i' l1; (try k_lt l1))
  k_with "x c lt" => first | assumption | (refine ktn_ltOf ?_; first | assumption | (apply And.right; assumption) | ((iterate 2 apply And.right); assumption) | ((iterate 3 apply And.right); assumption) | ((iterate 4 apply And.right); assumption) | ((iterate 5 apply And.right); assumption) | ((iterate 6 apply And.right); assumption) | ((iterate 7 apply And.right); assumption) | ((iterate 8 apply And.right); assumption) | ((iterate 9 apply And.right); assumption) | ((iterate 10 apply And.right); assumption) | ((iterate 11 apply And.right); assumption) | ((iterate 12 apply And.right); assumption) | ((iterate 13 apply And.right); assumption) | ((iterate 14 apply And.right); assumption))
  k_with "x c use" => ((case k1_x => k_asm); (case k2_x => k_asm); (case k3_x => k_asm); (case k4_x => k_asm); (case k5_x => k_asm); (case k6_x => first | exact rfl | assumption); (case kd_x => ktr_room); (case ku_x => ktr_units))
  k_with "x call ref" => (k_here; k_dflt (refine' Con.use (turned_c _ _ _ _ _ _ _ _ _ _ _ ?hx_x) ?k1_x ?k2_x ?k3_x ?k4_x ?k5_x ?k6_x ?kd_x ?ku_x ?_; walk_at "c use"; (case hx_x => k_mem); k_whole; intro D' t0' t1' t2' t3' h' tk' F' N' l1; (try k_lt l1); (try k_sweep); (try dsimp only)))
  k_with "x call ref" => (k_here; k_dflt (refine' Con.use (sum_c _ _ _ _ _ _ _ _ _ _ _ _ _ _ _ _ _ _ _ _ ?hx_x ?hy_x) ?k1_x ?k2_x ?k3_x ?k4_x ?k5_x ?k6_x ?kd_x ?ku_x ?_; walk_at "c use"; (case hx_x => k_mem); (case hy_x => k_mem); k_whole; intro D' t0' t1' t2' t3' h' tk' F' N' l1; (try k_lt l1); (try k_sweep); (try dsimp only)))
  k_with "x call ref" => (k_here; k_dflt (refine' Con.use (scaled_c _ _ _ _ _ _ _ _ _ _ _ _ _ ?hx_x ?b0_x ?b1_x) ?k1_x ?k2_x ?k3_x ?k4_x ?k5_x ?k6_x ?kd_x ?ku_x ?_; walk_at "c use"; (case hx_x => k_mem); (case b0_x => omega); (case b1_x => omega); k_whole; intro D' t0' t1' t2' t3' h' tk' F' N' l1; (try k_lt l1); (try k_sweep); (try dsimp only)))
  k_with "x c m" => first | exact if_pos rfl | (refine (if_neg (by decide)).trans ?_; assumption)
  k_with "x c all" => (repeat (first | exact List.forall_mem_nil _ | refine List.forall_mem_cons.mpr ⟨by k_mem, ?_⟩))
  k_with "x eval Name" => (k_here; k_dflt (refine' nameX_L ?F_x ?v_x ?_ ?a_x ?b_x; (case F_x => k_asm); (case a_x => rfl); (case b_x => rfl); (case v_x => assumption); k_whole))
  k_with "x call ref" => (k_here; k_dflt (refine' Con.use (times_c _ _ _ _ _ _ _ _ _ _ _ _ _ _ _ _ _ _ _ _ ?hx_x ?hy_x ?a0_x ?a1_x ?b0_x ?b1_x ?c0_x ?c1_x ?d0_x ?d1_x) ?k1_x ?k2_x ?k3_x ?k4_x ?k5_x ?k6_x ?kd_x ?ku_x ?_; walk_at "c use"; (case hx_x => k_mem); (case hy_x => k_mem); (case a0_x => omega); (case a1_x => omega); (case b0_x => omega); (case b1_x => omega); (case c0_x => omega); (case c1_x => omega); (case d0_x => omega); (case d1_x => omega); k_whole; intro D' t0' t1' t2' t3' h' tk' F' N' l1; (try k_lt l1); (try k_sweep); (try dsimp only)))
  k_with "x call ref" => (k_here; k_dflt (refine' Con.use (squares_c _ _ _ _ _ _ _ _ _ _ _ ?hx_x ?a0_x ?a1_x ?b0_x ?b1_x ?c0_x ?c1_x ?d0_x ?d1_x) ?k1_x ?k2_x ?k3_x ?k4_x ?k5_x ?k6_x ?kd_x ?ku_x ?_; walk_at "c use"; (case hx_x => k_mem); (case a0_x => omega); (case a1_x => omega); (case b0_x => omega); (case b1_x => omega); (case c0_x => omega); (case c1_x => omega); (case d0_x => omega); (case d1_x => omega); k_whole; intro t0' h' tk' F' N'; (try k_sweep); (try dsimp only)))
  k_with "x exec Assign cons ListComp" => (k_here; (with_reducible show wpAny _ _ (exec (Stmt.Assign _ (PySem.Expr.ListComp _ [⟨PySem.Expr.Tuple _ _ _, _, _, _⟩] _ _) _) _) _ _ _); k_dflt (refine PyProof.Rows.LCp.Assign_ListComp_P (F₀ := by k_asm) (by rfl) (by with_unfolding_all rfl) (by with_unfolding_all rfl) (by decide) (by rfl) (by decide) (by rfl) (by rfl) (by decide) (by rfl) (by rfl) ?_))
  k_with "x eval ListComp" => (k_here; k_dflt (refine ListComp_Tup (_F₀ := by k_asm) (by with_unfolding_all rfl) (by decide) (by rfl) (by decide) (by rfl) ?_))
  k_with "x TupSrc" => (k_here; k_dflt (refine TupSrc.made (by rfl) (by k_asm) (by k_asm) (by k_mem) (by first | size_fits | exact Nat.le_of_ble_eq_true rfl) ?_; intro g'; lcg_lit))
  k_with "x eval ListComp" => (k_here; (with_reducible show wpAny _ _ (eval (PySem.Expr.ListComp _ [⟨PySem.Expr.Tuple _ _ _, _, [_], _⟩] _ _) _) _ _ _); k_dflt (refine ListComp_PF (_F₀ := by k_asm) (by with_unfolding_all rfl) (by decide) (by rfl) (by decide) (by rfl) (by rfl) (by decide) ?_))
  k_with "x eval ListComp" => (k_here; (with_reducible show wpAny _ _ (eval (PySem.Expr.ListComp _ [⟨PySem.Expr.Tuple _ _ _, _, [], _⟩] _ _) _) _ _ _); k_dflt (refine PyProof.Rows.LCp.ListComp_P (F₀ := by k_asm) (by with_unfolding_all rfl) (by decide) (by rfl) (by decide) (by rfl) (by rfl) (by decide) ?_))
  k_with "x eval Name" => (k_here; (with_reducible show wpAny _ _ (eval (PySem.Expr.Name _ _) (compEnvC _ _ _ _)) _ _ _); k_dflt (refine ldVarK (by assumption) (by assumption) ?_ (by rfl) (by rfl) (by decide)))
  trivial
set_option maxRecDepth 100000 in
set_option maxHeartbeats 8000000 in
theorem st10b (w : World) (L aB D1 D2 D3 D4 ab a1 a2 a3 : Addr) (o1 o2 o3 : Obj) (x0 x1 x2 x3 y0 y1 y2 y3 z0 z1 z2 z3 : Int) (t0 t1 t2 t3 u0 u1 u2 u3 v0 v1 v2 v3 : Tok) (b0 b1 b2 b3 : Int) (r0 r1 r2 r3 : Tok) (ta0 tb0 ta1 tb1 ta2 tb2 ta3 tb3 : Tok) (ps1 ps2 : Array Value)
    (c1 : o1.data = .cell (some (.ref a1))) (c2 : o2.data = .cell (some (.ref a2))) :
    LSt w (lawIn 1) L [(aB, LCg.lst [.ref D1, .ref D2, .ref D3, .ref D4]), (D1, T2 x0 0 ta0 tb0), (D2, T2 x1 0 ta1 tb1), (D3, T2 x2 0 ta2 tb2), (D4, T2 x3 0 ta3 tb3), (ab, T4 b0 b1 b2 b3 r0 r1 r2 r3), (a1, T4 x0 x1 x2 x3 t0 t1 t2 t3), (a2, T4 y0 y1 y2 y3 u0 u1 u2 u3), (a3, T4 z0 z1 z2 z3 v0 v1 v2 v3), (L + 3, o3), (L + 2, o2), (L + 1, o1), (51, tabObj ps2), (44, tabObj ps1)]
      (fun m => m (Str.ofString "third") = some (.ref a3) ∧ m (Str.ofString "both") = some (.ref ab) ∧ m (Str.ofString "back") = some (.ref aB))
      (fun h₀ m s Q => ∀ (h' : Heap) (tk' : Nat), Fr h₀ L h' m → News h₀ L h' [(aB, LCg.lst [.ref D1, .ref D2, .ref D3, .ref D4]), (D1, T2 x0 0 ta0 tb0), (D2, T2 x1 0 ta1 tb1), (D3, T2 x2 0 ta2 tb2), (D4, T2 x3 0 ta3 tb3), (ab, T4 b0 b1 b2 b3 r0 r1 r2 r3), (a1, T4 x0 x1 x2 x3 t0 t1 t2 t3), (a2, T4 y0 y1 y2 y3 u0 u1 u2 u3), (a3, T4 z0 z1 z2 z3 v0 v1 v2 v3), (L + 3, o3), (L + 2, o2), (L + 1, o1), (51, tabObj ps2), (44, tabObj ps1)] → Q .next { s with heap := h', toks := tk' }) := by
  refine LSt.mk ?_; k_fill
  intro loose mean mg mb dp un gd outer A₀ base h₀ fa cd m s Q E B F X N T hd hu C1 C2 hm hret
  have hsc : lawSc = lawSc := rfl
  conv at hsc => rhs; whnf
  have hst : lawIn 1 = lawIn 1 := rfl
  conv at hst => rhs; whnf
  rw [hst, hsc]
  clear hst hsc
  obtain ⟨hm3, hmb, hmk⟩ := hm
  w_top off
  k_steps
  refine' ⟨_, _, _, _, rfl, rfl, ?sF_x, ?sN_x, ?sm_x, ?st_x, ?sf_x⟩
  (case sF_x => k_asm); (case sN_x => k_asm); (case sm_x => k_mem)
  (case st_x =>
    intro i v hv
    rcases i with _ | _ | _ | _ | i
    · obtain rfl := Option.some.inj hv
      refine ⟨D1, _, _, _, _, rfl, by k_mem, rfl, rfl, ?_⟩
      intro C g tk m₂ E' hn h1 h2
      k_steps
    · obtain rfl := Option.some.inj hv
      refine ⟨D2, _, _, _, _, rfl, by k_mem, rfl, rfl, ?_⟩
      intro C g tk m₂ E' hn h1 h2
      k_steps
    · obtain rfl := Option.some.inj hv
      refine ⟨D3, _, _, _, _, rfl, by k_mem, rfl, rfl, ?_⟩
      intro C g tk m₂ E' hn h1 h2
      k_steps
    · obtain rfl := Option.some.inj hv
      refine ⟨D4, _, _, _, _, rfl, by k_mem, rfl, rfl, ?_⟩
      intro C g tk m₂ E' hn h1 h2
      k_steps
    · simp at hv)
  intro D' g' tk' F' N' off'
  w_top off
  k_steps
  all_goals exact hret _ _ (by k_asm) (cb_drop (by k_asm) (by walk_at "c all"))
end
section
theorem kw13 : True := by
  k_with_none
  k_with "x c sub" => (intro p hp; repeat (first | exact hp | refine List.mem_cons_of_mem _ ?_))
  k_with "x binaryOp Add ref ref" => (k_here; k_dflt (refine' kde_addT ?k1_x ?k2_x ?k3_x ?k4_x ?k5_x ?k6_x ?k7_x ?k8_x ?_; (case k1_x => k_asm); (case k2_x => k_asm); (case k3_x => kun_tup); (case k4_x => kun_tup); (case k5_x => exact List.cons_ne_nil _ _); (case k6_x => exact List.cons_ne_nil _ _); (case k7_x => exact Nat.le_of_ble_eq_true rfl); (case k8_x => kun_lit); k_whole); intro D' h' F' N' l1; (try k_lt l1); (try k_sweep))
  k_with "x subscriptTail Name Slice ref ref" => (k_here; (with_reducible show wpAny _ _ (subscriptTail _ (PySem.Expr.Slice none _ none _) (Value.ref _) (Value.ref _)) _ _ _); k_dflt (refine' slice5 ?F_x ?N_x ?t_x ?_ ?s_x ?g_x; (case F_x => k_asm); (case N_x => k_asm); (case t_x => kun_tup); (case s_x => with_unfolding_all rfl); (case g_x => intro _; with_unfolding_all rfl); k_whole); intro D' h' F' N' l1; (try k_lt l1); (try k_sweep))
  k_with "x c enter" => (refine' code_def ?k1_x ?k2_x ?k3_x ?k4_x ?k5_x ?kA_x ?kF_x ?kK_x ?k6_x ?k7_x ?k8_x ?k9_x ?kB_x ?_ ?c2_x ?c3_x ?c4_x ?c5_x; (case kA_x => exact rfl); (case kF_x => exact rfl); (case kK_x => first | exact rfl | assumption); (case k1_x => k_asm); (case k2_x => k_asm); (case k3_x => k_asm); (case k4_x => k_asm); (case k5_x => k_asm); (case k6_x => k_is); (case k7_x => k_is); (case k8_x => ktr_room); (case k9_x => exact BindsTo.of_eq rfl); (case c5_x => decide); (case kB_x => exact locs rfl); (case c2_x => exact rfl); (case c3_x => exact rfl); (case c4_x => exact rfl); k_whole; intro g' L' h' FG' F' N' B' X' T'; (try dsimp only); (try k_lift B'); (try k_fold))
  k_with "x c enterC" => (refine' code_defC ?k1_x ?k2_x ?k3_x ?k4_x ?k5_x ?kA_x ?kF_x ?kK_x ?k6_x ?k7_x ?k8_x ?k9_x ?kB_x ?kD_x ?_ ?c2_x ?c3_x ?c4_x; (case kA_x => exact rfl); (case kF_x => exact rfl); (case kK_x => first | exact rfl | assumption); (case k1_x => k_asm); (case k2_x => k_asm); (case k3_x => k_asm); (case k4_x => k_asm); (case k5_x => k_asm); (case k6_x => k_is); (case k7_x => k_is); (case k8_x => ktr_room); (case k9_x => exact BindsTo.of_eq rfl); (case kB_x => exact rfl); (case kD_x => decide +kernel); (case c2_x => exact rfl); (case c3_x => exact rfl); (case c4_x => exact rfl); k_whole; intro g' L' h' tk' cells' FG' F' N' Y' B' X' T' l1; (try k_lt l1); k_cells Y'; (try simp only [List.cons_append, List.nil_append] at N'); (try dsimp only); (try k_lift B'); (try k_fold))
  k_with "x CompEnd" => (k_here; (refine LCg.CompEnd.intro (by assumption) (by assumption) _ (fun _ h => h) (by first | assumption | (simp only [LCg.Off3, and_true]; assumption)) (by lcg_src) ?_))
  k_with "x exec For Tuple Call cons nil" => (k_here; (rename Fr _ _ _ _ => lF'); (rename News _ _ _ _ => lN'); with_unfolding_all ((refine' For_turns lF' ?_); k_whole; (refine MethodCall_ ?_); (refine ld lF' (by rfl) ?_); (refine getMethod_tab (knd := PySem.strKind _ _) (enc := PyData.str) PySem.F.slot_dict_items PySem.F.type_dict_items (by k_tabat) ?_); (refine callWith_method0 ?_); (refine call_items_tab (knd := PySem.strKind _ _) (enc := PyData.str) (by k_tabat) lF' lN' ?_); intro h' o' hv' F' N'; (replace N' := kti_tail N'); (refine kti_items (knd := PySem.strKind _ _) (enc := PyData.str) (xs := []) (by rfl) F' N' hv' (by k_tabat) (by k_mem) (fun _ _ h => Value.isStrOf_shape h) (by rfl) ?_)); clear lF' lN'; intro i' l1; (try k_lt l1))
  k_with "x c lt" => first | assumption | (refine ktn_ltOf ?_; first | assumption | (apply And.right; assumption) | ((iterate 2 apply And.right); assumption) | ((iterate 3 apply And.right); assumption) | ((iterate 4 apply And.right); assumption) | ((iterate 5 apply And.right); assumption) | ((iterate 6 apply And.right); assumption) | ((iterate 7 apply And.right); assumption) | ((iterate 8 apply And.right); assumption) | ((iterate 9 apply And.right); assumption) | ((iterate 10 apply And.right); assumption) | ((iterate 11 apply And.right); assumption) | ((iterate 12 apply And.right); assumption) | ((iterate 13 apply And.right); assumption) | ((iterate 14 apply And.right); assumption))
  k_with "x c use" => ((case k1_x => k_asm); (case k2_x => k_asm); (case k3_x => k_asm); (case k4_x => k_asm); (case k5_x => k_asm); (case k6_x => first | exact rfl | assumption); (case kd_x => ktr_room); (case ku_x => ktr_units))
  k_with "x call ref" => (k_here; k_dflt (refine' Con.use (turned_c _ _ _ _ _ _ _ _ _ _ _ ?hx_x) ?k1_x ?k2_x ?k3_x ?k4_x ?k5_x ?k6_x ?kd_x ?ku_x ?_; walk_at "c use"; (case hx_x => k_mem); k_whole; intro D' t0' t1' t2' t3' h' tk' F' N' l1; (try k_lt l1); (try k_sweep); (try dsimp only)))
  k_with "x call ref" => (k_here; k_dflt (refine' Con.use (sum_c _ _ _ _ _ _ _ _ _ _ _ _ _ _ _ _ _ _ _ _ ?hx_x ?hy_x) ?k1_x ?k2_x ?k3_x ?k4_x ?k5_x ?k6_x ?kd_x ?ku_x ?_; walk_at "c use"; (case hx_x => k_mem); (case hy_x => k_mem); k_whole; intro D' t0' t1' t2' t3' h' tk' F' N' l1; (try k_lt l1); (try k_sweep); (try dsimp only)))
  k_with "x call ref" => (k_here; k_dflt (refine' Con.use (scaled_c _ _ _ _ _ _ _ _ _ _ _ _ _ ?hx_x ?b0_x ?b1_x) ?k1_x ?k2_x ?k3_x ?k4_x ?k5_x ?k6_x ?kd_x ?ku_x ?_; walk_at "c use"; (case hx_x => k_mem); (case b0_x => omega); (case b1_x => omega); k_whole; intro D' t0' t1' t2' t3' h' tk' F' N' l1; (try k_lt l1); (try k_sweep); (try dsimp only)))
  k_with "x c m" => first | exact if_pos rfl | (refine (if_neg (by decide)).trans ?_; assumption)
  k_with "x c all" => (repeat (first | exact List.forall_mem_nil _ | refine List.forall_mem_cons.mpr ⟨by k_mem, ?_⟩))
  k_with "x eval Name" => (k_here; k_dflt (refine' nameX_L ?F_x ?v_x ?_ ?a_x ?b_x; (case F_x => k_asm); (case a_x => rfl); (case b_x => rfl); (case v_x => assumption); k_whole))
  k_with "x call ref" => (k_here; k_dflt (refine' Con.use (times_c _ _ _ _ _ _ _ _ _ _ _ _ _ _ _ _ _ _ _ _ ?hx_x ?hy_x ?a0_x ?a1_x ?b0_x ?b1_x ?c0_x ?c1_x ?d0_x ?d1_x) ?k1_x ?k2_x ?k3_x ?k4_x ?k5_x ?k6_x ?kd_x ?ku_x ?_; walk_at "c use"; (case hx_x => k_mem); (case hy_x => k_mem); (case a0_x => omega); (case a1_x => omega); (case b0_x => omega); (case b1_x => omega); (case c0_x => omega); (case c1_x => omega); (case d0_x => omega); (case d1_x => omega); k_whole; intro D' t0' t1' t2' t3' h' tk' F' N' l1; (try k_lt l1); (try k_sweep); (try dsimp only)))
  k_with "x call ref" => (k_here; k_dflt (refine' Con.use (squares_c _ _ _ _ _ _ _ _ _ _ _ ?hx_x ?a0_x ?a1_x ?b0_x ?b1_x ?c0_x ?c1_x ?d0_x ?d1_x) ?k1_x ?k2_x ?k3_x ?k4_x ?k5_x ?k6_x ?kd_x ?ku_x ?_; walk_at "c use"; (case hx_x => k_mem); (case a0_x => omega); (case a1_x => omega); (case b0_x => omega); (case b1_x => omega); (case c0_x => omega); (case c1_x => omega); (case d0_x => omega); (case d1_x => omega); k_whole; intro t0' h' tk' F' N'; (try k_sweep); (try dsimp only)))
  k_with "x exec Assign cons ListComp" => (k_here; (with_reducible show wpAny _ _ (exec (Stmt.Assign _ (PySem.Expr.ListComp _ [⟨PySem.Expr.Tuple _ _ _, _, _, _⟩] _ _) _) _) _ _ _); k_dflt (refine PyProof.Rows.LCp.Assign_ListComp_P (F₀ := by k_asm) (by rfl) (by with_unfolding_all rfl) (by with_unfolding_all rfl) (by decide) (by rfl) (by decide) (by rfl) (by rfl) (by decide) (by rfl) (by rfl) ?_))
  k_with "x eval ListComp" => (k_here; k_dflt (refine ListComp_Tup (_F₀ := by k_asm) (by with_unfolding_all rfl) (by decide) (by rfl) (by decide) (by rfl) ?_))
  k_with "x TupSrc" => (k_here; k_dflt (refine TupSrc.made (by rfl) (by k_asm) (by k_asm) (by k_mem) (by first | size_fits | exact Nat.le_of_ble_eq_true rfl) ?_; intro g'; lcg_lit))
  k_with "x c useL" => ((case k1_x => k_asm); (case k2_x => k_asm); (case k3_x => k_asm); (case k4_x => first | k_asm | exact cb_drop (by k_asm) (by walk_at "c all")); (case k5_x => k_asm); (case e1_x => assumption); (case e2_x => assumption); (case C1_x => assumption); (case C2_x => assumption))
  k_with "x exec Assign cons ListComp" => (k_here; (rename (1 ≤ _ → LSt _ (lawIn 0) _ _ _ _) => hA'); k_dflt (refine' LSt.use (hA' ?g0_x) ?k1_x ?k2_x ?k3_x ?k4_x ?k5_x ?e1_x ?e2_x ?C1_x ?C2_x ?hp_x ?_; walk_at "c useL"; (case g0_x => exact sq_pos (by assumption)); (case hp_x => exact ⟨by assumption, by assumption⟩)); intro aB' D1' D2' D3' D4' ta0' tb0' ta1' tb1' ta2' tb2' ta3' tb3' ps1' ps2' m' h' tk' F' hm1' hm2' hm3' N'; (try dsimp only))
  k_with "x exec If" => (k_here; (rename (∀ (aB D1 D2 D3 D4 : Addr) (ta0 tb0 ta1 tb1 ta2 tb2 ta3 tb3 : Tok) (ps1 ps2 : Array Value), LSt _ (lawIn 1) _ _ _ _) => hB'); k_dflt (refine' LSt.use (hB' _ _ _ _ _ _ _ _ _ _ _ _ _ _ _) ?k1_x ?k2_x ?k3_x ?k4_x ?k5_x ?e1_x ?e2_x ?C1_x ?C2_x ?hp_x ?_; walk_at "c useL"; (case hp_x => exact ⟨by assumption, by assumption, by assumption⟩)); intro h' tk' F' N'; (try dsimp only))
  k_with "x c drops" => (repeat (first | exact List.forall_mem_nil _ | refine List.forall_mem_cons.mpr ⟨by k_mem, ?_⟩))
  trivial
set_option maxRecDepth 100000 in
set_option maxHeartbeats 8000000 in
theorem st10 (w : World) (L ab a1 a2 a3 : Addr) (o1 o2 o3 : Obj) (x0 x1 x2 x3 y0 y1 y2 y3 z0 z1 z2 z3 : Int) (t0 t1 t2 t3 u0 u1 u2 u3 v0 v1 v2 v3 : Tok) (b0 b1 b2 b3 : Int) (r0 r1 r2 r3 : Tok)
    (c1 : o1.data = .cell (some (.ref a1))) (c2 : o2.data = .cell (some (.ref a2)))
    (p0 : -3 ≤ x0) (p1 : x0 ≤ 3) (p2 : -3 ≤ x1) (p3 : x1 ≤ 3) (p4 : -3 ≤ x2) (p5 : x2 ≤ 3) (p6 : -3 ≤ x3) (p7 : x3 ≤ 3) (q0 : -3 ≤ y0) (q1 : y0 ≤ 3) (q2 : -3 ≤ y1) (q3 : y1 ≤ 3) (q4 : -3 ≤ y2) (q5 : y2 ≤ 3) (q6 : -3 ≤ y3) (q7 : y3 ≤ 3) (h0 : -36 ≤ b0) (h1 : b0 ≤ 36) (h2 : -36 ≤ b1) (h3 : b1 ≤ 36) (h4 : -36 ≤ b2) (h5 : b2 ≤ 36) (h6 : -36 ≤ b3) (h7 : b3 ≤ 36)
    (hL : @LT.lt Nat _ 51 L) (ha1 : @LT.lt Nat _ (L + 3) a1) (ha2 : @LT.lt Nat _ (L + 3) a2) (ha3 : @LT.lt Nat _ (L + 3) a3) (hab : @LT.lt Nat _ (L + 3) ab)
    (g1 : sq4 y0 y1 y2 y3 ≤ 36) (f0 : qm0 b0 b1 b2 b3 y0 (0 - y1) (0 - y2) (0 - y3) = x0 * sq4 y0 y1 y2 y3) (f1 : qm1 b0 b1 b2 b3 y0 (0 - y1) (0 - y2) (0 - y3) = x1 * sq4 y0 y1 y2 y3) (f2 : qm2 b0 b1 b2 b3 y0 (0 - y1) (0 - y2) (0 - y3) = x2 * sq4 y0 y1 y2 y3) (f3 : qm3 b0 b1 b2 b3 y0 (0 - y1) (0 - y2) (0 - y3) = x3 * sq4 y0 y1 y2 y3) :
    LSt w (lawSt 10) L [(ab, T4 b0 b1 b2 b3 r0 r1 r2 r3), (a1, T4 x0 x1 x2 x3 t0 t1 t2 t3), (a2, T4 y0 y1 y2 y3 u0 u1 u2 u3), (a3, T4 z0 z1 z2 z3 v0 v1 v2 v3), (L + 3, o3), (L + 2, o2), (L + 1, o1), (51, tabObj #[]), (44, tabObj #[])]
      (fun m => m (Str.ofString "third") = some (.ref a3) ∧ m (Str.ofString "both") = some (.ref ab))
      (fun h₀ m s Q => ∀ (ps1 ps2 : Array Value) (m' : Str → Option Value) (h' : Heap) (tk' : Nat), Fr h₀ L h' m' → m' (Str.ofString "third") = some (.ref a3) → m' (Str.ofString "both") = some (.ref ab) → News h₀ L h' [(ab, T4 b0 b1 b2 b3 r0 r1 r2 r3), (a1, T4 x0 x1 x2 x3 t0 t1 t2 t3), (a2, T4 y0 y1 y2 y3 u0 u1 u2 u3), (a3, T4 z0 z1 z2 z3 v0 v1 v2 v3), (L + 3, o3), (L + 2, o2), (L + 1, o1), (51, tabObj ps2), (44, tabObj ps1)] → Q .next { s with heap := h', toks := tk' }) := by
  refine LSt.mk ?_; k_fill
  intro loose mean mg mb dp un gd outer A₀ base h₀ fa cd m s Q E B F X N T hd hu C1 C2 hm hret
  have hsc : lawSc = lawSc := rfl
  conv at hsc => rhs; whnf
  have hst : lawSt 10 = lawSt 10 := rfl
  conv at hst => rhs; whnf
  rw [hst, hsc]
  clear hst hsc
  obtain ⟨hm3, hmb⟩ := hm
  have hA := fun (g0 : 1 ≤ sq4 y0 y1 y2 y3) => st10a w L ab a1 a2 a3 o1 o2 o3 x0 x1 x2 x3 y0 y1 y2 y3 z0 z1 z2 z3 t0 t1 t2 t3 u0 u1 u2 u3 v0 v1 v2 v3 b0 b1 b2 b3 r0 r1 r2 r3 c1 c2 p0 p1 p2 p3 p4 p5 p6 p7 q0 q1 q2 q3 q4 q5 q6 q7 h0 h1 h2 h3 h4 h5 h6 h7 hL ha1 ha2 ha3 hab g0 g1 f0 f1 f2 f3
  have hB := fun (aB D1 D2 D3 D4 : Addr) (ta0 tb0 ta1 tb1 ta2 tb2 ta3 tb3 : Tok) (ps1 ps2 : Array Value) => st10b w L aB D1 D2 D3 D4 ab a1 a2 a3 o1 o2 o3 x0 x1 x2 x3 y0 y1 y2 y3 z0 z1 z2 z3 t0 t1 t2 t3 u0 u1 u2 u3 v0 v1 v2 v3 b0 b1 b2 b3 r0 r1 r2 r3 ta0 tb0 ta1 tb1 ta2 tb2 ta3 tb3 ps1 ps2 c1 c2
  clear p0 p1 p2 p3 p4 p5 p6 p7 q0 q1 q2 q3 q4 q5 q6 q7 h0 h1 h2 h3 h4 h5 h6 h7 g1 f0 f1 f2 f3
  w_top off
  k_steps
  all_goals exact hret _ _ _ _ _ (by k_asm) (by assumption) (by assumption) (cb_drop (by k_asm) (by walk_at "c all"))
end
end
section
section
def law12 : PySem.Expr × Scope := match lawSt 12 with
  | .If (.BoolOp _ (.Compare (.ListComp e _ sc _) _ _ _ :: _) _) _ _ _ => (e, sc)
  | _ => (.Name (Str.ofString "") default, default)
theorem turn12_end {h₀ h' : Heap} {L I C D D' : Addr} {oI oC oD o : Obj} {m : Str → Option Value} {s : Shared} {S : List (Addr × Obj) → Prop} {rest : Value → List (Addr × Obj) → Prop} {nw : List (Addr × Obj)} {tk : Nat}
    (F : Fr h₀ L h' m) (N : News h₀ L h' ((D', o) :: (I, oI) :: (C, oC) :: (D, oD) :: nw)) (off : LCg.Off3 I C D nw) (hl : ∀ p ∈ (I, oI) :: (C, oC) :: (D, oD) :: nw, p.1 < D') (hS : S ((D', o) :: nw)) (hr : rest (.ref D') ((D', o) :: nw)) :
    LCg.CompEnd h₀ L m s I oI C oC D oD S rest (.ref D') { s with heap := h', toks := tk } := by
  refine ⟨h', tk, _, rfl, F, ?_, LCg.Off3.of fun p hp => ?_, hS, hr⟩
  · intro p hp
    refine N p ?_
    rcases List.mem_cons.mp hp with rfl | hp
    · exact .tail _ (.head _)
    rcases List.mem_cons.mp hp with rfl | hp
    · exact .tail _ (.tail _ (.head _))
    rcases List.mem_cons.mp hp with rfl | hp
    · exact .tail _ (.tail _ (.tail _ (.head _)))
    rcases List.mem_cons.mp hp with rfl | hp
    · exact .head _
    · exact .tail _ (.tail _ (.tail _ (.tail _ hp)))
  · rcases List.mem_cons.mp hp with rfl | hp
    · exact ⟨Nat.ne_of_gt (hl _ (.head _)), Nat.ne_of_gt (hl _ (.tail _ (.head _))), Nat.ne_of_gt (hl _ (.tail _ (.tail _ (.head _))))⟩
    · exact off.mem p hp

theorem list_at {prog : Program} {w : World} {A : Around} {E : Value → Shared → Prop} {s : Shared} {h₀ : Heap} {L : Addr} {led : List (Addr × Obj)} {value slice : PySem.Expr} {l : Addr} {its : Array Value} {n : Nat} {k : Int} {u : Tok} {v : Value} {Q : Value → Shared → Prop} (N : News h₀ L s.heap led) (hm : (l, ({ cls := .type "list", data := .seq its n } : Obj)) ∈ led) (h0 : 0 ≤ k) (hfit : k < 2 ^ 63) (hx : its[k.toNat]? = some v) (h : Q v s)
    (hs : subscripted slice false (.ref l) (.int k u) = operate [.ref l, .int k u] (getItem (.ref l) (.int k u)) := by with_unfolding_all rfl) :
    wpAny (model prog w) A (subscriptTail value slice (.ref l) (.int k u)) Q E s :=
  have hl : s.heap.IsList l its := ⟨_, (N _ hm).1, rfl, n, rfl⟩
  tail_any hl.typeIs slot_list_getitem.lookup (wpAny_getItem_list hl h0 hfit hx h) hs

theorem kw14 : True := by
  k_with_none
  k_with "x c sub" => (intro p hp; repeat (first | exact hp | refine List.mem_cons_of_mem _ ?_))
  k_with "x binaryOp Add ref ref" => (k_here; k_dflt (refine' kde_addT ?k1_x ?k2_x ?k3_x ?k4_x ?k5_x ?k6_x ?k7_x ?k8_x ?_; (case k1_x => k_asm); (case k2_x => k_asm); (case k3_x => kun_tup); (case k4_x => kun_tup); (case k5_x => exact List.cons_ne_nil _ _); (case k6_x => exact List.cons_ne_nil _ _); (case k7_x => exact Nat.le_of_ble_eq_true rfl); (case k8_x => kun_lit); k_whole); intro D' h' F' N' l1; (try k_lt l1); (try k_sweep))
  k_with "x subscriptTail Name Slice ref ref" => (k_here; (with_reducible show wpAny _ _ (subscriptTail _ (PySem.Expr.Slice none _ none _) (Value.ref _) (Value.ref _)) _ _ _); k_dflt (refine' slice5 ?F_x ?N_x ?t_x ?_ ?s_x ?g_x; (case F_x => k_asm); (case N_x => k_asm); (case t_x => kun_tup); (case s_x => with_unfolding_all rfl); (case g_x => intro _; with_unfolding_all rfl); k_whole); intro D' h' F' N' l1; (try k_lt l1); (try k_sweep))
  k_with "x c enter" => (refine' code_def ?k1_x ?k2_x ?k3_x ?k4_x ?k5_x ?kA_x ?kF_x ?kK_x ?k6_x ?k7_x ?k8_x ?k9_x ?kB_x ?_ ?c2_x ?c3_x ?c4_x ?c5_x; (case kA_x => exact rfl); (case kF_x => exact rfl); (case kK_x => first | exact rfl | assumption); (case k1_x => k_asm); (case k2_x => k_asm); (case k3_x => k_asm); (case k4_x => k_asm); (case k5_x => k_asm); (case k6_x => k_is); (case k7_x => k_is); (case k8_x => ktr_room); (case k9_x => exact BindsTo.of_eq rfl); (case c5_x => decide); (case kB_x => exact locs rfl); (case c2_x => exact rfl); (case c3_x => exact rfl); (case c4_x => exact rfl); k_whole; intro g' L' h' FG' F' N' B' X' T'; (try dsimp only); (try k_lift B'); (try k_fold))
  k_with "x c enterC" => (refine' code_defC ?k1_x ?k2_x ?k3_x ?k4_x ?k5_x ?kA_x ?kF_x ?kK_x ?k6_x ?k7_x ?k8_x ?k9_x ?kB_x ?kD_x ?_ ?c2_x ?c3_x ?c4_x; (case kA_x => exact rfl); (case kF_x => exact rfl); (case kK_x => first | exact rfl | assumption); (case k1_x => k_asm); (case k2_x => k_asm); (case k3_x => k_asm); (case k4_x => k_asm); (case k5_x => k_asm); (case k6_x => k_is); (case k7_x => k_is); (case k8_x => ktr_room); (case k9_x => exact BindsTo.of_eq rfl); (case kB_x => exact rfl); (case kD_x => decide +kernel); (case c2_x => exact rfl); (case c3_x => exact rfl); (case c4_x => exact rfl); k_whole; intro g' L' h' tk' cells' FG' F' N' Y' B' X' T' l1; (try k_lt l1); k_cells Y'; (try simp only [List.cons_append, List.nil_append] at N'); (try dsimp only); (try k_lift B'); (try k_fold))
  k_with "x CompEnd" => (k_here; (refine LCg.CompEnd.intro (by assumption) (by assumption) _ (fun _ h => h) (by first | assumption | (simp only [LCg.Off3, and_true]; assumption)) (by lcg_src) ?_))
  k_with "x exec For Tuple Call cons nil" => (k_here; (rename Fr _ _ _ _ => lF'); (rename News _ _ _ _ => lN'); with_unfolding_all ((refine' For_turns lF' ?_); k_whole; (refine MethodCall_ ?_); (refine ld lF' (by rfl) ?_); (refine getMethod_tab (knd := PySem.strKind _ _) (enc := PyData.str) PySem.F.slot_dict_items PySem.F.type_dict_items (by k_tabat) ?_); (refine callWith_method0 ?_); (refine call_items_tab (knd := PySem.strKind _ _) (enc := PyData.str) (by k_tabat) lF' lN' ?_); intro h' o' hv' F' N'; (replace N' := kti_tail N'); (refine kti_items (knd := PySem.strKind _ _) (enc := PyData.str) (xs := []) (by rfl) F' N' hv' (by k_tabat) (by k_mem) (fun _ _ h => Value.isStrOf_shape h) (by rfl) ?_)); clear lF' lN'; intro i' l1; (try k_lt l1))
  k_with "x c lt" => first | assumption | (refine ktn_ltOf ?_; first | assumption | (apply And.right; assumption) | ((iterate 2 apply And.right); assumption) | ((iterate 3 apply And.right); assumption) | ((iterate 4 apply And.right); assumption) | ((iterate 5 apply And.right); assumption) | ((iterate 6 apply And.right); assumption) | ((iterate 7 apply And.right); assumption) | ((iterate 8 apply And.right); assumption) | ((iterate 9 apply And.right); assumption) | ((iterate 10 apply And.right); assumption) | ((iterate 11 apply And.right); assumption) | ((iterate 12 apply And.right); assumption) | ((iterate 13 apply And.right); assumption) | ((iterate 14 apply And.right); assumption))
  k_with "x c use" => ((case k1_x => k_asm); (case k2_x => k_asm); (case k3_x => k_asm); (case k4_x => k_asm); (case k5_x => k_asm); (case k6_x => first | exact rfl | assumption); (case kd_x => ktr_room); (case ku_x => ktr_units))
  k_with "x call ref" => (k_here; k_dflt (refine' Con.use (turned_c _ _ _ _ _ _ _ _ _ _ _ ?hx_x) ?k1_x ?k2_x ?k3_x ?k4_x ?k5_x ?k6_x ?kd_x ?ku_x ?_; walk_at "c use"; (case hx_x => k_mem); k_whole; intro D' t0' t1' t2' t3' h' tk' F' N' l1; (try k_lt l1); (try k_sweep); (try dsimp only)))
  k_with "x call ref" => (k_here; k_dflt (refine' Con.use (sum_c _ _ _ _ _ _ _ _ _ _ _ _ _ _ _ _ _ _ _ _ ?hx_x ?hy_x) ?k1_x ?k2_x ?k3_x ?k4_x ?k5_x ?k6_x ?kd_x ?ku_x ?_; walk_at "c use"; (case hx_x => k_mem); (case hy_x => k_mem); k_whole; intro D' t0' t1' t2' t3' h' tk' F' N' l1; (try k_lt l1); (try k_sweep); (try dsimp only)))
  k_with "x call ref" => (k_here; k_dflt (refine' Con.use (scaled_c _ _ _ _ _ _ _ _ _ _ _ _ _ ?hx_x ?b0_x ?b1_x) ?k1_x ?k2_x ?k3_x ?k4_x ?k5_x ?k6_x ?kd_x ?ku_x ?_; walk_at "c use"; (case hx_x => k_mem); (case b0_x => omega); (case b1_x => omega); k_whole; intro D' t0' t1' t2' t3' h' tk' F' N' l1; (try k_lt l1); (try k_sweep); (try dsimp only)))
  k_with "x c m" => first | exact if_pos rfl | (refine (if_neg (by decide)).trans ?_; assumption)
  k_with "x c all" => (repeat (first | exact List.forall_mem_nil _ | refine List.forall_mem_cons.mpr ⟨by k_mem, ?_⟩))
  k_with "x eval Name" => (k_here; k_dflt (refine' nameX_L ?F_x ?v_x ?_ ?a_x ?b_x; (case F_x => k_asm); (case a_x => rfl); (case b_x => rfl); (case v_x => assumption); k_whole))
  k_with "x call ref" => (k_here; k_dflt (refine' Con.use (times_c _ _ _ _ _ _ _ _ _ _ _ _ _ _ _ _ _ _ _ _ ?hx_x ?hy_x ?a0_x ?a1_x ?b0_x ?b1_x ?c0_x ?c1_x ?d0_x ?d1_x) ?k1_x ?k2_x ?k3_x ?k4_x ?k5_x ?k6_x ?kd_x ?ku_x ?_; walk_at "c use"; (case hx_x => k_mem); (case hy_x => k_mem); (case a0_x => omega); (case a1_x => omega); (case b0_x => omega); (case b1_x => omega); (case c0_x => omega); (case c1_x => omega); (case d0_x => omega); (case d1_x => omega); k_whole; intro D' t0' t1' t2' t3' h' tk' F' N' l1; (try k_lt l1); (try k_sweep); (try dsimp only)))
  k_with "x call ref" => (k_here; k_dflt (refine' Con.use (squares_c _ _ _ _ _ _ _ _ _ _ _ ?hx_x ?a0_x ?a1_x ?b0_x ?b1_x ?c0_x ?c1_x ?d0_x ?d1_x) ?k1_x ?k2_x ?k3_x ?k4_x ?k5_x ?k6_x ?kd_x ?ku_x ?_; walk_at "c use"; (case hx_x => k_mem); (case a0_x => omega); (case a1_x => omega); (case b0_x => omega); (case b1_x => omega); (case c0_x => omega); (case c1_x => omega); (case d0_x => omega); (case d1_x => omega); k_whole; intro t0' h' tk' F' N'; (try k_sweep); (try dsimp only)))
  k_with "x exec Assign cons ListComp" => (k_here; (with_reducible show wpAny _ _ (exec (Stmt.Assign _ (PySem.Expr.ListComp _ [⟨PySem.Expr.Tuple _ _ _, _, _, _⟩] _ _) _) _) _ _ _); k_dflt (refine PyProof.Rows.LCp.Assign_ListComp_P (F₀ := by k_asm) (by rfl) (by with_unfolding_all rfl) (by with_unfolding_all rfl) (by decide) (by rfl) (by decide) (by rfl) (by rfl) (by decide) (by rfl) (by rfl) ?_))
  k_with "x TupSrc" => (k_here; k_dflt (refine TupSrc.made (by rfl) (by k_asm) (by k_asm) (by k_mem) (by first | size_fits | exact Nat.le_of_ble_eq_true rfl) ?_; intro g'; lcg_lit))
  k_with "x call ref" => (k_here; k_dflt (refine' Con.use (times_c _ _ _ _ _ _ _ _ _ _ _ _ _ _ _ _ _ _ _ _ ?hx_x ?hy_x ?a0_x ?a1_x ?b0_x ?b1_x ?c0_x ?c1_x ?d0_x ?d1_x) ?k1_x ?k2_x ?k3_x ?k4_x ?k5_x ?k6_x ?kd_x ?ku_x ?_; walk_at "c use"; (case hx_x => k_mem); (case hy_x => k_mem); (case a0_x => first | assumption | decide | omega); (case a1_x => first | assumption | decide | omega); (case b0_x => first | assumption | decide | omega); (case b1_x => first | assumption | decide | omega); (case c0_x => first | assumption | decide | omega); (case c1_x => first | assumption | decide | omega); (case d0_x => first | assumption | decide | omega); (case d1_x => first | assumption | decide | omega); k_whole; intro D' t0' t1' t2' t3' h' tk' F' N' l1; (try k_lt l1); (try k_sweep); (try dsimp only)))
  k_with "x subscriptTail" => (k_here; (with_reducible show wpAny _ _ (subscriptTail _ _ (Value.ref _) (Value.int _ _)) _ _ _); k_dflt (refine' list_at ?k1_x ?k2_x ?k3_x ?k4_x ?k5_x ?_ ?k6_x; (case k1_x => k_asm); (case k2_x => k_mem); (case k3_x => decide); (case k4_x => decide); (case k5_x => exact rfl); (case k6_x => with_unfolding_all rfl)); (try k_sweep); (try dsimp only))
  trivial
set_option maxRecDepth 100000 in
set_option maxHeartbeats 8000000 in
theorem turn12 (w : World) (loose : List Str) (mean : ExcName → Option Value) (mg mb : Str → Option Value) (dp un : Nat) (gd : Option (List Code)) (outer : List Env) (A₀ : Around) (base₀ h₀ : Heap) (L fa : Addr) (cd : Value) (m : Str → Option Value) (s : Shared) (pl n0 n1 n2 n3 n ax : Addr) (its : Array Value) (o4 : Obj) (e0 e1 e2 e3 : Int) (u0 u1 u2 u3 : Tok)
    (B : Below A₀ base₀ outer h₀) (X : (hd.heap_39 w.params).In h₀) (T : Top topProg loose mean mg mb h₀) (hdp : dp + 200 < recursionLimit) (hu : un + 4000 < cLine) (C1 : CodeHd base₀ 48 44) (C2 : CodeHd base₀ 55 51)
    (c4 : o4.data = .cell (some (.ref pl))) (q0 : -1000000 ≤ e0) (q1 : e0 ≤ 1000000) (q2 : -1000000 ≤ e1) (q3 : e1 ≤ 1000000) (q4 : -1000000 ≤ e2) (q5 : e2 ≤ 1000000) (q6 : -1000000 ≤ e3) (q7 : e3 ≤ 1000000)
    (Fin : List Value → List (Addr × Obj) → Prop) (r i : Nat) (ys : List Value) (nw : List (Addr × Obj)) (hpl : (pl, W.listOf #[.ref n0, .ref n1, .ref n2, .ref n3] 0) ∈ nw) (hn : (n, T4 e0 e1 e2 e3 u0 u1 u2 u3) ∈ nw) (ho : (L + 3, o4) ∈ nw) (hax : ∃ o, (ax, o) ∈ nw ∧ o.cls = .type "list" ∧ ∃ n, o.data = .seq its n)
    (k : Int) (v : Tok) (hk : (k = 1 ∧ n = n1) ∨ (k = 2 ∧ n = n2) ∨ (k = 3 ∧ n = n3)) (hi : its[i]? = some (.int k v))
    (next : ∀ (D' : Addr) (t0 t1 t2 t3 : Tok), (∀ p ∈ nw, p.1 < D') →
      LCg.CompRest PySem.Challenge.rw_hi0003_01.row.prog w (ktrTop dp un gd (Str.ofString "law") lawSc L fa cd (cellsFrom (L + 1) lawSc.names []) outer) h₀ L m (envOfC (Str.ofString "law") lawSc L fa cd) law12.1 (Str.ofString "k") law12.2 [(Str.ofString "plain", L + 3)] s (LCg.SrcAt h₀ ax its) (fun i v => its[i]? = some v) Fin r (i + 1) (ys ++ [.ref D']) ((D', T4 (qm0 e0 e1 e2 e3 e0 e1 e2 e3) (qm1 e0 e1 e2 e3 e0 e1 e2 e3) (qm2 e0 e1 e2 e3 e0 e1 e2 e3) (qm3 e0 e1 e2 e3 e0 e1 e2 e3) t0 t1 t2 t3) :: nw)) :
    LCg.CompRest PySem.Challenge.rw_hi0003_01.row.prog w (ktrTop dp un gd (Str.ofString "law") lawSc L fa cd (cellsFrom (L + 1) lawSc.names []) outer) h₀ L m (envOfC (Str.ofString "law") lawSc L fa cd) law12.1 (Str.ofString "k") law12.2 [(Str.ofString "plain", L + 3)] s (LCg.SrcAt h₀ ax its) (fun i v => its[i]? = some v) Fin (r + 1) i ys nw := by
  revert X; k_fill; intro X
  refine LCg.CompRest.succ fun v' I oI C oC D m₂ h tk E' hv hC hx' F N off ne => ?_
  have hv' : v' = .int k v := by rw [hi] at hv; exact (Option.some.inj hv).symm
  subst hv'
  have hl : law12 = law12 := rfl
  conv at hl => rhs; whnf
  have hsc : lawSc = lawSc := rfl
  conv at hsc => rhs; whnf
  rw [hl, hsc]
  rw [hl, hsc] at next
  clear hl hsc
  have hS : ∀ p : Addr × Obj, LCg.SrcAt h₀ ax its (p :: nw) := fun p => by obtain ⟨o, h1, h2⟩ := hax; exact .inr ⟨o, .tail _ h1, h2⟩
  clear hv hax hi ne
  rcases hk with ⟨hk, hnn⟩ | ⟨hk, hnn⟩ | ⟨hk, hnn⟩
  all_goals subst hk hnn
  w_top off
  all_goals k_steps
  all_goals exact turn12_end (by k_asm) (by k_asm) off (by walk_at "c lt") (hS _) (next _ _ _ _ _ fun p hp => (show ∀ p ∈ (I, oI) :: (C, oC) :: (D, LCg.lst ys) :: nw, p.1 < _ by walk_at "c lt") p (.tail _ (.tail _ (.tail _ hp))))
end
theorem kw15 : True := by
  k_with_none
  k_with "x c sub" => (intro p hp; repeat (first | exact hp | refine List.mem_cons_of_mem _ ?_))
  k_with "x binaryOp Add ref ref" => (k_here; k_dflt (refine' kde_addT ?k1_x ?k2_x ?k3_x ?k4_x ?k5_x ?k6_x ?k7_x ?k8_x ?_; (case k1_x => k_asm); (case k2_x => k_asm); (case k3_x => kun_tup); (case k4_x => kun_tup); (case k5_x => exact List.cons_ne_nil _ _); (case k6_x => exact List.cons_ne_nil _ _); (case k7_x => exact Nat.le_of_ble_eq_true rfl); (case k8_x => kun_lit); k_whole); intro D' h' F' N' l1; (try k_lt l1); (try k_sweep))
  k_with "x subscriptTail Name Slice ref ref" => (k_here; (with_reducible show wpAny _ _ (subscriptTail _ (PySem.Expr.Slice none _ none _) (Value.ref _) (Value.ref _)) _ _ _); k_dflt (refine' slice5 ?F_x ?N_x ?t_x ?_ ?s_x ?g_x; (case F_x => k_asm); (case N_x => k_asm); (case t_x => kun_tup); (case s_x => with_unfolding_all rfl); (case g_x => intro _; with_unfolding_all rfl); k_whole); intro D' h' F' N' l1; (try k_lt l1); (try k_sweep))
  k_with "x c enter" => (refine' code_def ?k1_x ?k2_x ?k3_x ?k4_x ?k5_x ?kA_x ?kF_x ?kK_x ?k6_x ?k7_x ?k8_x ?k9_x ?kB_x ?_ ?c2_x ?c3_x ?c4_x ?c5_x; (case kA_x => exact rfl); (case kF_x => exact rfl); (case kK_x => first | exact rfl | assumption); (case k1_x => k_asm); (case k2_x => k_asm); (case k3_x => k_asm); (case k4_x => k_asm); (case k5_x => k_asm); (case k6_x => k_is); (case k7_x => k_is); (case k8_x => ktr_room); (case k9_x => exact BindsTo.of_eq rfl); (case c5_x => decide); (case kB_x => exact locs rfl); (case c2_x => exact rfl); (case c3_x => exact rfl); (case c4_x => exact rfl); k_whole; intro g' L' h' FG' F' N' B' X' T'; (try dsimp only); (try k_lift B'); (try k_fold))
  k_with "x c enterC" => (refine' code_defC ?k1_x ?k2_x ?k3_x ?k4_x ?k5_x ?kA_x ?kF_x ?kK_x ?k6_x ?k7_x ?k8_x ?k9_x ?kB_x ?kD_x ?_ ?c2_x ?c3_x ?c4_x; (case kA_x => exact rfl); (case kF_x => exact rfl); (case kK_x => first | exact rfl | assumption); (case k1_x => k_asm); (case k2_x => k_asm); (case k3_x => k_asm); (case k4_x => k_asm); (case k5_x => k_asm); (case k6_x => k_is); (case k7_x => k_is); (case k8_x => ktr_room); (case k9_x => exact BindsTo.of_eq rfl); (case kB_x => exact rfl); (case kD_x => decide +kernel); (case c2_x => exact rfl); (case c3_x => exact rfl); (case c4_x => exact rfl); k_whole; intro g' L' h' tk' cells' FG' F' N' Y' B' X' T' l1; (try k_lt l1); k_cells Y'; (try simp only [List.cons_append, List.nil_append] at N'); (try dsimp only); (try k_lift B'); (try k_fold))
  k_with "x CompEnd" => (k_here; (refine LCg.CompEnd.intro (by assumption) (by assumption) _ (fun _ h => h) (by first | assumption | (simp only [LCg.Off3, and_true]; assumption)) (by lcg_src) ?_))
  k_with "x exec For Tuple Call cons nil" => (k_here; (rename Fr _ _ _ _ => lF'); (rename News _ _ _ _ => lN'); with_unfolding_all ((refine' For_turns lF' ?_); k_whole; (refine MethodCall_ ?_); (refine ld lF' (by rfl) ?_); (refine getMethod_tab (knd := PySem.strKind _ _) (enc := PyData.str) PySem.F.slot_dict_items PySem.F.type_dict_items (by k_tabat) ?_); (refine callWith_method0 ?_); (refine call_items_tab (knd := PySem.strKind _ _) (enc := PyData.str) (by k_tabat) lF' lN' ?_); intro h' o' hv' F' N'; (replace N' := kti_tail N'); (refine kti_items (knd := PySem.strKind _ _) (enc := PyData.str) (xs := []) (by rfl) F' N' hv' (by k_tabat) (by k_mem) (fun _ _ h => Value.isStrOf_shape h) (by rfl) ?_)); clear lF' lN'; intro i' l1; (try k_lt l1))
  k_with "x c lt" => first | assumption | (refine ktn_ltOf ?_; first | assumption | (apply And.right; assumption) | ((iterate 2 apply And.right); assumption) | ((iterate 3 apply And.right); assumption) | ((iterate 4 apply And.right); assumption) | ((iterate 5 apply And.right); assumption) | ((iterate 6 apply And.right); assumption) | ((iterate 7 apply And.right); assumption) | ((iterate 8 apply And.right); assumption) | ((iterate 9 apply And.right); assumption) | ((iterate 10 apply And.right); assumption) | ((iterate 11 apply And.right); assumption) | ((iterate 12 apply And.right); assumption) | ((iterate 13 apply And.right); assumption) | ((iterate 14 apply And.right); assumption))
  k_with "x c use" => ((case k1_x => k_asm); (case k2_x => k_asm); (case k3_x => k_asm); (case k4_x => k_asm); (case k5_x => k_asm); (case k6_x => first | exact rfl | assumption); (case kd_x => ktr_room); (case ku_x => ktr_units))
  k_with "x call ref" => (k_here; k_dflt (refine' Con.use (turned_c _ _ _ _ _ _ _ _ _ _ _ ?hx_x) ?k1_x ?k2_x ?k3_x ?k4_x ?k5_x ?k6_x ?kd_x ?ku_x ?_; walk_at "c use"; (case hx_x => k_mem); k_whole; intro D' t0' t1' t2' t3' h' tk' F' N' l1; (try k_lt l1); (try k_sweep); (try dsimp only)))
  k_with "x call ref" => (k_here; k_dflt (refine' Con.use (sum_c _ _ _ _ _ _ _ _ _ _ _ _ _ _ _ _ _ _ _ _ ?hx_x ?hy_x) ?k1_x ?k2_x ?k3_x ?k4_x ?k5_x ?k6_x ?kd_x ?ku_x ?_; walk_at "c use"; (case hx_x => k_mem); (case hy_x => k_mem); k_whole; intro D' t0' t1' t2' t3' h' tk' F' N' l1; (try k_lt l1); (try k_sweep); (try dsimp only)))
  k_with "x call ref" => (k_here; k_dflt (refine' Con.use (scaled_c _ _ _ _ _ _ _ _ _ _ _ _ _ ?hx_x ?b0_x ?b1_x) ?k1_x ?k2_x ?k3_x ?k4_x ?k5_x ?k6_x ?kd_x ?ku_x ?_; walk_at "c use"; (case hx_x => k_mem); (case b0_x => omega); (case b1_x => omega); k_whole; intro D' t0' t1' t2' t3' h' tk' F' N' l1; (try k_lt l1); (try k_sweep); (try dsimp only)))
  k_with "x c m" => first | exact if_pos rfl | (refine (if_neg (by decide)).trans ?_; assumption)
  k_with "x c all" => (repeat (first | exact List.forall_mem_nil _ | refine List.forall_mem_cons.mpr ⟨by k_mem, ?_⟩))
  k_with "x eval Name" => (k_here; k_dflt (refine' nameX_L ?F_x ?v_x ?_ ?a_x ?b_x; (case F_x => k_asm); (case a_x => rfl); (case b_x => rfl); (case v_x => assumption); k_whole))
  k_with "x call ref" => (k_here; k_dflt (refine' Con.use (times_c _ _ _ _ _ _ _ _ _ _ _ _ _ _ _ _ _ _ _ _ ?hx_x ?hy_x ?a0_x ?a1_x ?b0_x ?b1_x ?c0_x ?c1_x ?d0_x ?d1_x) ?k1_x ?k2_x ?k3_x ?k4_x ?k5_x ?k6_x ?kd_x ?ku_x ?_; walk_at "c use"; (case hx_x => k_mem); (case hy_x => k_mem); (case a0_x => omega); (case a1_x => omega); (case b0_x => omega); (case b1_x => omega); (case c0_x => omega); (case c1_x => omega); (case d0_x => omega); (case d1_x => omega); k_whole; intro D' t0' t1' t2' t3' h' tk' F' N' l1; (try k_lt l1); (try k_sweep); (try dsimp only)))
  k_with "x call ref" => (k_here; k_dflt (refine' Con.use (squares_c _ _ _ _ _ _ _ _ _ _ _ ?hx_x ?a0_x ?a1_x ?b0_x ?b1_x ?c0_x ?c1_x ?d0_x ?d1_x) ?k1_x ?k2_x ?k3_x ?k4_x ?k5_x ?k6_x ?kd_x ?ku_x ?_; walk_at "c use"; (case hx_x => k_mem); (case a0_x => omega); (case a1_x => omega); (case b0_x => omega); (case b1_x => omega); (case c0_x => omega); (case c1_x => omega); (case d0_x => omega); (case d1_x => omega); k_whole; intro t0' h' tk' F' N'; (try k_sweep); (try dsimp only)))
  k_with "x exec Assign cons ListComp" => (k_here; (with_reducible show wpAny _ _ (exec (Stmt.Assign _ (PySem.Expr.ListComp _ [⟨PySem.Expr.Tuple _ _ _, _, _, _⟩] _ _) _) _) _ _ _); k_dflt (refine PyProof.Rows.LCp.Assign_ListComp_P (F₀ := by k_asm) (by rfl) (by with_unfolding_all rfl) (by with_unfolding_all rfl) (by decide) (by rfl) (by decide) (by rfl) (by rfl) (by decide) (by rfl) (by rfl) ?_))
  k_with "x TupSrc" => (k_here; k_dflt (refine TupSrc.made (by rfl) (by k_asm) (by k_asm) (by k_mem) (by first | size_fits | exact Nat.le_of_ble_eq_true rfl) ?_; intro g'; lcg_lit))
  k_with "x call ref" => (k_here; k_dflt (refine' Con.use (times_c _ _ _ _ _ _ _ _ _ _ _ _ _ _ _ _ _ _ _ _ ?hx_x ?hy_x ?a0_x ?a1_x ?b0_x ?b1_x ?c0_x ?c1_x ?d0_x ?d1_x) ?k1_x ?k2_x ?k3_x ?k4_x ?k5_x ?k6_x ?kd_x ?ku_x ?_; walk_at "c use"; (case hx_x => k_mem); (case hy_x => k_mem); (case a0_x => first | assumption | decide | omega); (case a1_x => first | assumption | decide | omega); (case b0_x => first | assumption | decide | omega); (case b1_x => first | assumption | decide | omega); (case c0_x => first | assumption | decide | omega); (case c1_x => first | assumption | decide | omega); (case d0_x => first | assumption | decide | omega); (case d1_x => first | assumption | decide | omega); k_whole; intro D' t0' t1' t2' t3' h' tk' F' N' l1; (try k_lt l1); (try k_sweep); (try dsimp only)))
  k_with "x eval ListComp" => (k_here; k_dflt (refine LCg.ListComp_U (F₀ := by k_asm) (by with_unfolding_all rfl) (by decide) (by rfl) (by decide) (by rfl) ?_); k_dflt lcg_toSrc)
  k_with "x CompSrc" => (k_here; k_dflt (refine LCg.CompSrc.ledger (by rfl) (by k_asm) (by k_asm) (by k_mem) (by first | size_fits | exact Nat.le_of_ble_eq_true rfl) ?_; intro g'; lcg_lit))
  k_with "x CompRest" => (k_here; (k_dflt (refine' turn12 _ _ _ _ _ _ _ _ _ _ _ _ _ _ _ _ _ _ _ _ _ _ _ _ _ _ _ _ _ _ _ _ _ _ ?B_x ?X_x ?T_x ?e1_x ?e2_x ?C1_x ?C2_x ?c4_x ?q0_x ?q1_x ?q2_x ?q3_x ?q4_x ?q5_x ?q6_x ?q7_x _ _ _ _ _ ?hpl_x ?hn_x ?ho_x ?hax_x _ _ ?hk_x ?hi_x ?_; (case B_x => assumption); (case X_x => assumption); (case T_x => assumption); (case e1_x => assumption); (case e2_x => assumption); (case C1_x => assumption); (case C2_x => assumption); (case ho_x => k_mem); (case c4_x => assumption); (case hpl_x => k_mem); (case hi_x => exact rfl); (case hk_x => first | (apply Or.inl; apply And.intro; exact rfl; exact rfl) | (apply Or.inr; apply Or.inl; apply And.intro; exact rfl; exact rfl) | (apply Or.inr; apply Or.inr; apply And.intro; exact rfl; exact rfl)); (case hn_x => k_mem); (case hax_x => exact ⟨_, by k_mem, rfl, _, rfl⟩); (case q0_x => decide); (case q1_x => decide); (case q2_x => decide); (case q3_x => decide); (case q4_x => decide); (case q5_x => decide); (case q6_x => decide); (case q7_x => decide))); intro D' t0' t1' t2' t3' l1; (try k_lt l1))
  trivial
set_option maxRecDepth 100000 in
set_option maxHeartbeats 8000000 in
theorem st12 (w : World) (L pl n0 n1 n2 n3 ab a1 a2 a3 : Addr) (o1 o2 o4 : Obj) (x0 x1 x2 x3 y0 y1 y2 y3 z0 z1 z2 z3 : Int) (t0 t1 t2 t3 u0 u1 u2 u3 v0 v1 v2 v3 : Tok) (b0 b1 b2 b3 : Int) (r0 r1 r2 r3 : Tok) (ps1 ps2 : Array Value) (i00 i01 i02 i03 i10 i11 i12 i13 i20 i21 i22 i23 i30 i31 i32 i33 : Tok)
    (c1 : o1.data = .cell (some (.ref a1))) (c2 : o2.data = .cell (some (.ref a2))) (c4 : o4.data = .cell (some (.ref pl))) :
    LSt w (lawSt 12) L [(pl, W.listOf #[.ref n0, .ref n1, .ref n2, .ref n3] 0), (n0, T4 1 0 0 0 i00 i01 i02 i03), (n1, T4 0 1 0 0 i10 i11 i12 i13), (n2, T4 0 0 1 0 i20 i21 i22 i23), (n3, T4 0 0 0 1 i30 i31 i32 i33), (ab, T4 b0 b1 b2 b3 r0 r1 r2 r3), (a1, T4 x0 x1 x2 x3 t0 t1 t2 t3), (a2, T4 y0 y1 y2 y3 u0 u1 u2 u3), (a3, T4 z0 z1 z2 z3 v0 v1 v2 v3), (L + 3, o4), (L + 2, o2), (L + 1, o1), (51, tabObj ps2), (44, tabObj ps1)]
      (fun m => m (Str.ofString "third") = some (.ref a3) ∧ m (Str.ofString "both") = some (.ref ab))
      (fun h₀ m s Q => ∀ (h' : Heap) (tk' : Nat), Fr h₀ L h' m → News h₀ L h' [(pl, W.listOf #[.ref n0, .ref n1, .ref n2, .ref n3] 0), (n0, T4 1 0 0 0 i00 i01 i02 i03), (n1, T4 0 1 0 0 i10 i11 i12 i13), (n2, T4 0 0 1 0 i20 i21 i22 i23), (n3, T4 0 0 0 1 i30 i31 i32 i33), (ab, T4 b0 b1 b2 b3 r0 r1 r2 r3), (a1, T4 x0 x1 x2 x3 t0 t1 t2 t3), (a2, T4 y0 y1 y2 y3 u0 u1 u2 u3), (a3, T4 z0 z1 z2 z3 v0 v1 v2 v3), (L + 3, o4), (L + 2, o2), (L + 1, o1), (51, tabObj ps2), (44, tabObj ps1)] → Q .next { s with heap := h', toks := tk' }) := by
  refine LSt.mk ?_; k_fill
  intro loose mean mg mb dp un gd outer A₀ base h₀ fa cd m s Q E B F X N T hd hu C1 C2 hm hret
  have hsc : lawSc = lawSc := rfl
  conv at hsc => rhs; whnf
  have hst : lawSt 12 = lawSt 12 := rfl
  conv at hst => rhs; whnf
  rw [hst, hsc]
  clear hst hsc
  obtain ⟨hm3, hmb⟩ := hm
  w_top off
  k_steps
  exact hret _ _ (by k_asm) (cb_drop (by k_asm) (by walk_at "c all"))
end
end
section
set_option maxRecDepth 100000 in
set_option maxHeartbeats 8000000 in
theorem rest (w : World) (L an : Addr) (o1 o2 o3 : Obj) (x0 x1 x2 x3 y0 y1 y2 y3 z0 z1 z2 z3 : Int) (t0 t1 t2 t3 u0 u1 u2 u3 v0 v1 v2 v3 : Tok)
    (c1 : o1.data = .cell none) (c2 : o2.data = .cell none) (c3 : o3.data = .cell none) (hL : @LT.lt Nat _ 51 L) (hn1 : @Ne Nat an (L + 1)) (hn2 : @Ne Nat an (L + 2)) (hn3 : @Ne Nat an (L + 3))
    (Sx0 : Sm x0) (Sx1 : Sm x1) (Sx2 : Sm x2) (Sx3 : Sm x3) (Sy0 : Sm y0) (Sy1 : Sm y1) (Sy2 : Sm y2) (Sy3 : Sm y3) (Sz0 : Sm z0) (Sz1 : Sm z1) (Sz2 : Sm z2) (Sz3 : Sm z3)
    {loose : List Str} {mean : ExcName → Option Value} {mg mb : Str → Option Value} {dp un : Nat} {gd : Option (List Code)} {outer : List Env} {A₀ : Around} {base h₀ : Heap} {fa : Addr} {cd : Value} {m : Str → Option Value} {s : Shared} {Q : Flow → Shared → Prop} {E : Value → Shared → Prop}
    (BB : Below A₀ base outer h₀) (F : Fr h₀ L s.heap m) (XX : (hd.heap_39 w.params).In h₀) (N : News h₀ L s.heap [(an, LCg.lst [.int x0 t0, .int x1 t1, .int x2 t2, .int x3 t3, .int y0 u0, .int y1 u1, .int y2 u2, .int y3 u3, .int z0 v0, .int z1 v1, .int z2 v2, .int z3 v3]), (L + 3, o3), (L + 2, o2), (L + 1, o1), (51, tabObj #[]), (44, tabObj #[])]) (T : Top topProg loose mean mg mb h₀) (hdp : dp + 200 < recursionLimit) (hun : un + 4000 < cLine) (C1 : CodeHd base 48 44) (C2 : CodeHd base 55 51) (hm : m (Str.ofString "numbers") = some (.ref an))
    (hq : ∀ (ps1 ps2 : Array Value) (m' : Str → Option Value) (h' : Heap) (tk' : Nat), Fr h₀ L h' m' → News h₀ L h' [(51, tabObj ps2), (44, tabObj ps1)] → Q (.ret (.bool true)) { s with heap := h', toks := tk' }) :
    Ok (LWalk w L dp un gd outer fa cd [lawSt 1, lawSt 2, lawSt 3, lawSt 4, lawSt 5, lawSt 6, lawSt 7, lawSt 8, lawSt 9, lawSt 10, lawSt 11, lawSt 12, lawSt 13] Q E s) := by
  have hb0 := sum4 Sx0 Sx1 Sx2 Sx3 Sy0 Sy1.neg Sy2.neg Sy3.neg
  have hb1 := sum4 Sx0 Sx1 Sx2 Sx3 Sy1 Sy0 Sy3 Sy2.neg
  have hb2 := sum4 Sx0 Sx1 Sx2 Sx3 Sy2 Sy3.neg Sy0 Sy1
  have hb3 := sum4 Sx0 Sx1 Sx2 Sx3 Sy3 Sy2 Sy1.neg Sy0
  have hsx := sq_le Sx0 Sx1 Sx2 Sx3
  have hsy := sq_le Sy0 Sy1 Sy2 Sy3
  refine LSt.cons (st1 w L an o1 o2 o3 x0 x1 x2 x3 y0 y1 y2 y3 z0 z1 z2 z3 t0 t1 t2 t3 u0 u1 u2 u3 v0 v1 v2 v3 c1 c2 c3 hL hn1 hn2 hn3) BB F XX N T hdp hun C1 C2  hm ?_
  intro a1 a2 a3 o1 o2 m1 h1 tk1 F1 e3 d1 d2 l1 l2 l3 N1; refine After.nx ?_
  refine LSt.cons (st2 w L a1 a2 a3 o1 o2 o3 x0 x1 x2 x3 y0 y1 y2 y3 z0 z1 z2 z3 t0 t1 t2 t3 u0 u1 u2 u3 v0 v1 v2 v3 d1 d2 Sx0.1 Sx0.2 Sx1.1 Sx1.2 Sx2.1 Sx2.2 Sx3.1 Sx3.2) BB F1 XX N1 T hdp hun C1 C2  e3 ?_
  intro ab r0 r1 r2 r3 m2 h2 tk2 F2 e3 eb l4 N2; refine After.nx ?_
  refine LSt.cons (st3 w L ab a1 a2 a3 o1 o2 o3 x0 x1 x2 x3 y0 y1 y2 y3 z0 z1 z2 z3 t0 t1 t2 t3 u0 u1 u2 u3 v0 v1 v2 v3 (qm0 x0 x1 x2 x3 y0 y1 y2 y3) (qm1 x0 x1 x2 x3 y0 y1 y2 y3) (qm2 x0 x1 x2 x3 y0 y1 y2 y3) (qm3 x0 x1 x2 x3 y0 y1 y2 y3) r0 r1 r2 r3 d1 d2 Sx0.1 Sx0.2 Sx1.1 Sx1.2 Sx2.1 Sx2.2 Sx3.1 Sx3.2 Sy0.1 Sy0.2 Sy1.1 Sy1.2 Sy2.1 Sy2.2 Sy3.1 Sy3.2 Sz0.1 Sz0.2 Sz1.1 Sz1.2 Sz2.1 Sz2.2 Sz3.1 Sz3.2 hb0.1 hb0.2 hb1.1 hb1.2 hb2.1 hb2.2 hb3.1 hb3.2 hsx.1 hsx.2 hsy.1 hsy.2 (al3 x0 x1 x2 x3 y0 y1 y2 y3)) BB F2 XX N2 T hdp hun C1 C2  ⟨e3, eb⟩ ?_
  intro h3 tk3 F3 N3; refine After.nx ?_
  refine LSt.cons (st4 w L ab a1 a2 a3 o1 o2 o3 x0 x1 x2 x3 y0 y1 y2 y3 z0 z1 z2 z3 t0 t1 t2 t3 u0 u1 u2 u3 v0 v1 v2 v3 (qm0 x0 x1 x2 x3 y0 y1 y2 y3) (qm1 x0 x1 x2 x3 y0 y1 y2 y3) (qm2 x0 x1 x2 x3 y0 y1 y2 y3) (qm3 x0 x1 x2 x3 y0 y1 y2 y3) r0 r1 r2 r3 d1 d2 Sx0.1 Sx0.2 Sx1.1 Sx1.2 Sx2.1 Sx2.2 Sx3.1 Sx3.2 Sy0.1 Sy0.2 Sy1.1 Sy1.2 Sy2.1 Sy2.2 Sy3.1 Sy3.2 Sz0.1 Sz0.2 Sz1.1 Sz1.2 Sz2.1 Sz2.2 Sz3.1 Sz3.2 hb0.1 hb0.2 hb1.1 hb1.2 hb2.1 hb2.2 hb3.1 hb3.2 (al4_0 x0 x1 x2 x3 y0 y1 y2 y3 z0 z1 z2 z3) (al4_1 x0 x1 x2 x3 y0 y1 y2 y3 z0 z1 z2 z3) (al4_2 x0 x1 x2 x3 y0 y1 y2 y3 z0 z1 z2 z3) (al4_3 x0 x1 x2 x3 y0 y1 y2 y3 z0 z1 z2 z3)) BB F3 XX N3 T hdp hun C1 C2  ⟨e3, eb⟩ ?_
  intro h4 tk4 F4 N4; refine After.nx ?_
  refine LSt.cons (st5 w L ab a1 a2 a3 o1 o2 o3 x0 x1 x2 x3 y0 y1 y2 y3 z0 z1 z2 z3 t0 t1 t2 t3 u0 u1 u2 u3 v0 v1 v2 v3 (qm0 x0 x1 x2 x3 y0 y1 y2 y3) (qm1 x0 x1 x2 x3 y0 y1 y2 y3) (qm2 x0 x1 x2 x3 y0 y1 y2 y3) (qm3 x0 x1 x2 x3 y0 y1 y2 y3) r0 r1 r2 r3 d1 d2 Sx0.1 Sx0.2 Sx1.1 Sx1.2 Sx2.1 Sx2.2 Sx3.1 Sx3.2 Sy0.1 Sy0.2 Sy1.1 Sy1.2 Sy2.1 Sy2.2 Sy3.1 Sy3.2 Sz0.1 Sz0.2 Sz1.1 Sz1.2 Sz2.1 Sz2.2 Sz3.1 Sz3.2 hb0.1 hb0.2 hb1.1 hb1.2 hb2.1 hb2.2 hb3.1 hb3.2 (al5_0 x0 x1 x2 x3 y0 y1 y2 y3) (al5_1 x0 x1 x2 x3 y0 y1 y2 y3) (al5_2 x0 x1 x2 x3 y0 y1 y2 y3) (al5_3 x0 x1 x2 x3 y0 y1 y2 y3)) BB F4 XX N4 T hdp hun C1 C2  ⟨e3, eb⟩ ?_
  intro h5 tk5 F5 N5; refine After.nx ?_
  refine LSt.cons (st6 w L ab a1 a2 a3 o1 o2 o3 x0 x1 x2 x3 y0 y1 y2 y3 z0 z1 z2 z3 t0 t1 t2 t3 u0 u1 u2 u3 v0 v1 v2 v3 (qm0 x0 x1 x2 x3 y0 y1 y2 y3) (qm1 x0 x1 x2 x3 y0 y1 y2 y3) (qm2 x0 x1 x2 x3 y0 y1 y2 y3) (qm3 x0 x1 x2 x3 y0 y1 y2 y3) r0 r1 r2 r3 d1 d2 Sx0.1 Sx0.2 Sx1.1 Sx1.2 Sx2.1 Sx2.2 Sx3.1 Sx3.2 Sy0.1 Sy0.2 Sy1.1 Sy1.2 Sy2.1 Sy2.2 Sy3.1 Sy3.2 Sz0.1 Sz0.2 Sz1.1 Sz1.2 Sz2.1 Sz2.2 Sz3.1 Sz3.2 hb0.1 hb0.2 hb1.1 hb1.2 hb2.1 hb2.2 hb3.1 hb3.2 (al6_0 x0 x1 x2 x3) (al6_1 x0 x1 x2 x3) (al6_2 x0 x1 x2 x3) (al6_3 x0 x1 x2 x3)) BB F5 XX N5 T hdp hun C1 C2  ⟨e3, eb⟩ ?_
  intro h6 tk6 F6 N6; refine After.nx ?_
  refine LSt.cons (st7 w L ab a1 a2 a3 o1 o2 o3 x0 x1 x2 x3 y0 y1 y2 y3 z0 z1 z2 z3 t0 t1 t2 t3 u0 u1 u2 u3 v0 v1 v2 v3 (qm0 x0 x1 x2 x3 y0 y1 y2 y3) (qm1 x0 x1 x2 x3 y0 y1 y2 y3) (qm2 x0 x1 x2 x3 y0 y1 y2 y3) (qm3 x0 x1 x2 x3 y0 y1 y2 y3) r0 r1 r2 r3 d1 d2 Sx0.1 Sx0.2 Sx1.1 Sx1.2 Sx2.1 Sx2.2 Sx3.1 Sx3.2 Sy0.1 Sy0.2 Sy1.1 Sy1.2 Sy2.1 Sy2.2 Sy3.1 Sy3.2 Sz0.1 Sz0.2 Sz1.1 Sz1.2 Sz2.1 Sz2.2 Sz3.1 Sz3.2 hb0.1 hb0.2 hb1.1 hb1.2 hb2.1 hb2.2 hb3.1 hb3.2 (al7_0 x0 x1 x2 x3 y0 y1 y2 y3 z0 z1 z2 z3) (al7_1 x0 x1 x2 x3 y0 y1 y2 y3 z0 z1 z2 z3) (al7_2 x0 x1 x2 x3 y0 y1 y2 y3 z0 z1 z2 z3) (al7_3 x0 x1 x2 x3 y0 y1 y2 y3 z0 z1 z2 z3)) BB F6 XX N6 T hdp hun C1 C2  ⟨e3, eb⟩ ?_
  intro h7 tk7 F7 N7; refine After.nx ?_
  refine LSt.cons (st8 w L ab a1 a2 a3 o1 o2 o3 x0 x1 x2 x3 y0 y1 y2 y3 z0 z1 z2 z3 t0 t1 t2 t3 u0 u1 u2 u3 v0 v1 v2 v3 (qm0 x0 x1 x2 x3 y0 y1 y2 y3) (qm1 x0 x1 x2 x3 y0 y1 y2 y3) (qm2 x0 x1 x2 x3 y0 y1 y2 y3) (qm3 x0 x1 x2 x3 y0 y1 y2 y3) r0 r1 r2 r3 d1 d2 Sx0.1 Sx0.2 Sx1.1 Sx1.2 Sx2.1 Sx2.2 Sx3.1 Sx3.2 Sy0.1 Sy0.2 Sy1.1 Sy1.2 Sy2.1 Sy2.2 Sy3.1 Sy3.2 Sz0.1 Sz0.2 Sz1.1 Sz1.2 Sz2.1 Sz2.2 Sz3.1 Sz3.2 hb0.1 hb0.2 hb1.1 hb1.2 hb2.1 hb2.2 hb3.1 hb3.2) BB F7 XX N7 T hdp hun C1 C2  ⟨e3, eb⟩ ?_
  intro ac s0 s1 s2 m8 h8 tk8 F8 e3 eb ec N8; refine After.nx ?_
  refine LSt.cons (st9 w L ac ab a1 a2 a3 o1 o2 o3 x0 x1 x2 x3 y0 y1 y2 y3 z0 z1 z2 z3 t0 t1 t2 t3 u0 u1 u2 u3 v0 v1 v2 v3 (qm0 x0 x1 x2 x3 y0 y1 y2 y3) (qm1 x0 x1 x2 x3 y0 y1 y2 y3) (qm2 x0 x1 x2 x3 y0 y1 y2 y3) (qm3 x0 x1 x2 x3 y0 y1 y2 y3) r0 r1 r2 r3 (x1 * y2 - x2 * y1) (x2 * y3 - x3 * y2) (x1 * y3 - x3 * y1) s0 s1 s2 d1 d2 Sx0.1 Sx0.2 Sx1.1 Sx1.2 Sx2.1 Sx2.2 Sx3.1 Sx3.2 Sy0.1 Sy0.2 Sy1.1 Sy1.2 Sy2.1 Sy2.2 Sy3.1 Sy3.2 Sz0.1 Sz0.2 Sz1.1 Sz1.2 Sz2.1 Sz2.2 Sz3.1 Sz3.2 hb0.1 hb0.2 hb1.1 hb1.2 hb2.1 hb2.2 hb3.1 hb3.2 (al9 x0 x1 x2 x3 y0 y1 y2 y3)) BB F8 XX N8 T hdp hun C1 C2  ⟨e3, eb, ec⟩ ?_
  intro h9 tk9 F9 N9; refine After.nx ?_
  refine LSt.cons (st10 w L ab a1 a2 a3 o1 o2 o3 x0 x1 x2 x3 y0 y1 y2 y3 z0 z1 z2 z3 t0 t1 t2 t3 u0 u1 u2 u3 v0 v1 v2 v3 (qm0 x0 x1 x2 x3 y0 y1 y2 y3) (qm1 x0 x1 x2 x3 y0 y1 y2 y3) (qm2 x0 x1 x2 x3 y0 y1 y2 y3) (qm3 x0 x1 x2 x3 y0 y1 y2 y3) r0 r1 r2 r3 d1 d2 Sx0.1 Sx0.2 Sx1.1 Sx1.2 Sx2.1 Sx2.2 Sx3.1 Sx3.2 Sy0.1 Sy0.2 Sy1.1 Sy1.2 Sy2.1 Sy2.2 Sy3.1 Sy3.2 hb0.1 hb0.2 hb1.1 hb1.2 hb2.1 hb2.2 hb3.1 hb3.2 hL l1 l2 l3 l4 hsy.2 (al10_0 x0 x1 x2 x3 y0 y1 y2 y3) (al10_1 x0 x1 x2 x3 y0 y1 y2 y3) (al10_2 x0 x1 x2 x3 y0 y1 y2 y3) (al10_3 x0 x1 x2 x3 y0 y1 y2 y3)) BB F9 XX (fun p hp => N9 p (.tail _ hp)) T hdp hun C1 C2  ⟨e3, eb⟩ ?_
  intro ps1 ps2 m10 h10 tk10 F10 e3 eb N10; refine After.nx ?_
  refine LSt.cons (st11 w L ab a1 a2 a3 o1 o2 o3 x0 x1 x2 x3 y0 y1 y2 y3 z0 z1 z2 z3 t0 t1 t2 t3 u0 u1 u2 u3 v0 v1 v2 v3 (qm0 x0 x1 x2 x3 y0 y1 y2 y3) (qm1 x0 x1 x2 x3 y0 y1 y2 y3) (qm2 x0 x1 x2 x3 y0 y1 y2 y3) (qm3 x0 x1 x2 x3 y0 y1 y2 y3) r0 r1 r2 r3 ps1 ps2 d1 d2 c3 hL l1 l2 l3 l4) BB F10 XX N10 T hdp hun C1 C2  ⟨e3, eb⟩ ?_
  intro pl n0 n1 n2 n3 i00 i01 i02 i03 i10 i11 i12 i13 i20 i21 i22 i23 i30 i31 i32 i33 o4 h11 tk11 F11 d4 N11; refine After.nx ?_
  refine LSt.cons (st12 w L pl n0 n1 n2 n3 ab a1 a2 a3 o1 o2 o4 x0 x1 x2 x3 y0 y1 y2 y3 z0 z1 z2 z3 t0 t1 t2 t3 u0 u1 u2 u3 v0 v1 v2 v3 (qm0 x0 x1 x2 x3 y0 y1 y2 y3) (qm1 x0 x1 x2 x3 y0 y1 y2 y3) (qm2 x0 x1 x2 x3 y0 y1 y2 y3) (qm3 x0 x1 x2 x3 y0 y1 y2 y3) r0 r1 r2 r3 ps1 ps2 i00 i01 i02 i03 i10 i11 i12 i13 i20 i21 i22 i23 i30 i31 i32 i33 d1 d2 d4) BB F11 XX N11 T hdp hun C1 C2  ⟨e3, eb⟩ ?_
  intro h12 tk12 F12 N12; refine After.nx ?_
  refine LSt.cons (st13 w L ab a1 a2 a3 o1 o2 o4 x0 x1 x2 x3 y0 y1 y2 y3 z0 z1 z2 z3 t0 t1 t2 t3 u0 u1 u2 u3 v0 v1 v2 v3 (qm0 x0 x1 x2 x3 y0 y1 y2 y3) (qm1 x0 x1 x2 x3 y0 y1 y2 y3) (qm2 x0 x1 x2 x3 y0 y1 y2 y3) (qm3 x0 x1 x2 x3 y0 y1 y2 y3) r0 r1 r2 r3 ps1 ps2 d1 d2 Sx0.1 Sx0.2 Sx1.1 Sx1.2 Sx2.1 Sx2.2 Sx3.1 Sx3.2 (al13_0 x0 x1 x2 x3 y0 y1 y2 y3) (al13_1 x0 x1 x2 x3 y0 y1 y2 y3) (al13_2 x0 x1 x2 x3 y0 y1 y2 y3) (al13_3 x0 x1 x2 x3 y0 y1 y2 y3)) BB F12 XX (fun p hp => N12 p (.tail _ (.tail _ (.tail _ (.tail _ (.tail _ hp)))))) T hdp hun C1 C2  ⟨e3, eb⟩ ?_
  intro h13 tk13 F13 N13; exact After.rt (hq ps1 ps2 _ _ _ F13 (fun p hp => N13 p (.tail _ (.tail _ (.tail _ (.tail _ (.tail _ (.tail _ (.tail _ hp)))))))))
theorem body (w : World) (L sa : Addr) (o1 o2 o3 : Obj) (vs : List Value) (ns : List Int)
    {loose : List Str} {mean : ExcName → Option Value} {mg mb : Str → Option Value} {h₀ : Heap} {fa : Addr} {cd : Value} {m : Str → Option Value} {s : Shared} {Q : Flow → Shared → Prop} {E : Value → Shared → Prop}
    (c1 : o1.data = .cell none) (c2 : o2.data = .cell none) (c3 : o3.data = .cell none) (hL : @LT.lt Nat _ 51 L) (hI : IntsAre vs ns) (hlen : ns.length ≤ 63)
    (B : Below callerA h₀ [] h₀) (F : Fr h₀ L s.heap m) (X : (hd.heap_39 w.params).In h₀) (N : News h₀ L s.heap [(L + 3, o3), (L + 2, o2), (L + 1, o1), (51, tabObj #[]), (44, tabObj #[])]) (T : Top topProg loose mean mg mb h₀) (C1 : CodeHd h₀ 48 44) (C2 : CodeHd h₀ 55 51)
    (hS : h₀.IsList sa vs.toArray) (hm : m (Str.ofString "script") = some (.ref sa))
    (hq : ∀ (ps1 ps2 : Array Value) (m' : Str → Option Value) (h' : Heap) (tk' : Nat), Fr h₀ L h' m' → News h₀ L h' [(51, tabObj ps2), (44, tabObj ps1)] → Q (.ret (.bool true)) { s with heap := h', toks := tk' }) :
    wpAny (model PySem.Challenge.rw_hi0003_01.row.prog w) (callerA.deeper (envOfC (Str.ofString "law") lawSc L fa cd)) (execs lawFD.1 (envOfC (Str.ofString "law") lawSc L fa cd)) Q E s := by
  have e : callerA.deeper (envOfC (Str.ofString "law") lawSc L fa cd) = ktrTop 302 7 (some []) (Str.ofString "law") lawSc L fa cd (cellsFrom (L + 1) lawSc.names []) [] := rfl
  have e2 : lawFD.1 = [lawSt 0, lawSt 1, lawSt 2, lawSt 3, lawSt 4, lawSt 5, lawSt 6, lawSt 7, lawSt 8, lawSt 9, lawSt 10, lawSt 11, lawSt 12, lawSt 13] := rfl
  rw [e, e2]
  have hd : 302 + 200 < recursionLimit := by decide
  have hu : 7 + 4000 < cLine := by decide
  have h := st0 w L sa o1 o2 o3 vs ns c1 c2 c3 hL hI hlen (gd := some []) (outer := []) (fa := fa) (cd := cd) (Q := After w L 302 7 (some []) [] fa cd [lawSt 1, lawSt 2, lawSt 3, lawSt 4, lawSt 5, lawSt 6, lawSt 7, lawSt 8, lawSt 9, lawSt 10, lawSt 11, lawSt 12, lawSt 13] Q E) (E := E) B F X N T hd hu C1 C2 hS hm
    (fun an y0 y1 y2 y3 y4 y5 y6 y7 y8 y9 y10 y11 w0 w1 w2 w3 w4 w5 w6 w7 w8 w9 w10 w11 m' h' tk' F' hm' n1 n2 n3 hb N' => After.nx (rest w L an o1 o2 o3 y0 y1 y2 y3 y4 y5 y6 y7 y8 y9 y10 y11 w0 w1 w2 w3 w4 w5 w6 w7 w8 w9 w10 w11 c1 c2 c3 hL n1 n2 n3 hb.1 hb.2.1 hb.2.2.1 hb.2.2.2.1 hb.2.2.2.2.1 hb.2.2.2.2.2.1 hb.2.2.2.2.2.2.1 hb.2.2.2.2.2.2.2.1 hb.2.2.2.2.2.2.2.2.1 hb.2.2.2.2.2.2.2.2.2.1 hb.2.2.2.2.2.2.2.2.2.2.1 hb.2.2.2.2.2.2.2.2.2.2.2 B F' X N' T hd hu C1 C2 hm' hq))
  exact wpAny_execs_cons (wpAny_mono h (fun f _ h => by cases f <;> first | exact Ok.go h | exact h) fun _ _ h => h)
end
end Mine
set_option maxRecDepth 100000 in
set_option maxHeartbeats 8000000 in
theorem PySem.Challenge.cw_hi0003_01_holds : PySem.Challenge.rw_hi0003_01.Holds := by
  k_with_none
  refine Mine.hd ?_
  k_go0; (all_goals try k_fold)
  show wpAny _ (callerA.deeper (envOfC (Str.ofString "law") Mine.lawSc _ _ _)) (execs Mine.lawFD.1 (envOfC (Str.ofString "law") Mine.lawSc _ _ _)) _ _ _
  refine' Mine.body _ _ _ _ _ _ _ _ ?c1_x ?c2_x ?c3_x ?hL_x ?hI_x ?hlen_x ?B_x ?F_x ?X_x ?N_x ?T_x ?C1_x ?C2_x ?hS_x ?hm_x ?hq_x
  (case F_x => k_asm)
  (case N_x => k_asm)
  (case T_x => k_asm)
  (case X_x => k_asm)
  (case B_x => k_asm)
  (case C1_x => assumption)
  (case C2_x => assumption)
  (case hL_x => apply And.left; assumption)
  (case hS_x => assumption)
  (case hI_x => assumption)
  (case hlen_x => omega)
  (case c1_x => (refine Eq.trans (by assumption) ?_; exact rfl))
  (case c2_x => (refine Eq.trans (by assumption) ?_; exact rfl))
  (case c3_x => (refine Eq.trans (by assumption) ?_; exact rfl))
  (case hm_x => exact rfl)
  intro ps1 ps2 m' h' tk' F' N'
  refine ⟨?_, GrownAt.of N' (.head _), GrownAt.of N' (.tail _ (.head _)), trivial⟩
  clear N'
  dsimp only
  k_steps
