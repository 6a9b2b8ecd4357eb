import PyProof.Rows.All
import Wide.All
import OpenK.AllK
import Wide.FinOn
import PySem.Challenge.RW_en5030_01
open PySem PySem.W PySem.Spec PySem.Calls PyProof.Rows
set_option Elab.async false
set_option maxRecDepth 100000
set_option maxHeartbeats 0
namespace Mine
open_top hd for PySem.Challenge.rw_en5030_01
end Mine
namespace Mine

inductive All2 {α β : Type} (R : α → β → Prop) : List α → List β → Prop
  | nil : All2 R [] []
  | cons {a b l l'} : R a b → All2 R l l' → All2 R (a :: l) (b :: l')
theorem All2.append {α β : Type} {R : α → β → Prop} : ∀ {l₁ l₂ : List α} {m₁ m₂ : List β}, All2 R l₁ m₁ → All2 R l₂ m₂ → All2 R (l₁ ++ l₂) (m₁ ++ m₂)
  | _, _, _, _, .nil, h => h
  | _, _, _, _, .cons a r, h => .cons a (r.append h)

theorem ne_of_all {news : List (Addr × Obj)} {L d : Addr} (h : ∀ p ∈ news, p.1 < L) (hd : @LE.le Nat _ L d) : ∀ p ∈ news, p.1 ≠ d := fun p hp => Nat.ne_of_lt (Nat.lt_of_lt_of_le (h p hp) hd)

/-- what a comprehension's source must hand on, whatever it is -/
def SrcT (prog : Program) (w : World) (A : Around) (h₀ : Heap) (L : Addr) (m : PySem.Str → Option Value) (env : Env) (ct elt : Expr) (x : PySem.Str) (scope : Scope) (cl : List (PySem.Str × Addr)) (Q : Value → Shared → Prop) (E : Value → Shared → Prop) (xv : Value) (s₁ : Shared) : Prop :=
  wpAny (model prog w) A (pyIter xv) (fun it s₂ => ∃ (I : Addr) (fp : List Addr) (n : Nat) (P : Nat → Value → Prop) (St : Nat → Heap → Prop) (S : List (Addr × Obj) → Prop) (news : List (Addr × Obj)),
    it = .ref I ∧ Walks prog w A I fp [I] n P St ∧ n ≤ sizeLine ∧ (∀ i h, St i h → ∃ o, h.get? I = some o) ∧
    (∀ i h h' o nw, St i h → h.get? I = some o → h'.get? I = some o → (∀ b o, h₀.get? b = some o → h'.get? b = some o) → News h₀ L h' nw → S nw → St i h') ∧
    St 0 s₂.heap ∧ (∀ b ∈ fp, b < s₂.heap.objs.size) ∧ Fr h₀ L s₂.heap m ∧ News h₀ L s₂.heap news ∧ L ≠ I ∧ h₀.get? I = none ∧ (∀ p ∈ news, p.1 ≠ I) ∧ S news ∧
    LCt.CompRestT prog w A h₀ L m env ct elt x scope cl s₂ S P (LCg.FinE h₀ L m s₂ Q) n 0 [] news) E s₁

section
variable {prog : Program} {w : World} {A : Around} {E : Value → Shared → Prop} {s : Shared} {h₀ : Heap} {L : Addr} {m : PySem.Str → Option Value} {env : Env}

theorem listComp_G (_F₀ : Fr h₀ L s.heap m) {ct elt iter : Expr} {x : PySem.Str} {px : Pos} {scope : Scope} {cl : List (PySem.Str × Addr)} {pos : Pos} {Q : Value → Shared → Prop}
    (hclos : closureFor scope env = pure cl) (hcell : ∀ y ∈ scope.names, y.2 ≠ .cell) (hkind : scope.kind = .function)
    (hnames : ∀ y ∈ scope.names, y.2 = .local → scope.names.lookup y.1 = some .local) (hx : scope.names.lookup x = some .local)
    (h : wpAny (model prog w) A (eval iter env) (SrcT prog w A h₀ L m env ct elt x scope cl Q E) E s)
    (hs : ∀ x, foldedSetIterable iter env x = pure x := by intro _; rfl) :
    wpAny (model prog w) A (eval (.ListComp elt [⟨.Name x px, iter, [ct], 0⟩] scope pos) env) Q E s := by
  rw [eval_ListComp]
  refine wpAny_comprehension_free (use := none) rfl hs hclos hkind hnames (wpAny_mono h (fun xv s₁ h₁ => wpAny_mono h₁ (fun it s₂ h₂ => ?_) fun _ _ e => e) fun _ _ e => e)
  obtain ⟨I, fp, n, P, St, S, news, rfl, W, hsz, hIo, hSt, hst, hfp, F, N, hIL, hI₀, off, hS, R⟩ := h₂
  refine LCt.block_T W hsz hIo hSt hcell hkind hx hst hfp F N hIL hI₀ off hS R ?_
  intro D C h tk m' ys news' F' N' o1 hn hC₀ hD₀ hCL hDL hCD offC fin
  refine ⟨m', hn, fun h'' hs'' => fin D h'' tk (F'.change hs'' hCL hC₀) (fun p hp => ?_) o1⟩
  refine ⟨hs''.extBut _ _ ?_ (N' p hp).1, (N' p hp).2⟩
  rcases List.mem_cons.mp hp with rfl | hp
  · exact Ne.symm hCD
  · exact offC p hp

theorem src_range {ct elt : Expr} {x : PySem.Str} {scope : Scope} {cl : List (PySem.Str × Addr)} {Q : Value → Shared → Prop} {r : Addr} {a b c : Int} {t u v : Tok} {n : Nat} {news : List (Addr × Obj)}
    (hh : A.handled = none) (F : Fr h₀ L s.heap m) (N : News h₀ L s.heap news) (hr : IsRange s.heap r a b c t u v) (hsm : Builtin.Range.small a b c = true) (hn : Builtin.Range.rangeSize a b c = ((n : Nat) : Int)) (hsz : n ≤ sizeLine)
    (h : ∀ g, LCt.CompRestT prog w A h₀ L m env ct elt x scope cl { s with heap := g } (fun _ => True) (fun i v => ∃ t, v = .int (a + (i : Int) * c) t) (LCg.FinE h₀ L m { s with heap := g } Q) n 0 [] news) :
    SrcT prog w A h₀ L m env ct elt x scope cl Q E (.ref r) s := by
  unfold SrcT
  refine wpAny_pyIter_range hr hsm ?_
  refine ⟨s.heap.objs.size, [s.heap.objs.size], n, _, _, fun _ => True, news, rfl, Walks.range hh _ a c n, hsz, fun i h st => ⟨_, st⟩, ?_, ?_, ?_, F.keeps fun _ _ e => Heap.get?_push_of_some _ e, LCg.news_but N (fun b o _ e => Heap.get?_push_of_some _ e) (fun p hp => Nat.ne_of_lt (Heap.lt_size (N p hp).1)), Nat.ne_of_lt F.ns.lt, ?_, (fun p hp => Nat.ne_of_lt (Heap.lt_size (N p hp).1)), trivial, h _⟩
  · intro i h h' o nw st e e' _ _ _
    have st' : h.get? _ = some _ := st
    show h'.get? _ = some _
    rw [e', ← e]; exact st'
  · show IsRangeIter _ _ _ _ _
    rw [hn]; simpa using Heap.get?_push_size _ rfl
  · intro b hb
    rw [List.mem_singleton.mp hb]
    show s.heap.objs.size < (s.heap.push _).objs.size
    rw [Heap.size_push]; exact Nat.lt_succ_self _
  · exact next_is_new F

/-- the end of a test: what it tells, and the ledger as it stood -/
def TestEnd (h₀ : Heap) (L : Addr) (m : PySem.Str → Option Value) (s : Shared) (all : List (Addr × Obj)) (b : Bool) (ok : Bool) (s' : Shared) : Prop :=
  ok = b ∧ ∃ h' tk', s' = { s with heap := h', toks := tk' } ∧ Fr h₀ L h' m ∧ News h₀ L h' all
theorem TestEnd.of {h' : Heap} {tk' : Nat} {all all' : List (Addr × Obj)} {b ok : Bool} (e : ok = b) (F : Fr h₀ L h' m) (N : News h₀ L h' all') (sub : ∀ p ∈ all, p ∈ all') : TestEnd h₀ L m s all b ok { s with heap := h', toks := tk' } :=
  ⟨e, h', tk', rfl, F, fun p hp => N p (sub p hp)⟩
/-- the end of an element -/
def EltEnd (h₀ : Heap) (L : Addr) (m : PySem.Str → Option Value) (s : Shared) (all : List (Addr × Obj)) (R : Value → Prop) (y : Value) (s' : Shared) : Prop :=
  R y ∧ ∃ h' tk', s' = { s with heap := h', toks := tk' } ∧ Fr h₀ L h' m ∧ News h₀ L h' all
theorem EltEnd.of {h' : Heap} {tk' : Nat} {all all' : List (Addr × Obj)} {R : Value → Prop} {y : Value} (e : R y) (F : Fr h₀ L h' m) (N : News h₀ L h' all') (sub : ∀ p ∈ all, p ∈ all') : EltEnd h₀ L m s all R y { s with heap := h', toks := tk' } :=
  ⟨e, h', tk', rfl, F, fun p hp => N p (sub p hp)⟩

theorem rest_filter {α : Type} {ct elt : Expr} {x : PySem.Str} {scope : Scope} {cl : List (PySem.Str × Addr)} {S : List (Addr × Obj) → Prop} {P : Nat → Value → Prop} {Fin : List Value → List (Addr × Obj) → Prop} {news : List (Addr × Obj)} {n : Nat}
    (ds : List α) (RI RO : α → Value → Prop) (p : α → Bool) (hlen : ds.length = n) (hS : S news)
    (hP : ∀ i v, i < n → P i v → ∃ d, ds[i]? = some d ∧ RI d v)
    (turn : ∀ d v I oI C oC D m₂ ys h tk (E' : Value → Shared → Prop), d ∈ ds → RI d v → LCg.NsObj oC m₂ → m₂ x = some v → Fr h₀ L h m → News h₀ L h ((I, oI) :: (C, oC) :: (D, LCg.lst ys) :: news) →
      wpAny (model prog w) A (isTrue ct (compEnvC scope cl C env) (eval ct (compEnvC scope cl C env))) (TestEnd h₀ L m { s with heap := h, toks := tk } ((I, oI) :: (C, oC) :: (D, LCg.lst ys) :: news) (p d)) E' { s with heap := h, toks := tk })
    (eturn : ∀ d v I oI C oC D m₂ ys h tk (E' : Value → Shared → Prop), d ∈ ds → RI d v → LCg.NsObj oC m₂ → m₂ x = some v → Fr h₀ L h m → News h₀ L h ((I, oI) :: (C, oC) :: (D, LCg.lst ys) :: news) →
      wpAny (model prog w) A (eval elt (compEnvC scope cl C env)) (EltEnd h₀ L m { s with heap := h, toks := tk } ((I, oI) :: (C, oC) :: (D, LCg.lst ys) :: news) (RO d)) E' { s with heap := h, toks := tk })
    (fin : ∀ ys, All2 RO (ds.filter p) ys → Fin ys news) : LCt.CompRestT prog w A h₀ L m env ct elt x scope cl s S P Fin n 0 [] news := by
  have key : ∀ (j i : Nat) (ys : List Value), i + j = n → All2 RO ((ds.take i).filter p) ys → LCt.CompRestT prog w A h₀ L m env ct elt x scope cl s S P Fin j i ys news := by
    intro j
    induction j with
    | zero =>
      intro i ys hi hy
      have e : i = ds.length := by omega
      subst e
      rw [List.take_length] at hy
      exact LCt.CompRestT.zero (fin ys hy)
    | succ j ih =>
      intro i ys hi hy
      refine LCt.CompRestT.succ ?_
      intro v I oI C oC D m₂ h tk E' hv hC hx F N off ne
      obtain ⟨d, hd, hr⟩ := hP i v (by omega) hv
      have hs : (ds.take (i + 1)).filter p = (ds.take i).filter p ++ (if p d then [d] else []) := by
        rw [List.take_add_one, hd, List.filter_append]; simp [List.filter_cons]
      have hm := List.mem_of_getElem? hd
      refine wpAny_mono (turn d v I oI C oC D m₂ ys h tk E' hm hr hC hx F N) (fun b s₂ hq => ?_) fun _ _ e => e
      obtain ⟨hb, h', tk', e, F', N'⟩ := hq
      subst e
      cases hp : p d with
      | true =>
        rw [hp] at hb; subst hb
        simp only [if_true]
        refine wpAny_mono (eturn d v I oI C oC D m₂ ys h' tk' E' hm hr hC hx F' N') (fun y s₃ hr => ?_) fun _ _ e => e
        obtain ⟨hy', h'', tk'', e, F'', N''⟩ := hr
        subst e
        refine ⟨h'', tk'', news, rfl, F'', N'', off, hS, ih (i + 1) _ (by omega) ?_⟩
        rw [hs, hp]
        exact All2.append hy (.cons hy' .nil)
      | false =>
        rw [hp] at hb; subst hb
        simp only [Bool.false_eq_true, if_false]
        refine ⟨h', tk', news, rfl, F', N', off, hS, ih (i + 1) _ (by omega) ?_⟩
        rw [hs, hp]
        simpa using hy
  exact key n 0 [] (by omega) (by simp only [List.take_zero, List.filter_nil]; exact .nil)

/-- the ints that a range hands on -/
def rng (a c : Int) (n : Nat) : List Int := (List.range n).map fun (i : Nat) => a + (i : Int) * c
theorem rng_length (a c : Int) (n : Nat) : (rng a c n).length = n := by simp [rng]
def IntIs (k : Int) (v : Value) : Prop := ∃ t, v = .int k t
theorem rng_at {a c : Int} {n : Nat} : ∀ i v, i < n → (∃ t, v = Value.int (a + (i : Int) * c) t) → ∃ d, (rng a c n)[i]? = some d ∧ IntIs d v := by
  rintro i v hi ⟨t, rfl⟩
  exact ⟨_, by simp [rng, hi], t, rfl⟩
theorem intsAre_of : ∀ {ns : List Int} {vs : List Value}, All2 IntIs ns vs → IntsAre vs ns
  | _, _, .nil => .nil
  | _, _, .cons ⟨t, e⟩ r => by subst e; exact .cons _ t (intsAre_of r)
end
end Mine
namespace Mine
/-- a call that tells a new list of ints -/
def IntsTell (prog : Program) (w : World) (K : Frag) (f : Addr) (vs : List Value) (lv : Nat) (Ok : List (Addr × Obj) → Prop) (ns : List Int) : Prop :=
  ∀ (p : Program) (loose : List PySem.Str) (mean : ExcName → Option Value) (mg mb : PySem.Str → Option Value) (dp un : Nat) (gd : Option (List Code)) (cn : PySem.Str) (cs : Scope) (a : Addr) (ccd : Value) (cl : List (PySem.Str × Addr)) (outer : List Env) (A₀ : Around) (base h₀ : Heap) (L : Addr) (m : PySem.Str → Option Value) (news : List (Addr × Obj)) (s : Shared) (Q E : Value → Shared → Prop),
    Below A₀ base outer h₀ → Fr h₀ L s.heap m → K.In h₀ → News h₀ L s.heap news → Top p loose mean mg mb h₀ → cs.kind = .function → Ok news → dp + 5 * lv < recursionLimit → un + 100 * lv < cLine →
    (∀ D ys k h' tk', IntsAre ys ns → Fr h₀ L h' m → News h₀ L h' ((D, ({ cls := .type "list", data := .seq ys.toArray k } : Obj)) :: news) → Q (.ref D) { s with heap := h', toks := tk' }) →
    wpAny (model prog w) (ktrTop dp un gd cn cs L a ccd cl outer) (call (.ref f) vs) Q E s
/-- a call that tells a bool -/
def BoolTell (prog : Program) (w : World) (K : Frag) (f : Addr) (vs : List Value) (lv : Nat) (Ok : List (Addr × Obj) → Prop) (b : Bool) : Prop :=
  ∀ (p : Program) (loose : List PySem.Str) (mean : ExcName → Option Value) (mg mb : PySem.Str → Option Value) (dp un : Nat) (gd : Option (List Code)) (cn : PySem.Str) (cs : Scope) (a : Addr) (ccd : Value) (cl : List (PySem.Str × Addr)) (outer : List Env) (A₀ : Around) (base h₀ : Heap) (L : Addr) (m : PySem.Str → Option Value) (news : List (Addr × Obj)) (s : Shared) (Q E : Value → Shared → Prop),
    Below A₀ base outer h₀ → Fr h₀ L s.heap m → K.In h₀ → News h₀ L s.heap news → Top p loose mean mg mb h₀ → cs.kind = .function → Ok news → dp + 5 * lv < recursionLimit → un + 100 * lv < cLine →
    (∀ h' tk', Fr h₀ L h' m → News h₀ L h' news → Q (.bool b) { s with heap := h', toks := tk' }) →
    wpAny (model prog w) (ktrTop dp un gd cn cs L a ccd cl outer) (call (.ref f) vs) Q E s
def Any9 (_ : List (Addr × Obj)) : Prop := True
end Mine
namespace Mine
theorem mem_rng1 {a k : Int} {n : Nat} (h : k ∈ rng a 1 n) : a ≤ k ∧ k < a + n := by
  obtain ⟨i, hi, rfl⟩ := List.mem_map.mp h
  have := List.mem_range.mp hi
  omega
theorem mem_rngD {a k : Int} {n : Nat} (h : k ∈ rng a (-1) n) : a - n < k ∧ k ≤ a := by
  obtain ⟨i, hi, rfl⟩ := List.mem_map.mp h
  have := List.mem_range.mp hi
  omega
end Mine
namespace Mine
abbrev sl (x : PySem.Str) (i j : Int) : PySem.Str := PySem.Txt.slice x (some i) (some j)
abbrev noIn (y x : PySem.Str) : Bool := (Builtin.Str.occurrences x y 0 x.length 1).isEmpty
def peNum (target : PySem.Str) (pos : Int) : List Int := (rng target.length (-1) (target.length - pos).toNat).filter fun n => PySem.Txt.isdecimal (sl target pos n)
def peSigned (target : PySem.Str) (pos : Int) : List Int := if (sl target pos (pos + 1) == PySem.Str.ofString "-") = true then peNum target (pos + 1) else peNum target pos
def peRest (target : PySem.Str) (pos : Int) : List Int := (rng (pos + 1) 1 (target.length + 1 - (pos + 1)).toNat).filter fun n => (PySem.Txt.item target pos != PySem.Str.ofString "/") && noIn (PySem.Str.ofString "\n") (sl target (pos + 1) n)
/-- the ends of a text of so many signs: 'limit' as the function reckons it -/
def peFree (limit least : Int) (target : PySem.Str) (pos : Int) : List Int := (rng limit (-1) (limit - (pos + least - 1)).toNat).filter fun n => noIn (PySem.Str.ofString "/") (sl target pos n)
end Mine
namespace Mine
section
variable {prog : Program} {w : World} {A : Around} {E : Value → Shared → Prop} {s : Shared} {h₀ : Heap} {L : Addr} {m : PySem.Str → Option Value} {env : Env}
def TupIn (ax : Addr) (its : Array Value) (nw : List (Addr × Obj)) : Prop := ∃ o, (ax, o) ∈ nw ∧ o.cls = .type "tuple" ∧ ∃ n, o.data = .seq its n
theorem TupIn.at {h : Heap} {ax : Addr} {its : Array Value} {nw : List (Addr × Obj)} (x : TupIn ax its nw) (N : News h₀ L h nw) : h.IsTuple ax its := let ⟨o, hm, r⟩ := x; ⟨o, (N _ hm).1, r⟩
theorem TupIn.mono {ax : Addr} {its : Array Value} {nw nw' : List (Addr × Obj)} (x : TupIn ax its nw) (hs : ∀ p ∈ nw, p ∈ nw') : TupIn ax its nw' := let ⟨o, hm, r⟩ := x; ⟨o, hs _ hm, r⟩
theorem src_tuple {ct elt : Expr} {x : PySem.Str} {scope : Scope} {cl : List (PySem.Str × Addr)} {Q : Value → Shared → Prop} {ax : Addr} {its : Array Value} {news : List (Addr × Obj)}
    (hh : A.handled = none) (F : Fr h₀ L s.heap m) (N : News h₀ L s.heap news) (hm : TupIn ax its news) (hsz : its.size ≤ sizeLine)
    (h : ∀ g, LCt.CompRestT prog w A h₀ L m env ct elt x scope cl { s with heap := g } (TupIn ax its) (fun i v => its[i]? = some v) (LCg.FinE h₀ L m { s with heap := g } Q) its.size 0 [] news) :
    SrcT prog w A h₀ L m env ct elt x scope cl Q E (.ref ax) s := by
  unfold SrcT
  have hl := hm.at N
  have hlt : ax < s.heap.objs.size := by obtain ⟨_, e, _⟩ := hl; exact Heap.lt_size e
  refine wpAny_pyIter_tuple hl ?_
  have up : ∀ b o, s.heap.get? b = some o → (s.heap.push { cls := .type "tuple_iterator", data := .fields #[.ref ax, .int 0 0] }).get? b = some o := fun b o e => Heap.get?_push_of_some _ e
  refine ⟨s.heap.objs.size, [s.heap.objs.size, ax], its.size, _, _, TupIn ax its, news, rfl, Walks.tuple hh _ ax (Nat.ne_of_lt hlt) its, hsz, fun i h st => ?_, ?_, ?_, ?_, F.keeps up, LCg.news_but N (fun b o _ e => up b o e) (fun p hp => Nat.ne_of_lt (Heap.lt_size (N p hp).1)), Nat.ne_of_lt F.ns.lt, next_is_new F, (fun p hp => Nat.ne_of_lt (Heap.lt_size (N p hp).1)), hm, h _⟩
  · obtain ⟨⟨o, e, _⟩, _⟩ := st; exact ⟨o, e⟩
  · intro i h h' o nw st e e' _ N' S'
    refine ⟨?_, S'.at N'⟩
    obtain ⟨⟨o', q, r⟩, _⟩ := st
    rw [e] at q; cases q
    exact ⟨o, e', r⟩
  · exact ⟨⟨_, Heap.get?_push_size _ rfl, rfl, rfl⟩, hl.push _⟩
  · intro b hb
    show b < (s.heap.push _).objs.size
    rw [Heap.size_push]
    rcases List.mem_cons.mp hb with rfl | hb
    · exact Nat.lt_succ_self _
    · rw [List.mem_singleton.mp hb]; exact Nat.lt_succ_of_lt hlt

theorem src_str {ct elt : Expr} {x : PySem.Str} {scope : Scope} {cl : List (PySem.Str × Addr)} {Q : Value → Shared → Prop} {y : PySem.Str} {t : Tok} {news : List (Addr × Obj)}
    (hh : A.handled = none) (F : Fr h₀ L s.heap m) (N : News h₀ L s.heap news) (hsz : y.cps.size ≤ sizeLine)
    (h : ∀ g, LCt.CompRestT prog w A h₀ L m env ct elt x scope cl { s with heap := g } (fun _ => True) (SignAt y) (LCg.FinE h₀ L m { s with heap := g } Q) y.cps.size 0 [] news) :
    SrcT prog w A h₀ L m env ct elt x scope cl Q E (.str y t) s := by
  unfold SrcT
  have key : ∀ (nm : String) (o₁ : Obj), (s.heap.push o₁).IsStrIter s.heap.objs.size nm y t 0 → Walks prog w A s.heap.objs.size [s.heap.objs.size] [s.heap.objs.size] y.cps.size (SignAt y) (fun i h => h.IsStrIter s.heap.objs.size nm y t i) →
      ∃ (I : Addr) (fp : List Addr) (n : Nat) (P : Nat → Value → Prop) (St : Nat → Heap → Prop) (S : List (Addr × Obj) → Prop) (news' : List (Addr × Obj)),
    (Value.ref s.heap.objs.size) = .ref I ∧ Walks prog w A I fp [I] n P St ∧ n ≤ sizeLine ∧ (∀ i h, St i h → ∃ o, h.get? I = some o) ∧
    (∀ i h h' o nw, St i h → h.get? I = some o → h'.get? I = some o → (∀ b o, h₀.get? b = some o → h'.get? b = some o) → News h₀ L h' nw → S nw → St i h') ∧
    St 0 (s.heap.push o₁) ∧ (∀ b ∈ fp, b < (s.heap.push o₁).objs.size) ∧ Fr h₀ L (s.heap.push o₁) m ∧ News h₀ L (s.heap.push o₁) news' ∧ L ≠ I ∧ h₀.get? I = none ∧ (∀ p ∈ news', p.1 ≠ I) ∧ S news' ∧
    LCt.CompRestT prog w A h₀ L m env ct elt x scope cl { s with heap := s.heap.push o₁ } S P (LCg.FinE h₀ L m { s with heap := s.heap.push o₁ } Q) n 0 [] news' := by
    intro nm o₁ hit W
    have up : ∀ b o, s.heap.get? b = some o → (s.heap.push o₁).get? b = some o := fun b o e => Heap.get?_push_of_some _ e
    refine ⟨s.heap.objs.size, [s.heap.objs.size], y.cps.size, _, _, fun _ => True, news, rfl, W, hsz, fun i h st => ?_, ?_, hit, ?_, F.keeps up, LCg.news_but N (fun b o _ e => up b o e) (fun p hp => Nat.ne_of_lt (Heap.lt_size (N p hp).1)), Nat.ne_of_lt F.ns.lt, next_is_new F, (fun p hp => Nat.ne_of_lt (Heap.lt_size (N p hp).1)), trivial, h _⟩
    · obtain ⟨o, e, _⟩ := st; exact ⟨o, e⟩
    · intro i h h' o nw st e e' _ N' S'
      obtain ⟨o', q, r⟩ := st
      rw [e] at q; cases q
      exact ⟨o, e', r⟩
    · intro b hb
      rw [List.mem_singleton.mp hb]
      show s.heap.objs.size < (s.heap.push _).objs.size
      rw [Heap.size_push]; exact Nat.lt_succ_self _
  cases ha : y.cps.all (· < 128)
  · exact wpAny_pyIter_wide ha (key _ _ ⟨_, Heap.get?_push_size _ rfl, rfl, rfl⟩ (Walks.strWide hh _ y t))
  · exact wpAny_pyIter_ascii ha (key _ _ ⟨_, Heap.get?_push_size _ rfl, rfl, rfl⟩ (Walks.strAscii hh _ y t))
theorem sign_at {y : PySem.Str} : ∀ i v, i < y.cps.size → SignAt y i v → ∃ d, (y.cps.toList)[i]? = some d ∧ (fun (c : Nat) (v : Value) => ∃ u, v = .str ⟨#[c]⟩ u) d v := by
  rintro i v hi ⟨c, u, hc, rfl⟩
  exact ⟨c, by simpa using hc, u, rfl⟩
end
end Mine
namespace Mine
def StrIs (d : PySem.Str) (v : Value) : Prop := ∃ u, v = .str d u
theorem all2_at {α β : Type} {R : α → β → Prop} : ∀ {l : List α} {l' : List β}, All2 R l l' → ∀ (i : Nat) (v : β), l'[i]? = some v → ∃ d, l[i]? = some d ∧ R d v
  | _, _, .nil, i, v, h => by simp at h
  | _, _, .cons a _, 0, v, h => by simp at h; subst h; exact ⟨_, rfl, a⟩
  | _, _, .cons _ r, i + 1, v, h => by
    simp only [List.getElem?_cons_succ] at h ⊢
    exact all2_at r i v h
theorem all2_len {α β : Type} {R : α → β → Prop} : ∀ {l : List α} {l' : List β}, All2 R l l' → l.length = l'.length
  | _, _, .nil => rfl
  | _, _, .cons _ r => by rw [List.length_cons, List.length_cons, all2_len r]
theorem intsAre_map {α : Type} (f : α → Int) : ∀ {ds : List α} {vs : List Value}, All2 (fun d v => ∃ t, v = Value.int (f d) t) ds vs → IntsAre vs (ds.map f)
  | _, _, .nil => .nil
  | _, _, .cons ⟨t, e⟩ r => by subst e; exact .cons _ t (intsAre_map f r)
def peWords (ws : List PySem.Str) (target : PySem.Str) (pos : Int) : List Int := (ws.filter fun d => sl target pos (pos + d.length) == d).map fun d => pos + d.length
end Mine
namespace Mine
section
variable {prog : Program} {w : World} {A : Around} {E : Value → Shared → Prop} {s : Shared}
theorem carried_strs {α : Type} (f : α → PySem.Str) : ∀ {ds : List α} {vs : List Value}, All2 (fun d v => ∃ u, v = Value.str (f d) u) ds vs → CarriedAll vs (ds.map fun d => PyData.str (f d))
  | _, _, .nil => .nil
  | _, _, .cons ⟨t, e⟩ r => by subst e; exact .cons (.str _ t) (carried_strs f r)
theorem shaped_strs {α : Type} (f : α → PySem.Str) (ds : List α) (h : ∀ d ∈ ds, PyData.strOk (f d) = true) : PySem.SeqAt.shaped (.list (ds.map fun d => PyData.str (f d))) = true := by
  have h1 : PyData.canLayAll0 (ds.map fun d => PyData.str (f d)) = true := by
    induction ds with
    | nil => rfl
    | cons d r ih => simp only [List.map_cons, PyData.canLayAll0, PyData.canLay0, h d List.mem_cons_self, Bool.true_and]; exact ih fun x hx => h x (List.mem_cons_of_mem _ hx)
  have h2 : PyData.depthAll (ds.map fun d => PyData.str (f d)) = 0 := by
    clear h h1
    induction ds with
    | nil => rfl
    | cons d r ih => simp only [List.map_cons, PyData.depthAll, PyData.depth, ih]; rfl
  simp [PySem.SeqAt.shaped, PyData.canLay0, PyData.depth, h1, h2]
theorem eq_strs_nil {α : Type} (f : α → PySem.Str) {ds : List α} {vs : List Value} {a b : Addr} {Q : Value → Shared → Prop} (ha : s.heap.IsList a vs.toArray) (hv : All2 (fun d v => ∃ u, v = Value.str (f d) u) ds vs) (hok : ∀ d ∈ ds, PyData.strOk (f d) = true)
    (hb : s.heap.IsList b #[]) (hu : A.units + 64 < cLine) (h : Q (.bool ds.isEmpty) s) : wpAny (model prog w) A (compareOp .Eq (.ref a) (.ref b)) Q E s := by
  refine eq_dataH (reads_newData ha (carried_strs f hv)) (reads_newData (ys := []) hb .nil) (shaped_strs f ds hok) rfl hu ?_
  cases ds <;> exact h
end
/-- the signs that the law draws from -/
def okSign (c : Nat) : Prop := c = 97 ∨ c = 98 ∨ c = 47 ∨ c = 49 ∨ c = 45 ∨ c = 10 ∨ c = 1635 ∨ c = 178
def okText (x : PySem.Str) : Prop := x.length ≤ 6 ∧ ∀ c ∈ x.cps.toList, okSign c
theorem okSign_lt {c : Nat} (h : okSign c) : c < 0x110000 := by
  unfold okSign at h
  rcases h with h | h | h | h | h | h | h | h <;> subst h <;> decide
theorem okText_ok {x : PySem.Str} (h : okText x) : PyData.strOk x = true := by
  unfold PyData.strOk
  rw [← Array.all_toList]
  exact List.all_eq_true.mpr fun c hc => decide_eq_true (okSign_lt (h.2 c hc))
end Mine
namespace Mine
def digitish (c : Nat) : Bool := c == 49 || c == 1635
theorem one_lit : PySem.Str.ofString "1" = ⟨#[49]⟩ := by decide +kernel
theorem three_lit : PySem.Str.ofString "٣" = ⟨#[1635]⟩ := by decide +kernel
theorem sign_beq (a b : Nat) : ((⟨#[a]⟩ : PySem.Str) == ⟨#[b]⟩) = (a == b) := by
  rw [Bool.eq_iff_iff, beq_iff_eq, beq_iff_eq]
  constructor
  · intro h
    have := congrArg (fun (x : PySem.Str) => x.cps.toList) h
    simpa using this
  · intro h; rw [h]
theorem digit_lit (d : Nat) : (![PySem.Str.ofString "1", PySem.Str.ofString "٣"].any fun x => x == ⟨#[d]⟩) = !digitish d := by
  rw [one_lit, three_lit]
  simp only [List.any_cons, List.any_nil, sign_beq, Bool.or_false, digitish]
  rw [Bool.beq_comm, show ((1635 : Nat) == d) = (d == 1635) from Bool.beq_comm]
end Mine
namespace Mine
section
variable {prog : Program} {w : World} {K : Frag} {f : Addr} {vs : List Value} {Ok : List (Addr × Obj) → Prop} {p : Program} {loose : List PySem.Str} {mean : ExcName → Option Value} {mg mb : PySem.Str → Option Value} {dp un : Nat} {gd : Option (List Code)} {cn : PySem.Str} {cs : Scope} {a : Addr} {ccd : Value} {cl : List (PySem.Str × Addr)} {outer : List Env} {A₀ : Around} {base h₀ : Heap} {L : Addr} {m : PySem.Str → Option Value} {news : List (Addr × Obj)} {s : Shared} {Q E : Value → Shared → Prop}
theorem boolTell_use {lv : Nat} {b : Bool} (C : BoolTell prog w K f vs lv Ok b) (B : Below A₀ base outer h₀) (F : Fr h₀ L s.heap m) (X : K.In h₀) (N : News h₀ L s.heap news) (T : Top p loose mean mg mb h₀) (hk : cs.kind = .function) (ok : Ok news) (hd : dp + 5 * lv < recursionLimit) (hu : un + 100 * lv < cLine)
    (ret : ∀ h' tk', Fr h₀ L h' m → News h₀ L h' news → Q (.bool b) { s with heap := h', toks := tk' }) :
    wpAny (model prog w) (ktrTop dp un gd cn cs L a ccd cl outer) (call (.ref f) vs) Q E s := C _ _ _ _ _ _ _ _ _ _ _ _ _ _ _ _ _ _ _ _ _ _ _ B F X N T hk ok hd hu ret
theorem intsTell_use {lv : Nat} {ns : List Int} (C : IntsTell prog w K f vs lv Ok ns) (B : Below A₀ base outer h₀) (F : Fr h₀ L s.heap m) (X : K.In h₀) (N : News h₀ L s.heap news) (T : Top p loose mean mg mb h₀) (hk : cs.kind = .function) (ok : Ok news) (hd : dp + 5 * lv < recursionLimit) (hu : un + 100 * lv < cLine)
    (ret : ∀ D ys k h' tk', IntsAre ys ns → Fr h₀ L h' m → News h₀ L h' ((D, ({ cls := .type "list", data := .seq ys.toArray k } : Obj)) :: news) → Q (.ref D) { s with heap := h', toks := tk' }) :
    wpAny (model prog w) (ktrTop dp un gd cn cs L a ccd cl outer) (call (.ref f) vs) Q E s := C _ _ _ _ _ _ _ _ _ _ _ _ _ _ _ _ _ _ _ _ _ _ _ B F X N T hk ok hd hu ret
end
end Mine
namespace Mine
theorem okText_slice {x : PySem.Str} (h : okText x) (l u : Option Int) : okText (PySem.Txt.slice x l u) := by
  refine ⟨Nat.le_trans (PySem.Txt.slice_le x l u) h.1, fun c hc => ?_⟩
  unfold PySem.Txt.slice at hc
  split at hc
  · exact h.2 c hc
  · simp only [List.mem_filterMap] at hc
    obtain ⟨i, _, hi⟩ := hc
    exact h.2 c (by
      rw [Array.mem_toList_iff]
      exact Array.mem_of_getElem? hi)
end Mine
namespace Mine
/-- as SrcT, what stands behind the loop said by Fin -/
def SrcF (prog : Program) (w : World) (A : Around) (h₀ : Heap) (L : Addr) (m : PySem.Str → Option Value) (env : Env) (ct elt : Expr) (x : PySem.Str) (scope : Scope) (cl : List (PySem.Str × Addr)) (Fin : Shared → List Value → List (Addr × Obj) → Prop) (E : Value → Shared → Prop) (xv : Value) (s₁ : Shared) : Prop :=
  wpAny (model prog w) A (pyIter xv) (fun it s₂ => ∃ (I : Addr) (fp : List Addr) (n : Nat) (P : Nat → Value → Prop) (St : Nat → Heap → Prop) (S : List (Addr × Obj) → Prop) (news : List (Addr × Obj)),
    it = .ref I ∧ Walks prog w A I fp [I] n P St ∧ n ≤ sizeLine ∧ (∀ i h, St i h → ∃ o, h.get? I = some o) ∧
    (∀ i h h' o nw, St i h → h.get? I = some o → h'.get? I = some o → (∀ b o, h₀.get? b = some o → h'.get? b = some o) → News h₀ L h' nw → S nw → St i h') ∧
    St 0 s₂.heap ∧ (∀ b ∈ fp, b < s₂.heap.objs.size) ∧ Fr h₀ L s₂.heap m ∧ News h₀ L s₂.heap news ∧ L ≠ I ∧ h₀.get? I = none ∧ (∀ p ∈ news, p.1 ≠ I) ∧ S news ∧
    LCt.CompRestT prog w A h₀ L m env ct elt x scope cl s₂ S P (Fin s₂) n 0 [] news) E s₁
section
variable {prog : Program} {w : World} {A : Around} {E : Value → Shared → Prop} {s : Shared} {h₀ : Heap} {L : Addr} {m : PySem.Str → Option Value} {env : Env}
theorem assign_listComp_G (_F₀ : Fr h₀ L s.heap m) (hLe : env.locals = L) {ct elt iter : Expr} {x y : PySem.Str} {px py : Pos} {scope : Scope} {cl : List (PySem.Str × Addr)} {pos spos : Pos} {Q : Flow → Shared → Prop}
    (hsw : swapsWith (.ListComp elt [⟨.Name x px, iter, [ct], 0⟩] scope pos) (some (.Name y py)) spos.line env = pure true)
    (hclos : closureFor scope env = pure cl) (hcell : ∀ z ∈ scope.names, z.2 ≠ .cell) (hkind : scope.kind = .function)
    (hnames : ∀ z ∈ scope.names, z.2 = .local → scope.names.lookup z.1 = some .local) (hx : scope.names.lookup x = some .local)
    (hy : env.kindOf y = some .local) (hp : (env.scope.kind == .class || (env.scope.kind == .module && env.locals != env.globals)) = false)
    (h : wpAny (model prog w) A (eval iter env) (SrcF prog w A h₀ L m env ct elt x scope cl (fun s₂ => LCg.FinA h₀ L m s₂ y Q) E) E s)
    (hs : ∀ x, foldedSetIterable iter env x = pure x := by intro _; rfl) :
    wpAny (model prog w) A (exec (.Assign [.Name y py] (.ListComp elt [⟨.Name x px, iter, [ct], 0⟩] scope pos) spos) env) Q E s := by
  subst hLe
  rw [exec_Assign_Name_used _ _ _ _ hsw]
  refine wpAny_bind (wpAny_standAt (wpAny_bind ?_))
  show wpAny _ A (do let _ ← comprehension (.ListComp elt [⟨.Name x px, iter, [ct], 0⟩] scope pos) scope env _ (newList []) false (eval iter env) (some (assign (.Name y py) env))) _ _ s
  refine wpAny_bind (wpAny_mono (wpAny_comprehension_free (use := some (assign (.Name y py) env)) (Q := fun _ s' => Q .next s') rfl hs hclos hkind hnames
    (wpAny_mono h (fun xv s₁ h₁ => wpAny_mono h₁ (fun it s₂ h₂ => ?_) fun _ _ e => e) fun _ _ e => e)) (fun _ s' hq => wpAny_pure (wpAny_pure hq)) fun _ _ e => e)
  obtain ⟨I, fp, n, P, St, S, news, rfl, W, hsz, hIo, hSt, hst, hfp, F, N, hIL, hI₀, off, hS, R⟩ := h₂
  refine LCt.block_T W hsz hIo hSt hcell hkind hx hst hfp F N hIL hI₀ off hS R ?_
  intro D C h' tk m' ys news' F' N' o1 hn hC₀ hD₀ hCL hDL hCD offC fin
  show wpAny _ A (assign (.Name y py) env (.ref D)) _ _ _
  refine wpAny_assign_Name (wpAny_storeName_local hy F'.ns (fun h₂ hn₂ hs₂ => ?_) hp)
  have hL₀ : h₀.get? env.locals = none := Heap.get?_none_of_le F'.above
  have F₂ : Fr h₀ env.locals h₂ (fun z => if z = y then some (.ref D) else m z) := ⟨hn₂, fun b o e => hs₂.extBut b o (fun q => by rw [q, hL₀] at e; cases e) (F'.keep b o e), F'.above⟩
  refine ⟨m', hn.sameBut hs₂ hCL, fun h'' hs'' => fin D h'' _ (F₂.change hs'' hCL hC₀) (fun p hp => ?_) o1⟩
  have z : h₂.get? p.1 = some p.2 := hs₂.extBut _ _ (N' p hp).2.1 (N' p hp).1
  refine ⟨hs''.extBut _ _ ?_ z, (N' p hp).2⟩
  rcases List.mem_cons.mp hp with rfl | hp
  · exact Ne.symm hCD
  · exact offC p hp
theorem srcF_range {ct elt : Expr} {x : PySem.Str} {scope : Scope} {cl : List (PySem.Str × Addr)} {Fin : Shared → List Value → List (Addr × Obj) → Prop} {r : Addr} {a b c : Int} {t u v : Tok} {n : Nat} {news : List (Addr × Obj)}
    (hh : A.handled = none) (F : Fr h₀ L s.heap m) (N : News h₀ L s.heap news) (hr : IsRange s.heap r a b c t u v) (hsm : Builtin.Range.small a b c = true) (hn : Builtin.Range.rangeSize a b c = ((n : Nat) : Int)) (hsz : n ≤ sizeLine)
    (h : ∀ g, LCt.CompRestT prog w A h₀ L m env ct elt x scope cl { s with heap := g } (fun _ => True) (fun i v => ∃ t, v = .int (a + (i : Int) * c) t) (Fin { s with heap := g }) n 0 [] news) :
    SrcF prog w A h₀ L m env ct elt x scope cl Fin E (.ref r) s := by
  unfold SrcF
  refine wpAny_pyIter_range hr hsm ?_
  refine ⟨s.heap.objs.size, [s.heap.objs.size], n, _, _, fun _ => True, news, rfl, Walks.range hh _ a c n, hsz, fun i h st => ⟨_, st⟩, ?_, ?_, ?_, F.keeps fun _ _ e => Heap.get?_push_of_some _ e, LCg.news_but N (fun b o _ e => Heap.get?_push_of_some _ e) (fun p hp => Nat.ne_of_lt (Heap.lt_size (N p hp).1)), Nat.ne_of_lt F.ns.lt, ?_, (fun p hp => Nat.ne_of_lt (Heap.lt_size (N p hp).1)), trivial, h _⟩
  · intro i h h' o nw st e e' _ _ _
    have st' : h.get? _ = some _ := st
    show h'.get? _ = some _
    rw [e', ← e]; exact st'
  · show IsRangeIter _ _ _ _ _
    rw [hn]; simpa using Heap.get?_push_size _ rfl
  · intro b hb
    rw [List.mem_singleton.mp hb]
    show s.heap.objs.size < (s.heap.push _).objs.size
    rw [Heap.size_push]; exact Nat.lt_succ_self _
  · exact next_is_new F
end
end Mine
namespace Mine
theorem all2_size {α : Type} {R : α → Value → Prop} {p : α → Bool} {l : List α} {ys : List Value} (h : All2 R (l.filter p) ys) (hl : l.length ≤ 100) : ys.toArray.size ≤ sizeLine := by
  rw [List.size_toArray, ← all2_len h, PySem.sizeLine_eq]
  have := List.length_filter_le p l
  omega
end Mine
namespace Mine
/-- a call that tells a value and what it made -/
def ValTell (prog : Program) (w : World) (K : Frag) (f : Addr) (vs : List Value) (lv : Nat) (Ok : List (Addr × Obj) → Prop) (R : Value → List (Addr × Obj) → Prop) : Prop :=
  ∀ (p : Program) (loose : List PySem.Str) (mean : ExcName → Option Value) (mg mb : PySem.Str → Option Value) (dp un : Nat) (gd : Option (List Code)) (cn : PySem.Str) (cs : Scope) (a : Addr) (ccd : Value) (cl : List (PySem.Str × Addr)) (outer : List Env) (A₀ : Around) (base h₀ : Heap) (L : Addr) (m : PySem.Str → Option Value) (news : List (Addr × Obj)) (s : Shared) (Q E : Value → Shared → Prop),
    Below A₀ base outer h₀ → Fr h₀ L s.heap m → K.In h₀ → News h₀ L s.heap news → Top p loose mean mg mb h₀ → cs.kind = .function → Ok news → dp + 5 * lv < recursionLimit → un + 100 * lv < cLine →
    (∀ v tl h' tk', R v tl → Fr h₀ L h' m → News h₀ L h' (tl ++ news) → Q v { s with heap := h', toks := tk' }) →
    wpAny (model prog w) (ktrTop dp un gd cn cs L a ccd cl outer) (call (.ref f) vs) Q E s
section
variable {prog : Program} {w : World} {K : Frag} {f : Addr} {vs : List Value} {Ok : List (Addr × Obj) → Prop} {p : Program} {loose : List PySem.Str} {mean : ExcName → Option Value} {mg mb : PySem.Str → Option Value} {dp un : Nat} {gd : Option (List Code)} {cn : PySem.Str} {cs : Scope} {a : Addr} {ccd : Value} {cl : List (PySem.Str × Addr)} {outer : List Env} {A₀ : Around} {base h₀ : Heap} {L : Addr} {m : PySem.Str → Option Value} {news : List (Addr × Obj)} {s : Shared} {Q E : Value → Shared → Prop}
theorem valTell_use {lv : Nat} {R : Value → List (Addr × Obj) → Prop} (C : ValTell prog w K f vs lv Ok R) (B : Below A₀ base outer h₀) (F : Fr h₀ L s.heap m) (X : K.In h₀) (N : News h₀ L s.heap news) (T : Top p loose mean mg mb h₀) (hk : cs.kind = .function) (ok : Ok news) (hd : dp + 5 * lv < recursionLimit) (hu : un + 100 * lv < cLine)
    (ret : ∀ v tl h' tk', R v tl → Fr h₀ L h' m → News h₀ L h' (tl ++ news) → Q v { s with heap := h', toks := tk' }) :
    wpAny (model prog w) (ktrTop dp un gd cn cs L a ccd cl outer) (call (.ref f) vs) Q E s := C _ _ _ _ _ _ _ _ _ _ _ _ _ _ _ _ _ _ _ _ _ _ _ B F X N T hk ok hd hu ret
end
abbrev listO (vs : List Value) (k : Nat) : Obj := { cls := .type "list", data := .seq vs.toArray k }
/-- what _match_part tells: a list of the texts, or None -/
def MpRes (b : Bool) (ds : List PySem.Str) (v : Value) (tl : List (Addr × Obj)) : Prop :=
  match b with
  | true => ∃ D vs k, v = .ref D ∧ tl = [(D, listO vs k)] ∧ All2 StrIs ds vs
  | false => v = .none ∧ tl = []
end Mine
namespace Mine
theorem listIn {h₀ h : Heap} {L r : Addr} {nw : List (Addr × Obj)} {vs : List Value} {k : Nat} (N : News h₀ L h nw) (hm : (r, listO vs k) ∈ nw) : h.IsList r vs.toArray := ⟨_, (N _ hm).1, rfl, k, rfl⟩
theorem mpRes_true {D : Addr} {ds : List PySem.Str} {vs : List Value} {k : Nat} {b : Bool} (hb : b = true) (h : All2 StrIs ds vs) : MpRes b ds (.ref D) [(D, listO vs k)] := by subst hb; exact ⟨D, vs, k, rfl, rfl, h⟩
theorem mpRes_false {ds : List PySem.Str} {b : Bool} (hb : b = false) : MpRes b ds .none [] := by subst hb; exact ⟨rfl, rfl⟩
end Mine
namespace Mine
theorem truthy_one {prog : Program} {w : World} {A : Around} {E : Value → Shared → Prop} {s : Shared} {l : Addr} {v : Value} {Q : Bool → Shared → Prop} (hl : s.heap.IsList l [v].toArray) (h : Q true { s with toks := s.toks + 1 + 1 }) : wpAny (model prog w) A (truthy (.ref l)) Q E s :=
  wpAny_truthy_list hl (by show ((1 : Nat) : Int) < 2 ^ 63; decide) h
end Mine
namespace Mine
theorem slice_nat {x : PySem.Str} {i j : Int} (h0 : 0 ≤ i) (h1 : i ≤ j) (h2 : j ≤ x.length) : PySem.Txt.slice x (some i) (some j) = ⟨((x.cps.toList.drop i.toNat).take (j - i).toNat).toArray⟩ := by
  have h := slice_closes (x := x) (i := i) (j := j) ⟨h0, h1, by simpa [PySem.Str.length] using h2⟩
  exact eq_of_beq h
theorem slice_whole (x : PySem.Str) : PySem.Txt.slice x (some 0) (some (x.length : Int)) = x := by
  rw [slice_nat (by omega) (by omega) (by omega)]
  have e : (((x.length : Int) - 0).toNat) = x.cps.toList.length := by simp [PySem.Str.length]
  rw [e, Int.toNat_zero, List.drop_zero, List.take_length]
theorem contains_of {l : List Int} {k : Int} (h : k ∈ l) : l.contains k = true := by simpa using h
theorem contains_not {l : List Int} {k : Int} (h : ∀ e ∈ l, e ≠ k) : l.contains k = false := by
  cases e : l.contains k with
  | false => rfl
  | true => exact absurd rfl (h k (by simpa using e))
end Mine
namespace Mine
theorem eq_strs_one {prog : Program} {w : World} {A : Around} {E : Value → Shared → Prop} {s : Shared} {x : PySem.Str} {vs : List Value} {a b : Addr} {t : Tok} {Q : Value → Shared → Prop} (ha : s.heap.IsList a vs.toArray) (hv : All2 StrIs [x] vs) (hok : PyData.strOk x = true)
    (hb : s.heap.IsList b [Value.str x t].toArray) (hu : A.units + 64 < cLine) (h : Q (.bool true) s) : wpAny (model prog w) A (compareOp .Eq (.ref a) (.ref b)) Q E s := by
  have sh := shaped_strs (fun d => d) [x] (fun d hd => by rw [List.mem_singleton.mp hd]; exact hok)
  refine eq_dataH (reads_newData ha (carried_strs (fun d => d) hv)) (reads_newData hb (carried_strs (fun d => d) (.cons ⟨t, rfl⟩ .nil))) sh sh hu ?_
  simpa [PyData.eqv, PyData.eqvAll] using h
end Mine
namespace Mine
/-- a comprehension without a test: what its source must hand on -/
def SrcN (prog : Program) (w : World) (A : Around) (h₀ : Heap) (L : Addr) (m : PySem.Str → Option Value) (env : Env) (elt : Expr) (x : PySem.Str) (scope : Scope) (cl : List (PySem.Str × Addr)) (Q : Value → Shared → Prop) (E : Value → Shared → Prop) (xv : Value) (s₁ : Shared) : Prop :=
  wpAny (model prog w) A (pyIter xv) (fun it s₂ => ∃ (I : Addr) (fp : List Addr) (n : Nat) (P : Nat → Value → Prop) (St : Nat → Heap → Prop) (S : List (Addr × Obj) → Prop) (news : List (Addr × Obj)),
    it = .ref I ∧ Walks prog w A I fp [I] n P St ∧ n ≤ sizeLine ∧ (∀ i h, St i h → ∃ o, h.get? I = some o) ∧
    (∀ i h h' o nw, St i h → h.get? I = some o → h'.get? I = some o → (∀ b o, h₀.get? b = some o → h'.get? b = some o) → News h₀ L h' nw → S nw → St i h') ∧
    St 0 s₂.heap ∧ (∀ b ∈ fp, b < s₂.heap.objs.size) ∧ Fr h₀ L s₂.heap m ∧ News h₀ L s₂.heap news ∧ L ≠ I ∧ h₀.get? I = none ∧ (∀ p ∈ news, p.1 ≠ I) ∧ S news ∧
    LCg.CompRest prog w A h₀ L m env elt x scope cl s₂ S P (LCg.FinE h₀ L m s₂ Q) n 0 [] news) E s₁
section
variable {prog : Program} {w : World} {A : Around} {E : Value → Shared → Prop} {s : Shared} {h₀ : Heap} {L : Addr} {m : PySem.Str → Option Value} {env : Env}
theorem listComp_N (_F₀ : Fr h₀ L s.heap m) {elt iter : Expr} {x : PySem.Str} {px : Pos} {scope : Scope} {cl : List (PySem.Str × Addr)} {pos : Pos} {Q : Value → Shared → Prop}
    (hclos : closureFor scope env = pure cl) (hcell : ∀ y ∈ scope.names, y.2 ≠ .cell) (hkind : scope.kind = .function)
    (hnames : ∀ y ∈ scope.names, y.2 = .local → scope.names.lookup y.1 = some .local) (hx : scope.names.lookup x = some .local)
    (h : wpAny (model prog w) A (eval iter env) (SrcN prog w A h₀ L m env elt x scope cl Q E) E s)
    (hs : ∀ x, foldedSetIterable iter env x = pure x := by intro _; rfl) :
    wpAny (model prog w) A (eval (.ListComp elt [⟨.Name x px, iter, [], 0⟩] scope pos) env) Q E s := by
  rw [eval_ListComp]
  refine wpAny_comprehension_free (use := none) rfl hs hclos hkind hnames (wpAny_mono h (fun xv s₁ h₁ => wpAny_mono h₁ (fun it s₂ h₂ => ?_) fun _ _ e => e) fun _ _ e => e)
  obtain ⟨I, fp, n, P, St, S, news, rfl, W, hsz, hIo, hSt, hst, hfp, F, N, hIL, hI₀, off, hS, R⟩ := h₂
  refine LCg.block_U W hsz hIo hSt hcell hkind hx hst hfp F N hIL hI₀ off hS R ?_
  intro D C h tk m' ys news' F' N' o1 hn hC₀ hD₀ hCL hDL hCD offC fin
  refine ⟨m', hn, fun h'' hs'' => fin D h'' tk (F'.change hs'' hCL hC₀) (fun p hp => ?_) o1⟩
  refine ⟨hs''.extBut _ _ ?_ (N' p hp).1, (N' p hp).2⟩
  rcases List.mem_cons.mp hp with rfl | hp
  · exact Ne.symm hCD
  · exact offC p hp
def LstIn (ax : Addr) (its : Array Value) (nw : List (Addr × Obj)) : Prop := ∃ o, (ax, o) ∈ nw ∧ o.cls = .type "list" ∧ ∃ n, o.data = .seq its n
theorem LstIn.at {h : Heap} {ax : Addr} {its : Array Value} {nw : List (Addr × Obj)} (x : LstIn ax its nw) (N : News h₀ L h nw) : h.IsList ax its := let ⟨o, hm, r⟩ := x; ⟨o, (N _ hm).1, r⟩
theorem srcN_list {elt : Expr} {x : PySem.Str} {scope : Scope} {cl : List (PySem.Str × Addr)} {Q : Value → Shared → Prop} {ax : Addr} {its : Array Value} {news : List (Addr × Obj)}
    (hh : A.handled = none) (F : Fr h₀ L s.heap m) (N : News h₀ L s.heap news) (hm : LstIn ax its news) (hsz : its.size ≤ sizeLine)
    (h : ∀ g, LCg.CompRest prog w A h₀ L m env elt x scope cl { s with heap := g } (LstIn ax its) (fun i v => its[i]? = some v) (LCg.FinE h₀ L m { s with heap := g } Q) its.size 0 [] news) :
    SrcN prog w A h₀ L m env elt x scope cl Q E (.ref ax) s := by
  unfold SrcN
  have hl := hm.at N
  have hlt : ax < s.heap.objs.size := by obtain ⟨_, e, _⟩ := hl; exact Heap.lt_size e
  refine wpAny_pyIter_list hl ?_
  have up : ∀ b o, s.heap.get? b = some o → (s.heap.push { cls := .type "list_iterator", data := .fields #[.ref ax, .int 0 0] }).get? b = some o := fun b o e => Heap.get?_push_of_some _ e
  refine ⟨s.heap.objs.size, [s.heap.objs.size, ax], its.size, _, _, LstIn ax its, news, rfl, Walks.list hh _ ax (Nat.ne_of_lt hlt) its, hsz, fun i h st => ?_, ?_, ?_, ?_, F.keeps up, LCg.news_but N (fun b o _ e => up b o e) (fun p hp => Nat.ne_of_lt (Heap.lt_size (N p hp).1)), Nat.ne_of_lt F.ns.lt, next_is_new F, (fun p hp => Nat.ne_of_lt (Heap.lt_size (N p hp).1)), hm, h _⟩
  · obtain ⟨⟨o, e, _⟩, _⟩ := st; exact ⟨o, e⟩
  · intro i h h' o nw st e e' _ N' S'
    refine ⟨?_, S'.at N'⟩
    obtain ⟨⟨o', q, r⟩, _⟩ := st
    rw [e] at q; cases q
    exact ⟨o, e', r⟩
  · exact ⟨⟨_, Heap.get?_push_size _ rfl, rfl, rfl⟩, hl.push _⟩
  · intro b hb
    show b < (s.heap.push _).objs.size
    rw [Heap.size_push]
    rcases List.mem_cons.mp hb with rfl | hb
    · exact Nat.lt_succ_self _
    · rw [List.mem_singleton.mp hb]; exact Nat.lt_succ_of_lt hlt
theorem rest_map {α : Type} {elt : Expr} {x : PySem.Str} {scope : Scope} {cl : List (PySem.Str × Addr)} {S : List (Addr × Obj) → Prop} {P : Nat → Value → Prop} {Fin : List Value → List (Addr × Obj) → Prop} {news : List (Addr × Obj)} {n : Nat}
    (ds : List α) (RI RO : α → Value → Prop) (hlen : ds.length = n) (hS : S news)
    (hP : ∀ i v, i < n → P i v → ∃ d, ds[i]? = some d ∧ RI d v)
    (eturn : ∀ d v I oI C oC D m₂ ys h tk (E' : Value → Shared → Prop), d ∈ ds → RI d v → LCg.NsObj oC m₂ → m₂ x = some v → Fr h₀ L h m → News h₀ L h ((I, oI) :: (C, oC) :: (D, LCg.lst ys) :: news) →
      wpAny (model prog w) A (eval elt (compEnvC scope cl C env)) (EltEnd h₀ L m { s with heap := h, toks := tk } ((I, oI) :: (C, oC) :: (D, LCg.lst ys) :: news) (RO d)) E' { s with heap := h, toks := tk })
    (fin : ∀ ys, All2 RO ds ys → Fin ys news) : LCg.CompRest prog w A h₀ L m env elt x scope cl s S P Fin n 0 [] news := by
  have key : ∀ (j i : Nat) (ys : List Value), i + j = n → All2 RO (ds.take i) ys → LCg.CompRest prog w A h₀ L m env elt x scope cl s S P Fin j i ys news := by
    intro j
    induction j with
    | zero =>
      intro i ys hi hy
      have e : i = ds.length := by omega
      subst e
      rw [List.take_length] at hy
      exact LCg.CompRest.zero (fin ys hy)
    | succ j ih =>
      intro i ys hi hy
      refine LCg.CompRest.succ ?_
      intro v I oI C oC D m₂ h tk E' hv hC hx F N off ne
      obtain ⟨d, hd, hr⟩ := hP i v (by omega) hv
      have hm := List.mem_of_getElem? hd
      refine wpAny_mono (eturn d v I oI C oC D m₂ ys h tk E' hm hr hC hx F N) (fun y s₃ hr => ?_) fun _ _ e => e
      obtain ⟨hy', h'', tk'', e, F'', N''⟩ := hr
      subst e
      refine ⟨h'', tk'', news, rfl, F'', N'', off, hS, ih (i + 1) _ (by omega) ?_⟩
      rw [List.take_add_one, hd]
      exact All2.append hy (.cons hy' .nil)
  exact key n 0 [] (by omega) (by simp only [List.take_zero]; exact .nil)
end
end Mine
namespace Mine
theorem take_le6 (X : Int) (n : Nat) (l : List Int) : (List.take (min (1 + X.fmod 7).toNat n - 1) l).length ≤ 6 := by
  rw [List.length_take]
  have h1 := Int.fmod_lt_of_pos X (show (0 : Int) < 7 by decide)
  omega
theorem ints_at {vs : List Value} {ns : List Int} (h : IntsAre vs ns) : ∀ i v, i < vs.toArray.size → vs.toArray[i]? = some v → ∃ d, ns[i]? = some d ∧ IntIs d v := by
  intro i v _ hv
  obtain ⟨k, t, e, hk⟩ := IntsAre.at h i v (by simpa using hv)
  exact ⟨k, hk, t, e⟩
def SignV (_ : Int) (v : Value) : Prop := ∃ c t, v = .str ⟨#[c]⟩ t ∧ okSign c
end Mine
namespace Mine
theorem fmod8_cases (d : Int) : (d.fmod 8).toNat < 8 ∧ 0 ≤ d.fmod 8 ∧ d.fmod 8 < 2 ^ 63 := by
  have h1 := Int.fmod_lt_of_pos d (show (0 : Int) < 8 by decide)
  have h2 := Int.fmod_nonneg_of_pos d (show (0 : Int) < 8 by decide)
  omega
theorem signs_item {prog : Program} {w : World} {A : Around} {E : Value → Shared → Prop} {s : Shared} {K : Frag} {h₀ : Heap} {L a : Addr} {m : PySem.Str → Option Value} {n : Nat} {value slice : Expr} {l : List Value} {dd : Option Addr} {sl : Array (Option Value)} {d : Int} {u : Tok} {Q : Value → Shared → Prop}
    (F : Fr h₀ L s.heap m) (X₀ : K.In h₀) (hl : K.lookup a = some ⟨.type "list", dd, .seq l.toArray n, sl⟩) (hall : ∀ i, i < 8 → ∃ c t, l[i]? = some (.str ⟨#[c]⟩ t) ∧ okSign c)
    (h : ∀ c t, okSign c → Q (.str ⟨#[c]⟩ t) s)
    (hs : subscripted slice false (.ref a) (.int (d.fmod 8) u) = operate [.ref a, .int (d.fmod 8) u] (getItem (.ref a) (.int (d.fmod 8) u)) := by with_unfolding_all rfl) :
    wpAny (model prog w) A (subscriptTail value slice (.ref a) (.int (d.fmod 8) u)) Q E s := by
  obtain ⟨h1, h2, h3⟩ := fmod8_cases d
  obtain ⟨c, t, hx, hc⟩ := hall _ h1
  exact topList_K F X₀ hl h2 h3 hx (h c t hc) hs
end Mine
namespace Mine
theorem signs_all (a1 a2 a3 a4 a5 a6 a7 a8 : Tok) : ∀ i, i < 8 → ∃ c t, [Value.str (PySem.Str.ofString "a") a1, Value.str (PySem.Str.ofString "b") a2, Value.str (PySem.Str.ofString "/") a3, Value.str (PySem.Str.ofString "1") a4, Value.str (PySem.Str.ofString "-") a5, Value.str (PySem.Str.ofString "\n") a6, Value.str (PySem.Str.ofString "٣") a7, Value.str (PySem.Str.ofString "²") a8][i]? = some (.str ⟨#[c]⟩ t) ∧ okSign c := by
  rw [show PySem.Str.ofString "a" = ⟨#[97]⟩ from by decide +kernel, show PySem.Str.ofString "b" = ⟨#[98]⟩ from by decide +kernel, show PySem.Str.ofString "/" = ⟨#[47]⟩ from by decide +kernel, show PySem.Str.ofString "1" = ⟨#[49]⟩ from by decide +kernel, show PySem.Str.ofString "-" = ⟨#[45]⟩ from by decide +kernel, show PySem.Str.ofString "\n" = ⟨#[10]⟩ from by decide +kernel, show PySem.Str.ofString "٣" = ⟨#[1635]⟩ from by decide +kernel, show PySem.Str.ofString "²" = ⟨#[178]⟩ from by decide +kernel]
  intro i hi
  have h : i = 0 ∨ i = 1 ∨ i = 2 ∨ i = 3 ∨ i = 4 ∨ i = 5 ∨ i = 6 ∨ i = 7 := by omega
  rcases h with h | h | h | h | h | h | h | h <;> subst h <;> exact ⟨_, _, rfl, by simp [okSign]⟩
end Mine
namespace Mine
theorem join_cps : ∀ xs : List PySem.Str, (PySem.Str.join (PySem.Str.ofString "") xs).cps.toList = (xs.map fun x => x.cps.toList).flatten
  | [] => rfl
  | [x] => by show x.cps.toList = _; simp
  | x :: y :: r => by
    have ih := join_cps (y :: r)
    show (x ++ PySem.Str.ofString "" ++ PySem.Str.join (PySem.Str.ofString "") (y :: r)).cps.toList = _
    rw [PySem.Str.cps_append, PySem.Str.cps_append, show PySem.Str.ofString "" = ⟨#[]⟩ from by decide +kernel]
    rw [show PySem.Str.ofString "" = ⟨#[]⟩ from by decide +kernel] at ih
    simp only [Array.toList_append, ih]
    simp
theorem signs_join : ∀ {ds : List Int} {ys : List Value}, All2 SignV ds ys → ∃ xs : List PySem.Str, StrsAre ys xs ∧ (xs.map (·.length)).sum = ds.length ∧ xs.length = ds.length ∧ ((xs.map fun x => x.cps.toList).flatten).length = ds.length ∧ ∀ c ∈ (xs.map fun x => x.cps.toList).flatten, okSign c
  | _, _, .nil => ⟨[], .nil, rfl, rfl, rfl, fun c hc => nomatch hc⟩
  | _, _, .cons ⟨c, t, e, hc⟩ r => by
    obtain ⟨xs, h1, h2, h3, h4, h5⟩ := signs_join r
    subst e
    refine ⟨⟨#[c]⟩ :: xs, .cons _ t h1, ?_, ?_, ?_, ?_⟩
    · simp only [List.map_cons, List.sum_cons, h2, List.length_cons]
      show 1 + _ = _
      omega
    · simp only [List.length_cons, h3]
    · simp only [List.map_cons, List.flatten_cons, List.length_append, h4, List.length_cons]
      show 1 + _ = _
      omega
    · intro d hd
      simp only [List.map_cons, List.flatten_cons, List.mem_append] at hd
      rcases hd with hd | hd
      · have : d = c := by simpa using hd
        subst this; exact hc
      · exact h5 d hd
theorem okText_join {xs : List PySem.Str} {n : Nat} (h1 : ((xs.map fun x => x.cps.toList).flatten).length = n) (hn : n ≤ 6) (h2 : ∀ c ∈ (xs.map fun x => x.cps.toList).flatten, okSign c) : okText (PySem.Txt.join (PySem.Str.ofString "") xs) := by
  have e : PySem.Txt.join (PySem.Str.ofString "") xs = PySem.Str.join (PySem.Str.ofString "") xs := eq_of_beq (join_closes rfl)
  rw [e]
  have e2 := join_cps xs
  refine ⟨?_, fun c hc => h2 c (by rw [← e2]; exact hc)⟩
  have : (PySem.Str.join (PySem.Str.ofString "") xs).length = (PySem.Str.join (PySem.Str.ofString "") xs).cps.toList.length := by simp [PySem.Str.length]
  rw [this, e2, h1]; exact hn
end Mine
namespace Mine
theorem typeCall_list_0 : checkTypeCall "list" ⟨[], []⟩ = pure () := by kernel_rfl
theorem newCall_list_0 : checkBuiltinCall "list.__new__" ⟨[.type "list"], []⟩ = pure () := by kernel_rfl
theorem typeCall_dict_0 : checkTypeCall "dict" ⟨[], []⟩ = pure () := by kernel_rfl
theorem newCall_dict_0 : checkBuiltinCall "dict.__new__" ⟨[.type "dict"], []⟩ = pure () := by kernel_rfl
section
variable {prog : Program} {w : World} {A : Around} {E : Value → Shared → Prop} {s : Shared} {h₀ : Heap} {L : Addr} {m : PySem.Str → Option Value} {news : List (Addr × Obj)}
theorem code_list_new0 {Q₁ : Value → Shared → Prop}
    (h : Q₁ (.ref s.heap.objs.size) { s with heap := s.heap.push { cls := .type "list", data := .seq #[] } }) :
    codeAny (model prog w) A (.call (.builtin "list.__new__") ⟨[.type "list"], []⟩) (wants Q₁ E) s := by
  refine codeAny_of_tree ?_
  show wpAny _ A.in1 (do checkBuiltinCall "list.__new__" ⟨[.type "list"], []⟩; again (.builtin "list.__new__" ⟨[.type "list"], []⟩)) _ _ s
  refine wpAny_bind (wpAny_of_eq newCall_list_0 (wpAny_pure ⟨plainId_quiet PySem.F.plain_list_new _, codeAny_builtin_stack PySem.F.entry_list_new rfl fun p st => ?_⟩))
  rw [Around.under_plainId PySem.F.plain_list_new _]
  have hsub := sub_list_self
  have hown := owner_list_new
  obtain ⟨hp, g, d, tk, os⟩ := s
  simp only [hown]
  wp_walk
  exact h
theorem list_init0 (S : Addr) {R : Result → Shared → Prop} (hS : s.heap.get? S = some { cls := .type "list", data := .seq #[] })
    (hR : R (.ok (.ret .none)) { s with heap := s.heap.update S (Obj.mapSeq (fun _ => (#[] : Array Value))) }) :
    wpAny (model prog w) A.in1 (Builtin.«list.__init__» ⟨[.ref S], []⟩)
      (fun fin s' => match fin with | .done f => R (.ok f) s' | .again c' => c'.quiet = true ∧ codeAny (model prog w) A c' R s') (fun e s' => R (.error e) s') s := by
  show wpAny _ A.in1 (do let old ← Builtin.List.listItems (.ref S); Builtin.List.listUpdate (.ref S) (fun _ => #[]); letGo old.toList.reverse; ret .none) _ _ s
  refine wpAny_bind ?_
  unfold Builtin.List.listItems
  refine wpAny_bind (wpAny_seqItems hS rfl (wpAny_pure ?_))
  show wpAny _ A.in1 (updateSeq S (fun _ => #[]) >>= fun _ => letGo (#[] : Array Value).toList.reverse >>= fun _ => ret .none) _ _ s
  refine wpAny_bind (wpAny_updateSeq hS rfl ?_)
  refine wpAny_bind (wpAny_letGo ?_)
  exact wpAny_pure hR
theorem call_list_0 {Q : Value → Shared → Prop}
    (hQ : ∀ h' c', (∀ b o', s.heap.get? b = some o' → h'.get? b = some o') → h'.get? s.heap.objs.size = some { cls := .type "list", dict := none, data := .seq #[] c', slots := #[] } → Q (.ref s.heap.objs.size) { s with heap := h' }) :
    wpAny (model prog w) A (call (.type "list") []) Q E s := by
  refine callType_codes (Q₁ := fun obj s₁ => obj = .ref s.heap.objs.size ∧ s₁ = { s with heap := s.heap.push { cls := .type "list", data := .seq #[] } }) PySem.F.called_list typeCall_list_0 PySem.F.entry_list_init
    (code_list_new0 ⟨rfl, rfl⟩) fun obj s₁ h₁ => ?_
  obtain ⟨rfl, rfl⟩ := h₁
  have hS : (s.heap.push { cls := .type "list", data := .seq #[] }).get? s.heap.objs.size = some { cls := .type "list", data := .seq #[] } := Heap.get?_push_size _ rfl
  refine ⟨⟨_, hS, rfl⟩, PySem.F.args_list_init_1 _, list_init0 _ hS ⟨rfl, ?_⟩⟩
  have hS₂ := Heap.get?_update_self (Obj.mapSeq (fun _ => (#[] : Array Value))) hS rfl
  refine hQ _ _ (fun b o' e => ?_) (by simpa [Obj.mapSeq] using hS₂)
  have hb : b ≠ s.heap.objs.size := fun e' => Nat.lt_irrefl _ (e' ▸ Heap.lt_size e)
  exact (Heap.get?_update_other _ _ (Ne.symm hb)).trans (Heap.get?_push_of_some _ e)
theorem fresh_L (F : Fr h₀ L s.heap m) : s.heap.objs.size ≠ L ∧ h₀.get? s.heap.objs.size = none := ⟨Ne.symm (Nat.ne_of_lt F.ns.lt), next_is_new F⟩
theorem list0_N {Q : Value → Shared → Prop} (F : Fr h₀ L s.heap m) (N : News h₀ L s.heap news)
    (h : ∀ D c h', Fr h₀ L h' m → News h₀ L h' ((D, listO [] c) :: news) → (∀ p ∈ news, p.1 < D) → Q (.ref D) { s with heap := h' }) : wpAny (model prog w) A (call (.type "list") []) Q E s := by
  refine call_list_0 fun h' c' hk hS => ?_
  refine h _ c' h' (F.keeps hk) (fun p hp => ?_) (fun p hp => Heap.lt_size (N p hp).1)
  rcases List.mem_cons.mp hp with rfl | hp
  · exact ⟨hS, fresh_L F⟩
  · exact ⟨hk _ _ (N p hp).1, (N p hp).2⟩
theorem code_dict_new0 {Q₁ : Value → Shared → Prop} (h : Q₁ (.ref s.heap.objs.size) { s with heap := s.heap.push { cls := .type "dict", data := .dict #[] } }) :
    codeAny (model prog w) A (.call (.builtin "dict.__new__") ⟨[.type "dict"], []⟩) (wants Q₁ E) s := by
  refine codeAny_call_builtin PySem.F.kt_plain_dict_new PySem.F.kt_entry_dict_new (wpAny_of_eq newCall_dict_0 ?_)
  have hsub := PySem.F.kt_sub_dict
  have hmro := PySem.F.kt_mro_dict
  obtain ⟨hp, g, d, tk, os⟩ := s
  unfold Builtin.«dict.__new__»
  wp_walk
  exact h
theorem call_dict_0 {Q : Value → Shared → Prop} (h : Q (.ref s.heap.objs.size) { s with heap := s.heap.push { cls := .type "dict", data := .dict #[] } }) :
    wpAny (model prog w) A (call (.type "dict") []) Q E s := by
  refine callType_codes (Q₁ := fun obj s₁ => obj = .ref s.heap.objs.size ∧ s₁ = { s with heap := s.heap.push { cls := .type "dict", data := .dict #[] } }) PySem.F.kt_called_dict typeCall_dict_0 PySem.F.entry_dict_init (code_dict_new0 ⟨rfl, rfl⟩) ?_
  rintro obj s₁ ⟨rfl, rfl⟩
  have hS : (s.heap.push { cls := .type "dict", data := .dict #[] }).get? s.heap.objs.size = some { cls := .type "dict", data := .dict #[] } := Heap.get?_push_size _ rfl
  have hT : Shared.TypeIs { s with heap := s.heap.push { cls := .type "dict", data := .dict #[] } } (.ref s.heap.objs.size) "dict" := ⟨_, hS, rfl⟩
  refine ⟨hT, PySem.F.args_dict_init_1 _, ?_⟩
  unfold Builtin.«dict.__init__»
  refine wpAny_bind ?_
  unfold Builtin.Dict.selfAndRest
  refine wpAny_bind (wpAny_notOrdered_dict hT ?_)
  show wpAny _ _ (pure (s.heap.objs.size, ([] : List Value))) _ _ _
  refine wpAny_pure ?_
  show wpAny _ _ (Builtin.Dict.addKeywords s.heap.objs.size [] >>= _) _ _ _
  exact wpAny_bind (wpAny_pure (wpAny_pure ⟨rfl, h⟩))
theorem dict0_N {Q : Value → Shared → Prop} (F : Fr h₀ L s.heap m) (N : News h₀ L s.heap news)
    (h : ∀ D h', Fr h₀ L h' m → News h₀ L h' ((D, dictOf [] 0) :: news) → (∀ p ∈ news, p.1 < D) → Q (.ref D) { s with heap := h' }) : wpAny (model prog w) A (call (.type "dict") []) Q E s := by
  refine call_dict_0 ?_
  exact h _ _ (F.push _) (N.push F _) (fun p hp => Heap.lt_size (N p hp).1)
theorem dictOf_K {K : Frag} {a : Addr} {es : Array DictEntry} {n : Nat} {h : Heap} (X : K.In h) (hl : K.lookup a = some ⟨.type "dict", none, .dict es n, #[]⟩) (kvs : List (PySem.Str × Value))
    (hk : All2 (fun (kv : PySem.Str × Value) (e : DictEntry) => (∃ t, e.key = .str kv.1 t) ∧ e.hash = PyData.keyHash w.params kv.1 ∧ e.val = kv.2) kvs es.toList) (hn : (kvs.map (·.1)).Nodup) : h.DictOf (strKind prog w) a kvs := by
  have key : ∀ {l : List (PySem.Str × Value)} {l' : List DictEntry}, All2 (fun (kv : PySem.Str × Value) (e : DictEntry) => (∃ t, e.key = .str kv.1 t) ∧ e.hash = PyData.keyHash w.params kv.1 ∧ e.val = kv.2) l l' →
      Pairs (strKind prog w) l' l ∧ ∀ e ∈ l', ∃ k, (strKind prog w).is k e.key = true ∧ e.hash = (strKind prog w).hash k := by
    intro l l' h
    induction h with
    | nil => exact ⟨.nil, fun e he => nomatch he⟩
    | cons hr _ ih =>
      obtain ⟨⟨t, e1⟩, e2, e3⟩ := hr
      refine ⟨.cons (by rw [e1]; exact strKind_is prog w _ t) e3 ih.1, fun e he => ?_⟩
      rcases List.mem_cons.mp he with rfl | he
      · exact ⟨_, by rw [e1]; exact strKind_is prog w _ t, e2⟩
      · exact ih.2 e he
  obtain ⟨h1, h2⟩ := key hk
  exact ⟨_, es, n, X _ _ hl, ⟨rfl, rfl, rfl⟩, rfl, fun e he => h2 e (Array.mem_toList_iff.mpr he), h1, hn⟩
theorem dictCopy_N {K : Frag} {a : Addr} {es : Array DictEntry} {n : Nat} {Q : Value → Shared → Prop} (F : Fr h₀ L s.heap m) (X : K.In h₀) (N : News h₀ L s.heap news) (hl : K.lookup a = some ⟨.type "dict", none, .dict es n, #[]⟩) (kvs : List (PySem.Str × Value))
    (hk : All2 (fun (kv : PySem.Str × Value) (e : DictEntry) => (∃ t, e.key = .str kv.1 t) ∧ e.hash = PyData.keyHash w.params kv.1 ∧ e.val = kv.2) kvs es.toList) (hn : (kvs.map (·.1)).Nodup) (ha : (a == sysModules) = false) (hsz : kvs.length ≤ sizeLine)
    (h : ∀ D h', Fr h₀ L h' m → News h₀ L h' news → Q (.ref D) { s with heap := h' }) : wpAny (model prog w) A (call (.type "dict") [.ref a]) Q E s := by
  have hd := dictOf_K (prog := prog) (X.keeps F.keep) hl kvs hk hn
  refine kt_call_dict ha hd hsz fun h' hm hs => ?_
  have hS : ∀ b o, s.heap.get? b = some o → h'.get? b = some o := fun b o e => by
    have hb : b ≠ s.heap.objs.size := fun e' => Nat.lt_irrefl _ (e' ▸ Heap.lt_size e)
    exact (hs.2 b hb).trans (Heap.get?_push_of_some _ e)
  exact h _ h' (F.keeps hS) (fun p hp => ⟨hS _ _ (N p hp).1, (N p hp).2⟩)
end
end Mine
namespace Mine
def kvOf (e : DictEntry) : PySem.Str × Value := (match e.key with | .str x _ => x | _ => ⟨#[]⟩, e.val)
theorem kvs_all {P : Params} : ∀ {l : List DictEntry}, KeysLit P l → All2 (fun (kv : PySem.Str × Value) (e : DictEntry) => (∃ t, e.key = .str kv.1 t) ∧ e.hash = PyData.keyHash P kv.1 ∧ e.val = kv.2) (l.map kvOf) l
  | [], _ => .nil
  | e :: r, ⟨⟨x, t, h1, h2⟩, hr⟩ => by
    refine .cons ⟨⟨t, ?_⟩, ?_, rfl⟩ (kvs_all hr)
    · simp only [kvOf, h1]
    · simp only [kvOf, h1]; exact h2
section
variable {prog : Program} {w : World} {A : Around} {E : Value → Shared → Prop} {s : Shared} {h₀ : Heap} {L : Addr} {m : PySem.Str → Option Value} {news : List (Addr × Obj)}
theorem dictCopy_K {K : Frag} {a : Addr} {es : Array DictEntry} {n : Nat} {Q : Value → Shared → Prop} (F : Fr h₀ L s.heap m) (X : K.In h₀) (N : News h₀ L s.heap news) (hl : K.lookup a = some ⟨.type "dict", none, .dict es n, #[]⟩)
    (hk : KeysLit w.params es.toList) (hn : ((es.toList.map kvOf).map (·.1)).Nodup) (ha : (a == sysModules) = false) (hsz : es.toList.length ≤ sizeLine)
    (h : ∀ D h', Fr h₀ L h' m → News h₀ L h' news → Q (.ref D) { s with heap := h' }) : wpAny (model prog w) A (call (.type "dict") [.ref a]) Q E s :=
  dictCopy_N F X N hl _ (kvs_all hk) hn ha (by rw [List.length_map]; exact hsz) h
end
end Mine
namespace Mine
theorem units_under_make (A : Around) (C : Addr) (vals : List Value) (kw : List (PySem.Str × Value)) : (A.under (.builtin "type.__call__" ⟨.ref C :: vals, kw⟩)).units = A.units + 1 := rfl
end Mine
namespace Mine
section
variable {prog : Program} {w : World} {A : Around} {E : Value → Shared → Prop} {s : Shared} {h₀ : Heap} {m : PySem.Str → Option Value} {news : List (Addr × Obj)} {env : Env} {x : PySem.Str} {body : List Stmt} {Q : Flow → Shared → Prop}
theorem loop_none {ax : Addr} (hh : A.handled = none) (F : Fr h₀ env.locals s.heap m) (N : News h₀ env.locals s.heap news) (hm : TupIn ax #[] news)
    (h : ∀ h' tk, Fr h₀ env.locals h' m → News h₀ env.locals h' news → Q .next { s with heap := h', toks := tk }) :
    wpAny (model prog w) A (pyIter (.ref ax)) (fun it s₂ => LoopAtV prog w A h₀ env x body Q E it s₂) E s := by
  have hl := hm.at N
  have hlt : ax < s.heap.objs.size := by obtain ⟨_, e, _⟩ := hl; exact Heap.lt_size e
  refine wpAny_pyIter_tuple hl ?_
  have up : ∀ b o, s.heap.get? b = some o → (s.heap.push { cls := .type "tuple_iterator", data := .fields #[.ref ax, .int 0 0] }).get? b = some o := fun b o e => Heap.get?_push_of_some _ e
  refine ⟨s.heap.objs.size, [s.heap.objs.size, ax], [s.heap.objs.size], 0, _, _, m, news, fun _ m' nw => m' = m ∧ nw = news, rfl, Walks.tuple hh _ ax (Nat.ne_of_lt hlt) #[], ?_, ?_, ?_, ?_, F.keeps up, LCg.news_but N (fun b o _ e => up b o e) (fun p hp => Nat.ne_of_lt (Heap.lt_size (N p hp).1)), ⟨rfl, rfl⟩, ?_, ?_⟩
  · intro hL
    rcases List.mem_cons.mp hL with hL | hL
    · exact Nat.lt_irrefl _ (hL ▸ F.ns.lt)
    · obtain ⟨o, ho, _⟩ := hm
      exact (N _ ho).2.1 (List.mem_singleton.mp hL).symm
  · intro b hb
    rw [List.mem_singleton.mp hb]; exact next_is_new F
  · intro p hp hb
    exact Nat.lt_irrefl _ ((List.mem_singleton.mp hb) ▸ Heap.lt_size (N p hp).1)
  · exact ⟨⟨_, Heap.get?_push_size _ rfl, rfl, rfl⟩, hl.push _⟩
  · intro i v m₁ news₁ s₁ own _ hi
    exact absurd hi (Nat.not_lt_zero _)
  · rintro h' tk m' news' F' N' _ ⟨rfl, rfl⟩
    exact h h' tk F' N'
end
end Mine
namespace Mine
theorem news_drop {h₀ h : Heap} {L : Addr} {nw : List (Addr × Obj)} (n : Nat) (N : News h₀ L h nw) : News h₀ L h (nw.drop n) := fun p hp => N p (List.mem_of_mem_drop hp)
abbrev entO (P : Params) (n : String) (t : Tok) (v : Value) : DictEntry := ⟨PyData.keyHash P (PySem.Str.ofString n), .str (PySem.Str.ofString n) t, v⟩
end Mine
namespace Mine
section
variable {prog : Program} {w : World} {A A₀ : Around} {s : Shared} {K : Frag} {L : Addr} {h₀ base : Heap} {m mg mb : PySem.Str → Option Value} {news : List (Addr × Obj)} {p : Program} {loose : List PySem.Str} {mean : ExcName → Option Value}
theorem ks_rest {env : Env} {outer : List Env} {R : Result → Shared → Prop} {name qual : PySem.Str} {params : Arguments} {body : List Stmt} {scope : Scope} {dV kV doc pm cdv ct oc : Value} {an od : Option Addr} {osl : Array (Option Value)} {f cc : Addr} {args : Args} {vs : List Value} {g₁ : Addr → Option (List (PySem.Str × Value))} {binds : Addr → List (PySem.Str × Value)}
    (B : Below A₀ base outer h₀) (F : Fr h₀ L s.heap m) (X₀ : K.In h₀) (N : News h₀ L s.heap news) (T : Top p loose mean mg mb h₀) (hA : A.frames = some (env :: outer)) (hf : env.frame = some L) (hke : env.scope.kind = .function)
    (ho : K.lookup f = some ⟨oc, od, .func (ksFn name qual params body scope dV kV doc pm an cdv ct cc), osl⟩) (hcd : codeIn K cdv qual = true) (hroom : A.depth < recursionLimit)
    (hv : args.pos.drop (params.posonlyargs.length + params.args.length) = vs)
    (hp : peek1 K ⟨prog, w.params⟩ (bindArgs (ksFn name qual params body scope dV kV doc pm an cdv ct cc) args) = some (({ cls := .type "tuple", data := .seq vs.toArray } : Obj), g₁))
    (hg : ∀ D, g₁ D = some (binds D)) (hloc : ∀ D, ∀ y ∈ binds D, scope.names.lookup y.1 = some .local)
    (h : ∀ D g L' h₁, (∀ p ∈ news, p.1 < D) → Fr h₀ L g m → Fr g L' h₁ (fun y => (binds D).reverse.lookup y) → News g L' h₁ ((D, ({ cls := .type "tuple", data := .seq vs.toArray } : Obj)) :: news) → Below A base (env :: outer) g → K.In g → Top p loose mean mg mb g →
      _root_.PySem.wpAt (model prog w) (A.deeper (ksEnv qual scope L' f cdv cc)) (.func body (ksEnv qual scope L' f cdv cc)) (execs body (ksEnv qual scope L' f cdv cc))
        (fun fl s' => LeaveK h₀ L m g R (match fl with | .ret v => v | _ => .none) s')
        (fun e s' => wpAny (model prog w) (A.deeper (ksEnv qual scope L' f cdv cc)) (leaving (ksEnv qual scope L' f cdv cc) e) (fun _ s'' => R (.error e) s'') (fun e' s'' => R (.error e') s'') s')
        { s with heap := h₁, toks := s.toks + (binds D).length })
    (hcell : ∀ x ∈ scope.names, x.2 ≠ .cell) (hco : scope.isCoroutine = false) (hgen : scope.isGenerator = false) (hk : scope.kind = .function) : codeAny (model prog w) A (.call (.ref f) args) R s := by
  have _ := hv
  refine codeAny_call_function (fd := ksFn name qual params body scope dV kV doc pm an cdv ct cc) (body := body) hroom ((X₀.keeps F.keep) _ _ ho) rfl hco hgen rfl (codeRec_of (X₀.keeps F.keep) hcd) ?_
  refine wp_of_peek1 (o := ({ cls := .type "tuple", data := .seq vs.toArray } : Obj)) F N (X₀.keeps F.keep) rfl (r := binds) (fun D h' F' N' l => ?_) _ g₁ hp hg
  obtain ⟨FG, BG, st, lv⟩ := groundX (R := R) (s := { s with heap := h' }) B F' N' hA hf hke
  refine wpAny_newFunctionEnv hcell (hloc D) (fun h₁ hns hsb => ⟨((T.nolimit.keeps F'.keep)).fresh _ hsb, ks_codeAny_funcAt ?_⟩) hk
  have hk₁ : ∀ b o, h'.get? b = some o → h₁.get? b = some o := fun b o e => hsb.extBut b o (Nat.ne_of_lt (Heap.lt_size e)) (Heap.get?_push_of_some _ e)
  exact ks_wpAt_mono (h D _ h'.objs.size h₁ l FG ⟨hns, fun b o e => hk₁ b o (of_hideAll _ e), Nat.le_of_eq (hideAll_size _ _)⟩
    (fun p hp => ⟨hk₁ _ _ (N' p hp).1, Nat.ne_of_lt (Heap.lt_size (N' p hp).1), hideAll_none _ (List.mem_map_of_mem hp)⟩) BG (X₀.keeps st) (T.keeps st)) (fun fl s' hl => lv _ _ hl) fun _ _ y => y
end
end Mine
namespace Mine
section
variable {prog : Program} {w : World} {A : Around} {R : Result → Shared → Prop} {I : Addr} {fp wr : List Addr} {G : Array GenState → Array GenState → Prop} {n : Nat} {P : Nat → Value → Prop} {St : Nat → Shared → Prop}
theorem set_loop (W : WalksS prog w A.in1 I fp wr G n P St) (S : Addr) (hSf : S ∉ fp)
    (hval : ∀ i v, P i v → ∃ x t, v = Value.str x t) (hb : n + 1 < scanBound) :
    ∀ (k i : Nat) (s : Shared), n - i = k → i ≤ n → St i s →
      (∃ S' c, s.heap.SetOf (strKind prog w) S S' c ∧ c ≤ i) →
      (∀ s', Moved (S :: wr) G s s' → R (.ok (.ret .none)) s') →
      codeAny (model prog w) A (.builtin "set.update.loop" ⟨[.ref S, .ref I], []⟩) R s := by
  have hSw : S ∉ wr := fun h => hSf (W.sub _ h)
  have hsub : ∀ b ∈ wr, b ∈ S :: wr := fun b hb => List.mem_cons_of_mem _ hb
  intro k
  induction k with
  | zero =>
    intro i s hk hi hst hS hR
    have hin : i = n := by omega
    subst hin
    refine codeAny_builtin PyProof.Rows.F.entry_set_update_loop ?_
    rw [Around.under_plainId PyProof.Rows.F.plain_set_update_loop _]
    show wpAny _ A.in1 (pyNext (.ref I) >>= _) _ _ s
    refine wpAny_bind (W.done s _ _ hst fun s' hm => ?_)
    show wpAny _ A.in1 (ret Value.none) _ _ s'
    exact wpAny_pure (hR s' (hm.mono hsub))
  | succ k ih =>
    intro i s hk hi hst hS hR
    have hlt : i < n := by omega
    refine codeAny_builtin PyProof.Rows.F.entry_set_update_loop ?_
    rw [Around.under_plainId PyProof.Rows.F.plain_set_update_loop _]
    show wpAny _ A.in1 (pyNext (.ref I) >>= _) _ _ s
    refine wpAny_bind (W.item i s _ _ hlt hst fun v s' hP hst' hm => ?_)
    obtain ⟨x, t, rfl⟩ := hval i v hP
    obtain ⟨S', c, hS, hc⟩ := hS
    have hS' : s'.heap.SetOf (strKind prog w) S S' c := by
      obtain ⟨o, es, ep, tb, ho, rest⟩ := hS
      exact ⟨o, es, ep, tb, hm.heap S _ hSw ho, rest⟩
    show wpAny _ A.in1 (holding [Value.str x t] (setAdd S (.str x t)) >>= _) _ _ s'
    refine wpAny_bind (wpAny_holding ?_)
    unfold setAdd
    refine wpAny_holding ?_
    refine wpAny_bind ((strKind prog w).pyHash (k := x) (strKind_is _ _ _ _) ?_)
    have hroom : c + 1 < scanBound := by omega
    refine wpAny_setAddHashed_of (knd := strKind prog w) (s := { s' with toks := s'.toks + 1 }) (strKind_is _ _ _ _) rfl hS' hroom fun h' hsb hS2 => ?_
    refine wpAny_pure ⟨plainId_quiet PyProof.Rows.F.plain_set_update_loop _, ih (i + 1) _ (by omega) hlt (W.frame _ s' _ _ hst' (Nat.le_succ _) fun b hb o e => ?_) ⟨_, _, hS2, by split <;> omega⟩ fun s'' hm'' => ?_⟩
    · rw [hsb.2 b (fun h : b = S => hSf (by rw [← h]; exact hb))]; exact e
    · refine hR s'' (Moved.trans W.gtrans ((hm.mono hsub).then_heap (Nat.le_succ _) fun b o hb e => ?_) hm'')
      rw [hsb.2 b (fun h : b = S => hb (by rw [h]; exact List.mem_cons_self))]; exact e
end
end Mine
namespace Mine
theorem sub_tuple_set : isSubtype (.type "tuple") (.type "set") = pure false := by rw [isSubtype_type]; kernel_rfl
theorem sub_tuple_frozenset : isSubtype (.type "tuple") (.type "frozenset") = pure false := by rw [isSubtype_type]; kernel_rfl
section
variable {prog : Program} {w : World} {A : Around} {E : Value → Shared → Prop} {s : Shared} {h₀ : Heap} {L : Addr} {m : PySem.Str → Option Value} {news : List (Addr × Obj)}
theorem call_set_tuple {l : Addr} {items : Array Value} {Q : Value → Shared → Prop}
    (hh : A.handled = none) (hl : s.heap.IsTuple l items) (hi : ∀ (i : Nat) (v : Value), items[i]? = some v → ∃ x t, v = Value.str x t) (hb : items.size + 1 < scanBound)
    (h : ∀ (h' : Heap) (tk : Nat), (∀ b o, b < s.heap.objs.size → s.heap.get? b = some o → h'.get? b = some o) → Q (.ref s.heap.objs.size) { s with heap := h', toks := tk }) :
    wpAny (model prog w) A (call (.type "set") [.ref l]) Q E s := by
  obtain ⟨c, tl, hmro⟩ := PySem.F.called_set.mro
  have hmade := PySem.F.called_set.made
  have hsub := PySem.F.called_set.sub
  refine wpAny_call (codeAny_of_tree ?_)
  show wpAny _ _ (callAny (.type "set") _) _ _ _
  refine wpAny_pure ⟨Code.quiet_builtin _ (by decide +kernel), codeAny_builtin PySem.F.entry_type_call ?_⟩
  rw [Around.under_plain (weight_type_call_type "set" [.ref l] []) rfl]
  have h1 := PySem.F.called_set.notType
  have h2 := PySem.F.called_set.canCreate
  have hct := PySem.F.typeCall_set_1 (.ref l)
  repeat (any_goals (first | assumption | wp_step))
  refine codeAny_mono (code_set_new_1 (.ref l) (E := E) (Q₁ := fun obj s₁ => ∃ led : Bool, obj = .ref s.heap.objs.size ∧ s₁ = { s with heap := s.heap.push { cls := .type "set", dict := none, data := .set #[] 0 (.fresh 0 0 led) } }) fun led => ⟨led, rfl, rfl⟩) fun r s₁ hr => ?_
  cases r with
  | error e => exact hr
  | ok fl =>
    cases fl with
    | ret obj =>
      obtain ⟨led, rfl, rfl⟩ := hr
      have hS : (s.heap.push { cls := .type "set", dict := none, data := .set #[] 0 (.fresh 0 0 led) }).get? s.heap.objs.size = some { cls := .type "set", dict := none, data := .set #[] 0 (.fresh 0 0 led) } := Heap.get?_push_size _ rfl
      have hT : Shared.TypeIs { s with heap := s.heap.push { cls := .type "set", dict := none, data := .set #[] 0 (.fresh 0 0 led) } } (.ref s.heap.objs.size) "set" := ⟨_, hS, rfl⟩
      have hli := PySem.F.called_set.init.lookup
      have hbi := PySem.F.called_set.init.bind (.ref s.heap.objs.size)
      repeat (any_goals (first | assumption | wp_step))
      refine codeAny_mono (codeAny_call_builtin (R := wants (fun r s₂ => r = .none ∧ ∃ h' tk, s₂ = { s with heap := h', toks := tk } ∧
          (∀ b o, b < s.heap.objs.size → s.heap.get? b = some o → h'.get? b = some o)) E) PySem.F.called_set.init.plain PySem.F.entry_set_init (check_set_init_1 hT ?_)) fun r₂ s₂ hr₂ => ?_
      · obtain ⟨ol, hol, hcl, nl, hdl⟩ := hl
        obtain ⟨ocls, odict, odata, oslots⟩ := ol
        simp only at hcl hdl
        subst hcl; subst hdl
        have hol' : (s.heap.push { cls := .type "set", dict := none, data := .set #[] 0 (.fresh 0 0 led) }).get? l = some { cls := .type "tuple", dict := odict, data := .seq items nl, slots := oslots } := Heap.get?_push_of_some _ hol
        have hsls := sub_tuple_set
        have hslf := sub_tuple_frozenset
        have hne : (Value.type "tuple" == Value.type "dict") = false := by decide
        have hl1 : (s.heap.push { cls := .type "set", dict := none, data := .set #[] 0 (.fresh 0 0 led) }).IsTuple l items := ⟨_, hol', rfl, nl, rfl⟩
        unfold Builtin.«set.__init__» noKeywords Builtin.Frozenset.updateFrom
        generalize hPI : pyIter = PI
        wp_walk
        subst hPI
        refine wpAny_pyIter_tuple hl1 ?_
        refine wpAny_bind (wpAny_runValue ?_)
        have hlS : l < s.heap.objs.size := Heap.lt_size hol
        have hh3 : A.in1.in1.in1.handled = none := by simp [hh]
        have hneI : l ≠ (s.heap.push { cls := .type "set", dict := none, data := .set #[] 0 (.fresh 0 0 led) }).objs.size := by
          rw [Heap.size_push]; exact Nat.ne_of_lt (Nat.lt_succ_of_lt hlS)
        have hSf : s.heap.objs.size ∉ [(s.heap.push { cls := .type "set", dict := none, data := .set #[] 0 (.fresh 0 0 led) }).objs.size, l] := by
          rw [Heap.size_push]; simp only [List.mem_cons, List.mem_singleton, List.not_mem_nil, or_false, not_or]
          exact ⟨Nat.ne_of_lt (Nat.lt_succ_self _), Nat.ne_of_gt hlS⟩
        refine set_loop ((Walks.tuple hh3 _ l hneI items).toS) s.heap.objs.size
          hSf hi hb (items.size - 0) 0 _ (by omega) (Nat.zero_le _)
          ⟨⟨_, Heap.get?_push_size _ rfl, rfl, rfl⟩, (hl1.push _)⟩ ?hS0 ?hR
        case hS0 =>
          have hget : ((s.heap.push { cls := .type "set", dict := none, data := .set #[] 0 (.fresh 0 0 led) }).push { cls := .type "tuple_iterator", data := .fields #[.ref l, .int 0 0] }).get? s.heap.objs.size
              = some { cls := .type "set", dict := none, data := .set #[] 0 (.fresh 0 0 led) } := Heap.get?_push_of_some _ hS
          exact ⟨_, _, (PyProof.Rows.setObjOf_fresh (knd := strKind prog w) led).setOf hget (by unfold scanBound; omega), Nat.le_refl _⟩
        case hR =>
          intro s' hm
          obtain ⟨h', g', d', tk', os'⟩ := s'
          have eg : g' = s.gens := hm.gens
          have ed : d' = s.drawn := hm.drawn
          have eo : os' = s.os := hm.os
          subst eg; subst ed; subst eo
          show wpAny _ _ _ _ _ _
          refine wpAny_pure ?_
          show wpAny _ _ (ret Value.none) _ _ _
          refine wpAny_pure ⟨rfl, h', tk', rfl, fun b o hb e => ?_⟩
          have hb1 : b ≠ s.heap.objs.size := Nat.ne_of_lt hb
          have hb2 : b ≠ (s.heap.push { cls := .type "set", dict := none, data := .set #[] 0 (.fresh 0 0 led) }).objs.size := by
            rw [Heap.size_push]; exact Nat.ne_of_lt (Nat.lt_succ_of_lt hb)
          exact hm.heap b o (by simp only [List.mem_cons, List.mem_singleton, List.not_mem_nil, or_false, not_or]; exact ⟨hb1, hb2⟩) (Heap.get?_push_of_some _ (Heap.get?_push_of_some _ e))
      · cases r₂ with
        | error e => exact hr₂
        | ok fl₂ =>
          cases fl₂ with
          | ret r =>
            obtain ⟨rfl, h', tk, rfl, hk'⟩ := hr₂
            repeat (any_goals (first | assumption | wp_step))
            exact h _ _ hk'
          | _ => exact hr₂.elim
    | _ => exact hr.elim
theorem setTuple_N {l : Addr} {items : Array Value} {Q : Value → Shared → Prop} (F : Fr h₀ L s.heap m) (N : News h₀ L s.heap news)
    (hh : A.handled = none) (hl : TupIn l items news) (hi : ∀ (i : Nat) (v : Value), items[i]? = some v → ∃ x t, v = Value.str x t) (hb : items.size + 1 < scanBound)
    (h : ∀ D h' (tk : Nat), Fr h₀ L h' m → News h₀ L h' news → Q (.ref D) { s with heap := h', toks := tk }) :
    wpAny (model prog w) A (call (.type "set") [.ref l]) Q E s := by
  refine call_set_tuple hh (hl.at N) hi hb fun h' tk hk => ?_
  have hk2 : ∀ b o, s.heap.get? b = some o → h'.get? b = some o := fun b o e => hk b o (Heap.lt_size e) e
  exact h _ h' tk (F.keeps hk2) (fun p hp => ⟨hk2 _ _ (N p hp).1, (N p hp).2⟩)
end
end Mine
namespace Mine
theorem strs2 (x0 x1 : PySem.Str) (u0 u1 : Tok) : ∀ (i : Nat) (v : Value), (#[Value.str x0 u0, Value.str x1 u1] : Array Value)[i]? = some v → ∃ x t, v = Value.str x t := by
  intro i v hv
  match i with
  | 0 => exact ⟨_, _, (Option.some.inj hv).symm⟩
  | 1 => exact ⟨_, _, (Option.some.inj hv).symm⟩
  | n + 2 => exact absurd hv (by simp)
theorem strs0 : ∀ (i : Nat) (v : Value), (#[] : Array Value)[i]? = some v → ∃ x t, v = Value.str x t := fun i v hv => absurd hv (by simp)
end Mine
namespace Mine
theorem news_keep1 {h₀ h : Heap} {L : Addr} {a : Addr × Obj} {nw : List (Addr × Obj)} (n : Nat) (N : News h₀ L h (a :: nw)) : News h₀ L h (a :: nw.drop n) := fun p hp => N p (by
  rcases List.mem_cons.mp hp with rfl | hp
  · exact List.mem_cons_self
  · exact List.mem_cons_of_mem _ (List.mem_of_mem_drop hp))
end Mine
namespace Mine
section
variable {prog : Program} {w : World} {A : Around} {E : Value → Shared → Prop} {s : Shared} {env : Env} {h₀ : Heap} {target : Expr} {body : List Stmt} {Q : Flow → Shared → Prop}
/-- the end of a turn that leaves nothing behind but the names 'names' -/
def MyEnd (h₀ : Heap) (L : Addr) (names : List PySem.Str) (m₀ : PySem.Str → Option Value) (all : List (Addr × Obj)) (s₁ s₂ : Shared) : Prop :=
  ∃ h' tk m', s₂ = { s₁ with heap := h', toks := tk } ∧ Fr h₀ L h' m' ∧ News h₀ L h' all ∧ ∀ z, names.contains z = false → m' z = m₀ z
def MyPost (h₀ : Heap) (L : Addr) (names : List PySem.Str) (m₀ : PySem.Str → Option Value) (all : List (Addr × Obj)) (s₁ : Shared) (Q : Flow → Shared → Prop) (f : Flow) (s₂ : Shared) : Prop :=
  match f with
  | .ret v => Q (.ret v) s₂
  | .brk => Q .next s₂
  | _ => MyEnd h₀ L names m₀ all s₁ s₂
theorem MyEnd.of {L : Addr} {names : List PySem.Str} {m₀ m' : PySem.Str → Option Value} {all all' : List (Addr × Obj)} {s₁ : Shared} {h' : Heap} {tk : Nat} (F : Fr h₀ L h' m') (N : News h₀ L h' all') (sub : ∀ p ∈ all, p ∈ all') (hm : ∀ z, names.contains z = false → m' z = m₀ z) :
    MyEnd h₀ L names m₀ all s₁ { s₁ with heap := h', toks := tk } := ⟨h', tk, m', rfl, F, fun p hp => N p (sub p hp), hm⟩
theorem same_fr {L : Addr} {h : Heap} {names : List PySem.Str} {m₀ m₁ : PySem.Str → Option Value} (hm : ∀ z, names.contains z = false → m₁ z = m₀ z) (F : Fr h₀ L h m₁) : Fr h₀ L h (fun y => if names.contains y then m₁ y else m₀ y) := by
  have e : (fun y => if names.contains y then m₁ y else m₀ y) = m₁ := by
    funext y
    cases hy : names.contains y with
    | true => simp
    | false => simp only [Bool.false_eq_true, if_false]; exact (hm y hy).symm
  rw [e]; exact F
theorem pairs_turns {ax : Addr} {lo : Obj} {vs : List Value} {n : Nat} {m₀ : PySem.Str → Option Value} {news : List (Addr × Obj)} (names : List PySem.Str) (Good : Value → Prop)
    (hh : A.handled = none) (F : Fr h₀ env.locals s.heap m₀) (N : News h₀ env.locals s.heap news) (hm : (ax, lo) ∈ news) (hc : lo.cls = .type "list") (hd : lo.data = .seq vs.toArray n)
    (hgood : ∀ v ∈ vs, Good v)
    (turn : ∀ v (u : PySem.Str → Option Value) h tk own, Good v → Fr h₀ env.locals h (fun y => if names.contains y then u y else m₀ y) → News h₀ env.locals h (own ++ news) →
      wpAny (model prog w) A (assign target env v) (fun _ s₂ => wpAny (model prog w) A (execs body env) (MyPost h₀ env.locals names m₀ (own ++ news) { s with heap := h, toks := tk } Q) E s₂) E { s with heap := h, toks := tk })
    (done : ∀ (u : PySem.Str → Option Value) h tk, Fr h₀ env.locals h (fun y => if names.contains y then u y else m₀ y) → News h₀ env.locals h news → Q .next { s with heap := h, toks := tk }) :
    wpAny (model prog w) A (pyIter (.ref ax)) (fun it s₂ => TurnsAt prog w A h₀ env target body Q E it s₂) E s := by
  have hax := N _ hm
  have hl : s.heap.IsList ax vs.toArray := ⟨lo, hax.1, hc, n, hd⟩
  have hlt : ax < s.heap.objs.size := Heap.lt_size hax.1
  have hne : ax ≠ s.heap.objs.size := Nat.ne_of_lt hlt
  refine wpAny_pyIter_list hl ?_
  have W : KTurns prog w A target s.heap.objs.size _ _ _ _ _ _ := KTurns.ofWalks (Walks.list hh s.heap.objs.size ax hne vs.toArray) fun i v s Q E st q => letGo_listiter st.1 q
  refine ⟨_, _, _, _, _, _, _, m₀, news, (fun _ m₁ news₁ => news₁ = news ∧ ∀ z, names.contains z = false → m₁ z = m₀ z), rfl, W, ?_, ?_, ?_, ⟨⟨_, Heap.get?_push_size _ rfl, rfl, rfl⟩, hl.at fun o e => Heap.get?_push_of_some _ e⟩, F.push _, (fun p hp => ⟨Heap.get?_push_of_some _ (N p hp).1, (N p hp).2⟩), ⟨rfl, fun _ _ => rfl⟩, ?_, ?_⟩
  · intro hI
    rcases List.mem_cons.mp hI with e | hI
    · exact absurd F.ns.lt (e ▸ Nat.lt_irrefl _)
    · exact hax.2.1 (List.mem_singleton.mp hI).symm
  · intro b hb
    rw [List.mem_singleton.mp hb]
    exact next_is_new F
  · intro p hp hI
    exact absurd (Heap.lt_size (N p hp).1) ((List.mem_singleton.mp hI) ▸ Nat.lt_irrefl _)
  · rintro i v m₁ news₁ h₁ tk₁ own hin hP ⟨rfl, hJ⟩ hoff _ _ _ _ F₁ N₁
    have hP' : vs.toArray[i]? = some v := hP
    have hv : v ∈ vs := by
      have : vs[i]? = some v := by simpa using hP'
      exact List.mem_of_getElem? this
    refine wpAny_mono (turn v m₁ h₁ tk₁ own (hgood v hv) (same_fr hJ F₁) N₁) (fun _ s₂ h₂ => wpAny_mono h₂ (fun f s₃ p => ?_) fun _ _ e => e) fun _ _ e => e
    have fin : MyEnd h₀ env.locals names m₀ (own ++ news₁) { s with heap := h₁, toks := tk₁ } s₃ → LoopStepU h₀ env.locals [s.heap.objs.size] own (fun m₁ news₂ => news₂ = news₁ ∧ ∀ z, names.contains z = false → m₁ z = m₀ z) { s with heap := h₁, toks := tk₁ } .next s₃ := by
      rintro ⟨h', tk, m', e, F', N', hm'⟩
      exact ⟨rfl, h', tk, m', news₁, e, F', N', hoff, rfl, hm'⟩
    cases f with
    | ret v => exact .ret p
    | brk => exact .brk p
    | next => exact .next (fin p)
    | cont => exact .cont (fin p)
  · rintro h' tk m' news' F' N' _ ⟨rfl, hJ⟩
    exact done m' h' tk (same_fr hJ F') N'
end

section
variable {prog : Program} {w : World} {A : Around} {E : Value → Shared → Prop} {s : Shared} {env : Env} {h₀ : Heap} {x : PySem.Str} {body : List Stmt} {Q : Flow → Shared → Prop}
theorem range_turns {r : Addr} {a₀ b₀ : Int} {t₀ u₀ v₀ : Tok} {n : Nat} {m₀ : PySem.Str → Option Value} {news : List (Addr × Obj)}
    (hh : A.handled = none) (hr : IsRange s.heap r a₀ b₀ 1 t₀ u₀ v₀) (hsmall : Builtin.Range.small a₀ b₀ 1 = true) (hn : Builtin.Range.rangeSize a₀ b₀ 1 = (n : Int)) (F : Fr h₀ env.locals s.heap m₀) (N : News h₀ env.locals s.heap news)
    (turn : ∀ (k : Int) t h tk own, a₀ ≤ k ∧ k < a₀ + (n : Int) → Fr h₀ env.locals h (fun y => if y = x then some (.int k t) else m₀ y) → News h₀ env.locals h (own ++ news) →
      wpAny (model prog w) A (execs body env) (MyPost h₀ env.locals [x] m₀ (own ++ news) { s with heap := h, toks := tk } Q) E { s with heap := h, toks := tk })
    (done : ∀ (u : PySem.Str → Option Value) h tk, Fr h₀ env.locals h (fun y => if y = x then u y else m₀ y) → News h₀ env.locals h news → Q .next { s with heap := h, toks := tk }) :
    wpAny (model prog w) A (pyIter (.ref r)) (fun it s₂ => LoopAtV prog w A h₀ env x body Q E it s₂) E s := by
  refine wpAny_pyIter_range hr hsmall ?_
  have W : Walks prog w A s.heap.objs.size [s.heap.objs.size] [s.heap.objs.size] n (fun i v => i < n ∧ ∃ t, v = .int (a₀ + i * 1) t)
      (fun i h => IsRangeIter h s.heap.objs.size (a₀ + (i : Nat) * 1) ((n : Int) - (i : Nat)) 1) := (Walks.range hh _ a₀ 1 n).bound
  have off : ∀ z, ([x].contains z = false) = (z ≠ x) := by
    intro z; simp
  refine ⟨_, _, _, n, _, _, m₀, news, (fun _ m₁ news₁ => news₁ = news ∧ ∀ z, z ≠ x → m₁ z = m₀ z), rfl, W, ?_, ?_, ?_, by show IsRangeIter _ _ _ _ _; rw [hn]; simpa using Heap.get?_push_size _ rfl, F.push _, (fun p hp => ⟨Heap.get?_push_of_some _ (N p hp).1, (N p hp).2⟩), ⟨rfl, fun _ _ => rfl⟩, ?_, ?_⟩
  · intro hm
    exact absurd F.ns.lt ((List.mem_singleton.mp hm) ▸ Nat.lt_irrefl _)
  · intro b hb
    rw [List.mem_singleton.mp hb]
    exact next_is_new F
  · intro p hp hI
    exact absurd (Heap.lt_size (N p hp).1) ((List.mem_singleton.mp hI) ▸ Nat.lt_irrefl _)
  · rintro i v m₁ news₁ s₁ own ⟨h₁, tk₁, rfl⟩ _ ⟨hi, t, rfl⟩ ⟨rfl, hJ⟩ hoff _ _ _ _ F₁ N₁
    have e : (fun y => if y = x then some (Value.int (a₀ + (i : Int) * 1) t) else m₁ y) = fun y => if y = x then some (Value.int (a₀ + (i : Int) * 1) t) else m₀ y := by
      funext y
      by_cases hy : y = x
      · simp [hy]
      · simp only [if_neg hy]; exact hJ y hy
    rw [e] at F₁
    refine wpAny_mono (turn (a₀ + (i : Int) * 1) t h₁ tk₁ own ⟨by omega, by omega⟩ F₁ N₁) (fun f s₃ p => ?_) fun _ _ e => e
    have fin : MyEnd h₀ env.locals [x] m₀ (own ++ news₁) { s with heap := h₁, toks := tk₁ } s₃ → LoopStepU h₀ env.locals [s.heap.objs.size] own (fun m₁ news₂ => news₂ = news₁ ∧ ∀ z, z ≠ x → m₁ z = m₀ z) { s with heap := h₁, toks := tk₁ } .next s₃ := by
      rintro ⟨h', tk, m', e, F', N', hm'⟩
      exact ⟨rfl, h', tk, m', news₁, e, F', N', hoff, rfl, fun z hz => hm' z ((off z).mpr hz)⟩
    cases f with
    | ret v => exact .ret p
    | brk => exact .brk p
    | next => exact .next (fin p)
    | cont => exact .cont (fin p)
  · rintro h' tk m' news' F' N' _ ⟨rfl, hJ⟩
    refine done m' h' tk ?_ N'
    have e : (fun y => if y = x then m' y else m₀ y) = m' := by
      funext y
      by_cases hy : y = x
      · simp [hy]
      · simp only [if_neg hy]; exact (hJ y hy).symm
    rw [e]; exact F'
end
end Mine
namespace Mine
section
variable {prog : Program} {w : World} {A : Around} {E : Value → Shared → Prop} {s : Shared} {h₀ : Heap} {L : Addr}
theorem fmod6_cases (d : Int) : (d.fmod 6).toNat < 6 ∧ 0 ≤ d.fmod 6 ∧ d.fmod 6 < 2 ^ 63 := by
  have h1 := Int.fmod_lt_of_pos d (show (0 : Int) < 6 by decide)
  have h2 := Int.fmod_nonneg_of_pos d (show (0 : Int) < 6 by decide)
  omega
theorem words_item {a : Addr} {lo : Obj} {n : Nat} {value slice : Expr} {vs : List Value} {news : List (Addr × Obj)} {d : Int} {u : Tok} {Q : Value → Shared → Prop} (G : Value → Prop)
    (N : News h₀ L s.heap news) (hm : (a, lo) ∈ news) (hc : lo.cls = .type "list") (hd : lo.data = .seq vs.toArray n) (hlen : vs.length = 6) (hall : ∀ v ∈ vs, G v)
    (h : ∀ v, G v → Q v s)
    (hs : subscripted slice false (.ref a) (.int (d.fmod 6) u) = operate [.ref a, .int (d.fmod 6) u] (getItem (.ref a) (.int (d.fmod 6) u)) := by with_unfolding_all rfl) :
    wpAny (model prog w) A (subscriptTail value slice (.ref a) (.int (d.fmod 6) u)) Q E s := by
  obtain ⟨h1, h2, h3⟩ := fmod6_cases d
  have hL : s.heap.IsList a vs.toArray := ⟨lo, (N _ hm).1, hc, n, hd⟩
  have hx : vs[(d.fmod 6).toNat]? = some (vs[(d.fmod 6).toNat]'(by rw [hlen]; exact h1)) := List.getElem?_eq_getElem _
  exact tail_any hL.typeIs slot_list_getitem.lookup (wpAny_getItem_list hL h2 h3 (List.getElem?_toArray.trans hx) (h _ (hall _ (List.getElem_mem _)))) hs
def WordPair (nw : List (Addr × Obj)) (v : Value) : Prop :=
  ∃ T x0 x1 u0 u1 k, v = .ref T ∧ (T, ({ cls := .type "tuple", data := .seq #[.str x0 u0, .str x1 u1] k } : Obj)) ∈ nw ∧ x0.length ≤ 8 ∧ x1.length ≤ 8
theorem off3 {a b c z : PySem.Str} (h : [a, b, c].contains z = false) : z ≠ a ∧ z ≠ b ∧ z ≠ c := by
  simpa [and_assoc] using h
theorem off2 {a b z : PySem.Str} (h : [a, b].contains z = false) : z ≠ a ∧ z ≠ b := by
  simpa [and_assoc] using h
theorem words_go {prog : Program} {w : World} {A : Around} {E : Value → Shared → Prop} {s : Shared} {h₀ : Heap} {L : Addr} {a : Addr} {lo : Obj} {n : Nat} {value slice : Expr} {vs : List Value} {news keep : List (Addr × Obj)} {d : Int} {u : Tok} {Q : Value → Shared → Prop}
    (N : News h₀ L s.heap news) (N₂ : News h₀ L s.heap keep) (hm : (a, lo) ∈ news) (hc : lo.cls = .type "list") (hd : lo.data = .seq vs.toArray n) (hlen : vs.length = 6) (hall : ∀ v ∈ vs, WordPair news v)
    (h : ∀ T x0 x1 u0 u1 k, x0.length ≤ 8 → x1.length ≤ 8 → News h₀ L s.heap ((T, ({ cls := .type "tuple", data := .seq #[.str x0 u0, .str x1 u1] k } : Obj)) :: keep) → Q (.ref T) s)
    (hs : subscripted slice false (.ref a) (.int (d.fmod 6) u) = operate [.ref a, .int (d.fmod 6) u] (getItem (.ref a) (.int (d.fmod 6) u)) := by with_unfolding_all rfl) :
    wpAny (model prog w) A (subscriptTail value slice (.ref a) (.int (d.fmod 6) u)) Q E s := by
  refine words_item (WordPair news) N hm hc hd hlen hall ?_ hs
  rintro v ⟨T, x0, x1, u0, u1, k, rfl, hmem, h0, h1⟩
  refine h T x0 x1 u0 u1 k h0 h1 ?_
  intro p hp
  rcases List.mem_cons.mp hp with rfl | hp
  · exact N _ hmem
  · exact N₂ p hp
theorem news_pick2 {h₀ : Heap} {L : Addr} {h : Heap} {l : List (Addr × Obj)} {p q : Addr × Obj} (N : News h₀ L h l) (i j : Nat) (h1 : l[i]? = some p) (h2 : l[j]? = some q) : News h₀ L h [p, q] := by
  intro r hr
  rcases List.mem_cons.mp hr with rfl | hr
  · exact N _ (List.mem_of_getElem? h1)
  rcases List.mem_cons.mp hr with rfl | hr
  · exact N _ (List.mem_of_getElem? h2)
  · exact nomatch hr
theorem news_pick3 {h₀ : Heap} {L : Addr} {h : Heap} {l : List (Addr × Obj)} {p q o : Addr × Obj} (N : News h₀ L h l) (i j k : Nat) (h1 : l[i]? = some p) (h2 : l[j]? = some q) (h3 : l[k]? = some o) : News h₀ L h [p, q, o] := by
  intro r hr
  rcases List.mem_cons.mp hr with rfl | hr
  · exact N _ (List.mem_of_getElem? h1)
  · exact news_pick2 N j k h2 h3 r hr
end
end Mine
namespace Mine
local macro_rules | `(tactic| walk_at "mine enterC") => `(tactic| k_dflt (refine' code_defC ?k1 ?k2 ?k3 ?k4 ?k5 ?kA ?kF ?kK ?k6 ?k7 ?k8 ?k9 ?kB ?kD ?_ ?c2 ?c3 ?c4; (case kA => exact rfl); (case kF => exact rfl); (case kK => assumption); (case k1 => k_asm); (case k2 => k_asm); (case k3 => k_asm); (case k4 => k_asm); (case k5 => k_asm); (case k6 => k_is); (case k7 => k_is); (case k8 => ktr_room); (case k9 => first | exact BindsTo.of_eq rfl | exact binds_K (by k_in) rfl (by k_is) rfl rfl rfl | fail "enterC: no rule for these arguments"); (case kB => exact rfl); (case kD => decide +kernel); (case c2 => exact rfl); (case c3 => exact rfl); (case c4 => exact rfl); k_whole; intro g' L' h' tk' cells' FG' F' N' Y' B' X' T' l1; (try k_lt l1); k_cells Y'; (try simp only [List.cons_append, List.nil_append] at N'); (try dsimp only); (try k_lift B'); (try k_fold)))
local macro_rules | `(tactic| k_all) => `(tactic| exact Mine.ne_of_all (by assumption) (by omega))
local macro_rules | `(tactic| walk_at "eval ListComp") => `(tactic| (k_here; lct_look; k_dflt (refine Mine.listComp_G (by k_asm) (by with_unfolding_all rfl) (by decide) (by rfl) (by decide) (by rfl) ?_)))
local macro_rules | `(tactic| walk_at "TestEnd") => `(tactic| (first | refine Mine.TestEnd.of ?_ (by k_asm) (by k_asm) (fun _ hp => hp) | refine Mine.TestEnd.of ?_ (by k_asm) (by k_asm) (by walk_at "mine sub")))
local macro_rules | `(tactic| walk_at "EltEnd") => `(tactic| (first | refine Mine.EltEnd.of ?_ (by k_asm) (by k_asm) (fun _ hp => hp) | refine Mine.EltEnd.of ?_ (by k_asm) (by k_asm) (by walk_at "mine sub")))
local macro_rules | `(tactic| walk_at "mine sub") => `(tactic| (intro p9 hp9; (repeat (first | exact hp9 | exact List.mem_append_left _ hp9 | refine List.mem_cons_of_mem _ ?_))))
local macro_rules | `(tactic| walk_at "mine sub1") => `(tactic| (intro p9 hp9; rcases List.mem_cons.mp hp9 with h9 | h9; (rw [h9]; exact List.mem_cons_self); (repeat (first | exact h9 | exact List.mem_append_left _ h9 | refine List.mem_cons_of_mem _ ?_))))
local macro_rules | `(tactic| walk_at "mine off") => `(tactic| first | assumption | exact And.right (by assumption) | exact And.right (And.right (by assumption)) | exact And.right (And.right (And.right (by assumption))))
local macro_rules | `(tactic| walk_at "mine tup") => `(tactic| first | assumption | exact Mine.TupIn.mono (by assumption) (by walk_at "mine sub"))
local macro_rules | `(tactic| walk_at "call builtin:isinstance") => `(tactic| ((with_reducible show wpAny _ _ (call (Value.builtin "isinstance") [Value.ref _, Value.type "tuple"]) _ _ _); refine' call_isinstance_yes (Heap.IsTuple.typeIs (Mine.TupIn.at ?tin ?tn)) meta_tuple PySem.F.isi_sub_tuple ?_; (case tn => k_asm); (case tin => walk_at "mine tup")))
local macro_rules | `(tactic| walk_at "mine enter") => `(tactic| k_dflt (refine' code_def ?k1 ?k2 ?k3 ?k4 ?k5 ?kA ?kF ?kK ?k6 ?k7 ?k8 ?k9 ?kB ?_ ?c2 ?c3 ?c4 ?c5; (case kA => exact rfl); (case kF => exact rfl); (case kK => assumption); (case k1 => k_asm); (case k2 => k_asm); (case k3 => k_asm); (case k4 => k_asm); (case k5 => k_asm); (case k6 => k_is); (case k7 => k_is); (case k8 => ktr_room); (case k9 => first | exact BindsTo.of_eq rfl | exact binds_K (by k_in) rfl (by k_is) rfl rfl rfl | fail "enter: no rule for these arguments"); (case c5 => decide); (case kB => exact locs rfl); (case c2 => exact rfl); (case c3 => exact rfl); (case c4 => exact rfl); k_whole; intro g' L' h' FG' F' N' B' X' T'; (try dsimp only); (try k_lift B'); (try k_fold)))
local macro_rules | `(tactic| walk_at "mine ok") => `(tactic| first | assumption | exact Mine.okText_slice (by assumption) _ _)
local macro_rules | `(tactic| walk_at "mine okn") => `(tactic| first | trivial | assumption | walk_at "mine tup")
local macro_rules | `(tactic| walk_at "exec Assign cons ListComp") => `(tactic| (k_here; lct_look; k_dflt (refine Mine.assign_listComp_G (by k_asm) (by rfl) (by with_unfolding_all rfl) (by with_unfolding_all rfl) (by decide) (by rfl) (by decide) (by rfl) (by rfl) (by rfl) ?_)))
local macro_rules | `(tactic| walk_at "mine okn") => `(tactic| exact ⟨_, by k_mem⟩)
local macro_rules | `(tactic| k_mem) => `(tactic| first | assumption | exact List.mem_cons_self | (refine List.mem_cons_of_mem _ ?_; k_mem) | (refine List.mem_append.mpr (Or.inl ?_); k_mem) | (refine List.mem_append.mpr (Or.inr ?_); k_mem))
local macro_rules | `(tactic| walk_at "subscriptTail Name Slice ref ref") => `(tactic| (k_here; (with_reducible show wpAny _ _ (subscriptTail _ (PySem.Expr.Slice none none (some _) _) (Value.ref _) (Value.ref _)) _ _ _); k_dflt (refine' krv_ints ?F ?N ?l ?k ?i ?_ ?s ?t ?z; (case F => k_asm); (case N => k_asm); (case l => is_list); (case k => exact IsPart.int _ _); (case i => assumption); (case s => with_unfolding_all rfl); (case t => kmk_pure); (case z => assumption)); intro D' ws' h' F' N' l1 hI' hC'))
local macro_rules | `(tactic| is_list) => `(tactic| exact News.isList (by k_asm) (by k_mem))
local macro_rules | `(tactic| walk_at "mine step") => `(tactic| first | (k_unfold; (try dsimp only)) | (k_end; kc_close) | walk1 | (dsimp only; walk1) | (leave1; walk_say "STEP leave1"; (try dsimp only)))
local macro_rules | `(tactic| walk_at "mine cls") => `(tactic| (k_dflt (refine' call_cls ?k1 ?k2 ?k3 ?k4 ?k5 ?k6 ?_; (case k1 => k_asm); (case k2 => k_asm); (case k3 => k_asm); (case k4 => k_is); (case k5 => k_is); (case k6 => k_is); k_whole); intro x' d' h' F' N' l1 l2; (try k_lt l1); (try k_lt2 l2); (try k_sweep)))
local macro_rules | `(tactic| k_room) => `(tactic| ktr_room)
local macro_rules | `(tactic| walk_at "call type:list nil nil") => `(tactic| (k_here; k_dflt (refine' Mine.list0_N ?zF ?zN ?_; (case zF => k_asm); (case zN => k_asm)); intro D' c' h' F' N' l1; (try k_lt l1)))
local macro_rules | `(tactic| walk_at "call type:dict nil nil") => `(tactic| (k_here; k_dflt (refine' Mine.dict0_N ?zF ?zN ?_; (case zF => k_asm); (case zN => k_asm)); intro D' h' F' N' l1; (try k_lt l1)))
local macro_rules | `(tactic| walk_at "call type:dict") => `(tactic| (k_here; k_dflt (refine' Mine.dictCopy_K ?zF ?zX ?zN ?zl ?zk ?zn ?za ?zs ?_; (case zF => k_asm); (case zX => k_asm); (case zN => k_asm); (case zl => k_is); (case zk => k_keys); (case zn => first | decide +kernel | (simp only [Mine.kvOf, List.map_cons, List.map_nil]; decide +kernel)); (case za => decide); (case zs => exact Nat.le_of_ble_eq_true rfl)); intro D' h' F' N'))
local macro_rules | `(tactic| walk_at "compareOp Is ref ref") => `(tactic| with_reducible refine wpAny_is_ref_self ?_)
local macro_rules | `(tactic| ktr_units) => `(tactic| (have hcL9 := cLine_is; (try simp only [Mine.units_under_make, units_in1, units_deeper, Around.mark_units, units_caller] at *); (try dsimp only [ktrTop] at *); omega))
local macro_rules | `(tactic| walk_at "mine ks") => `(tactic| k_dflt (refine' ks_code_super ?k1 ?k2 ?k3 ?k4 ?k5 ?kA ?kF ?kK ?k6 ?k7 ?k8 ?k9 ?kB ?_ ?c1 ?c2 ?c3 ?c4; (case kA => exact rfl); (case kF => exact rfl); (case kK => first | exact rfl | assumption); (case k1 => k_asm); (case k2 => k_asm); (case k3 => k_asm); (case k4 => k_asm); (case k5 => k_asm); (case k6 => k_is); (case k7 => k_is); (case k8 => k_room); (case k9 => first | exact BindsTo.of_eq rfl | exact binds_K (by k_in) rfl (by k_is) rfl rfl rfl); (case kB => exact locs rfl); (case c1 => decide); (case c2 => exact rfl); (case c3 => exact rfl); (case c4 => exact rfl); intro g' L' h' FG' F' N' B' X' T' l1; (try k_lt l1); (try dsimp only); (try k_lift B')))
local macro_rules | `(tactic| walk_at "wpAt func") => `(tactic| ((try dsimp only); first
  | (k_dflt (ks_step "execs cons"; refine ks_wpAt_execs_cons ?_))
  | (k_dflt (ks_step "exec Expr"; refine ks_wpAt_Expr_any ?_))
  | (k_dflt (ks_step "exec Return"; refine ks_wpAt_Return_some ?_))
  | (k_dflt (ks_step "exec Assign"; first | refine ks_wpAt_Assign_Name ?_ | refine ks_wpAt_Assign_Attr ?_))
  | (k_dflt (ks_step "exec If"; refine ks_wpAt_If ?_))
  | (k_dflt (ks_step "eval Call"; refine ks_wpAt_MethodCall ?_))))
local macro_rules | `(tactic| walk_at "call type:set cons nil") => `(tactic| (k_here; k_dflt (refine' Mine.setTuple_N ?zF ?zN ?zh ?zl ?zi ?zb ?_; (case zF => k_asm); (case zN => k_asm); (case zh => rfl); (case zl => exact ⟨_, by k_mem, rfl, _, rfl⟩); (case zi => walk_at "mine strs"); (case zb => exact Nat.le_of_ble_eq_true rfl)); intro D' h' tk' F' N'))
local macro_rules | `(tactic| walk_at "mine strs") => `(tactic| first | exact Mine.strs2 _ _ _ _ | exact Mine.strs0)
local macro_rules | `(tactic| walk_at "mine ksr") => `(tactic| k_dflt (refine' Mine.ks_rest ?k1 ?k2 ?k3 ?k4 ?k5 ?kA ?kF ?kK ?k6 ?k7 ?k8 ?kV ?kP ?kG ?kB ?_ ?c1 ?c2 ?c3 ?c4; (case kA => exact rfl); (case kF => exact rfl); (case kK => first | exact rfl | assumption); (case k1 => k_asm); (case k2 => k_asm); (case k3 => k_asm); (case k4 => k_asm); (case k5 => k_asm); (case k6 => k_is); (case k7 => k_is); (case k8 => k_room); (case kV => kl_lit); (case kP => exact rfl); (case kG => exact fun _ => rfl); (case kB => exact fun _ => locs rfl); (case c1 => decide); (case c2 => exact rfl); (case c3 => exact rfl); (case c4 => exact rfl); intro D' g' L' h' l1 FG' F' N' B' X' T'; (try k_lt l1); (try dsimp only); (try k_lift B')))
theorem pe_num {w : World} (target : PySem.Str) (pos : Int) (t1 t2 t3 : Tok) (hlen : target.length ≤ 6) (hp : 0 ≤ pos ∧ pos ≤ target.length) :
   IntsTell PySem.Challenge.rw_en5030_01.row.prog w (Mine.hd.heap_39 w.params) 236 [.str (PySem.Str.ofString "\\d+") t1, .str target t2, .int pos t3] 1 Any9
     ((rng target.length (-1) (target.length - pos).toNat).filter fun n => PySem.Txt.isdecimal (PySem.Txt.slice target (some pos) (some n))) := by
  w_top off
  k_fill
  intro p loose mean mg mb dp un gd cn cs a ccd cl outer A₀ base h₀ L m news s Q E B F X N T hk hOk hd hu hret
  refine wpAny_call ?_
  walk_at "mine enterC"
  k_steps
  refine Mine.src_range (by rfl) (by k_asm) (by k_asm) (by assumption) (small_down (by omega) (by omega) (by omega) (by omega)) (rangeSize_downNat _ _) (by rw [PySem.sizeLine_eq]; omega) ?_
  intro g1
  simp only [Int.add_zero]
  refine Mine.rest_filter (Mine.rng _ _ _) Mine.IntIs Mine.IntIs (fun n => PySem.Txt.isdecimal (PySem.Txt.slice target (some pos) (some n))) (Mine.rng_length _ _ _) trivial Mine.rng_at ?_ ?_ ?_
  · intro d v I oI C oC D m₂ ys h tk E' hd hr hC hx F N
    obtain ⟨td, rfl⟩ := hr
    k_steps
    simp only [Int.add_zero]
  · intro d v I oI C oC D m₂ ys h tk E' hd hr hC hx F N
    obtain ⟨td, rfl⟩ := hr
    k_steps
    exact ⟨_, rfl⟩
  · intro ys hys D h tk FE NE oE
    k_steps
    exact hret D ys _ _ _ (intsAre_of hys) (by k_asm) (cb_drop (by k_asm) (by walk_at "mine sub1"))
end Mine
namespace Mine
local macro_rules | `(tactic| walk_at "mine enterC") => `(tactic| k_dflt (refine' code_defC ?k1 ?k2 ?k3 ?k4 ?k5 ?kA ?kF ?kK ?k6 ?k7 ?k8 ?k9 ?kB ?kD ?_ ?c2 ?c3 ?c4; (case kA => exact rfl); (case kF => exact rfl); (case kK => assumption); (case k1 => k_asm); (case k2 => k_asm); (case k3 => k_asm); (case k4 => k_asm); (case k5 => k_asm); (case k6 => k_is); (case k7 => k_is); (case k8 => ktr_room); (case k9 => first | exact BindsTo.of_eq rfl | exact binds_K (by k_in) rfl (by k_is) rfl rfl rfl | fail "enterC: no rule for these arguments"); (case kB => exact rfl); (case kD => decide +kernel); (case c2 => exact rfl); (case c3 => exact rfl); (case c4 => exact rfl); k_whole; intro g' L' h' tk' cells' FG' F' N' Y' B' X' T' l1; (try k_lt l1); k_cells Y'; (try simp only [List.cons_append, List.nil_append] at N'); (try dsimp only); (try k_lift B'); (try k_fold)))
local macro_rules | `(tactic| k_all) => `(tactic| exact Mine.ne_of_all (by assumption) (by omega))
local macro_rules | `(tactic| walk_at "eval ListComp") => `(tactic| (k_here; lct_look; k_dflt (refine Mine.listComp_G (by k_asm) (by with_unfolding_all rfl) (by decide) (by rfl) (by decide) (by rfl) ?_)))
local macro_rules | `(tactic| walk_at "TestEnd") => `(tactic| (first | refine Mine.TestEnd.of ?_ (by k_asm) (by k_asm) (fun _ hp => hp) | refine Mine.TestEnd.of ?_ (by k_asm) (by k_asm) (by walk_at "mine sub")))
local macro_rules | `(tactic| walk_at "EltEnd") => `(tactic| (first | refine Mine.EltEnd.of ?_ (by k_asm) (by k_asm) (fun _ hp => hp) | refine Mine.EltEnd.of ?_ (by k_asm) (by k_asm) (by walk_at "mine sub")))
local macro_rules | `(tactic| walk_at "mine sub") => `(tactic| (intro p9 hp9; (repeat (first | exact hp9 | exact List.mem_append_left _ hp9 | refine List.mem_cons_of_mem _ ?_))))
local macro_rules | `(tactic| walk_at "mine sub1") => `(tactic| (intro p9 hp9; rcases List.mem_cons.mp hp9 with h9 | h9; (rw [h9]; exact List.mem_cons_self); (repeat (first | exact h9 | exact List.mem_append_left _ h9 | refine List.mem_cons_of_mem _ ?_))))
local macro_rules | `(tactic| walk_at "mine off") => `(tactic| first | assumption | exact And.right (by assumption) | exact And.right (And.right (by assumption)) | exact And.right (And.right (And.right (by assumption))))
local macro_rules | `(tactic| walk_at "mine tup") => `(tactic| first | assumption | exact Mine.TupIn.mono (by assumption) (by walk_at "mine sub"))
local macro_rules | `(tactic| walk_at "call builtin:isinstance") => `(tactic| ((with_reducible show wpAny _ _ (call (Value.builtin "isinstance") [Value.ref _, Value.type "tuple"]) _ _ _); refine' call_isinstance_yes (Heap.IsTuple.typeIs (Mine.TupIn.at ?tin ?tn)) meta_tuple PySem.F.isi_sub_tuple ?_; (case tn => k_asm); (case tin => walk_at "mine tup")))
local macro_rules | `(tactic| walk_at "mine enter") => `(tactic| k_dflt (refine' code_def ?k1 ?k2 ?k3 ?k4 ?k5 ?kA ?kF ?kK ?k6 ?k7 ?k8 ?k9 ?kB ?_ ?c2 ?c3 ?c4 ?c5; (case kA => exact rfl); (case kF => exact rfl); (case kK => assumption); (case k1 => k_asm); (case k2 => k_asm); (case k3 => k_asm); (case k4 => k_asm); (case k5 => k_asm); (case k6 => k_is); (case k7 => k_is); (case k8 => ktr_room); (case k9 => first | exact BindsTo.of_eq rfl | exact binds_K (by k_in) rfl (by k_is) rfl rfl rfl | fail "enter: no rule for these arguments"); (case c5 => decide); (case kB => exact locs rfl); (case c2 => exact rfl); (case c3 => exact rfl); (case c4 => exact rfl); k_whole; intro g' L' h' FG' F' N' B' X' T'; (try dsimp only); (try k_lift B'); (try k_fold)))
local macro_rules | `(tactic| walk_at "mine ok") => `(tactic| first | assumption | exact Mine.okText_slice (by assumption) _ _)
local macro_rules | `(tactic| walk_at "mine okn") => `(tactic| first | trivial | assumption | walk_at "mine tup")
local macro_rules | `(tactic| walk_at "exec Assign cons ListComp") => `(tactic| (k_here; lct_look; k_dflt (refine Mine.assign_listComp_G (by k_asm) (by rfl) (by with_unfolding_all rfl) (by with_unfolding_all rfl) (by decide) (by rfl) (by decide) (by rfl) (by rfl) (by rfl) ?_)))
local macro_rules | `(tactic| walk_at "mine okn") => `(tactic| exact ⟨_, by k_mem⟩)
local macro_rules | `(tactic| k_mem) => `(tactic| first | assumption | exact List.mem_cons_self | (refine List.mem_cons_of_mem _ ?_; k_mem) | (refine List.mem_append.mpr (Or.inl ?_); k_mem) | (refine List.mem_append.mpr (Or.inr ?_); k_mem))
local macro_rules | `(tactic| walk_at "subscriptTail Name Slice ref ref") => `(tactic| (k_here; (with_reducible show wpAny _ _ (subscriptTail _ (PySem.Expr.Slice none none (some _) _) (Value.ref _) (Value.ref _)) _ _ _); k_dflt (refine' krv_ints ?F ?N ?l ?k ?i ?_ ?s ?t ?z; (case F => k_asm); (case N => k_asm); (case l => is_list); (case k => exact IsPart.int _ _); (case i => assumption); (case s => with_unfolding_all rfl); (case t => kmk_pure); (case z => assumption)); intro D' ws' h' F' N' l1 hI' hC'))
local macro_rules | `(tactic| is_list) => `(tactic| exact News.isList (by k_asm) (by k_mem))
local macro_rules | `(tactic| walk_at "mine step") => `(tactic| first | (k_unfold; (try dsimp only)) | (k_end; kc_close) | walk1 | (dsimp only; walk1) | (leave1; walk_say "STEP leave1"; (try dsimp only)))
local macro_rules | `(tactic| walk_at "mine cls") => `(tactic| (k_dflt (refine' call_cls ?k1 ?k2 ?k3 ?k4 ?k5 ?k6 ?_; (case k1 => k_asm); (case k2 => k_asm); (case k3 => k_asm); (case k4 => k_is); (case k5 => k_is); (case k6 => k_is); k_whole); intro x' d' h' F' N' l1 l2; (try k_lt l1); (try k_lt2 l2); (try k_sweep)))
local macro_rules | `(tactic| k_room) => `(tactic| ktr_room)
local macro_rules | `(tactic| walk_at "call type:list nil nil") => `(tactic| (k_here; k_dflt (refine' Mine.list0_N ?zF ?zN ?_; (case zF => k_asm); (case zN => k_asm)); intro D' c' h' F' N' l1; (try k_lt l1)))
local macro_rules | `(tactic| walk_at "call type:dict nil nil") => `(tactic| (k_here; k_dflt (refine' Mine.dict0_N ?zF ?zN ?_; (case zF => k_asm); (case zN => k_asm)); intro D' h' F' N' l1; (try k_lt l1)))
local macro_rules | `(tactic| walk_at "call type:dict") => `(tactic| (k_here; k_dflt (refine' Mine.dictCopy_K ?zF ?zX ?zN ?zl ?zk ?zn ?za ?zs ?_; (case zF => k_asm); (case zX => k_asm); (case zN => k_asm); (case zl => k_is); (case zk => k_keys); (case zn => first | decide +kernel | (simp only [Mine.kvOf, List.map_cons, List.map_nil]; decide +kernel)); (case za => decide); (case zs => exact Nat.le_of_ble_eq_true rfl)); intro D' h' F' N'))
local macro_rules | `(tactic| walk_at "compareOp Is ref ref") => `(tactic| with_reducible refine wpAny_is_ref_self ?_)
local macro_rules | `(tactic| ktr_units) => `(tactic| (have hcL9 := cLine_is; (try simp only [Mine.units_under_make, units_in1, units_deeper, Around.mark_units, units_caller] at *); (try dsimp only [ktrTop] at *); omega))
local macro_rules | `(tactic| walk_at "mine ks") => `(tactic| k_dflt (refine' ks_code_super ?k1 ?k2 ?k3 ?k4 ?k5 ?kA ?kF ?kK ?k6 ?k7 ?k8 ?k9 ?kB ?_ ?c1 ?c2 ?c3 ?c4; (case kA => exact rfl); (case kF => exact rfl); (case kK => first | exact rfl | assumption); (case k1 => k_asm); (case k2 => k_asm); (case k3 => k_asm); (case k4 => k_asm); (case k5 => k_asm); (case k6 => k_is); (case k7 => k_is); (case k8 => k_room); (case k9 => first | exact BindsTo.of_eq rfl | exact binds_K (by k_in) rfl (by k_is) rfl rfl rfl); (case kB => exact locs rfl); (case c1 => decide); (case c2 => exact rfl); (case c3 => exact rfl); (case c4 => exact rfl); intro g' L' h' FG' F' N' B' X' T' l1; (try k_lt l1); (try dsimp only); (try k_lift B')))
local macro_rules | `(tactic| walk_at "wpAt func") => `(tactic| ((try dsimp only); first
  | (k_dflt (ks_step "execs cons"; refine ks_wpAt_execs_cons ?_))
  | (k_dflt (ks_step "exec Expr"; refine ks_wpAt_Expr_any ?_))
  | (k_dflt (ks_step "exec Return"; refine ks_wpAt_Return_some ?_))
  | (k_dflt (ks_step "exec Assign"; first | refine ks_wpAt_Assign_Name ?_ | refine ks_wpAt_Assign_Attr ?_))
  | (k_dflt (ks_step "exec If"; refine ks_wpAt_If ?_))
  | (k_dflt (ks_step "eval Call"; refine ks_wpAt_MethodCall ?_))))
local macro_rules | `(tactic| walk_at "call type:set cons nil") => `(tactic| (k_here; k_dflt (refine' Mine.setTuple_N ?zF ?zN ?zh ?zl ?zi ?zb ?_; (case zF => k_asm); (case zN => k_asm); (case zh => rfl); (case zl => exact ⟨_, by k_mem, rfl, _, rfl⟩); (case zi => walk_at "mine strs"); (case zb => exact Nat.le_of_ble_eq_true rfl)); intro D' h' tk' F' N'))
local macro_rules | `(tactic| walk_at "mine strs") => `(tactic| first | exact Mine.strs2 _ _ _ _ | exact Mine.strs0)
local macro_rules | `(tactic| walk_at "mine ksr") => `(tactic| k_dflt (refine' Mine.ks_rest ?k1 ?k2 ?k3 ?k4 ?k5 ?kA ?kF ?kK ?k6 ?k7 ?k8 ?kV ?kP ?kG ?kB ?_ ?c1 ?c2 ?c3 ?c4; (case kA => exact rfl); (case kF => exact rfl); (case kK => first | exact rfl | assumption); (case k1 => k_asm); (case k2 => k_asm); (case k3 => k_asm); (case k4 => k_asm); (case k5 => k_asm); (case k6 => k_is); (case k7 => k_is); (case k8 => k_room); (case kV => kl_lit); (case kP => exact rfl); (case kG => exact fun _ => rfl); (case kB => exact fun _ => locs rfl); (case c1 => decide); (case c2 => exact rfl); (case c3 => exact rfl); (case c4 => exact rfl); intro D' g' L' h' l1 FG' F' N' B' X' T'; (try k_lt l1); (try dsimp only); (try k_lift B')))
theorem pe_signed {w : World} (target : PySem.Str) (pos : Int) (t1 t2 t3 : Tok) (hlen : target.length ≤ 6) (hp : 0 ≤ pos ∧ pos ≤ target.length) :
   IntsTell PySem.Challenge.rw_en5030_01.row.prog w (Mine.hd.heap_39 w.params) 236 [.str (PySem.Str.ofString "-?\\d+") t1, .str target t2, .int pos t3] 1 Any9
     (peSigned target pos) := by
  w_top off
  k_fill
  intro p loose mean mg mb dp un gd cn cs a ccd cl outer A₀ base h₀ L m news s Q E B F X N T hk hOk hd hu hret
  refine wpAny_call ?_
  walk_at "mine enterC"
  k_steps
  · refine Mine.src_range (by rfl) (by k_asm) (by k_asm) (by assumption) (small_down (by omega) (by omega) (by omega) (by omega)) (rangeSize_downNat _ _) (by rw [PySem.sizeLine_eq]; omega) ?_
    intro g1
    refine Mine.rest_filter (Mine.rng _ _ _) Mine.IntIs Mine.IntIs (fun n => PySem.Txt.isdecimal (sl target (pos + 1) n)) (Mine.rng_length _ _ _) trivial Mine.rng_at ?_ ?_ ?_
    · intro d v I oI C oC D m₂ ys h tk E' hd hr hC hx F N
      obtain ⟨td, rfl⟩ := hr
      k_steps
    
    · intro d v I oI C oC D m₂ ys h tk E' hd hr hC hx F N
      obtain ⟨td, rfl⟩ := hr
      k_steps
      exact ⟨_, rfl⟩
    · intro ys hys D h tk FE NE oE
      k_steps
      exact hret D ys _ _ _ (by have e : (sl target pos (pos + 1) == PySem.Str.ofString "-") = true := (by assumption); unfold peSigned; rw [if_pos e]; exact intsAre_of hys) (by k_asm) (cb_drop (by k_asm) (by walk_at "mine sub1"))
  · refine Mine.src_range (by rfl) (by k_asm) (by k_asm) (by assumption) (small_down (by omega) (by omega) (by omega) (by omega)) (rangeSize_downNat _ _) (by rw [PySem.sizeLine_eq]; omega) ?_
    intro g1
    simp only [Int.add_zero]
    refine Mine.rest_filter (Mine.rng _ _ _) Mine.IntIs Mine.IntIs (fun n => PySem.Txt.isdecimal (sl target pos n)) (Mine.rng_length _ _ _) trivial Mine.rng_at ?_ ?_ ?_
    · intro d v I oI C oC D m₂ ys h tk E' hd hr hC hx F N
      obtain ⟨td, rfl⟩ := hr
      k_steps
      simp only [Int.add_zero]
    · intro d v I oI C oC D m₂ ys h tk E' hd hr hC hx F N
      obtain ⟨td, rfl⟩ := hr
      k_steps
      exact ⟨_, rfl⟩
    · intro ys hys D h tk FE NE oE
      k_steps
      exact hret D ys _ _ _ (by have e : (sl target pos (pos + 1) == PySem.Str.ofString "-") = false := (by assumption); unfold peSigned; rw [if_neg (by rw [e]; decide)]; exact intsAre_of hys) (by k_asm) (cb_drop (by k_asm) (by walk_at "mine sub1"))
end Mine
namespace Mine
local macro_rules | `(tactic| walk_at "mine enterC") => `(tactic| k_dflt (refine' code_defC ?k1 ?k2 ?k3 ?k4 ?k5 ?kA ?kF ?kK ?k6 ?k7 ?k8 ?k9 ?kB ?kD ?_ ?c2 ?c3 ?c4; (case kA => exact rfl); (case kF => exact rfl); (case kK => assumption); (case k1 => k_asm); (case k2 => k_asm); (case k3 => k_asm); (case k4 => k_asm); (case k5 => k_asm); (case k6 => k_is); (case k7 => k_is); (case k8 => ktr_room); (case k9 => first | exact BindsTo.of_eq rfl | exact binds_K (by k_in) rfl (by k_is) rfl rfl rfl | fail "enterC: no rule for these arguments"); (case kB => exact rfl); (case kD => decide +kernel); (case c2 => exact rfl); (case c3 => exact rfl); (case c4 => exact rfl); k_whole; intro g' L' h' tk' cells' FG' F' N' Y' B' X' T' l1; (try k_lt l1); k_cells Y'; (try simp only [List.cons_append, List.nil_append] at N'); (try dsimp only); (try k_lift B'); (try k_fold)))
local macro_rules | `(tactic| k_all) => `(tactic| exact Mine.ne_of_all (by assumption) (by omega))
local macro_rules | `(tactic| walk_at "eval ListComp") => `(tactic| (k_here; lct_look; k_dflt (refine Mine.listComp_G (by k_asm) (by with_unfolding_all rfl) (by decide) (by rfl) (by decide) (by rfl) ?_)))
local macro_rules | `(tactic| walk_at "TestEnd") => `(tactic| (first | refine Mine.TestEnd.of ?_ (by k_asm) (by k_asm) (fun _ hp => hp) | refine Mine.TestEnd.of ?_ (by k_asm) (by k_asm) (by walk_at "mine sub")))
local macro_rules | `(tactic| walk_at "EltEnd") => `(tactic| (first | refine Mine.EltEnd.of ?_ (by k_asm) (by k_asm) (fun _ hp => hp) | refine Mine.EltEnd.of ?_ (by k_asm) (by k_asm) (by walk_at "mine sub")))
local macro_rules | `(tactic| walk_at "mine sub") => `(tactic| (intro p9 hp9; (repeat (first | exact hp9 | exact List.mem_append_left _ hp9 | refine List.mem_cons_of_mem _ ?_))))
local macro_rules | `(tactic| walk_at "mine sub1") => `(tactic| (intro p9 hp9; rcases List.mem_cons.mp hp9 with h9 | h9; (rw [h9]; exact List.mem_cons_self); (repeat (first | exact h9 | exact List.mem_append_left _ h9 | refine List.mem_cons_of_mem _ ?_))))
local macro_rules | `(tactic| walk_at "mine off") => `(tactic| first | assumption | exact And.right (by assumption) | exact And.right (And.right (by assumption)) | exact And.right (And.right (And.right (by assumption))))
local macro_rules | `(tactic| walk_at "mine tup") => `(tactic| first | assumption | exact Mine.TupIn.mono (by assumption) (by walk_at "mine sub"))
local macro_rules | `(tactic| walk_at "call builtin:isinstance") => `(tactic| ((with_reducible show wpAny _ _ (call (Value.builtin "isinstance") [Value.ref _, Value.type "tuple"]) _ _ _); refine' call_isinstance_yes (Heap.IsTuple.typeIs (Mine.TupIn.at ?tin ?tn)) meta_tuple PySem.F.isi_sub_tuple ?_; (case tn => k_asm); (case tin => walk_at "mine tup")))
local macro_rules | `(tactic| walk_at "mine enter") => `(tactic| k_dflt (refine' code_def ?k1 ?k2 ?k3 ?k4 ?k5 ?kA ?kF ?kK ?k6 ?k7 ?k8 ?k9 ?kB ?_ ?c2 ?c3 ?c4 ?c5; (case kA => exact rfl); (case kF => exact rfl); (case kK => assumption); (case k1 => k_asm); (case k2 => k_asm); (case k3 => k_asm); (case k4 => k_asm); (case k5 => k_asm); (case k6 => k_is); (case k7 => k_is); (case k8 => ktr_room); (case k9 => first | exact BindsTo.of_eq rfl | exact binds_K (by k_in) rfl (by k_is) rfl rfl rfl | fail "enter: no rule for these arguments"); (case c5 => decide); (case kB => exact locs rfl); (case c2 => exact rfl); (case c3 => exact rfl); (case c4 => exact rfl); k_whole; intro g' L' h' FG' F' N' B' X' T'; (try dsimp only); (try k_lift B'); (try k_fold)))
local macro_rules | `(tactic| walk_at "mine ok") => `(tactic| first | assumption | exact Mine.okText_slice (by assumption) _ _)
local macro_rules | `(tactic| walk_at "mine okn") => `(tactic| first | trivial | assumption | walk_at "mine tup")
local macro_rules | `(tactic| walk_at "exec Assign cons ListComp") => `(tactic| (k_here; lct_look; k_dflt (refine Mine.assign_listComp_G (by k_asm) (by rfl) (by with_unfolding_all rfl) (by with_unfolding_all rfl) (by decide) (by rfl) (by decide) (by rfl) (by rfl) (by rfl) ?_)))
local macro_rules | `(tactic| walk_at "mine okn") => `(tactic| exact ⟨_, by k_mem⟩)
local macro_rules | `(tactic| k_mem) => `(tactic| first | assumption | exact List.mem_cons_self | (refine List.mem_cons_of_mem _ ?_; k_mem) | (refine List.mem_append.mpr (Or.inl ?_); k_mem) | (refine List.mem_append.mpr (Or.inr ?_); k_mem))
local macro_rules | `(tactic| walk_at "subscriptTail Name Slice ref ref") => `(tactic| (k_here; (with_reducible show wpAny _ _ (subscriptTail _ (PySem.Expr.Slice none none (some _) _) (Value.ref _) (Value.ref _)) _ _ _); k_dflt (refine' krv_ints ?F ?N ?l ?k ?i ?_ ?s ?t ?z; (case F => k_asm); (case N => k_asm); (case l => is_list); (case k => exact IsPart.int _ _); (case i => assumption); (case s => with_unfolding_all rfl); (case t => kmk_pure); (case z => assumption)); intro D' ws' h' F' N' l1 hI' hC'))
local macro_rules | `(tactic| is_list) => `(tactic| exact News.isList (by k_asm) (by k_mem))
local macro_rules | `(tactic| walk_at "mine step") => `(tactic| first | (k_unfold; (try dsimp only)) | (k_end; kc_close) | walk1 | (dsimp only; walk1) | (leave1; walk_say "STEP leave1"; (try dsimp only)))
local macro_rules | `(tactic| walk_at "mine cls") => `(tactic| (k_dflt (refine' call_cls ?k1 ?k2 ?k3 ?k4 ?k5 ?k6 ?_; (case k1 => k_asm); (case k2 => k_asm); (case k3 => k_asm); (case k4 => k_is); (case k5 => k_is); (case k6 => k_is); k_whole); intro x' d' h' F' N' l1 l2; (try k_lt l1); (try k_lt2 l2); (try k_sweep)))
local macro_rules | `(tactic| k_room) => `(tactic| ktr_room)
local macro_rules | `(tactic| walk_at "call type:list nil nil") => `(tactic| (k_here; k_dflt (refine' Mine.list0_N ?zF ?zN ?_; (case zF => k_asm); (case zN => k_asm)); intro D' c' h' F' N' l1; (try k_lt l1)))
local macro_rules | `(tactic| walk_at "call type:dict nil nil") => `(tactic| (k_here; k_dflt (refine' Mine.dict0_N ?zF ?zN ?_; (case zF => k_asm); (case zN => k_asm)); intro D' h' F' N' l1; (try k_lt l1)))
local macro_rules | `(tactic| walk_at "call type:dict") => `(tactic| (k_here; k_dflt (refine' Mine.dictCopy_K ?zF ?zX ?zN ?zl ?zk ?zn ?za ?zs ?_; (case zF => k_asm); (case zX => k_asm); (case zN => k_asm); (case zl => k_is); (case zk => k_keys); (case zn => first | decide +kernel | (simp only [Mine.kvOf, List.map_cons, List.map_nil]; decide +kernel)); (case za => decide); (case zs => exact Nat.le_of_ble_eq_true rfl)); intro D' h' F' N'))
local macro_rules | `(tactic| walk_at "compareOp Is ref ref") => `(tactic| with_reducible refine wpAny_is_ref_self ?_)
local macro_rules | `(tactic| ktr_units) => `(tactic| (have hcL9 := cLine_is; (try simp only [Mine.units_under_make, units_in1, units_deeper, Around.mark_units, units_caller] at *); (try dsimp only [ktrTop] at *); omega))
local macro_rules | `(tactic| walk_at "mine ks") => `(tactic| k_dflt (refine' ks_code_super ?k1 ?k2 ?k3 ?k4 ?k5 ?kA ?kF ?kK ?k6 ?k7 ?k8 ?k9 ?kB ?_ ?c1 ?c2 ?c3 ?c4; (case kA => exact rfl); (case kF => exact rfl); (case kK => first | exact rfl | assumption); (case k1 => k_asm); (case k2 => k_asm); (case k3 => k_asm); (case k4 => k_asm); (case k5 => k_asm); (case k6 => k_is); (case k7 => k_is); (case k8 => k_room); (case k9 => first | exact BindsTo.of_eq rfl | exact binds_K (by k_in) rfl (by k_is) rfl rfl rfl); (case kB => exact locs rfl); (case c1 => decide); (case c2 => exact rfl); (case c3 => exact rfl); (case c4 => exact rfl); intro g' L' h' FG' F' N' B' X' T' l1; (try k_lt l1); (try dsimp only); (try k_lift B')))
local macro_rules | `(tactic| walk_at "wpAt func") => `(tactic| ((try dsimp only); first
  | (k_dflt (ks_step "execs cons"; refine ks_wpAt_execs_cons ?_))
  | (k_dflt (ks_step "exec Expr"; refine ks_wpAt_Expr_any ?_))
  | (k_dflt (ks_step "exec Return"; refine ks_wpAt_Return_some ?_))
  | (k_dflt (ks_step "exec Assign"; first | refine ks_wpAt_Assign_Name ?_ | refine ks_wpAt_Assign_Attr ?_))
  | (k_dflt (ks_step "exec If"; refine ks_wpAt_If ?_))
  | (k_dflt (ks_step "eval Call"; refine ks_wpAt_MethodCall ?_))))
local macro_rules | `(tactic| walk_at "call type:set cons nil") => `(tactic| (k_here; k_dflt (refine' Mine.setTuple_N ?zF ?zN ?zh ?zl ?zi ?zb ?_; (case zF => k_asm); (case zN => k_asm); (case zh => rfl); (case zl => exact ⟨_, by k_mem, rfl, _, rfl⟩); (case zi => walk_at "mine strs"); (case zb => exact Nat.le_of_ble_eq_true rfl)); intro D' h' tk' F' N'))
local macro_rules | `(tactic| walk_at "mine strs") => `(tactic| first | exact Mine.strs2 _ _ _ _ | exact Mine.strs0)
local macro_rules | `(tactic| walk_at "mine ksr") => `(tactic| k_dflt (refine' Mine.ks_rest ?k1 ?k2 ?k3 ?k4 ?k5 ?kA ?kF ?kK ?k6 ?k7 ?k8 ?kV ?kP ?kG ?kB ?_ ?c1 ?c2 ?c3 ?c4; (case kA => exact rfl); (case kF => exact rfl); (case kK => first | exact rfl | assumption); (case k1 => k_asm); (case k2 => k_asm); (case k3 => k_asm); (case k4 => k_asm); (case k5 => k_asm); (case k6 => k_is); (case k7 => k_is); (case k8 => k_room); (case kV => kl_lit); (case kP => exact rfl); (case kG => exact fun _ => rfl); (case kB => exact fun _ => locs rfl); (case c1 => decide); (case c2 => exact rfl); (case c3 => exact rfl); (case c4 => exact rfl); intro D' g' L' h' l1 FG' F' N' B' X' T'; (try k_lt l1); (try dsimp only); (try k_lift B')))
theorem pe_rest {w : World} (target : PySem.Str) (pos : Int) (t1 t2 t3 : Tok) (hlen : target.length ≤ 6) (hp : 0 ≤ pos ∧ pos ≤ target.length) :
   IntsTell PySem.Challenge.rw_en5030_01.row.prog w (Mine.hd.heap_39 w.params) 236 [.str (PySem.Str.ofString "[^/].*?") t1, .str target t2, .int pos t3] 1 Any9
     (peRest target pos) := by
  w_top off
  k_fill
  intro p loose mean mg mb dp un gd cn cs a ccd cl outer A₀ base h₀ L m news s Q E B F X N T hk hOk hd hu hret
  refine wpAny_call ?_
  walk_at "mine enterC"
  k_steps
  refine Mine.src_range (by rfl) (by k_asm) (by k_asm) (by assumption) (small_one (by (try split) <;> omega) (by (try split) <;> omega) (by (try split) <;> omega) (by (try split) <;> omega)) (rangeSize_nat _ _) (by rw [PySem.sizeLine_eq]; (try split) <;> omega) ?_
  intro g1
  refine Mine.rest_filter (Mine.rng _ _ _) Mine.IntIs Mine.IntIs (fun n => (PySem.Txt.item target pos != PySem.Str.ofString "/") && noIn (PySem.Str.ofString "\n") (sl target (pos + 1) n)) (Mine.rng_length _ _ _) trivial Mine.rng_at ?_ ?_ ?_
  · intro d v I oI C oC D m₂ ys h tk E' hd hr hC hx F N
    obtain ⟨td, rfl⟩ := hr
    have hd2 := mem_rng1 hd
    k_steps
    all_goals first
     | (have e1 : (PySem.Txt.item target pos != PySem.Str.ofString "/") = true := by assumption
        have e2 : noIn (PySem.Str.ofString "\n") (sl target (pos + 1) d) = true := by assumption
        rw [e1, e2]; rfl)
     | (have e1 : (PySem.Txt.item target pos != PySem.Str.ofString "/") = true := by assumption
        have e2 : noIn (PySem.Str.ofString "\n") (sl target (pos + 1) d) = false := by assumption
        rw [e1, e2]; rfl)
     | (have e1 : (PySem.Txt.item target pos != PySem.Str.ofString "/") = false := by assumption
        rw [e1]; rfl)
  · intro d v I oI C oC D m₂ ys h tk E' hd hr hC hx F N
    obtain ⟨td, rfl⟩ := hr
    k_steps
    exact ⟨_, rfl⟩
  · intro ys hys D h tk FE NE oE
    k_steps
    exact hret D ys _ _ _ (intsAre_of hys) (by k_asm) (cb_drop (by k_asm) (by walk_at "mine sub1"))
end Mine
namespace Mine
local macro_rules | `(tactic| walk_at "mine enterC") => `(tactic| k_dflt (refine' code_defC ?k1 ?k2 ?k3 ?k4 ?k5 ?kA ?kF ?kK ?k6 ?k7 ?k8 ?k9 ?kB ?kD ?_ ?c2 ?c3 ?c4; (case kA => exact rfl); (case kF => exact rfl); (case kK => assumption); (case k1 => k_asm); (case k2 => k_asm); (case k3 => k_asm); (case k4 => k_asm); (case k5 => k_asm); (case k6 => k_is); (case k7 => k_is); (case k8 => ktr_room); (case k9 => first | exact BindsTo.of_eq rfl | exact binds_K (by k_in) rfl (by k_is) rfl rfl rfl | fail "enterC: no rule for these arguments"); (case kB => exact rfl); (case kD => decide +kernel); (case c2 => exact rfl); (case c3 => exact rfl); (case c4 => exact rfl); k_whole; intro g' L' h' tk' cells' FG' F' N' Y' B' X' T' l1; (try k_lt l1); k_cells Y'; (try simp only [List.cons_append, List.nil_append] at N'); (try dsimp only); (try k_lift B'); (try k_fold)))
local macro_rules | `(tactic| k_all) => `(tactic| exact Mine.ne_of_all (by assumption) (by omega))
local macro_rules | `(tactic| walk_at "eval ListComp") => `(tactic| (k_here; lct_look; k_dflt (refine Mine.listComp_G (by k_asm) (by with_unfolding_all rfl) (by decide) (by rfl) (by decide) (by rfl) ?_)))
local macro_rules | `(tactic| walk_at "TestEnd") => `(tactic| (first | refine Mine.TestEnd.of ?_ (by k_asm) (by k_asm) (fun _ hp => hp) | refine Mine.TestEnd.of ?_ (by k_asm) (by k_asm) (by walk_at "mine sub")))
local macro_rules | `(tactic| walk_at "EltEnd") => `(tactic| (first | refine Mine.EltEnd.of ?_ (by k_asm) (by k_asm) (fun _ hp => hp) | refine Mine.EltEnd.of ?_ (by k_asm) (by k_asm) (by walk_at "mine sub")))
local macro_rules | `(tactic| walk_at "mine sub") => `(tactic| (intro p9 hp9; (repeat (first | exact hp9 | exact List.mem_append_left _ hp9 | refine List.mem_cons_of_mem _ ?_))))
local macro_rules | `(tactic| walk_at "mine sub1") => `(tactic| (intro p9 hp9; rcases List.mem_cons.mp hp9 with h9 | h9; (rw [h9]; exact List.mem_cons_self); (repeat (first | exact h9 | exact List.mem_append_left _ h9 | refine List.mem_cons_of_mem _ ?_))))
local macro_rules | `(tactic| walk_at "mine off") => `(tactic| first | assumption | exact And.right (by assumption) | exact And.right (And.right (by assumption)) | exact And.right (And.right (And.right (by assumption))))
local macro_rules | `(tactic| walk_at "mine tup") => `(tactic| first | assumption | exact Mine.TupIn.mono (by assumption) (by walk_at "mine sub"))
local macro_rules | `(tactic| walk_at "call builtin:isinstance") => `(tactic| ((with_reducible show wpAny _ _ (call (Value.builtin "isinstance") [Value.ref _, Value.type "tuple"]) _ _ _); refine' call_isinstance_yes (Heap.IsTuple.typeIs (Mine.TupIn.at ?tin ?tn)) meta_tuple PySem.F.isi_sub_tuple ?_; (case tn => k_asm); (case tin => walk_at "mine tup")))
local macro_rules | `(tactic| walk_at "mine enter") => `(tactic| k_dflt (refine' code_def ?k1 ?k2 ?k3 ?k4 ?k5 ?kA ?kF ?kK ?k6 ?k7 ?k8 ?k9 ?kB ?_ ?c2 ?c3 ?c4 ?c5; (case kA => exact rfl); (case kF => exact rfl); (case kK => assumption); (case k1 => k_asm); (case k2 => k_asm); (case k3 => k_asm); (case k4 => k_asm); (case k5 => k_asm); (case k6 => k_is); (case k7 => k_is); (case k8 => ktr_room); (case k9 => first | exact BindsTo.of_eq rfl | exact binds_K (by k_in) rfl (by k_is) rfl rfl rfl | fail "enter: no rule for these arguments"); (case c5 => decide); (case kB => exact locs rfl); (case c2 => exact rfl); (case c3 => exact rfl); (case c4 => exact rfl); k_whole; intro g' L' h' FG' F' N' B' X' T'; (try dsimp only); (try k_lift B'); (try k_fold)))
local macro_rules | `(tactic| walk_at "mine ok") => `(tactic| first | assumption | exact Mine.okText_slice (by assumption) _ _)
local macro_rules | `(tactic| walk_at "mine okn") => `(tactic| first | trivial | assumption | walk_at "mine tup")
local macro_rules | `(tactic| walk_at "exec Assign cons ListComp") => `(tactic| (k_here; lct_look; k_dflt (refine Mine.assign_listComp_G (by k_asm) (by rfl) (by with_unfolding_all rfl) (by with_unfolding_all rfl) (by decide) (by rfl) (by decide) (by rfl) (by rfl) (by rfl) ?_)))
local macro_rules | `(tactic| walk_at "mine okn") => `(tactic| exact ⟨_, by k_mem⟩)
local macro_rules | `(tactic| k_mem) => `(tactic| first | assumption | exact List.mem_cons_self | (refine List.mem_cons_of_mem _ ?_; k_mem) | (refine List.mem_append.mpr (Or.inl ?_); k_mem) | (refine List.mem_append.mpr (Or.inr ?_); k_mem))
local macro_rules | `(tactic| walk_at "subscriptTail Name Slice ref ref") => `(tactic| (k_here; (with_reducible show wpAny _ _ (subscriptTail _ (PySem.Expr.Slice none none (some _) _) (Value.ref _) (Value.ref _)) _ _ _); k_dflt (refine' krv_ints ?F ?N ?l ?k ?i ?_ ?s ?t ?z; (case F => k_asm); (case N => k_asm); (case l => is_list); (case k => exact IsPart.int _ _); (case i => assumption); (case s => with_unfolding_all rfl); (case t => kmk_pure); (case z => assumption)); intro D' ws' h' F' N' l1 hI' hC'))
local macro_rules | `(tactic| is_list) => `(tactic| exact News.isList (by k_asm) (by k_mem))
local macro_rules | `(tactic| walk_at "mine step") => `(tactic| first | (k_unfold; (try dsimp only)) | (k_end; kc_close) | walk1 | (dsimp only; walk1) | (leave1; walk_say "STEP leave1"; (try dsimp only)))
local macro_rules | `(tactic| walk_at "mine cls") => `(tactic| (k_dflt (refine' call_cls ?k1 ?k2 ?k3 ?k4 ?k5 ?k6 ?_; (case k1 => k_asm); (case k2 => k_asm); (case k3 => k_asm); (case k4 => k_is); (case k5 => k_is); (case k6 => k_is); k_whole); intro x' d' h' F' N' l1 l2; (try k_lt l1); (try k_lt2 l2); (try k_sweep)))
local macro_rules | `(tactic| k_room) => `(tactic| ktr_room)
local macro_rules | `(tactic| walk_at "call type:list nil nil") => `(tactic| (k_here; k_dflt (refine' Mine.list0_N ?zF ?zN ?_; (case zF => k_asm); (case zN => k_asm)); intro D' c' h' F' N' l1; (try k_lt l1)))
local macro_rules | `(tactic| walk_at "call type:dict nil nil") => `(tactic| (k_here; k_dflt (refine' Mine.dict0_N ?zF ?zN ?_; (case zF => k_asm); (case zN => k_asm)); intro D' h' F' N' l1; (try k_lt l1)))
local macro_rules | `(tactic| walk_at "call type:dict") => `(tactic| (k_here; k_dflt (refine' Mine.dictCopy_K ?zF ?zX ?zN ?zl ?zk ?zn ?za ?zs ?_; (case zF => k_asm); (case zX => k_asm); (case zN => k_asm); (case zl => k_is); (case zk => k_keys); (case zn => first | decide +kernel | (simp only [Mine.kvOf, List.map_cons, List.map_nil]; decide +kernel)); (case za => decide); (case zs => exact Nat.le_of_ble_eq_true rfl)); intro D' h' F' N'))
local macro_rules | `(tactic| walk_at "compareOp Is ref ref") => `(tactic| with_reducible refine wpAny_is_ref_self ?_)
local macro_rules | `(tactic| ktr_units) => `(tactic| (have hcL9 := cLine_is; (try simp only [Mine.units_under_make, units_in1, units_deeper, Around.mark_units, units_caller] at *); (try dsimp only [ktrTop] at *); omega))
local macro_rules | `(tactic| walk_at "mine ks") => `(tactic| k_dflt (refine' ks_code_super ?k1 ?k2 ?k3 ?k4 ?k5 ?kA ?kF ?kK ?k6 ?k7 ?k8 ?k9 ?kB ?_ ?c1 ?c2 ?c3 ?c4; (case kA => exact rfl); (case kF => exact rfl); (case kK => first | exact rfl | assumption); (case k1 => k_asm); (case k2 => k_asm); (case k3 => k_asm); (case k4 => k_asm); (case k5 => k_asm); (case k6 => k_is); (case k7 => k_is); (case k8 => k_room); (case k9 => first | exact BindsTo.of_eq rfl | exact binds_K (by k_in) rfl (by k_is) rfl rfl rfl); (case kB => exact locs rfl); (case c1 => decide); (case c2 => exact rfl); (case c3 => exact rfl); (case c4 => exact rfl); intro g' L' h' FG' F' N' B' X' T' l1; (try k_lt l1); (try dsimp only); (try k_lift B')))
local macro_rules | `(tactic| walk_at "wpAt func") => `(tactic| ((try dsimp only); first
  | (k_dflt (ks_step "execs cons"; refine ks_wpAt_execs_cons ?_))
  | (k_dflt (ks_step "exec Expr"; refine ks_wpAt_Expr_any ?_))
  | (k_dflt (ks_step "exec Return"; refine ks_wpAt_Return_some ?_))
  | (k_dflt (ks_step "exec Assign"; first | refine ks_wpAt_Assign_Name ?_ | refine ks_wpAt_Assign_Attr ?_))
  | (k_dflt (ks_step "exec If"; refine ks_wpAt_If ?_))
  | (k_dflt (ks_step "eval Call"; refine ks_wpAt_MethodCall ?_))))
local macro_rules | `(tactic| walk_at "call type:set cons nil") => `(tactic| (k_here; k_dflt (refine' Mine.setTuple_N ?zF ?zN ?zh ?zl ?zi ?zb ?_; (case zF => k_asm); (case zN => k_asm); (case zh => rfl); (case zl => exact ⟨_, by k_mem, rfl, _, rfl⟩); (case zi => walk_at "mine strs"); (case zb => exact Nat.le_of_ble_eq_true rfl)); intro D' h' tk' F' N'))
local macro_rules | `(tactic| walk_at "mine strs") => `(tactic| first | exact Mine.strs2 _ _ _ _ | exact Mine.strs0)
local macro_rules | `(tactic| walk_at "mine ksr") => `(tactic| k_dflt (refine' Mine.ks_rest ?k1 ?k2 ?k3 ?k4 ?k5 ?kA ?kF ?kK ?k6 ?k7 ?k8 ?kV ?kP ?kG ?kB ?_ ?c1 ?c2 ?c3 ?c4; (case kA => exact rfl); (case kF => exact rfl); (case kK => first | exact rfl | assumption); (case k1 => k_asm); (case k2 => k_asm); (case k3 => k_asm); (case k4 => k_asm); (case k5 => k_asm); (case k6 => k_is); (case k7 => k_is); (case k8 => k_room); (case kV => kl_lit); (case kP => exact rfl); (case kG => exact fun _ => rfl); (case kB => exact fun _ => locs rfl); (case c1 => decide); (case c2 => exact rfl); (case c3 => exact rfl); (case c4 => exact rfl); intro D' g' L' h' l1 FG' F' N' B' X' T'; (try k_lt l1); (try dsimp only); (try k_lift B')))
theorem pe_1_ {w : World} (target : PySem.Str) (pos : Int) (t1 t2 t3 : Tok) (hlen : target.length ≤ 6) (hp : 0 ≤ pos ∧ pos ≤ target.length) :
   IntsTell PySem.Challenge.rw_en5030_01.row.prog w (Mine.hd.heap_39 w.params) 236 [.str (PySem.Str.ofString "[^/]{1,}") t1, .str target t2, .int pos t3] 1 Any9
     (peFree (if pos + target.length < target.length then pos + target.length else target.length) 1 target pos) := by
  w_top off
  k_fill
  intro p loose mean mg mb dp un gd cn cs a ccd cl outer A₀ base h₀ L m news s Q E B F X N T hk hOk hd hu hret
  refine wpAny_call ?_
  walk_at "mine enterC"
  k_steps
  refine Mine.src_range (by rfl) (by k_asm) (by k_asm) (by assumption) (small_down (by (try split) <;> omega) (by (try split) <;> omega) (by (try split) <;> omega) (by (try split) <;> omega)) (rangeSize_downNat _ _) (by rw [PySem.sizeLine_eq]; (try split) <;> omega) ?_
  intro g1
  refine Mine.rest_filter (Mine.rng _ _ _) Mine.IntIs Mine.IntIs (fun n => noIn (PySem.Str.ofString "/") (sl target pos n)) (Mine.rng_length _ _ _) trivial Mine.rng_at ?_ ?_ ?_
  · intro d v I oI C oC D m₂ ys h tk E' hd hr hC hx F N
    obtain ⟨td, rfl⟩ := hr
    k_steps
    simp only [Bool.not_not]
  · intro d v I oI C oC D m₂ ys h tk E' hd hr hC hx F N
    obtain ⟨td, rfl⟩ := hr
    k_steps
    exact ⟨_, rfl⟩
  · intro ys hys D h tk FE NE oE
    k_steps
    exact hret D ys _ _ _ (intsAre_of hys) (by k_asm) (cb_drop (by k_asm) (by walk_at "mine sub1"))
end Mine
namespace Mine
local macro_rules | `(tactic| walk_at "mine enterC") => `(tactic| k_dflt (refine' code_defC ?k1 ?k2 ?k3 ?k4 ?k5 ?kA ?kF ?kK ?k6 ?k7 ?k8 ?k9 ?kB ?kD ?_ ?c2 ?c3 ?c4; (case kA => exact rfl); (case kF => exact rfl); (case kK => assumption); (case k1 => k_asm); (case k2 => k_asm); (case k3 => k_asm); (case k4 => k_asm); (case k5 => k_asm); (case k6 => k_is); (case k7 => k_is); (case k8 => ktr_room); (case k9 => first | exact BindsTo.of_eq rfl | exact binds_K (by k_in) rfl (by k_is) rfl rfl rfl | fail "enterC: no rule for these arguments"); (case kB => exact rfl); (case kD => decide +kernel); (case c2 => exact rfl); (case c3 => exact rfl); (case c4 => exact rfl); k_whole; intro g' L' h' tk' cells' FG' F' N' Y' B' X' T' l1; (try k_lt l1); k_cells Y'; (try simp only [List.cons_append, List.nil_append] at N'); (try dsimp only); (try k_lift B'); (try k_fold)))
local macro_rules | `(tactic| k_all) => `(tactic| exact Mine.ne_of_all (by assumption) (by omega))
local macro_rules | `(tactic| walk_at "eval ListComp") => `(tactic| (k_here; lct_look; k_dflt (refine Mine.listComp_G (by k_asm) (by with_unfolding_all rfl) (by decide) (by rfl) (by decide) (by rfl) ?_)))
local macro_rules | `(tactic| walk_at "TestEnd") => `(tactic| (first | refine Mine.TestEnd.of ?_ (by k_asm) (by k_asm) (fun _ hp => hp) | refine Mine.TestEnd.of ?_ (by k_asm) (by k_asm) (by walk_at "mine sub")))
local macro_rules | `(tactic| walk_at "EltEnd") => `(tactic| (first | refine Mine.EltEnd.of ?_ (by k_asm) (by k_asm) (fun _ hp => hp) | refine Mine.EltEnd.of ?_ (by k_asm) (by k_asm) (by walk_at "mine sub")))
local macro_rules | `(tactic| walk_at "mine sub") => `(tactic| (intro p9 hp9; (repeat (first | exact hp9 | exact List.mem_append_left _ hp9 | refine List.mem_cons_of_mem _ ?_))))
local macro_rules | `(tactic| walk_at "mine sub1") => `(tactic| (intro p9 hp9; rcases List.mem_cons.mp hp9 with h9 | h9; (rw [h9]; exact List.mem_cons_self); (repeat (first | exact h9 | exact List.mem_append_left _ h9 | refine List.mem_cons_of_mem _ ?_))))
local macro_rules | `(tactic| walk_at "mine off") => `(tactic| first | assumption | exact And.right (by assumption) | exact And.right (And.right (by assumption)) | exact And.right (And.right (And.right (by assumption))))
local macro_rules | `(tactic| walk_at "mine tup") => `(tactic| first | assumption | exact Mine.TupIn.mono (by assumption) (by walk_at "mine sub"))
local macro_rules | `(tactic| walk_at "call builtin:isinstance") => `(tactic| ((with_reducible show wpAny _ _ (call (Value.builtin "isinstance") [Value.ref _, Value.type "tuple"]) _ _ _); refine' call_isinstance_yes (Heap.IsTuple.typeIs (Mine.TupIn.at ?tin ?tn)) meta_tuple PySem.F.isi_sub_tuple ?_; (case tn => k_asm); (case tin => walk_at "mine tup")))
local macro_rules | `(tactic| walk_at "mine enter") => `(tactic| k_dflt (refine' code_def ?k1 ?k2 ?k3 ?k4 ?k5 ?kA ?kF ?kK ?k6 ?k7 ?k8 ?k9 ?kB ?_ ?c2 ?c3 ?c4 ?c5; (case kA => exact rfl); (case kF => exact rfl); (case kK => assumption); (case k1 => k_asm); (case k2 => k_asm); (case k3 => k_asm); (case k4 => k_asm); (case k5 => k_asm); (case k6 => k_is); (case k7 => k_is); (case k8 => ktr_room); (case k9 => first | exact BindsTo.of_eq rfl | exact binds_K (by k_in) rfl (by k_is) rfl rfl rfl | fail "enter: no rule for these arguments"); (case c5 => decide); (case kB => exact locs rfl); (case c2 => exact rfl); (case c3 => exact rfl); (case c4 => exact rfl); k_whole; intro g' L' h' FG' F' N' B' X' T'; (try dsimp only); (try k_lift B'); (try k_fold)))
local macro_rules | `(tactic| walk_at "mine ok") => `(tactic| first | assumption | exact Mine.okText_slice (by assumption) _ _)
local macro_rules | `(tactic| walk_at "mine okn") => `(tactic| first | trivial | assumption | walk_at "mine tup")
local macro_rules | `(tactic| walk_at "exec Assign cons ListComp") => `(tactic| (k_here; lct_look; k_dflt (refine Mine.assign_listComp_G (by k_asm) (by rfl) (by with_unfolding_all rfl) (by with_unfolding_all rfl) (by decide) (by rfl) (by decide) (by rfl) (by rfl) (by rfl) ?_)))
local macro_rules | `(tactic| walk_at "mine okn") => `(tactic| exact ⟨_, by k_mem⟩)
local macro_rules | `(tactic| k_mem) => `(tactic| first | assumption | exact List.mem_cons_self | (refine List.mem_cons_of_mem _ ?_; k_mem) | (refine List.mem_append.mpr (Or.inl ?_); k_mem) | (refine List.mem_append.mpr (Or.inr ?_); k_mem))
local macro_rules | `(tactic| walk_at "subscriptTail Name Slice ref ref") => `(tactic| (k_here; (with_reducible show wpAny _ _ (subscriptTail _ (PySem.Expr.Slice none none (some _) _) (Value.ref _) (Value.ref _)) _ _ _); k_dflt (refine' krv_ints ?F ?N ?l ?k ?i ?_ ?s ?t ?z; (case F => k_asm); (case N => k_asm); (case l => is_list); (case k => exact IsPart.int _ _); (case i => assumption); (case s => with_unfolding_all rfl); (case t => kmk_pure); (case z => assumption)); intro D' ws' h' F' N' l1 hI' hC'))
local macro_rules | `(tactic| is_list) => `(tactic| exact News.isList (by k_asm) (by k_mem))
local macro_rules | `(tactic| walk_at "mine step") => `(tactic| first | (k_unfold; (try dsimp only)) | (k_end; kc_close) | walk1 | (dsimp only; walk1) | (leave1; walk_say "STEP leave1"; (try dsimp only)))
local macro_rules | `(tactic| walk_at "mine cls") => `(tactic| (k_dflt (refine' call_cls ?k1 ?k2 ?k3 ?k4 ?k5 ?k6 ?_; (case k1 => k_asm); (case k2 => k_asm); (case k3 => k_asm); (case k4 => k_is); (case k5 => k_is); (case k6 => k_is); k_whole); intro x' d' h' F' N' l1 l2; (try k_lt l1); (try k_lt2 l2); (try k_sweep)))
local macro_rules | `(tactic| k_room) => `(tactic| ktr_room)
local macro_rules | `(tactic| walk_at "call type:list nil nil") => `(tactic| (k_here; k_dflt (refine' Mine.list0_N ?zF ?zN ?_; (case zF => k_asm); (case zN => k_asm)); intro D' c' h' F' N' l1; (try k_lt l1)))
local macro_rules | `(tactic| walk_at "call type:dict nil nil") => `(tactic| (k_here; k_dflt (refine' Mine.dict0_N ?zF ?zN ?_; (case zF => k_asm); (case zN => k_asm)); intro D' h' F' N' l1; (try k_lt l1)))
local macro_rules | `(tactic| walk_at "call type:dict") => `(tactic| (k_here; k_dflt (refine' Mine.dictCopy_K ?zF ?zX ?zN ?zl ?zk ?zn ?za ?zs ?_; (case zF => k_asm); (case zX => k_asm); (case zN => k_asm); (case zl => k_is); (case zk => k_keys); (case zn => first | decide +kernel | (simp only [Mine.kvOf, List.map_cons, List.map_nil]; decide +kernel)); (case za => decide); (case zs => exact Nat.le_of_ble_eq_true rfl)); intro D' h' F' N'))
local macro_rules | `(tactic| walk_at "compareOp Is ref ref") => `(tactic| with_reducible refine wpAny_is_ref_self ?_)
local macro_rules | `(tactic| ktr_units) => `(tactic| (have hcL9 := cLine_is; (try simp only [Mine.units_under_make, units_in1, units_deeper, Around.mark_units, units_caller] at *); (try dsimp only [ktrTop] at *); omega))
local macro_rules | `(tactic| walk_at "mine ks") => `(tactic| k_dflt (refine' ks_code_super ?k1 ?k2 ?k3 ?k4 ?k5 ?kA ?kF ?kK ?k6 ?k7 ?k8 ?k9 ?kB ?_ ?c1 ?c2 ?c3 ?c4; (case kA => exact rfl); (case kF => exact rfl); (case kK => first | exact rfl | assumption); (case k1 => k_asm); (case k2 => k_asm); (case k3 => k_asm); (case k4 => k_asm); (case k5 => k_asm); (case k6 => k_is); (case k7 => k_is); (case k8 => k_room); (case k9 => first | exact BindsTo.of_eq rfl | exact binds_K (by k_in) rfl (by k_is) rfl rfl rfl); (case kB => exact locs rfl); (case c1 => decide); (case c2 => exact rfl); (case c3 => exact rfl); (case c4 => exact rfl); intro g' L' h' FG' F' N' B' X' T' l1; (try k_lt l1); (try dsimp only); (try k_lift B')))
local macro_rules | `(tactic| walk_at "wpAt func") => `(tactic| ((try dsimp only); first
  | (k_dflt (ks_step "execs cons"; refine ks_wpAt_execs_cons ?_))
  | (k_dflt (ks_step "exec Expr"; refine ks_wpAt_Expr_any ?_))
  | (k_dflt (ks_step "exec Return"; refine ks_wpAt_Return_some ?_))
  | (k_dflt (ks_step "exec Assign"; first | refine ks_wpAt_Assign_Name ?_ | refine ks_wpAt_Assign_Attr ?_))
  | (k_dflt (ks_step "exec If"; refine ks_wpAt_If ?_))
  | (k_dflt (ks_step "eval Call"; refine ks_wpAt_MethodCall ?_))))
local macro_rules | `(tactic| walk_at "call type:set cons nil") => `(tactic| (k_here; k_dflt (refine' Mine.setTuple_N ?zF ?zN ?zh ?zl ?zi ?zb ?_; (case zF => k_asm); (case zN => k_asm); (case zh => rfl); (case zl => exact ⟨_, by k_mem, rfl, _, rfl⟩); (case zi => walk_at "mine strs"); (case zb => exact Nat.le_of_ble_eq_true rfl)); intro D' h' tk' F' N'))
local macro_rules | `(tactic| walk_at "mine strs") => `(tactic| first | exact Mine.strs2 _ _ _ _ | exact Mine.strs0)
local macro_rules | `(tactic| walk_at "mine ksr") => `(tactic| k_dflt (refine' Mine.ks_rest ?k1 ?k2 ?k3 ?k4 ?k5 ?kA ?kF ?kK ?k6 ?k7 ?k8 ?kV ?kP ?kG ?kB ?_ ?c1 ?c2 ?c3 ?c4; (case kA => exact rfl); (case kF => exact rfl); (case kK => first | exact rfl | assumption); (case k1 => k_asm); (case k2 => k_asm); (case k3 => k_asm); (case k4 => k_asm); (case k5 => k_asm); (case k6 => k_is); (case k7 => k_is); (case k8 => k_room); (case kV => kl_lit); (case kP => exact rfl); (case kG => exact fun _ => rfl); (case kB => exact fun _ => locs rfl); (case c1 => decide); (case c2 => exact rfl); (case c3 => exact rfl); (case c4 => exact rfl); intro D' g' L' h' l1 FG' F' N' B' X' T'; (try k_lt l1); (try dsimp only); (try k_lift B')))
theorem pe_22 {w : World} (target : PySem.Str) (pos : Int) (t1 t2 t3 : Tok) (hlen : target.length ≤ 6) (hp : 0 ≤ pos ∧ pos ≤ target.length) :
   IntsTell PySem.Challenge.rw_en5030_01.row.prog w (Mine.hd.heap_39 w.params) 236 [.str (PySem.Str.ofString "[^/]{2}") t1, .str target t2, .int pos t3] 1 Any9
     (peFree (if pos + 2 < target.length then pos + 2 else target.length) 2 target pos) := by
  w_top off
  k_fill
  intro p loose mean mg mb dp un gd cn cs a ccd cl outer A₀ base h₀ L m news s Q E B F X N T hk hOk hd hu hret
  refine wpAny_call ?_
  walk_at "mine enterC"
  k_steps
  refine Mine.src_range (by rfl) (by k_asm) (by k_asm) (by assumption) (small_down (by (try split) <;> omega) (by (try split) <;> omega) (by (try split) <;> omega) (by (try split) <;> omega)) (rangeSize_downNat _ _) (by rw [PySem.sizeLine_eq]; (try split) <;> omega) ?_
  intro g1
  refine Mine.rest_filter (Mine.rng _ _ _) Mine.IntIs Mine.IntIs (fun n => noIn (PySem.Str.ofString "/") (sl target pos n)) (Mine.rng_length _ _ _) trivial Mine.rng_at ?_ ?_ ?_
  · intro d v I oI C oC D m₂ ys h tk E' hd hr hC hx F N
    obtain ⟨td, rfl⟩ := hr
    k_steps
    simp only [Bool.not_not]
  · intro d v I oI C oC D m₂ ys h tk E' hd hr hC hx F N
    obtain ⟨td, rfl⟩ := hr
    k_steps
    exact ⟨_, rfl⟩
  · intro ys hys D h tk FE NE oE
    k_steps
    exact hret D ys _ _ _ (intsAre_of hys) (by k_asm) (cb_drop (by k_asm) (by walk_at "mine sub1"))
end Mine
namespace Mine
local macro_rules | `(tactic| walk_at "mine enterC") => `(tactic| k_dflt (refine' code_defC ?k1 ?k2 ?k3 ?k4 ?k5 ?kA ?kF ?kK ?k6 ?k7 ?k8 ?k9 ?kB ?kD ?_ ?c2 ?c3 ?c4; (case kA => exact rfl); (case kF => exact rfl); (case kK => assumption); (case k1 => k_asm); (case k2 => k_asm); (case k3 => k_asm); (case k4 => k_asm); (case k5 => k_asm); (case k6 => k_is); (case k7 => k_is); (case k8 => ktr_room); (case k9 => first | exact BindsTo.of_eq rfl | exact binds_K (by k_in) rfl (by k_is) rfl rfl rfl | fail "enterC: no rule for these arguments"); (case kB => exact rfl); (case kD => decide +kernel); (case c2 => exact rfl); (case c3 => exact rfl); (case c4 => exact rfl); k_whole; intro g' L' h' tk' cells' FG' F' N' Y' B' X' T' l1; (try k_lt l1); k_cells Y'; (try simp only [List.cons_append, List.nil_append] at N'); (try dsimp only); (try k_lift B'); (try k_fold)))
local macro_rules | `(tactic| k_all) => `(tactic| exact Mine.ne_of_all (by assumption) (by omega))
local macro_rules | `(tactic| walk_at "eval ListComp") => `(tactic| (k_here; lct_look; k_dflt (refine Mine.listComp_G (by k_asm) (by with_unfolding_all rfl) (by decide) (by rfl) (by decide) (by rfl) ?_)))
local macro_rules | `(tactic| walk_at "TestEnd") => `(tactic| (first | refine Mine.TestEnd.of ?_ (by k_asm) (by k_asm) (fun _ hp => hp) | refine Mine.TestEnd.of ?_ (by k_asm) (by k_asm) (by walk_at "mine sub")))
local macro_rules | `(tactic| walk_at "EltEnd") => `(tactic| (first | refine Mine.EltEnd.of ?_ (by k_asm) (by k_asm) (fun _ hp => hp) | refine Mine.EltEnd.of ?_ (by k_asm) (by k_asm) (by walk_at "mine sub")))
local macro_rules | `(tactic| walk_at "mine sub") => `(tactic| (intro p9 hp9; (repeat (first | exact hp9 | exact List.mem_append_left _ hp9 | refine List.mem_cons_of_mem _ ?_))))
local macro_rules | `(tactic| walk_at "mine sub1") => `(tactic| (intro p9 hp9; rcases List.mem_cons.mp hp9 with h9 | h9; (rw [h9]; exact List.mem_cons_self); (repeat (first | exact h9 | exact List.mem_append_left _ h9 | refine List.mem_cons_of_mem _ ?_))))
local macro_rules | `(tactic| walk_at "mine off") => `(tactic| first | assumption | exact And.right (by assumption) | exact And.right (And.right (by assumption)) | exact And.right (And.right (And.right (by assumption))))
local macro_rules | `(tactic| walk_at "mine tup") => `(tactic| first | assumption | exact Mine.TupIn.mono (by assumption) (by walk_at "mine sub"))
local macro_rules | `(tactic| walk_at "call builtin:isinstance") => `(tactic| ((with_reducible show wpAny _ _ (call (Value.builtin "isinstance") [Value.ref _, Value.type "tuple"]) _ _ _); refine' call_isinstance_yes (Heap.IsTuple.typeIs (Mine.TupIn.at ?tin ?tn)) meta_tuple PySem.F.isi_sub_tuple ?_; (case tn => k_asm); (case tin => walk_at "mine tup")))
local macro_rules | `(tactic| walk_at "mine enter") => `(tactic| k_dflt (refine' code_def ?k1 ?k2 ?k3 ?k4 ?k5 ?kA ?kF ?kK ?k6 ?k7 ?k8 ?k9 ?kB ?_ ?c2 ?c3 ?c4 ?c5; (case kA => exact rfl); (case kF => exact rfl); (case kK => assumption); (case k1 => k_asm); (case k2 => k_asm); (case k3 => k_asm); (case k4 => k_asm); (case k5 => k_asm); (case k6 => k_is); (case k7 => k_is); (case k8 => ktr_room); (case k9 => first | exact BindsTo.of_eq rfl | exact binds_K (by k_in) rfl (by k_is) rfl rfl rfl | fail "enter: no rule for these arguments"); (case c5 => decide); (case kB => exact locs rfl); (case c2 => exact rfl); (case c3 => exact rfl); (case c4 => exact rfl); k_whole; intro g' L' h' FG' F' N' B' X' T'; (try dsimp only); (try k_lift B'); (try k_fold)))
local macro_rules | `(tactic| walk_at "mine ok") => `(tactic| first | assumption | exact Mine.okText_slice (by assumption) _ _)
local macro_rules | `(tactic| walk_at "mine okn") => `(tactic| first | trivial | assumption | walk_at "mine tup")
local macro_rules | `(tactic| walk_at "exec Assign cons ListComp") => `(tactic| (k_here; lct_look; k_dflt (refine Mine.assign_listComp_G (by k_asm) (by rfl) (by with_unfolding_all rfl) (by with_unfolding_all rfl) (by decide) (by rfl) (by decide) (by rfl) (by rfl) (by rfl) ?_)))
local macro_rules | `(tactic| walk_at "mine okn") => `(tactic| exact ⟨_, by k_mem⟩)
local macro_rules | `(tactic| k_mem) => `(tactic| first | assumption | exact List.mem_cons_self | (refine List.mem_cons_of_mem _ ?_; k_mem) | (refine List.mem_append.mpr (Or.inl ?_); k_mem) | (refine List.mem_append.mpr (Or.inr ?_); k_mem))
local macro_rules | `(tactic| walk_at "subscriptTail Name Slice ref ref") => `(tactic| (k_here; (with_reducible show wpAny _ _ (subscriptTail _ (PySem.Expr.Slice none none (some _) _) (Value.ref _) (Value.ref _)) _ _ _); k_dflt (refine' krv_ints ?F ?N ?l ?k ?i ?_ ?s ?t ?z; (case F => k_asm); (case N => k_asm); (case l => is_list); (case k => exact IsPart.int _ _); (case i => assumption); (case s => with_unfolding_all rfl); (case t => kmk_pure); (case z => assumption)); intro D' ws' h' F' N' l1 hI' hC'))
local macro_rules | `(tactic| is_list) => `(tactic| exact News.isList (by k_asm) (by k_mem))
local macro_rules | `(tactic| walk_at "mine step") => `(tactic| first | (k_unfold; (try dsimp only)) | (k_end; kc_close) | walk1 | (dsimp only; walk1) | (leave1; walk_say "STEP leave1"; (try dsimp only)))
local macro_rules | `(tactic| walk_at "mine cls") => `(tactic| (k_dflt (refine' call_cls ?k1 ?k2 ?k3 ?k4 ?k5 ?k6 ?_; (case k1 => k_asm); (case k2 => k_asm); (case k3 => k_asm); (case k4 => k_is); (case k5 => k_is); (case k6 => k_is); k_whole); intro x' d' h' F' N' l1 l2; (try k_lt l1); (try k_lt2 l2); (try k_sweep)))
local macro_rules | `(tactic| k_room) => `(tactic| ktr_room)
local macro_rules | `(tactic| walk_at "call type:list nil nil") => `(tactic| (k_here; k_dflt (refine' Mine.list0_N ?zF ?zN ?_; (case zF => k_asm); (case zN => k_asm)); intro D' c' h' F' N' l1; (try k_lt l1)))
local macro_rules | `(tactic| walk_at "call type:dict nil nil") => `(tactic| (k_here; k_dflt (refine' Mine.dict0_N ?zF ?zN ?_; (case zF => k_asm); (case zN => k_asm)); intro D' h' F' N' l1; (try k_lt l1)))
local macro_rules | `(tactic| walk_at "call type:dict") => `(tactic| (k_here; k_dflt (refine' Mine.dictCopy_K ?zF ?zX ?zN ?zl ?zk ?zn ?za ?zs ?_; (case zF => k_asm); (case zX => k_asm); (case zN => k_asm); (case zl => k_is); (case zk => k_keys); (case zn => first | decide +kernel | (simp only [Mine.kvOf, List.map_cons, List.map_nil]; decide +kernel)); (case za => decide); (case zs => exact Nat.le_of_ble_eq_true rfl)); intro D' h' F' N'))
local macro_rules | `(tactic| walk_at "compareOp Is ref ref") => `(tactic| with_reducible refine wpAny_is_ref_self ?_)
local macro_rules | `(tactic| ktr_units) => `(tactic| (have hcL9 := cLine_is; (try simp only [Mine.units_under_make, units_in1, units_deeper, Around.mark_units, units_caller] at *); (try dsimp only [ktrTop] at *); omega))
local macro_rules | `(tactic| walk_at "mine ks") => `(tactic| k_dflt (refine' ks_code_super ?k1 ?k2 ?k3 ?k4 ?k5 ?kA ?kF ?kK ?k6 ?k7 ?k8 ?k9 ?kB ?_ ?c1 ?c2 ?c3 ?c4; (case kA => exact rfl); (case kF => exact rfl); (case kK => first | exact rfl | assumption); (case k1 => k_asm); (case k2 => k_asm); (case k3 => k_asm); (case k4 => k_asm); (case k5 => k_asm); (case k6 => k_is); (case k7 => k_is); (case k8 => k_room); (case k9 => first | exact BindsTo.of_eq rfl | exact binds_K (by k_in) rfl (by k_is) rfl rfl rfl); (case kB => exact locs rfl); (case c1 => decide); (case c2 => exact rfl); (case c3 => exact rfl); (case c4 => exact rfl); intro g' L' h' FG' F' N' B' X' T' l1; (try k_lt l1); (try dsimp only); (try k_lift B')))
local macro_rules | `(tactic| walk_at "wpAt func") => `(tactic| ((try dsimp only); first
  | (k_dflt (ks_step "execs cons"; refine ks_wpAt_execs_cons ?_))
  | (k_dflt (ks_step "exec Expr"; refine ks_wpAt_Expr_any ?_))
  | (k_dflt (ks_step "exec Return"; refine ks_wpAt_Return_some ?_))
  | (k_dflt (ks_step "exec Assign"; first | refine ks_wpAt_Assign_Name ?_ | refine ks_wpAt_Assign_Attr ?_))
  | (k_dflt (ks_step "exec If"; refine ks_wpAt_If ?_))
  | (k_dflt (ks_step "eval Call"; refine ks_wpAt_MethodCall ?_))))
local macro_rules | `(tactic| walk_at "call type:set cons nil") => `(tactic| (k_here; k_dflt (refine' Mine.setTuple_N ?zF ?zN ?zh ?zl ?zi ?zb ?_; (case zF => k_asm); (case zN => k_asm); (case zh => rfl); (case zl => exact ⟨_, by k_mem, rfl, _, rfl⟩); (case zi => walk_at "mine strs"); (case zb => exact Nat.le_of_ble_eq_true rfl)); intro D' h' tk' F' N'))
local macro_rules | `(tactic| walk_at "mine strs") => `(tactic| first | exact Mine.strs2 _ _ _ _ | exact Mine.strs0)
local macro_rules | `(tactic| walk_at "mine ksr") => `(tactic| k_dflt (refine' Mine.ks_rest ?k1 ?k2 ?k3 ?k4 ?k5 ?kA ?kF ?kK ?k6 ?k7 ?k8 ?kV ?kP ?kG ?kB ?_ ?c1 ?c2 ?c3 ?c4; (case kA => exact rfl); (case kF => exact rfl); (case kK => first | exact rfl | assumption); (case k1 => k_asm); (case k2 => k_asm); (case k3 => k_asm); (case k4 => k_asm); (case k5 => k_asm); (case k6 => k_is); (case k7 => k_is); (case k8 => k_room); (case kV => kl_lit); (case kP => exact rfl); (case kG => exact fun _ => rfl); (case kB => exact fun _ => locs rfl); (case c1 => decide); (case c2 => exact rfl); (case c3 => exact rfl); (case c4 => exact rfl); intro D' g' L' h' l1 FG' F' N' B' X' T'; (try k_lt l1); (try dsimp only); (try k_lift B')))
theorem pe_23 {w : World} (target : PySem.Str) (pos : Int) (t1 t2 t3 : Tok) (hlen : target.length ≤ 6) (hp : 0 ≤ pos ∧ pos ≤ target.length) :
   IntsTell PySem.Challenge.rw_en5030_01.row.prog w (Mine.hd.heap_39 w.params) 236 [.str (PySem.Str.ofString "[^/]{2,3}") t1, .str target t2, .int pos t3] 1 Any9
     (peFree (if pos + 3 < target.length then pos + 3 else target.length) 2 target pos) := by
  w_top off
  k_fill
  intro p loose mean mg mb dp un gd cn cs a ccd cl outer A₀ base h₀ L m news s Q E B F X N T hk hOk hd hu hret
  refine wpAny_call ?_
  walk_at "mine enterC"
  k_steps
  refine Mine.src_range (by rfl) (by k_asm) (by k_asm) (by assumption) (small_down (by (try split) <;> omega) (by (try split) <;> omega) (by (try split) <;> omega) (by (try split) <;> omega)) (rangeSize_downNat _ _) (by rw [PySem.sizeLine_eq]; (try split) <;> omega) ?_
  intro g1
  refine Mine.rest_filter (Mine.rng _ _ _) Mine.IntIs Mine.IntIs (fun n => noIn (PySem.Str.ofString "/") (sl target pos n)) (Mine.rng_length _ _ _) trivial Mine.rng_at ?_ ?_ ?_
  · intro d v I oI C oC D m₂ ys h tk E' hd hr hC hx F N
    obtain ⟨td, rfl⟩ := hr
    k_steps
    simp only [Bool.not_not]
  · intro d v I oI C oC D m₂ ys h tk E' hd hr hC hx F N
    obtain ⟨td, rfl⟩ := hr
    k_steps
    exact ⟨_, rfl⟩
  · intro ys hys D h tk FE NE oE
    k_steps
    exact hret D ys _ _ _ (intsAre_of hys) (by k_asm) (cb_drop (by k_asm) (by walk_at "mine sub1"))
end Mine
namespace Mine
local macro_rules | `(tactic| walk_at "mine enterC") => `(tactic| k_dflt (refine' code_defC ?k1 ?k2 ?k3 ?k4 ?k5 ?kA ?kF ?kK ?k6 ?k7 ?k8 ?k9 ?kB ?kD ?_ ?c2 ?c3 ?c4; (case kA => exact rfl); (case kF => exact rfl); (case kK => assumption); (case k1 => k_asm); (case k2 => k_asm); (case k3 => k_asm); (case k4 => k_asm); (case k5 => k_asm); (case k6 => k_is); (case k7 => k_is); (case k8 => ktr_room); (case k9 => first | exact BindsTo.of_eq rfl | exact binds_K (by k_in) rfl (by k_is) rfl rfl rfl | fail "enterC: no rule for these arguments"); (case kB => exact rfl); (case kD => decide +kernel); (case c2 => exact rfl); (case c3 => exact rfl); (case c4 => exact rfl); k_whole; intro g' L' h' tk' cells' FG' F' N' Y' B' X' T' l1; (try k_lt l1); k_cells Y'; (try simp only [List.cons_append, List.nil_append] at N'); (try dsimp only); (try k_lift B'); (try k_fold)))
local macro_rules | `(tactic| k_all) => `(tactic| exact Mine.ne_of_all (by assumption) (by omega))
local macro_rules | `(tactic| walk_at "eval ListComp") => `(tactic| (k_here; lct_look; k_dflt (refine Mine.listComp_G (by k_asm) (by with_unfolding_all rfl) (by decide) (by rfl) (by decide) (by rfl) ?_)))
local macro_rules | `(tactic| walk_at "TestEnd") => `(tactic| (first | refine Mine.TestEnd.of ?_ (by k_asm) (by k_asm) (fun _ hp => hp) | refine Mine.TestEnd.of ?_ (by k_asm) (by k_asm) (by walk_at "mine sub")))
local macro_rules | `(tactic| walk_at "EltEnd") => `(tactic| (first | refine Mine.EltEnd.of ?_ (by k_asm) (by k_asm) (fun _ hp => hp) | refine Mine.EltEnd.of ?_ (by k_asm) (by k_asm) (by walk_at "mine sub")))
local macro_rules | `(tactic| walk_at "mine sub") => `(tactic| (intro p9 hp9; (repeat (first | exact hp9 | exact List.mem_append_left _ hp9 | refine List.mem_cons_of_mem _ ?_))))
local macro_rules | `(tactic| walk_at "mine sub1") => `(tactic| (intro p9 hp9; rcases List.mem_cons.mp hp9 with h9 | h9; (rw [h9]; exact List.mem_cons_self); (repeat (first | exact h9 | exact List.mem_append_left _ h9 | refine List.mem_cons_of_mem _ ?_))))
local macro_rules | `(tactic| walk_at "mine off") => `(tactic| first | assumption | exact And.right (by assumption) | exact And.right (And.right (by assumption)) | exact And.right (And.right (And.right (by assumption))))
local macro_rules | `(tactic| walk_at "mine tup") => `(tactic| first | assumption | exact Mine.TupIn.mono (by assumption) (by walk_at "mine sub"))
local macro_rules | `(tactic| walk_at "call builtin:isinstance") => `(tactic| ((with_reducible show wpAny _ _ (call (Value.builtin "isinstance") [Value.ref _, Value.type "tuple"]) _ _ _); refine' call_isinstance_yes (Heap.IsTuple.typeIs (Mine.TupIn.at ?tin ?tn)) meta_tuple PySem.F.isi_sub_tuple ?_; (case tn => k_asm); (case tin => walk_at "mine tup")))
local macro_rules | `(tactic| walk_at "mine enter") => `(tactic| k_dflt (refine' code_def ?k1 ?k2 ?k3 ?k4 ?k5 ?kA ?kF ?kK ?k6 ?k7 ?k8 ?k9 ?kB ?_ ?c2 ?c3 ?c4 ?c5; (case kA => exact rfl); (case kF => exact rfl); (case kK => assumption); (case k1 => k_asm); (case k2 => k_asm); (case k3 => k_asm); (case k4 => k_asm); (case k5 => k_asm); (case k6 => k_is); (case k7 => k_is); (case k8 => ktr_room); (case k9 => first | exact BindsTo.of_eq rfl | exact binds_K (by k_in) rfl (by k_is) rfl rfl rfl | fail "enter: no rule for these arguments"); (case c5 => decide); (case kB => exact locs rfl); (case c2 => exact rfl); (case c3 => exact rfl); (case c4 => exact rfl); k_whole; intro g' L' h' FG' F' N' B' X' T'; (try dsimp only); (try k_lift B'); (try k_fold)))
local macro_rules | `(tactic| walk_at "mine ok") => `(tactic| first | assumption | exact Mine.okText_slice (by assumption) _ _)
local macro_rules | `(tactic| walk_at "mine okn") => `(tactic| first | trivial | assumption | walk_at "mine tup")
local macro_rules | `(tactic| walk_at "exec Assign cons ListComp") => `(tactic| (k_here; lct_look; k_dflt (refine Mine.assign_listComp_G (by k_asm) (by rfl) (by with_unfolding_all rfl) (by with_unfolding_all rfl) (by decide) (by rfl) (by decide) (by rfl) (by rfl) (by rfl) ?_)))
local macro_rules | `(tactic| walk_at "mine okn") => `(tactic| exact ⟨_, by k_mem⟩)
local macro_rules | `(tactic| k_mem) => `(tactic| first | assumption | exact List.mem_cons_self | (refine List.mem_cons_of_mem _ ?_; k_mem) | (refine List.mem_append.mpr (Or.inl ?_); k_mem) | (refine List.mem_append.mpr (Or.inr ?_); k_mem))
local macro_rules | `(tactic| walk_at "subscriptTail Name Slice ref ref") => `(tactic| (k_here; (with_reducible show wpAny _ _ (subscriptTail _ (PySem.Expr.Slice none none (some _) _) (Value.ref _) (Value.ref _)) _ _ _); k_dflt (refine' krv_ints ?F ?N ?l ?k ?i ?_ ?s ?t ?z; (case F => k_asm); (case N => k_asm); (case l => is_list); (case k => exact IsPart.int _ _); (case i => assumption); (case s => with_unfolding_all rfl); (case t => kmk_pure); (case z => assumption)); intro D' ws' h' F' N' l1 hI' hC'))
local macro_rules | `(tactic| is_list) => `(tactic| exact News.isList (by k_asm) (by k_mem))
local macro_rules | `(tactic| walk_at "mine step") => `(tactic| first | (k_unfold; (try dsimp only)) | (k_end; kc_close) | walk1 | (dsimp only; walk1) | (leave1; walk_say "STEP leave1"; (try dsimp only)))
local macro_rules | `(tactic| walk_at "mine cls") => `(tactic| (k_dflt (refine' call_cls ?k1 ?k2 ?k3 ?k4 ?k5 ?k6 ?_; (case k1 => k_asm); (case k2 => k_asm); (case k3 => k_asm); (case k4 => k_is); (case k5 => k_is); (case k6 => k_is); k_whole); intro x' d' h' F' N' l1 l2; (try k_lt l1); (try k_lt2 l2); (try k_sweep)))
local macro_rules | `(tactic| k_room) => `(tactic| ktr_room)
local macro_rules | `(tactic| walk_at "call type:list nil nil") => `(tactic| (k_here; k_dflt (refine' Mine.list0_N ?zF ?zN ?_; (case zF => k_asm); (case zN => k_asm)); intro D' c' h' F' N' l1; (try k_lt l1)))
local macro_rules | `(tactic| walk_at "call type:dict nil nil") => `(tactic| (k_here; k_dflt (refine' Mine.dict0_N ?zF ?zN ?_; (case zF => k_asm); (case zN => k_asm)); intro D' h' F' N' l1; (try k_lt l1)))
local macro_rules | `(tactic| walk_at "call type:dict") => `(tactic| (k_here; k_dflt (refine' Mine.dictCopy_K ?zF ?zX ?zN ?zl ?zk ?zn ?za ?zs ?_; (case zF => k_asm); (case zX => k_asm); (case zN => k_asm); (case zl => k_is); (case zk => k_keys); (case zn => first | decide +kernel | (simp only [Mine.kvOf, List.map_cons, List.map_nil]; decide +kernel)); (case za => decide); (case zs => exact Nat.le_of_ble_eq_true rfl)); intro D' h' F' N'))
local macro_rules | `(tactic| walk_at "compareOp Is ref ref") => `(tactic| with_reducible refine wpAny_is_ref_self ?_)
local macro_rules | `(tactic| ktr_units) => `(tactic| (have hcL9 := cLine_is; (try simp only [Mine.units_under_make, units_in1, units_deeper, Around.mark_units, units_caller] at *); (try dsimp only [ktrTop] at *); omega))
local macro_rules | `(tactic| walk_at "mine ks") => `(tactic| k_dflt (refine' ks_code_super ?k1 ?k2 ?k3 ?k4 ?k5 ?kA ?kF ?kK ?k6 ?k7 ?k8 ?k9 ?kB ?_ ?c1 ?c2 ?c3 ?c4; (case kA => exact rfl); (case kF => exact rfl); (case kK => first | exact rfl | assumption); (case k1 => k_asm); (case k2 => k_asm); (case k3 => k_asm); (case k4 => k_asm); (case k5 => k_asm); (case k6 => k_is); (case k7 => k_is); (case k8 => k_room); (case k9 => first | exact BindsTo.of_eq rfl | exact binds_K (by k_in) rfl (by k_is) rfl rfl rfl); (case kB => exact locs rfl); (case c1 => decide); (case c2 => exact rfl); (case c3 => exact rfl); (case c4 => exact rfl); intro g' L' h' FG' F' N' B' X' T' l1; (try k_lt l1); (try dsimp only); (try k_lift B')))
local macro_rules | `(tactic| walk_at "wpAt func") => `(tactic| ((try dsimp only); first
  | (k_dflt (ks_step "execs cons"; refine ks_wpAt_execs_cons ?_))
  | (k_dflt (ks_step "exec Expr"; refine ks_wpAt_Expr_any ?_))
  | (k_dflt (ks_step "exec Return"; refine ks_wpAt_Return_some ?_))
  | (k_dflt (ks_step "exec Assign"; first | refine ks_wpAt_Assign_Name ?_ | refine ks_wpAt_Assign_Attr ?_))
  | (k_dflt (ks_step "exec If"; refine ks_wpAt_If ?_))
  | (k_dflt (ks_step "eval Call"; refine ks_wpAt_MethodCall ?_))))
local macro_rules | `(tactic| walk_at "call type:set cons nil") => `(tactic| (k_here; k_dflt (refine' Mine.setTuple_N ?zF ?zN ?zh ?zl ?zi ?zb ?_; (case zF => k_asm); (case zN => k_asm); (case zh => rfl); (case zl => exact ⟨_, by k_mem, rfl, _, rfl⟩); (case zi => walk_at "mine strs"); (case zb => exact Nat.le_of_ble_eq_true rfl)); intro D' h' tk' F' N'))
local macro_rules | `(tactic| walk_at "mine strs") => `(tactic| first | exact Mine.strs2 _ _ _ _ | exact Mine.strs0)
local macro_rules | `(tactic| walk_at "mine ksr") => `(tactic| k_dflt (refine' Mine.ks_rest ?k1 ?k2 ?k3 ?k4 ?k5 ?kA ?kF ?kK ?k6 ?k7 ?k8 ?kV ?kP ?kG ?kB ?_ ?c1 ?c2 ?c3 ?c4; (case kA => exact rfl); (case kF => exact rfl); (case kK => first | exact rfl | assumption); (case k1 => k_asm); (case k2 => k_asm); (case k3 => k_asm); (case k4 => k_asm); (case k5 => k_asm); (case k6 => k_is); (case k7 => k_is); (case k8 => k_room); (case kV => kl_lit); (case kP => exact rfl); (case kG => exact fun _ => rfl); (case kB => exact fun _ => locs rfl); (case c1 => decide); (case c2 => exact rfl); (case c3 => exact rfl); (case c4 => exact rfl); intro D' g' L' h' l1 FG' F' N' B' X' T'; (try k_lt l1); (try dsimp only); (try k_lift B')))
theorem pe_12 {w : World} (target : PySem.Str) (pos : Int) (t1 t2 t3 : Tok) (hlen : target.length ≤ 6) (hp : 0 ≤ pos ∧ pos ≤ target.length) :
   IntsTell PySem.Challenge.rw_en5030_01.row.prog w (Mine.hd.heap_39 w.params) 236 [.str (PySem.Str.ofString "[^/]{1,2}") t1, .str target t2, .int pos t3] 1 Any9
     (peFree (if pos + 2 < target.length then pos + 2 else target.length) 1 target pos) := by
  w_top off
  k_fill
  intro p loose mean mg mb dp un gd cn cs a ccd cl outer A₀ base h₀ L m news s Q E B F X N T hk hOk hd hu hret
  refine wpAny_call ?_
  walk_at "mine enterC"
  k_steps
  refine Mine.src_range (by rfl) (by k_asm) (by k_asm) (by assumption) (small_down (by (try split) <;> omega) (by (try split) <;> omega) (by (try split) <;> omega) (by (try split) <;> omega)) (rangeSize_downNat _ _) (by rw [PySem.sizeLine_eq]; (try split) <;> omega) ?_
  intro g1
  refine Mine.rest_filter (Mine.rng _ _ _) Mine.IntIs Mine.IntIs (fun n => noIn (PySem.Str.ofString "/") (sl target pos n)) (Mine.rng_length _ _ _) trivial Mine.rng_at ?_ ?_ ?_
  · intro d v I oI C oC D m₂ ys h tk E' hd hr hC hx F N
    obtain ⟨td, rfl⟩ := hr
    k_steps
    simp only [Bool.not_not]
  · intro d v I oI C oC D m₂ ys h tk E' hd hr hC hx F N
    obtain ⟨td, rfl⟩ := hr
    k_steps
    exact ⟨_, rfl⟩
  · intro ys hys D h tk FE NE oE
    k_steps
    exact hret D ys _ _ _ (intsAre_of hys) (by k_asm) (cb_drop (by k_asm) (by walk_at "mine sub1"))
end Mine
namespace Mine
local macro_rules | `(tactic| walk_at "mine enterC") => `(tactic| k_dflt (refine' code_defC ?k1 ?k2 ?k3 ?k4 ?k5 ?kA ?kF ?kK ?k6 ?k7 ?k8 ?k9 ?kB ?kD ?_ ?c2 ?c3 ?c4; (case kA => exact rfl); (case kF => exact rfl); (case kK => assumption); (case k1 => k_asm); (case k2 => k_asm); (case k3 => k_asm); (case k4 => k_asm); (case k5 => k_asm); (case k6 => k_is); (case k7 => k_is); (case k8 => ktr_room); (case k9 => first | exact BindsTo.of_eq rfl | exact binds_K (by k_in) rfl (by k_is) rfl rfl rfl | fail "enterC: no rule for these arguments"); (case kB => exact rfl); (case kD => decide +kernel); (case c2 => exact rfl); (case c3 => exact rfl); (case c4 => exact rfl); k_whole; intro g' L' h' tk' cells' FG' F' N' Y' B' X' T' l1; (try k_lt l1); k_cells Y'; (try simp only [List.cons_append, List.nil_append] at N'); (try dsimp only); (try k_lift B'); (try k_fold)))
local macro_rules | `(tactic| k_all) => `(tactic| exact Mine.ne_of_all (by assumption) (by omega))
local macro_rules | `(tactic| walk_at "eval ListComp") => `(tactic| (k_here; lct_look; k_dflt (refine Mine.listComp_G (by k_asm) (by with_unfolding_all rfl) (by decide) (by rfl) (by decide) (by rfl) ?_)))
local macro_rules | `(tactic| walk_at "TestEnd") => `(tactic| (first | refine Mine.TestEnd.of ?_ (by k_asm) (by k_asm) (fun _ hp => hp) | refine Mine.TestEnd.of ?_ (by k_asm) (by k_asm) (by walk_at "mine sub")))
local macro_rules | `(tactic| walk_at "EltEnd") => `(tactic| (first | refine Mine.EltEnd.of ?_ (by k_asm) (by k_asm) (fun _ hp => hp) | refine Mine.EltEnd.of ?_ (by k_asm) (by k_asm) (by walk_at "mine sub")))
local macro_rules | `(tactic| walk_at "mine sub") => `(tactic| (intro p9 hp9; (repeat (first | exact hp9 | exact List.mem_append_left _ hp9 | refine List.mem_cons_of_mem _ ?_))))
local macro_rules | `(tactic| walk_at "mine sub1") => `(tactic| (intro p9 hp9; rcases List.mem_cons.mp hp9 with h9 | h9; (rw [h9]; exact List.mem_cons_self); (repeat (first | exact h9 | exact List.mem_append_left _ h9 | refine List.mem_cons_of_mem _ ?_))))
local macro_rules | `(tactic| walk_at "mine off") => `(tactic| first | assumption | exact And.right (by assumption) | exact And.right (And.right (by assumption)) | exact And.right (And.right (And.right (by assumption))))
local macro_rules | `(tactic| walk_at "mine tup") => `(tactic| first | assumption | exact Mine.TupIn.mono (by assumption) (by walk_at "mine sub"))
local macro_rules | `(tactic| walk_at "call builtin:isinstance") => `(tactic| ((with_reducible show wpAny _ _ (call (Value.builtin "isinstance") [Value.ref _, Value.type "tuple"]) _ _ _); refine' call_isinstance_yes (Heap.IsTuple.typeIs (Mine.TupIn.at ?tin ?tn)) meta_tuple PySem.F.isi_sub_tuple ?_; (case tn => k_asm); (case tin => walk_at "mine tup")))
local macro_rules | `(tactic| walk_at "mine enter") => `(tactic| k_dflt (refine' code_def ?k1 ?k2 ?k3 ?k4 ?k5 ?kA ?kF ?kK ?k6 ?k7 ?k8 ?k9 ?kB ?_ ?c2 ?c3 ?c4 ?c5; (case kA => exact rfl); (case kF => exact rfl); (case kK => assumption); (case k1 => k_asm); (case k2 => k_asm); (case k3 => k_asm); (case k4 => k_asm); (case k5 => k_asm); (case k6 => k_is); (case k7 => k_is); (case k8 => ktr_room); (case k9 => first | exact BindsTo.of_eq rfl | exact binds_K (by k_in) rfl (by k_is) rfl rfl rfl | fail "enter: no rule for these arguments"); (case c5 => decide); (case kB => exact locs rfl); (case c2 => exact rfl); (case c3 => exact rfl); (case c4 => exact rfl); k_whole; intro g' L' h' FG' F' N' B' X' T'; (try dsimp only); (try k_lift B'); (try k_fold)))
local macro_rules | `(tactic| walk_at "mine ok") => `(tactic| first | assumption | exact Mine.okText_slice (by assumption) _ _)
local macro_rules | `(tactic| walk_at "mine okn") => `(tactic| first | trivial | assumption | walk_at "mine tup")
local macro_rules | `(tactic| walk_at "exec Assign cons ListComp") => `(tactic| (k_here; lct_look; k_dflt (refine Mine.assign_listComp_G (by k_asm) (by rfl) (by with_unfolding_all rfl) (by with_unfolding_all rfl) (by decide) (by rfl) (by decide) (by rfl) (by rfl) (by rfl) ?_)))
local macro_rules | `(tactic| walk_at "mine okn") => `(tactic| exact ⟨_, by k_mem⟩)
local macro_rules | `(tactic| k_mem) => `(tactic| first | assumption | exact List.mem_cons_self | (refine List.mem_cons_of_mem _ ?_; k_mem) | (refine List.mem_append.mpr (Or.inl ?_); k_mem) | (refine List.mem_append.mpr (Or.inr ?_); k_mem))
local macro_rules | `(tactic| walk_at "subscriptTail Name Slice ref ref") => `(tactic| (k_here; (with_reducible show wpAny _ _ (subscriptTail _ (PySem.Expr.Slice none none (some _) _) (Value.ref _) (Value.ref _)) _ _ _); k_dflt (refine' krv_ints ?F ?N ?l ?k ?i ?_ ?s ?t ?z; (case F => k_asm); (case N => k_asm); (case l => is_list); (case k => exact IsPart.int _ _); (case i => assumption); (case s => with_unfolding_all rfl); (case t => kmk_pure); (case z => assumption)); intro D' ws' h' F' N' l1 hI' hC'))
local macro_rules | `(tactic| is_list) => `(tactic| exact News.isList (by k_asm) (by k_mem))
local macro_rules | `(tactic| walk_at "mine step") => `(tactic| first | (k_unfold; (try dsimp only)) | (k_end; kc_close) | walk1 | (dsimp only; walk1) | (leave1; walk_say "STEP leave1"; (try dsimp only)))
local macro_rules | `(tactic| walk_at "mine cls") => `(tactic| (k_dflt (refine' call_cls ?k1 ?k2 ?k3 ?k4 ?k5 ?k6 ?_; (case k1 => k_asm); (case k2 => k_asm); (case k3 => k_asm); (case k4 => k_is); (case k5 => k_is); (case k6 => k_is); k_whole); intro x' d' h' F' N' l1 l2; (try k_lt l1); (try k_lt2 l2); (try k_sweep)))
local macro_rules | `(tactic| k_room) => `(tactic| ktr_room)
local macro_rules | `(tactic| walk_at "call type:list nil nil") => `(tactic| (k_here; k_dflt (refine' Mine.list0_N ?zF ?zN ?_; (case zF => k_asm); (case zN => k_asm)); intro D' c' h' F' N' l1; (try k_lt l1)))
local macro_rules | `(tactic| walk_at "call type:dict nil nil") => `(tactic| (k_here; k_dflt (refine' Mine.dict0_N ?zF ?zN ?_; (case zF => k_asm); (case zN => k_asm)); intro D' h' F' N' l1; (try k_lt l1)))
local macro_rules | `(tactic| walk_at "call type:dict") => `(tactic| (k_here; k_dflt (refine' Mine.dictCopy_K ?zF ?zX ?zN ?zl ?zk ?zn ?za ?zs ?_; (case zF => k_asm); (case zX => k_asm); (case zN => k_asm); (case zl => k_is); (case zk => k_keys); (case zn => first | decide +kernel | (simp only [Mine.kvOf, List.map_cons, List.map_nil]; decide +kernel)); (case za => decide); (case zs => exact Nat.le_of_ble_eq_true rfl)); intro D' h' F' N'))
local macro_rules | `(tactic| walk_at "compareOp Is ref ref") => `(tactic| with_reducible refine wpAny_is_ref_self ?_)
local macro_rules | `(tactic| ktr_units) => `(tactic| (have hcL9 := cLine_is; (try simp only [Mine.units_under_make, units_in1, units_deeper, Around.mark_units, units_caller] at *); (try dsimp only [ktrTop] at *); omega))
local macro_rules | `(tactic| walk_at "mine ks") => `(tactic| k_dflt (refine' ks_code_super ?k1 ?k2 ?k3 ?k4 ?k5 ?kA ?kF ?kK ?k6 ?k7 ?k8 ?k9 ?kB ?_ ?c1 ?c2 ?c3 ?c4; (case kA => exact rfl); (case kF => exact rfl); (case kK => first | exact rfl | assumption); (case k1 => k_asm); (case k2 => k_asm); (case k3 => k_asm); (case k4 => k_asm); (case k5 => k_asm); (case k6 => k_is); (case k7 => k_is); (case k8 => k_room); (case k9 => first | exact BindsTo.of_eq rfl | exact binds_K (by k_in) rfl (by k_is) rfl rfl rfl); (case kB => exact locs rfl); (case c1 => decide); (case c2 => exact rfl); (case c3 => exact rfl); (case c4 => exact rfl); intro g' L' h' FG' F' N' B' X' T' l1; (try k_lt l1); (try dsimp only); (try k_lift B')))
local macro_rules | `(tactic| walk_at "wpAt func") => `(tactic| ((try dsimp only); first
  | (k_dflt (ks_step "execs cons"; refine ks_wpAt_execs_cons ?_))
  | (k_dflt (ks_step "exec Expr"; refine ks_wpAt_Expr_any ?_))
  | (k_dflt (ks_step "exec Return"; refine ks_wpAt_Return_some ?_))
  | (k_dflt (ks_step "exec Assign"; first | refine ks_wpAt_Assign_Name ?_ | refine ks_wpAt_Assign_Attr ?_))
  | (k_dflt (ks_step "exec If"; refine ks_wpAt_If ?_))
  | (k_dflt (ks_step "eval Call"; refine ks_wpAt_MethodCall ?_))))
local macro_rules | `(tactic| walk_at "call type:set cons nil") => `(tactic| (k_here; k_dflt (refine' Mine.setTuple_N ?zF ?zN ?zh ?zl ?zi ?zb ?_; (case zF => k_asm); (case zN => k_asm); (case zh => rfl); (case zl => exact ⟨_, by k_mem, rfl, _, rfl⟩); (case zi => walk_at "mine strs"); (case zb => exact Nat.le_of_ble_eq_true rfl)); intro D' h' tk' F' N'))
local macro_rules | `(tactic| walk_at "mine strs") => `(tactic| first | exact Mine.strs2 _ _ _ _ | exact Mine.strs0)
local macro_rules | `(tactic| walk_at "mine ksr") => `(tactic| k_dflt (refine' Mine.ks_rest ?k1 ?k2 ?k3 ?k4 ?k5 ?kA ?kF ?kK ?k6 ?k7 ?k8 ?kV ?kP ?kG ?kB ?_ ?c1 ?c2 ?c3 ?c4; (case kA => exact rfl); (case kF => exact rfl); (case kK => first | exact rfl | assumption); (case k1 => k_asm); (case k2 => k_asm); (case k3 => k_asm); (case k4 => k_asm); (case k5 => k_asm); (case k6 => k_is); (case k7 => k_is); (case k8 => k_room); (case kV => kl_lit); (case kP => exact rfl); (case kG => exact fun _ => rfl); (case kB => exact fun _ => locs rfl); (case c1 => decide); (case c2 => exact rfl); (case c3 => exact rfl); (case c4 => exact rfl); intro D' g' L' h' l1 FG' F' N' B' X' T'; (try k_lt l1); (try dsimp only); (try k_lift B')))
theorem pe_3_ {w : World} (target : PySem.Str) (pos : Int) (t1 t2 t3 : Tok) (hlen : target.length ≤ 6) (hp : 0 ≤ pos ∧ pos ≤ target.length) :
   IntsTell PySem.Challenge.rw_en5030_01.row.prog w (Mine.hd.heap_39 w.params) 236 [.str (PySem.Str.ofString "[^/]{3,}") t1, .str target t2, .int pos t3] 1 Any9
     (peFree (if pos + target.length < target.length then pos + target.length else target.length) 3 target pos) := by
  w_top off
  k_fill
  intro p loose mean mg mb dp un gd cn cs a ccd cl outer A₀ base h₀ L m news s Q E B F X N T hk hOk hd hu hret
  refine wpAny_call ?_
  walk_at "mine enterC"
  k_steps
  refine Mine.src_range (by rfl) (by k_asm) (by k_asm) (by assumption) (small_down (by (try split) <;> omega) (by (try split) <;> omega) (by (try split) <;> omega) (by (try split) <;> omega)) (rangeSize_downNat _ _) (by rw [PySem.sizeLine_eq]; (try split) <;> omega) ?_
  intro g1
  refine Mine.rest_filter (Mine.rng _ _ _) Mine.IntIs Mine.IntIs (fun n => noIn (PySem.Str.ofString "/") (sl target pos n)) (Mine.rng_length _ _ _) trivial Mine.rng_at ?_ ?_ ?_
  · intro d v I oI C oC D m₂ ys h tk E' hd hr hC hx F N
    obtain ⟨td, rfl⟩ := hr
    k_steps
    simp only [Bool.not_not]
  · intro d v I oI C oC D m₂ ys h tk E' hd hr hC hx F N
    obtain ⟨td, rfl⟩ := hr
    k_steps
    exact ⟨_, rfl⟩
  · intro ys hys D h tk FE NE oE
    k_steps
    exact hret D ys _ _ _ (intsAre_of hys) (by k_asm) (cb_drop (by k_asm) (by walk_at "mine sub1"))
end Mine
namespace Mine
local macro_rules | `(tactic| walk_at "mine enterC") => `(tactic| k_dflt (refine' code_defC ?k1 ?k2 ?k3 ?k4 ?k5 ?kA ?kF ?kK ?k6 ?k7 ?k8 ?k9 ?kB ?kD ?_ ?c2 ?c3 ?c4; (case kA => exact rfl); (case kF => exact rfl); (case kK => assumption); (case k1 => k_asm); (case k2 => k_asm); (case k3 => k_asm); (case k4 => k_asm); (case k5 => k_asm); (case k6 => k_is); (case k7 => k_is); (case k8 => ktr_room); (case k9 => first | exact BindsTo.of_eq rfl | exact binds_K (by k_in) rfl (by k_is) rfl rfl rfl | fail "enterC: no rule for these arguments"); (case kB => exact rfl); (case kD => decide +kernel); (case c2 => exact rfl); (case c3 => exact rfl); (case c4 => exact rfl); k_whole; intro g' L' h' tk' cells' FG' F' N' Y' B' X' T' l1; (try k_lt l1); k_cells Y'; (try simp only [List.cons_append, List.nil_append] at N'); (try dsimp only); (try k_lift B'); (try k_fold)))
local macro_rules | `(tactic| k_all) => `(tactic| exact Mine.ne_of_all (by assumption) (by omega))
local macro_rules | `(tactic| walk_at "eval ListComp") => `(tactic| (k_here; lct_look; k_dflt (refine Mine.listComp_G (by k_asm) (by with_unfolding_all rfl) (by decide) (by rfl) (by decide) (by rfl) ?_)))
local macro_rules | `(tactic| walk_at "TestEnd") => `(tactic| (first | refine Mine.TestEnd.of ?_ (by k_asm) (by k_asm) (fun _ hp => hp) | refine Mine.TestEnd.of ?_ (by k_asm) (by k_asm) (by walk_at "mine sub")))
local macro_rules | `(tactic| walk_at "EltEnd") => `(tactic| (first | refine Mine.EltEnd.of ?_ (by k_asm) (by k_asm) (fun _ hp => hp) | refine Mine.EltEnd.of ?_ (by k_asm) (by k_asm) (by walk_at "mine sub")))
local macro_rules | `(tactic| walk_at "mine sub") => `(tactic| (intro p9 hp9; (repeat (first | exact hp9 | exact List.mem_append_left _ hp9 | refine List.mem_cons_of_mem _ ?_))))
local macro_rules | `(tactic| walk_at "mine sub1") => `(tactic| (intro p9 hp9; rcases List.mem_cons.mp hp9 with h9 | h9; (rw [h9]; exact List.mem_cons_self); (repeat (first | exact h9 | exact List.mem_append_left _ h9 | refine List.mem_cons_of_mem _ ?_))))
local macro_rules | `(tactic| walk_at "mine off") => `(tactic| first | assumption | exact And.right (by assumption) | exact And.right (And.right (by assumption)) | exact And.right (And.right (And.right (by assumption))))
local macro_rules | `(tactic| walk_at "mine tup") => `(tactic| first | assumption | exact Mine.TupIn.mono (by assumption) (by walk_at "mine sub"))
local macro_rules | `(tactic| walk_at "call builtin:isinstance") => `(tactic| ((with_reducible show wpAny _ _ (call (Value.builtin "isinstance") [Value.ref _, Value.type "tuple"]) _ _ _); refine' call_isinstance_yes (Heap.IsTuple.typeIs (Mine.TupIn.at ?tin ?tn)) meta_tuple PySem.F.isi_sub_tuple ?_; (case tn => k_asm); (case tin => walk_at "mine tup")))
local macro_rules | `(tactic| walk_at "mine enter") => `(tactic| k_dflt (refine' code_def ?k1 ?k2 ?k3 ?k4 ?k5 ?kA ?kF ?kK ?k6 ?k7 ?k8 ?k9 ?kB ?_ ?c2 ?c3 ?c4 ?c5; (case kA => exact rfl); (case kF => exact rfl); (case kK => assumption); (case k1 => k_asm); (case k2 => k_asm); (case k3 => k_asm); (case k4 => k_asm); (case k5 => k_asm); (case k6 => k_is); (case k7 => k_is); (case k8 => ktr_room); (case k9 => first | exact BindsTo.of_eq rfl | exact binds_K (by k_in) rfl (by k_is) rfl rfl rfl | fail "enter: no rule for these arguments"); (case c5 => decide); (case kB => exact locs rfl); (case c2 => exact rfl); (case c3 => exact rfl); (case c4 => exact rfl); k_whole; intro g' L' h' FG' F' N' B' X' T'; (try dsimp only); (try k_lift B'); (try k_fold)))
local macro_rules | `(tactic| walk_at "mine ok") => `(tactic| first | assumption | exact Mine.okText_slice (by assumption) _ _)
local macro_rules | `(tactic| walk_at "mine okn") => `(tactic| first | trivial | assumption | walk_at "mine tup")
local macro_rules | `(tactic| walk_at "exec Assign cons ListComp") => `(tactic| (k_here; lct_look; k_dflt (refine Mine.assign_listComp_G (by k_asm) (by rfl) (by with_unfolding_all rfl) (by with_unfolding_all rfl) (by decide) (by rfl) (by decide) (by rfl) (by rfl) (by rfl) ?_)))
local macro_rules | `(tactic| walk_at "mine okn") => `(tactic| exact ⟨_, by k_mem⟩)
local macro_rules | `(tactic| k_mem) => `(tactic| first | assumption | exact List.mem_cons_self | (refine List.mem_cons_of_mem _ ?_; k_mem) | (refine List.mem_append.mpr (Or.inl ?_); k_mem) | (refine List.mem_append.mpr (Or.inr ?_); k_mem))
local macro_rules | `(tactic| walk_at "subscriptTail Name Slice ref ref") => `(tactic| (k_here; (with_reducible show wpAny _ _ (subscriptTail _ (PySem.Expr.Slice none none (some _) _) (Value.ref _) (Value.ref _)) _ _ _); k_dflt (refine' krv_ints ?F ?N ?l ?k ?i ?_ ?s ?t ?z; (case F => k_asm); (case N => k_asm); (case l => is_list); (case k => exact IsPart.int _ _); (case i => assumption); (case s => with_unfolding_all rfl); (case t => kmk_pure); (case z => assumption)); intro D' ws' h' F' N' l1 hI' hC'))
local macro_rules | `(tactic| is_list) => `(tactic| exact News.isList (by k_asm) (by k_mem))
local macro_rules | `(tactic| walk_at "mine step") => `(tactic| first | (k_unfold; (try dsimp only)) | (k_end; kc_close) | walk1 | (dsimp only; walk1) | (leave1; walk_say "STEP leave1"; (try dsimp only)))
local macro_rules | `(tactic| walk_at "mine cls") => `(tactic| (k_dflt (refine' call_cls ?k1 ?k2 ?k3 ?k4 ?k5 ?k6 ?_; (case k1 => k_asm); (case k2 => k_asm); (case k3 => k_asm); (case k4 => k_is); (case k5 => k_is); (case k6 => k_is); k_whole); intro x' d' h' F' N' l1 l2; (try k_lt l1); (try k_lt2 l2); (try k_sweep)))
local macro_rules | `(tactic| k_room) => `(tactic| ktr_room)
local macro_rules | `(tactic| walk_at "call type:list nil nil") => `(tactic| (k_here; k_dflt (refine' Mine.list0_N ?zF ?zN ?_; (case zF => k_asm); (case zN => k_asm)); intro D' c' h' F' N' l1; (try k_lt l1)))
local macro_rules | `(tactic| walk_at "call type:dict nil nil") => `(tactic| (k_here; k_dflt (refine' Mine.dict0_N ?zF ?zN ?_; (case zF => k_asm); (case zN => k_asm)); intro D' h' F' N' l1; (try k_lt l1)))
local macro_rules | `(tactic| walk_at "call type:dict") => `(tactic| (k_here; k_dflt (refine' Mine.dictCopy_K ?zF ?zX ?zN ?zl ?zk ?zn ?za ?zs ?_; (case zF => k_asm); (case zX => k_asm); (case zN => k_asm); (case zl => k_is); (case zk => k_keys); (case zn => first | decide +kernel | (simp only [Mine.kvOf, List.map_cons, List.map_nil]; decide +kernel)); (case za => decide); (case zs => exact Nat.le_of_ble_eq_true rfl)); intro D' h' F' N'))
local macro_rules | `(tactic| walk_at "compareOp Is ref ref") => `(tactic| with_reducible refine wpAny_is_ref_self ?_)
local macro_rules | `(tactic| ktr_units) => `(tactic| (have hcL9 := cLine_is; (try simp only [Mine.units_under_make, units_in1, units_deeper, Around.mark_units, units_caller] at *); (try dsimp only [ktrTop] at *); omega))
local macro_rules | `(tactic| walk_at "mine ks") => `(tactic| k_dflt (refine' ks_code_super ?k1 ?k2 ?k3 ?k4 ?k5 ?kA ?kF ?kK ?k6 ?k7 ?k8 ?k9 ?kB ?_ ?c1 ?c2 ?c3 ?c4; (case kA => exact rfl); (case kF => exact rfl); (case kK => first | exact rfl | assumption); (case k1 => k_asm); (case k2 => k_asm); (case k3 => k_asm); (case k4 => k_asm); (case k5 => k_asm); (case k6 => k_is); (case k7 => k_is); (case k8 => k_room); (case k9 => first | exact BindsTo.of_eq rfl | exact binds_K (by k_in) rfl (by k_is) rfl rfl rfl); (case kB => exact locs rfl); (case c1 => decide); (case c2 => exact rfl); (case c3 => exact rfl); (case c4 => exact rfl); intro g' L' h' FG' F' N' B' X' T' l1; (try k_lt l1); (try dsimp only); (try k_lift B')))
local macro_rules | `(tactic| walk_at "wpAt func") => `(tactic| ((try dsimp only); first
  | (k_dflt (ks_step "execs cons"; refine ks_wpAt_execs_cons ?_))
  | (k_dflt (ks_step "exec Expr"; refine ks_wpAt_Expr_any ?_))
  | (k_dflt (ks_step "exec Return"; refine ks_wpAt_Return_some ?_))
  | (k_dflt (ks_step "exec Assign"; first | refine ks_wpAt_Assign_Name ?_ | refine ks_wpAt_Assign_Attr ?_))
  | (k_dflt (ks_step "exec If"; refine ks_wpAt_If ?_))
  | (k_dflt (ks_step "eval Call"; refine ks_wpAt_MethodCall ?_))))
local macro_rules | `(tactic| walk_at "call type:set cons nil") => `(tactic| (k_here; k_dflt (refine' Mine.setTuple_N ?zF ?zN ?zh ?zl ?zi ?zb ?_; (case zF => k_asm); (case zN => k_asm); (case zh => rfl); (case zl => exact ⟨_, by k_mem, rfl, _, rfl⟩); (case zi => walk_at "mine strs"); (case zb => exact Nat.le_of_ble_eq_true rfl)); intro D' h' tk' F' N'))
local macro_rules | `(tactic| walk_at "mine strs") => `(tactic| first | exact Mine.strs2 _ _ _ _ | exact Mine.strs0)
local macro_rules | `(tactic| walk_at "mine ksr") => `(tactic| k_dflt (refine' Mine.ks_rest ?k1 ?k2 ?k3 ?k4 ?k5 ?kA ?kF ?kK ?k6 ?k7 ?k8 ?kV ?kP ?kG ?kB ?_ ?c1 ?c2 ?c3 ?c4; (case kA => exact rfl); (case kF => exact rfl); (case kK => first | exact rfl | assumption); (case k1 => k_asm); (case k2 => k_asm); (case k3 => k_asm); (case k4 => k_asm); (case k5 => k_asm); (case k6 => k_is); (case k7 => k_is); (case k8 => k_room); (case kV => kl_lit); (case kP => exact rfl); (case kG => exact fun _ => rfl); (case kB => exact fun _ => locs rfl); (case c1 => decide); (case c2 => exact rfl); (case c3 => exact rfl); (case c4 => exact rfl); intro D' g' L' h' l1 FG' F' N' B' X' T'; (try k_lt l1); (try dsimp only); (try k_lift B')))
theorem pe_base {w : World} (target : PySem.Str) (pos : Int) (t1 t2 t3 : Tok) (hlen : target.length ≤ 6) (hp : 0 ≤ pos ∧ pos ≤ target.length) :
   IntsTell PySem.Challenge.rw_en5030_01.row.prog w (Mine.hd.heap_39 w.params) 236 [.str (PySem.Str.ofString "[^/]+") t1, .str target t2, .int pos t3] 1 Any9
     (peFree (if pos + target.length < target.length then pos + target.length else target.length) 1 target pos) := by
  w_top off
  k_fill
  intro p loose mean mg mb dp un gd cn cs a ccd cl outer A₀ base h₀ L m news s Q E B F X N T hk hOk hd hu hret
  refine wpAny_call ?_
  walk_at "mine enterC"
  k_steps
  refine Mine.src_range (by rfl) (by k_asm) (by k_asm) (by assumption) (small_down (by (try split) <;> omega) (by (try split) <;> omega) (by (try split) <;> omega) (by (try split) <;> omega)) (rangeSize_downNat _ _) (by rw [PySem.sizeLine_eq]; (try split) <;> omega) ?_
  intro g1
  refine Mine.rest_filter (Mine.rng _ _ _) Mine.IntIs Mine.IntIs (fun n => noIn (PySem.Str.ofString "/") (sl target pos n)) (Mine.rng_length _ _ _) trivial Mine.rng_at ?_ ?_ ?_
  · intro d v I oI C oC D m₂ ys h tk E' hd hr hC hx F N
    obtain ⟨td, rfl⟩ := hr
    k_steps
    simp only [Bool.not_not]
  · intro d v I oI C oC D m₂ ys h tk E' hd hr hC hx F N
    obtain ⟨td, rfl⟩ := hr
    k_steps
    exact ⟨_, rfl⟩
  · intro ys hys D h tk FE NE oE
    k_steps
    exact hret D ys _ _ _ (intsAre_of hys) (by k_asm) (cb_drop (by k_asm) (by walk_at "mine sub1"))
end Mine
namespace Mine
local macro_rules | `(tactic| walk_at "mine enterC") => `(tactic| k_dflt (refine' code_defC ?k1 ?k2 ?k3 ?k4 ?k5 ?kA ?kF ?kK ?k6 ?k7 ?k8 ?k9 ?kB ?kD ?_ ?c2 ?c3 ?c4; (case kA => exact rfl); (case kF => exact rfl); (case kK => assumption); (case k1 => k_asm); (case k2 => k_asm); (case k3 => k_asm); (case k4 => k_asm); (case k5 => k_asm); (case k6 => k_is); (case k7 => k_is); (case k8 => ktr_room); (case k9 => first | exact BindsTo.of_eq rfl | exact binds_K (by k_in) rfl (by k_is) rfl rfl rfl | fail "enterC: no rule for these arguments"); (case kB => exact rfl); (case kD => decide +kernel); (case c2 => exact rfl); (case c3 => exact rfl); (case c4 => exact rfl); k_whole; intro g' L' h' tk' cells' FG' F' N' Y' B' X' T' l1; (try k_lt l1); k_cells Y'; (try simp only [List.cons_append, List.nil_append] at N'); (try dsimp only); (try k_lift B'); (try k_fold)))
local macro_rules | `(tactic| k_all) => `(tactic| exact Mine.ne_of_all (by assumption) (by omega))
local macro_rules | `(tactic| walk_at "eval ListComp") => `(tactic| (k_here; lct_look; k_dflt (refine Mine.listComp_G (by k_asm) (by with_unfolding_all rfl) (by decide) (by rfl) (by decide) (by rfl) ?_)))
local macro_rules | `(tactic| walk_at "TestEnd") => `(tactic| (first | refine Mine.TestEnd.of ?_ (by k_asm) (by k_asm) (fun _ hp => hp) | refine Mine.TestEnd.of ?_ (by k_asm) (by k_asm) (by walk_at "mine sub")))
local macro_rules | `(tactic| walk_at "EltEnd") => `(tactic| (first | refine Mine.EltEnd.of ?_ (by k_asm) (by k_asm) (fun _ hp => hp) | refine Mine.EltEnd.of ?_ (by k_asm) (by k_asm) (by walk_at "mine sub")))
local macro_rules | `(tactic| walk_at "mine sub") => `(tactic| (intro p9 hp9; (repeat (first | exact hp9 | exact List.mem_append_left _ hp9 | refine List.mem_cons_of_mem _ ?_))))
local macro_rules | `(tactic| walk_at "mine sub1") => `(tactic| (intro p9 hp9; rcases List.mem_cons.mp hp9 with h9 | h9; (rw [h9]; exact List.mem_cons_self); (repeat (first | exact h9 | exact List.mem_append_left _ h9 | refine List.mem_cons_of_mem _ ?_))))
local macro_rules | `(tactic| walk_at "mine off") => `(tactic| first | assumption | exact And.right (by assumption) | exact And.right (And.right (by assumption)) | exact And.right (And.right (And.right (by assumption))))
local macro_rules | `(tactic| walk_at "mine tup") => `(tactic| first | assumption | exact Mine.TupIn.mono (by assumption) (by walk_at "mine sub"))
local macro_rules | `(tactic| walk_at "call builtin:isinstance") => `(tactic| ((with_reducible show wpAny _ _ (call (Value.builtin "isinstance") [Value.ref _, Value.type "tuple"]) _ _ _); refine' call_isinstance_yes (Heap.IsTuple.typeIs (Mine.TupIn.at ?tin ?tn)) meta_tuple PySem.F.isi_sub_tuple ?_; (case tn => k_asm); (case tin => walk_at "mine tup")))
local macro_rules | `(tactic| walk_at "mine enter") => `(tactic| k_dflt (refine' code_def ?k1 ?k2 ?k3 ?k4 ?k5 ?kA ?kF ?kK ?k6 ?k7 ?k8 ?k9 ?kB ?_ ?c2 ?c3 ?c4 ?c5; (case kA => exact rfl); (case kF => exact rfl); (case kK => assumption); (case k1 => k_asm); (case k2 => k_asm); (case k3 => k_asm); (case k4 => k_asm); (case k5 => k_asm); (case k6 => k_is); (case k7 => k_is); (case k8 => ktr_room); (case k9 => first | exact BindsTo.of_eq rfl | exact binds_K (by k_in) rfl (by k_is) rfl rfl rfl | fail "enter: no rule for these arguments"); (case c5 => decide); (case kB => exact locs rfl); (case c2 => exact rfl); (case c3 => exact rfl); (case c4 => exact rfl); k_whole; intro g' L' h' FG' F' N' B' X' T'; (try dsimp only); (try k_lift B'); (try k_fold)))
local macro_rules | `(tactic| walk_at "mine ok") => `(tactic| first | assumption | exact Mine.okText_slice (by assumption) _ _)
local macro_rules | `(tactic| walk_at "mine okn") => `(tactic| first | trivial | assumption | walk_at "mine tup")
local macro_rules | `(tactic| walk_at "exec Assign cons ListComp") => `(tactic| (k_here; lct_look; k_dflt (refine Mine.assign_listComp_G (by k_asm) (by rfl) (by with_unfolding_all rfl) (by with_unfolding_all rfl) (by decide) (by rfl) (by decide) (by rfl) (by rfl) (by rfl) ?_)))
local macro_rules | `(tactic| walk_at "mine okn") => `(tactic| exact ⟨_, by k_mem⟩)
local macro_rules | `(tactic| k_mem) => `(tactic| first | assumption | exact List.mem_cons_self | (refine List.mem_cons_of_mem _ ?_; k_mem) | (refine List.mem_append.mpr (Or.inl ?_); k_mem) | (refine List.mem_append.mpr (Or.inr ?_); k_mem))
local macro_rules | `(tactic| walk_at "subscriptTail Name Slice ref ref") => `(tactic| (k_here; (with_reducible show wpAny _ _ (subscriptTail _ (PySem.Expr.Slice none none (some _) _) (Value.ref _) (Value.ref _)) _ _ _); k_dflt (refine' krv_ints ?F ?N ?l ?k ?i ?_ ?s ?t ?z; (case F => k_asm); (case N => k_asm); (case l => is_list); (case k => exact IsPart.int _ _); (case i => assumption); (case s => with_unfolding_all rfl); (case t => kmk_pure); (case z => assumption)); intro D' ws' h' F' N' l1 hI' hC'))
local macro_rules | `(tactic| is_list) => `(tactic| exact News.isList (by k_asm) (by k_mem))
local macro_rules | `(tactic| walk_at "mine step") => `(tactic| first | (k_unfold; (try dsimp only)) | (k_end; kc_close) | walk1 | (dsimp only; walk1) | (leave1; walk_say "STEP leave1"; (try dsimp only)))
local macro_rules | `(tactic| walk_at "mine cls") => `(tactic| (k_dflt (refine' call_cls ?k1 ?k2 ?k3 ?k4 ?k5 ?k6 ?_; (case k1 => k_asm); (case k2 => k_asm); (case k3 => k_asm); (case k4 => k_is); (case k5 => k_is); (case k6 => k_is); k_whole); intro x' d' h' F' N' l1 l2; (try k_lt l1); (try k_lt2 l2); (try k_sweep)))
local macro_rules | `(tactic| k_room) => `(tactic| ktr_room)
local macro_rules | `(tactic| walk_at "call type:list nil nil") => `(tactic| (k_here; k_dflt (refine' Mine.list0_N ?zF ?zN ?_; (case zF => k_asm); (case zN => k_asm)); intro D' c' h' F' N' l1; (try k_lt l1)))
local macro_rules | `(tactic| walk_at "call type:dict nil nil") => `(tactic| (k_here; k_dflt (refine' Mine.dict0_N ?zF ?zN ?_; (case zF => k_asm); (case zN => k_asm)); intro D' h' F' N' l1; (try k_lt l1)))
local macro_rules | `(tactic| walk_at "call type:dict") => `(tactic| (k_here; k_dflt (refine' Mine.dictCopy_K ?zF ?zX ?zN ?zl ?zk ?zn ?za ?zs ?_; (case zF => k_asm); (case zX => k_asm); (case zN => k_asm); (case zl => k_is); (case zk => k_keys); (case zn => first | decide +kernel | (simp only [Mine.kvOf, List.map_cons, List.map_nil]; decide +kernel)); (case za => decide); (case zs => exact Nat.le_of_ble_eq_true rfl)); intro D' h' F' N'))
local macro_rules | `(tactic| walk_at "compareOp Is ref ref") => `(tactic| with_reducible refine wpAny_is_ref_self ?_)
local macro_rules | `(tactic| ktr_units) => `(tactic| (have hcL9 := cLine_is; (try simp only [Mine.units_under_make, units_in1, units_deeper, Around.mark_units, units_caller] at *); (try dsimp only [ktrTop] at *); omega))
local macro_rules | `(tactic| walk_at "mine ks") => `(tactic| k_dflt (refine' ks_code_super ?k1 ?k2 ?k3 ?k4 ?k5 ?kA ?kF ?kK ?k6 ?k7 ?k8 ?k9 ?kB ?_ ?c1 ?c2 ?c3 ?c4; (case kA => exact rfl); (case kF => exact rfl); (case kK => first | exact rfl | assumption); (case k1 => k_asm); (case k2 => k_asm); (case k3 => k_asm); (case k4 => k_asm); (case k5 => k_asm); (case k6 => k_is); (case k7 => k_is); (case k8 => k_room); (case k9 => first | exact BindsTo.of_eq rfl | exact binds_K (by k_in) rfl (by k_is) rfl rfl rfl); (case kB => exact locs rfl); (case c1 => decide); (case c2 => exact rfl); (case c3 => exact rfl); (case c4 => exact rfl); intro g' L' h' FG' F' N' B' X' T' l1; (try k_lt l1); (try dsimp only); (try k_lift B')))
local macro_rules | `(tactic| walk_at "wpAt func") => `(tactic| ((try dsimp only); first
  | (k_dflt (ks_step "execs cons"; refine ks_wpAt_execs_cons ?_))
  | (k_dflt (ks_step "exec Expr"; refine ks_wpAt_Expr_any ?_))
  | (k_dflt (ks_step "exec Return"; refine ks_wpAt_Return_some ?_))
  | (k_dflt (ks_step "exec Assign"; first | refine ks_wpAt_Assign_Name ?_ | refine ks_wpAt_Assign_Attr ?_))
  | (k_dflt (ks_step "exec If"; refine ks_wpAt_If ?_))
  | (k_dflt (ks_step "eval Call"; refine ks_wpAt_MethodCall ?_))))
local macro_rules | `(tactic| walk_at "call type:set cons nil") => `(tactic| (k_here; k_dflt (refine' Mine.setTuple_N ?zF ?zN ?zh ?zl ?zi ?zb ?_; (case zF => k_asm); (case zN => k_asm); (case zh => rfl); (case zl => exact ⟨_, by k_mem, rfl, _, rfl⟩); (case zi => walk_at "mine strs"); (case zb => exact Nat.le_of_ble_eq_true rfl)); intro D' h' tk' F' N'))
local macro_rules | `(tactic| walk_at "mine strs") => `(tactic| first | exact Mine.strs2 _ _ _ _ | exact Mine.strs0)
local macro_rules | `(tactic| walk_at "mine ksr") => `(tactic| k_dflt (refine' Mine.ks_rest ?k1 ?k2 ?k3 ?k4 ?k5 ?kA ?kF ?kK ?k6 ?k7 ?k8 ?kV ?kP ?kG ?kB ?_ ?c1 ?c2 ?c3 ?c4; (case kA => exact rfl); (case kF => exact rfl); (case kK => first | exact rfl | assumption); (case k1 => k_asm); (case k2 => k_asm); (case k3 => k_asm); (case k4 => k_asm); (case k5 => k_asm); (case k6 => k_is); (case k7 => k_is); (case k8 => k_room); (case kV => kl_lit); (case kP => exact rfl); (case kG => exact fun _ => rfl); (case kB => exact fun _ => locs rfl); (case c1 => decide); (case c2 => exact rfl); (case c3 => exact rfl); (case c4 => exact rfl); intro D' g' L' h' l1 FG' F' N' B' X' T'; (try k_lt l1); (try dsimp only); (try k_lift B')))
theorem pe_words {w : World} (target : PySem.Str) (pos : Int) (t2 t3 : Tok) (r : Addr) (its : Array Value) (ws : List PySem.Str) (hws : All2 StrIs ws its.toList) (hsz : its.size ≤ 8) (hwl : ∀ x ∈ ws, x.length ≤ 8) (hlen : target.length ≤ 6) (hp : 0 ≤ pos ∧ pos ≤ target.length) :
   IntsTell PySem.Challenge.rw_en5030_01.row.prog w (Mine.hd.heap_39 w.params) 236 [.ref r, .str target t2, .int pos t3] 1 (TupIn r its) (peWords ws target pos) := by
  w_top off
  k_fill
  intro p loose mean mg mb dp un gd cn cs a ccd cl outer A₀ base h₀ L m news s Q E B F X N T hk hOk hd hu hret
  refine wpAny_call ?_
  walk_at "mine enterC"
  k_steps
  refine Mine.src_tuple (its := its) (by rfl) (by k_asm) (by k_asm) (by walk_at "mine tup") (by rw [PySem.sizeLine_eq]; omega) ?_
  intro g1
  refine Mine.rest_filter ws StrIs (fun d v => ∃ t, v = Value.int (pos + d.length) t) (fun d => sl target pos (pos + d.length) == d) (by rw [all2_len hws]; simp) (by walk_at "mine tup") (fun i v _ hv => all2_at hws i v (by simpa using hv)) ?_ ?_ ?_
  · intro d v I oI C oC D m₂ ys h tk E' hd hr hC hx F N
    obtain ⟨td, rfl⟩ := hr
    have hdl := hwl d hd
    k_steps
  · intro d v I oI C oC D m₂ ys h tk E' hd hr hC hx F N
    obtain ⟨td, rfl⟩ := hr
    have hdl := hwl d hd
    k_steps
    all_goals exact ⟨_, rfl⟩
  · intro ys hys D h tk FE NE oE
    k_steps
    exact hret D ys _ _ _ (intsAre_map _ hys) (by k_asm) (cb_drop (by k_asm) (by walk_at "mine sub1"))
end Mine
namespace Mine
local macro_rules | `(tactic| walk_at "mine enterC") => `(tactic| k_dflt (refine' code_defC ?k1 ?k2 ?k3 ?k4 ?k5 ?kA ?kF ?kK ?k6 ?k7 ?k8 ?k9 ?kB ?kD ?_ ?c2 ?c3 ?c4; (case kA => exact rfl); (case kF => exact rfl); (case kK => assumption); (case k1 => k_asm); (case k2 => k_asm); (case k3 => k_asm); (case k4 => k_asm); (case k5 => k_asm); (case k6 => k_is); (case k7 => k_is); (case k8 => ktr_room); (case k9 => first | exact BindsTo.of_eq rfl | exact binds_K (by k_in) rfl (by k_is) rfl rfl rfl | fail "enterC: no rule for these arguments"); (case kB => exact rfl); (case kD => decide +kernel); (case c2 => exact rfl); (case c3 => exact rfl); (case c4 => exact rfl); k_whole; intro g' L' h' tk' cells' FG' F' N' Y' B' X' T' l1; (try k_lt l1); k_cells Y'; (try simp only [List.cons_append, List.nil_append] at N'); (try dsimp only); (try k_lift B'); (try k_fold)))
local macro_rules | `(tactic| k_all) => `(tactic| exact Mine.ne_of_all (by assumption) (by omega))
local macro_rules | `(tactic| walk_at "eval ListComp") => `(tactic| (k_here; lct_look; k_dflt (refine Mine.listComp_G (by k_asm) (by with_unfolding_all rfl) (by decide) (by rfl) (by decide) (by rfl) ?_)))
local macro_rules | `(tactic| walk_at "TestEnd") => `(tactic| (first | refine Mine.TestEnd.of ?_ (by k_asm) (by k_asm) (fun _ hp => hp) | refine Mine.TestEnd.of ?_ (by k_asm) (by k_asm) (by walk_at "mine sub")))
local macro_rules | `(tactic| walk_at "EltEnd") => `(tactic| (first | refine Mine.EltEnd.of ?_ (by k_asm) (by k_asm) (fun _ hp => hp) | refine Mine.EltEnd.of ?_ (by k_asm) (by k_asm) (by walk_at "mine sub")))
local macro_rules | `(tactic| walk_at "mine sub") => `(tactic| (intro p9 hp9; (repeat (first | exact hp9 | exact List.mem_append_left _ hp9 | refine List.mem_cons_of_mem _ ?_))))
local macro_rules | `(tactic| walk_at "mine sub1") => `(tactic| (intro p9 hp9; rcases List.mem_cons.mp hp9 with h9 | h9; (rw [h9]; exact List.mem_cons_self); (repeat (first | exact h9 | exact List.mem_append_left _ h9 | refine List.mem_cons_of_mem _ ?_))))
local macro_rules | `(tactic| walk_at "mine off") => `(tactic| first | assumption | exact And.right (by assumption) | exact And.right (And.right (by assumption)) | exact And.right (And.right (And.right (by assumption))))
local macro_rules | `(tactic| walk_at "mine tup") => `(tactic| first | assumption | exact Mine.TupIn.mono (by assumption) (by walk_at "mine sub"))
local macro_rules | `(tactic| walk_at "call builtin:isinstance") => `(tactic| ((with_reducible show wpAny _ _ (call (Value.builtin "isinstance") [Value.ref _, Value.type "tuple"]) _ _ _); refine' call_isinstance_yes (Heap.IsTuple.typeIs (Mine.TupIn.at ?tin ?tn)) meta_tuple PySem.F.isi_sub_tuple ?_; (case tn => k_asm); (case tin => walk_at "mine tup")))
local macro_rules | `(tactic| walk_at "mine enter") => `(tactic| k_dflt (refine' code_def ?k1 ?k2 ?k3 ?k4 ?k5 ?kA ?kF ?kK ?k6 ?k7 ?k8 ?k9 ?kB ?_ ?c2 ?c3 ?c4 ?c5; (case kA => exact rfl); (case kF => exact rfl); (case kK => assumption); (case k1 => k_asm); (case k2 => k_asm); (case k3 => k_asm); (case k4 => k_asm); (case k5 => k_asm); (case k6 => k_is); (case k7 => k_is); (case k8 => ktr_room); (case k9 => first | exact BindsTo.of_eq rfl | exact binds_K (by k_in) rfl (by k_is) rfl rfl rfl | fail "enter: no rule for these arguments"); (case c5 => decide); (case kB => exact locs rfl); (case c2 => exact rfl); (case c3 => exact rfl); (case c4 => exact rfl); k_whole; intro g' L' h' FG' F' N' B' X' T'; (try dsimp only); (try k_lift B'); (try k_fold)))
local macro_rules | `(tactic| walk_at "mine ok") => `(tactic| first | assumption | exact Mine.okText_slice (by assumption) _ _)
local macro_rules | `(tactic| walk_at "mine okn") => `(tactic| first | trivial | assumption | walk_at "mine tup")
local macro_rules | `(tactic| walk_at "exec Assign cons ListComp") => `(tactic| (k_here; lct_look; k_dflt (refine Mine.assign_listComp_G (by k_asm) (by rfl) (by with_unfolding_all rfl) (by with_unfolding_all rfl) (by decide) (by rfl) (by decide) (by rfl) (by rfl) (by rfl) ?_)))
local macro_rules | `(tactic| walk_at "mine okn") => `(tactic| exact ⟨_, by k_mem⟩)
local macro_rules | `(tactic| k_mem) => `(tactic| first | assumption | exact List.mem_cons_self | (refine List.mem_cons_of_mem _ ?_; k_mem) | (refine List.mem_append.mpr (Or.inl ?_); k_mem) | (refine List.mem_append.mpr (Or.inr ?_); k_mem))
local macro_rules | `(tactic| walk_at "subscriptTail Name Slice ref ref") => `(tactic| (k_here; (with_reducible show wpAny _ _ (subscriptTail _ (PySem.Expr.Slice none none (some _) _) (Value.ref _) (Value.ref _)) _ _ _); k_dflt (refine' krv_ints ?F ?N ?l ?k ?i ?_ ?s ?t ?z; (case F => k_asm); (case N => k_asm); (case l => is_list); (case k => exact IsPart.int _ _); (case i => assumption); (case s => with_unfolding_all rfl); (case t => kmk_pure); (case z => assumption)); intro D' ws' h' F' N' l1 hI' hC'))
local macro_rules | `(tactic| is_list) => `(tactic| exact News.isList (by k_asm) (by k_mem))
local macro_rules | `(tactic| walk_at "mine step") => `(tactic| first | (k_unfold; (try dsimp only)) | (k_end; kc_close) | walk1 | (dsimp only; walk1) | (leave1; walk_say "STEP leave1"; (try dsimp only)))
local macro_rules | `(tactic| walk_at "mine cls") => `(tactic| (k_dflt (refine' call_cls ?k1 ?k2 ?k3 ?k4 ?k5 ?k6 ?_; (case k1 => k_asm); (case k2 => k_asm); (case k3 => k_asm); (case k4 => k_is); (case k5 => k_is); (case k6 => k_is); k_whole); intro x' d' h' F' N' l1 l2; (try k_lt l1); (try k_lt2 l2); (try k_sweep)))
local macro_rules | `(tactic| k_room) => `(tactic| ktr_room)
local macro_rules | `(tactic| walk_at "call type:list nil nil") => `(tactic| (k_here; k_dflt (refine' Mine.list0_N ?zF ?zN ?_; (case zF => k_asm); (case zN => k_asm)); intro D' c' h' F' N' l1; (try k_lt l1)))
local macro_rules | `(tactic| walk_at "call type:dict nil nil") => `(tactic| (k_here; k_dflt (refine' Mine.dict0_N ?zF ?zN ?_; (case zF => k_asm); (case zN => k_asm)); intro D' h' F' N' l1; (try k_lt l1)))
local macro_rules | `(tactic| walk_at "call type:dict") => `(tactic| (k_here; k_dflt (refine' Mine.dictCopy_K ?zF ?zX ?zN ?zl ?zk ?zn ?za ?zs ?_; (case zF => k_asm); (case zX => k_asm); (case zN => k_asm); (case zl => k_is); (case zk => k_keys); (case zn => first | decide +kernel | (simp only [Mine.kvOf, List.map_cons, List.map_nil]; decide +kernel)); (case za => decide); (case zs => exact Nat.le_of_ble_eq_true rfl)); intro D' h' F' N'))
local macro_rules | `(tactic| walk_at "compareOp Is ref ref") => `(tactic| with_reducible refine wpAny_is_ref_self ?_)
local macro_rules | `(tactic| ktr_units) => `(tactic| (have hcL9 := cLine_is; (try simp only [Mine.units_under_make, units_in1, units_deeper, Around.mark_units, units_caller] at *); (try dsimp only [ktrTop] at *); omega))
local macro_rules | `(tactic| walk_at "mine ks") => `(tactic| k_dflt (refine' ks_code_super ?k1 ?k2 ?k3 ?k4 ?k5 ?kA ?kF ?kK ?k6 ?k7 ?k8 ?k9 ?kB ?_ ?c1 ?c2 ?c3 ?c4; (case kA => exact rfl); (case kF => exact rfl); (case kK => first | exact rfl | assumption); (case k1 => k_asm); (case k2 => k_asm); (case k3 => k_asm); (case k4 => k_asm); (case k5 => k_asm); (case k6 => k_is); (case k7 => k_is); (case k8 => k_room); (case k9 => first | exact BindsTo.of_eq rfl | exact binds_K (by k_in) rfl (by k_is) rfl rfl rfl); (case kB => exact locs rfl); (case c1 => decide); (case c2 => exact rfl); (case c3 => exact rfl); (case c4 => exact rfl); intro g' L' h' FG' F' N' B' X' T' l1; (try k_lt l1); (try dsimp only); (try k_lift B')))
local macro_rules | `(tactic| walk_at "wpAt func") => `(tactic| ((try dsimp only); first
  | (k_dflt (ks_step "execs cons"; refine ks_wpAt_execs_cons ?_))
  | (k_dflt (ks_step "exec Expr"; refine ks_wpAt_Expr_any ?_))
  | (k_dflt (ks_step "exec Return"; refine ks_wpAt_Return_some ?_))
  | (k_dflt (ks_step "exec Assign"; first | refine ks_wpAt_Assign_Name ?_ | refine ks_wpAt_Assign_Attr ?_))
  | (k_dflt (ks_step "exec If"; refine ks_wpAt_If ?_))
  | (k_dflt (ks_step "eval Call"; refine ks_wpAt_MethodCall ?_))))
local macro_rules | `(tactic| walk_at "call type:set cons nil") => `(tactic| (k_here; k_dflt (refine' Mine.setTuple_N ?zF ?zN ?zh ?zl ?zi ?zb ?_; (case zF => k_asm); (case zN => k_asm); (case zh => rfl); (case zl => exact ⟨_, by k_mem, rfl, _, rfl⟩); (case zi => walk_at "mine strs"); (case zb => exact Nat.le_of_ble_eq_true rfl)); intro D' h' tk' F' N'))
local macro_rules | `(tactic| walk_at "mine strs") => `(tactic| first | exact Mine.strs2 _ _ _ _ | exact Mine.strs0)
local macro_rules | `(tactic| walk_at "mine ksr") => `(tactic| k_dflt (refine' Mine.ks_rest ?k1 ?k2 ?k3 ?k4 ?k5 ?kA ?kF ?kK ?k6 ?k7 ?k8 ?kV ?kP ?kG ?kB ?_ ?c1 ?c2 ?c3 ?c4; (case kA => exact rfl); (case kF => exact rfl); (case kK => first | exact rfl | assumption); (case k1 => k_asm); (case k2 => k_asm); (case k3 => k_asm); (case k4 => k_asm); (case k5 => k_asm); (case k6 => k_is); (case k7 => k_is); (case k8 => k_room); (case kV => kl_lit); (case kP => exact rfl); (case kG => exact fun _ => rfl); (case kB => exact fun _ => locs rfl); (case c1 => decide); (case c2 => exact rfl); (case c3 => exact rfl); (case c4 => exact rfl); intro D' g' L' h' l1 FG' F' N' B' X' T'; (try k_lt l1); (try dsimp only); (try k_lift B')))
def peSlash (target : PySem.Str) (pos : Int) : List Int :=
  if PySem.Txt.endswith (PySem.Txt.slice target none (some pos)) (PySem.Str.ofString "/") = true then [] else if (sl target pos (pos + 1) == PySem.Str.ofString "/") = true then [pos + 1, pos] else [pos]
theorem pe_slash {w : World} (target : PySem.Str) (pos : Int) (t1 t2 t3 : Tok) (hlen : target.length ≤ 6) (hp : 0 ≤ pos ∧ pos ≤ target.length) :
   IntsTell PySem.Challenge.rw_en5030_01.row.prog w (Mine.hd.heap_39 w.params) 236 [.str (PySem.Str.ofString "(?<!/)(/?)") t1, .str target t2, .int pos t3] 1 Any9 (peSlash target pos) := by
  w_top off
  k_fill
  intro p loose mean mg mb dp un gd cn cs a ccd cl outer A₀ base h₀ L m news s Q E B F X N T hk hOk hd hu hret
  refine wpAny_call ?_
  walk_at "mine enterC"
  k_steps
  · have e : PySem.Txt.endswith (PySem.Txt.slice target none (some pos)) (PySem.Str.ofString "/") = true := by assumption
    unfold peSlash at hret
    rw [if_pos e] at hret
    exact hret _ [] _ _ _ .nil (by k_asm) (cb_drop (by k_asm) (by walk_at "mine sub1"))
  · have e : PySem.Txt.endswith (PySem.Txt.slice target none (some pos)) (PySem.Str.ofString "/") = false := by assumption
    have e2 : (sl target pos (pos + 1) == PySem.Str.ofString "/") = true := by assumption
    unfold peSlash at hret
    rw [if_neg (by rw [e]; decide), if_pos e2] at hret
    exact hret _ [_, _] _ _ _ (.cons _ _ (.cons _ _ .nil)) (by k_asm) (cb_drop (by k_asm) (by walk_at "mine sub1"))
  · have e : PySem.Txt.endswith (PySem.Txt.slice target none (some pos)) (PySem.Str.ofString "/") = false := by assumption
    have e2 : (sl target pos (pos + 1) == PySem.Str.ofString "/") = false := by assumption
    unfold peSlash at hret
    rw [if_neg (by rw [e]; decide), if_neg (by rw [e2]; decide)] at hret
    exact hret _ [_] _ _ _ (.cons _ _ .nil) (by k_asm) (cb_drop (by k_asm) (by walk_at "mine sub1"))
end Mine
namespace Mine
local macro_rules | `(tactic| walk_at "mine enterC") => `(tactic| k_dflt (refine' code_defC ?k1 ?k2 ?k3 ?k4 ?k5 ?kA ?kF ?kK ?k6 ?k7 ?k8 ?k9 ?kB ?kD ?_ ?c2 ?c3 ?c4; (case kA => exact rfl); (case kF => exact rfl); (case kK => assumption); (case k1 => k_asm); (case k2 => k_asm); (case k3 => k_asm); (case k4 => k_asm); (case k5 => k_asm); (case k6 => k_is); (case k7 => k_is); (case k8 => ktr_room); (case k9 => first | exact BindsTo.of_eq rfl | exact binds_K (by k_in) rfl (by k_is) rfl rfl rfl | fail "enterC: no rule for these arguments"); (case kB => exact rfl); (case kD => decide +kernel); (case c2 => exact rfl); (case c3 => exact rfl); (case c4 => exact rfl); k_whole; intro g' L' h' tk' cells' FG' F' N' Y' B' X' T' l1; (try k_lt l1); k_cells Y'; (try simp only [List.cons_append, List.nil_append] at N'); (try dsimp only); (try k_lift B'); (try k_fold)))
local macro_rules | `(tactic| k_all) => `(tactic| exact Mine.ne_of_all (by assumption) (by omega))
local macro_rules | `(tactic| walk_at "eval ListComp") => `(tactic| (k_here; lct_look; k_dflt (refine Mine.listComp_G (by k_asm) (by with_unfolding_all rfl) (by decide) (by rfl) (by decide) (by rfl) ?_)))
local macro_rules | `(tactic| walk_at "TestEnd") => `(tactic| (first | refine Mine.TestEnd.of ?_ (by k_asm) (by k_asm) (fun _ hp => hp) | refine Mine.TestEnd.of ?_ (by k_asm) (by k_asm) (by walk_at "mine sub")))
local macro_rules | `(tactic| walk_at "EltEnd") => `(tactic| (first | refine Mine.EltEnd.of ?_ (by k_asm) (by k_asm) (fun _ hp => hp) | refine Mine.EltEnd.of ?_ (by k_asm) (by k_asm) (by walk_at "mine sub")))
local macro_rules | `(tactic| walk_at "mine sub") => `(tactic| (intro p9 hp9; (repeat (first | exact hp9 | exact List.mem_append_left _ hp9 | refine List.mem_cons_of_mem _ ?_))))
local macro_rules | `(tactic| walk_at "mine sub1") => `(tactic| (intro p9 hp9; rcases List.mem_cons.mp hp9 with h9 | h9; (rw [h9]; exact List.mem_cons_self); (repeat (first | exact h9 | exact List.mem_append_left _ h9 | refine List.mem_cons_of_mem _ ?_))))
local macro_rules | `(tactic| walk_at "mine off") => `(tactic| first | assumption | exact And.right (by assumption) | exact And.right (And.right (by assumption)) | exact And.right (And.right (And.right (by assumption))))
local macro_rules | `(tactic| walk_at "mine tup") => `(tactic| first | assumption | exact Mine.TupIn.mono (by assumption) (by walk_at "mine sub"))
local macro_rules | `(tactic| walk_at "call builtin:isinstance") => `(tactic| ((with_reducible show wpAny _ _ (call (Value.builtin "isinstance") [Value.ref _, Value.type "tuple"]) _ _ _); refine' call_isinstance_yes (Heap.IsTuple.typeIs (Mine.TupIn.at ?tin ?tn)) meta_tuple PySem.F.isi_sub_tuple ?_; (case tn => k_asm); (case tin => walk_at "mine tup")))
local macro_rules | `(tactic| walk_at "mine enter") => `(tactic| k_dflt (refine' code_def ?k1 ?k2 ?k3 ?k4 ?k5 ?kA ?kF ?kK ?k6 ?k7 ?k8 ?k9 ?kB ?_ ?c2 ?c3 ?c4 ?c5; (case kA => exact rfl); (case kF => exact rfl); (case kK => assumption); (case k1 => k_asm); (case k2 => k_asm); (case k3 => k_asm); (case k4 => k_asm); (case k5 => k_asm); (case k6 => k_is); (case k7 => k_is); (case k8 => ktr_room); (case k9 => first | exact BindsTo.of_eq rfl | exact binds_K (by k_in) rfl (by k_is) rfl rfl rfl | fail "enter: no rule for these arguments"); (case c5 => decide); (case kB => exact locs rfl); (case c2 => exact rfl); (case c3 => exact rfl); (case c4 => exact rfl); k_whole; intro g' L' h' FG' F' N' B' X' T'; (try dsimp only); (try k_lift B'); (try k_fold)))
local macro_rules | `(tactic| walk_at "mine ok") => `(tactic| first | assumption | exact Mine.okText_slice (by assumption) _ _)
local macro_rules | `(tactic| walk_at "mine okn") => `(tactic| first | trivial | assumption | walk_at "mine tup")
local macro_rules | `(tactic| walk_at "exec Assign cons ListComp") => `(tactic| (k_here; lct_look; k_dflt (refine Mine.assign_listComp_G (by k_asm) (by rfl) (by with_unfolding_all rfl) (by with_unfolding_all rfl) (by decide) (by rfl) (by decide) (by rfl) (by rfl) (by rfl) ?_)))
local macro_rules | `(tactic| walk_at "mine okn") => `(tactic| exact ⟨_, by k_mem⟩)
local macro_rules | `(tactic| k_mem) => `(tactic| first | assumption | exact List.mem_cons_self | (refine List.mem_cons_of_mem _ ?_; k_mem) | (refine List.mem_append.mpr (Or.inl ?_); k_mem) | (refine List.mem_append.mpr (Or.inr ?_); k_mem))
local macro_rules | `(tactic| walk_at "subscriptTail Name Slice ref ref") => `(tactic| (k_here; (with_reducible show wpAny _ _ (subscriptTail _ (PySem.Expr.Slice none none (some _) _) (Value.ref _) (Value.ref _)) _ _ _); k_dflt (refine' krv_ints ?F ?N ?l ?k ?i ?_ ?s ?t ?z; (case F => k_asm); (case N => k_asm); (case l => is_list); (case k => exact IsPart.int _ _); (case i => assumption); (case s => with_unfolding_all rfl); (case t => kmk_pure); (case z => assumption)); intro D' ws' h' F' N' l1 hI' hC'))
local macro_rules | `(tactic| is_list) => `(tactic| exact News.isList (by k_asm) (by k_mem))
local macro_rules | `(tactic| walk_at "mine step") => `(tactic| first | (k_unfold; (try dsimp only)) | (k_end; kc_close) | walk1 | (dsimp only; walk1) | (leave1; walk_say "STEP leave1"; (try dsimp only)))
local macro_rules | `(tactic| walk_at "mine cls") => `(tactic| (k_dflt (refine' call_cls ?k1 ?k2 ?k3 ?k4 ?k5 ?k6 ?_; (case k1 => k_asm); (case k2 => k_asm); (case k3 => k_asm); (case k4 => k_is); (case k5 => k_is); (case k6 => k_is); k_whole); intro x' d' h' F' N' l1 l2; (try k_lt l1); (try k_lt2 l2); (try k_sweep)))
local macro_rules | `(tactic| k_room) => `(tactic| ktr_room)
local macro_rules | `(tactic| walk_at "call type:list nil nil") => `(tactic| (k_here; k_dflt (refine' Mine.list0_N ?zF ?zN ?_; (case zF => k_asm); (case zN => k_asm)); intro D' c' h' F' N' l1; (try k_lt l1)))
local macro_rules | `(tactic| walk_at "call type:dict nil nil") => `(tactic| (k_here; k_dflt (refine' Mine.dict0_N ?zF ?zN ?_; (case zF => k_asm); (case zN => k_asm)); intro D' h' F' N' l1; (try k_lt l1)))
local macro_rules | `(tactic| walk_at "call type:dict") => `(tactic| (k_here; k_dflt (refine' Mine.dictCopy_K ?zF ?zX ?zN ?zl ?zk ?zn ?za ?zs ?_; (case zF => k_asm); (case zX => k_asm); (case zN => k_asm); (case zl => k_is); (case zk => k_keys); (case zn => first | decide +kernel | (simp only [Mine.kvOf, List.map_cons, List.map_nil]; decide +kernel)); (case za => decide); (case zs => exact Nat.le_of_ble_eq_true rfl)); intro D' h' F' N'))
local macro_rules | `(tactic| walk_at "compareOp Is ref ref") => `(tactic| with_reducible refine wpAny_is_ref_self ?_)
local macro_rules | `(tactic| ktr_units) => `(tactic| (have hcL9 := cLine_is; (try simp only [Mine.units_under_make, units_in1, units_deeper, Around.mark_units, units_caller] at *); (try dsimp only [ktrTop] at *); omega))
local macro_rules | `(tactic| walk_at "mine ks") => `(tactic| k_dflt (refine' ks_code_super ?k1 ?k2 ?k3 ?k4 ?k5 ?kA ?kF ?kK ?k6 ?k7 ?k8 ?k9 ?kB ?_ ?c1 ?c2 ?c3 ?c4; (case kA => exact rfl); (case kF => exact rfl); (case kK => first | exact rfl | assumption); (case k1 => k_asm); (case k2 => k_asm); (case k3 => k_asm); (case k4 => k_asm); (case k5 => k_asm); (case k6 => k_is); (case k7 => k_is); (case k8 => k_room); (case k9 => first | exact BindsTo.of_eq rfl | exact binds_K (by k_in) rfl (by k_is) rfl rfl rfl); (case kB => exact locs rfl); (case c1 => decide); (case c2 => exact rfl); (case c3 => exact rfl); (case c4 => exact rfl); intro g' L' h' FG' F' N' B' X' T' l1; (try k_lt l1); (try dsimp only); (try k_lift B')))
local macro_rules | `(tactic| walk_at "wpAt func") => `(tactic| ((try dsimp only); first
  | (k_dflt (ks_step "execs cons"; refine ks_wpAt_execs_cons ?_))
  | (k_dflt (ks_step "exec Expr"; refine ks_wpAt_Expr_any ?_))
  | (k_dflt (ks_step "exec Return"; refine ks_wpAt_Return_some ?_))
  | (k_dflt (ks_step "exec Assign"; first | refine ks_wpAt_Assign_Name ?_ | refine ks_wpAt_Assign_Attr ?_))
  | (k_dflt (ks_step "exec If"; refine ks_wpAt_If ?_))
  | (k_dflt (ks_step "eval Call"; refine ks_wpAt_MethodCall ?_))))
local macro_rules | `(tactic| walk_at "call type:set cons nil") => `(tactic| (k_here; k_dflt (refine' Mine.setTuple_N ?zF ?zN ?zh ?zl ?zi ?zb ?_; (case zF => k_asm); (case zN => k_asm); (case zh => rfl); (case zl => exact ⟨_, by k_mem, rfl, _, rfl⟩); (case zi => walk_at "mine strs"); (case zb => exact Nat.le_of_ble_eq_true rfl)); intro D' h' tk' F' N'))
local macro_rules | `(tactic| walk_at "mine strs") => `(tactic| first | exact Mine.strs2 _ _ _ _ | exact Mine.strs0)
local macro_rules | `(tactic| walk_at "mine ksr") => `(tactic| k_dflt (refine' Mine.ks_rest ?k1 ?k2 ?k3 ?k4 ?k5 ?kA ?kF ?kK ?k6 ?k7 ?k8 ?kV ?kP ?kG ?kB ?_ ?c1 ?c2 ?c3 ?c4; (case kA => exact rfl); (case kF => exact rfl); (case kK => first | exact rfl | assumption); (case k1 => k_asm); (case k2 => k_asm); (case k3 => k_asm); (case k4 => k_asm); (case k5 => k_asm); (case k6 => k_is); (case k7 => k_is); (case k8 => k_room); (case kV => kl_lit); (case kP => exact rfl); (case kG => exact fun _ => rfl); (case kB => exact fun _ => locs rfl); (case c1 => decide); (case c2 => exact rfl); (case c3 => exact rfl); (case c4 => exact rfl); intro D' g' L' h' l1 FG' F' N' B' X' T'; (try k_lt l1); (try dsimp only); (try k_lift B')))
def lDigits (text : PySem.Str) : Bool := (text != PySem.Str.ofString "") && ((text.cps.toList.filter fun c => !digitish c).isEmpty)
theorem ld_digits {w : World} (text : PySem.Str) (t2 : Tok) (hok : okText text) :
   BoolTell PySem.Challenge.rw_en5030_01.row.prog w (Mine.hd.heap_39 w.params) 479 [.str text t2] 1 Any9 (lDigits text) := by
  w_top off
  k_fill
  intro p loose mean mg mb dp un gd cn cs a ccd cl outer A₀ base h₀ L m news s Q E B F X N T hk hOk hd hu hret
  refine wpAny_call ?_
  walk_at "mine enter"
  k_steps
  · have e1 : (text != PySem.Str.ofString "") = true := by assumption
    have hl2 : text.cps.size ≤ 6 := hok.1
    refine Mine.src_str (by rfl) (by k_asm) (by k_asm) (by rw [PySem.sizeLine_eq]; omega) ?_
    intro g1
    refine Mine.rest_filter text.cps.toList (fun (c : Nat) (v : Value) => ∃ u, v = .str ⟨#[c]⟩ u) (fun (c : Nat) (v : Value) => ∃ u, v = .str ⟨#[c]⟩ u) (fun c => !digitish c) (by simp) trivial Mine.sign_at ?_ ?_ ?_
    · intro d v I oI C oC D m₂ ys h tk E' hd hr hC hx F N
      obtain ⟨td, rfl⟩ := hr
      k_steps
      exact digit_lit d
    · intro d v I oI C oC D m₂ ys h tk E' hd hr hC hx F N
      obtain ⟨td, rfl⟩ := hr
      k_steps
      all_goals exact ⟨_, rfl⟩
    · intro ys hys D h tk FE NE oE
      k_steps
      refine eq_strs_nil (fun c => ⟨#[c]⟩) (by is_list) hys (fun d hd => ?_) (by is_list) (by ke_room) ?_
      · have := okSign_lt (hok.2 d ((List.mem_filter.mp hd).1))
        simp only [PyData.strOk]; simpa using this
      k_steps
      unfold lDigits at hret
      rw [e1, Bool.true_and] at hret
      exact hret _ _ (by k_asm) (cb_drop (by k_asm) (by walk_at "mine sub"))
  · have e1 : (text != PySem.Str.ofString "") = false := by assumption
    unfold lDigits at hret
    rw [e1, Bool.false_and] at hret
    rw [e1]
    exact hret _ _ (by k_asm) (by k_asm)
end Mine
namespace Mine
local macro_rules | `(tactic| walk_at "mine enterC") => `(tactic| k_dflt (refine' code_defC ?k1 ?k2 ?k3 ?k4 ?k5 ?kA ?kF ?kK ?k6 ?k7 ?k8 ?k9 ?kB ?kD ?_ ?c2 ?c3 ?c4; (case kA => exact rfl); (case kF => exact rfl); (case kK => assumption); (case k1 => k_asm); (case k2 => k_asm); (case k3 => k_asm); (case k4 => k_asm); (case k5 => k_asm); (case k6 => k_is); (case k7 => k_is); (case k8 => ktr_room); (case k9 => first | exact BindsTo.of_eq rfl | exact binds_K (by k_in) rfl (by k_is) rfl rfl rfl | fail "enterC: no rule for these arguments"); (case kB => exact rfl); (case kD => decide +kernel); (case c2 => exact rfl); (case c3 => exact rfl); (case c4 => exact rfl); k_whole; intro g' L' h' tk' cells' FG' F' N' Y' B' X' T' l1; (try k_lt l1); k_cells Y'; (try simp only [List.cons_append, List.nil_append] at N'); (try dsimp only); (try k_lift B'); (try k_fold)))
local macro_rules | `(tactic| k_all) => `(tactic| exact Mine.ne_of_all (by assumption) (by omega))
local macro_rules | `(tactic| walk_at "eval ListComp") => `(tactic| (k_here; lct_look; k_dflt (refine Mine.listComp_G (by k_asm) (by with_unfolding_all rfl) (by decide) (by rfl) (by decide) (by rfl) ?_)))
local macro_rules | `(tactic| walk_at "TestEnd") => `(tactic| (first | refine Mine.TestEnd.of ?_ (by k_asm) (by k_asm) (fun _ hp => hp) | refine Mine.TestEnd.of ?_ (by k_asm) (by k_asm) (by walk_at "mine sub")))
local macro_rules | `(tactic| walk_at "EltEnd") => `(tactic| (first | refine Mine.EltEnd.of ?_ (by k_asm) (by k_asm) (fun _ hp => hp) | refine Mine.EltEnd.of ?_ (by k_asm) (by k_asm) (by walk_at "mine sub")))
local macro_rules | `(tactic| walk_at "mine sub") => `(tactic| (intro p9 hp9; (repeat (first | exact hp9 | exact List.mem_append_left _ hp9 | refine List.mem_cons_of_mem _ ?_))))
local macro_rules | `(tactic| walk_at "mine sub1") => `(tactic| (intro p9 hp9; rcases List.mem_cons.mp hp9 with h9 | h9; (rw [h9]; exact List.mem_cons_self); (repeat (first | exact h9 | exact List.mem_append_left _ h9 | refine List.mem_cons_of_mem _ ?_))))
local macro_rules | `(tactic| walk_at "mine off") => `(tactic| first | assumption | exact And.right (by assumption) | exact And.right (And.right (by assumption)) | exact And.right (And.right (And.right (by assumption))))
local macro_rules | `(tactic| walk_at "mine tup") => `(tactic| first | assumption | exact Mine.TupIn.mono (by assumption) (by walk_at "mine sub"))
local macro_rules | `(tactic| walk_at "call builtin:isinstance") => `(tactic| ((with_reducible show wpAny _ _ (call (Value.builtin "isinstance") [Value.ref _, Value.type "tuple"]) _ _ _); refine' call_isinstance_yes (Heap.IsTuple.typeIs (Mine.TupIn.at ?tin ?tn)) meta_tuple PySem.F.isi_sub_tuple ?_; (case tn => k_asm); (case tin => walk_at "mine tup")))
local macro_rules | `(tactic| walk_at "mine enter") => `(tactic| k_dflt (refine' code_def ?k1 ?k2 ?k3 ?k4 ?k5 ?kA ?kF ?kK ?k6 ?k7 ?k8 ?k9 ?kB ?_ ?c2 ?c3 ?c4 ?c5; (case kA => exact rfl); (case kF => exact rfl); (case kK => assumption); (case k1 => k_asm); (case k2 => k_asm); (case k3 => k_asm); (case k4 => k_asm); (case k5 => k_asm); (case k6 => k_is); (case k7 => k_is); (case k8 => ktr_room); (case k9 => first | exact BindsTo.of_eq rfl | exact binds_K (by k_in) rfl (by k_is) rfl rfl rfl | fail "enter: no rule for these arguments"); (case c5 => decide); (case kB => exact locs rfl); (case c2 => exact rfl); (case c3 => exact rfl); (case c4 => exact rfl); k_whole; intro g' L' h' FG' F' N' B' X' T'; (try dsimp only); (try k_lift B'); (try k_fold)))
local macro_rules | `(tactic| walk_at "mine ok") => `(tactic| first | assumption | exact Mine.okText_slice (by assumption) _ _)
local macro_rules | `(tactic| walk_at "mine okn") => `(tactic| first | trivial | assumption | walk_at "mine tup")
local macro_rules | `(tactic| walk_at "exec Assign cons ListComp") => `(tactic| (k_here; lct_look; k_dflt (refine Mine.assign_listComp_G (by k_asm) (by rfl) (by with_unfolding_all rfl) (by with_unfolding_all rfl) (by decide) (by rfl) (by decide) (by rfl) (by rfl) (by rfl) ?_)))
local macro_rules | `(tactic| walk_at "mine okn") => `(tactic| exact ⟨_, by k_mem⟩)
local macro_rules | `(tactic| k_mem) => `(tactic| first | assumption | exact List.mem_cons_self | (refine List.mem_cons_of_mem _ ?_; k_mem) | (refine List.mem_append.mpr (Or.inl ?_); k_mem) | (refine List.mem_append.mpr (Or.inr ?_); k_mem))
local macro_rules | `(tactic| walk_at "subscriptTail Name Slice ref ref") => `(tactic| (k_here; (with_reducible show wpAny _ _ (subscriptTail _ (PySem.Expr.Slice none none (some _) _) (Value.ref _) (Value.ref _)) _ _ _); k_dflt (refine' krv_ints ?F ?N ?l ?k ?i ?_ ?s ?t ?z; (case F => k_asm); (case N => k_asm); (case l => is_list); (case k => exact IsPart.int _ _); (case i => assumption); (case s => with_unfolding_all rfl); (case t => kmk_pure); (case z => assumption)); intro D' ws' h' F' N' l1 hI' hC'))
local macro_rules | `(tactic| is_list) => `(tactic| exact News.isList (by k_asm) (by k_mem))
local macro_rules | `(tactic| walk_at "mine step") => `(tactic| first | (k_unfold; (try dsimp only)) | (k_end; kc_close) | walk1 | (dsimp only; walk1) | (leave1; walk_say "STEP leave1"; (try dsimp only)))
local macro_rules | `(tactic| walk_at "mine cls") => `(tactic| (k_dflt (refine' call_cls ?k1 ?k2 ?k3 ?k4 ?k5 ?k6 ?_; (case k1 => k_asm); (case k2 => k_asm); (case k3 => k_asm); (case k4 => k_is); (case k5 => k_is); (case k6 => k_is); k_whole); intro x' d' h' F' N' l1 l2; (try k_lt l1); (try k_lt2 l2); (try k_sweep)))
local macro_rules | `(tactic| k_room) => `(tactic| ktr_room)
local macro_rules | `(tactic| walk_at "call type:list nil nil") => `(tactic| (k_here; k_dflt (refine' Mine.list0_N ?zF ?zN ?_; (case zF => k_asm); (case zN => k_asm)); intro D' c' h' F' N' l1; (try k_lt l1)))
local macro_rules | `(tactic| walk_at "call type:dict nil nil") => `(tactic| (k_here; k_dflt (refine' Mine.dict0_N ?zF ?zN ?_; (case zF => k_asm); (case zN => k_asm)); intro D' h' F' N' l1; (try k_lt l1)))
local macro_rules | `(tactic| walk_at "call type:dict") => `(tactic| (k_here; k_dflt (refine' Mine.dictCopy_K ?zF ?zX ?zN ?zl ?zk ?zn ?za ?zs ?_; (case zF => k_asm); (case zX => k_asm); (case zN => k_asm); (case zl => k_is); (case zk => k_keys); (case zn => first | decide +kernel | (simp only [Mine.kvOf, List.map_cons, List.map_nil]; decide +kernel)); (case za => decide); (case zs => exact Nat.le_of_ble_eq_true rfl)); intro D' h' F' N'))
local macro_rules | `(tactic| walk_at "compareOp Is ref ref") => `(tactic| with_reducible refine wpAny_is_ref_self ?_)
local macro_rules | `(tactic| ktr_units) => `(tactic| (have hcL9 := cLine_is; (try simp only [Mine.units_under_make, units_in1, units_deeper, Around.mark_units, units_caller] at *); (try dsimp only [ktrTop] at *); omega))
local macro_rules | `(tactic| walk_at "mine ks") => `(tactic| k_dflt (refine' ks_code_super ?k1 ?k2 ?k3 ?k4 ?k5 ?kA ?kF ?kK ?k6 ?k7 ?k8 ?k9 ?kB ?_ ?c1 ?c2 ?c3 ?c4; (case kA => exact rfl); (case kF => exact rfl); (case kK => first | exact rfl | assumption); (case k1 => k_asm); (case k2 => k_asm); (case k3 => k_asm); (case k4 => k_asm); (case k5 => k_asm); (case k6 => k_is); (case k7 => k_is); (case k8 => k_room); (case k9 => first | exact BindsTo.of_eq rfl | exact binds_K (by k_in) rfl (by k_is) rfl rfl rfl); (case kB => exact locs rfl); (case c1 => decide); (case c2 => exact rfl); (case c3 => exact rfl); (case c4 => exact rfl); intro g' L' h' FG' F' N' B' X' T' l1; (try k_lt l1); (try dsimp only); (try k_lift B')))
local macro_rules | `(tactic| walk_at "wpAt func") => `(tactic| ((try dsimp only); first
  | (k_dflt (ks_step "execs cons"; refine ks_wpAt_execs_cons ?_))
  | (k_dflt (ks_step "exec Expr"; refine ks_wpAt_Expr_any ?_))
  | (k_dflt (ks_step "exec Return"; refine ks_wpAt_Return_some ?_))
  | (k_dflt (ks_step "exec Assign"; first | refine ks_wpAt_Assign_Name ?_ | refine ks_wpAt_Assign_Attr ?_))
  | (k_dflt (ks_step "exec If"; refine ks_wpAt_If ?_))
  | (k_dflt (ks_step "eval Call"; refine ks_wpAt_MethodCall ?_))))
local macro_rules | `(tactic| walk_at "call type:set cons nil") => `(tactic| (k_here; k_dflt (refine' Mine.setTuple_N ?zF ?zN ?zh ?zl ?zi ?zb ?_; (case zF => k_asm); (case zN => k_asm); (case zh => rfl); (case zl => exact ⟨_, by k_mem, rfl, _, rfl⟩); (case zi => walk_at "mine strs"); (case zb => exact Nat.le_of_ble_eq_true rfl)); intro D' h' tk' F' N'))
local macro_rules | `(tactic| walk_at "mine strs") => `(tactic| first | exact Mine.strs2 _ _ _ _ | exact Mine.strs0)
local macro_rules | `(tactic| walk_at "mine ksr") => `(tactic| k_dflt (refine' Mine.ks_rest ?k1 ?k2 ?k3 ?k4 ?k5 ?kA ?kF ?kK ?k6 ?k7 ?k8 ?kV ?kP ?kG ?kB ?_ ?c1 ?c2 ?c3 ?c4; (case kA => exact rfl); (case kF => exact rfl); (case kK => first | exact rfl | assumption); (case k1 => k_asm); (case k2 => k_asm); (case k3 => k_asm); (case k4 => k_asm); (case k5 => k_asm); (case k6 => k_is); (case k7 => k_is); (case k8 => k_room); (case kV => kl_lit); (case kP => exact rfl); (case kG => exact fun _ => rfl); (case kB => exact fun _ => locs rfl); (case c1 => decide); (case c2 => exact rfl); (case c3 => exact rfl); (case c4 => exact rfl); intro D' g' L' h' l1 FG' F' N' B' X' T'; (try k_lt l1); (try dsimp only); (try k_lift B')))
def lRest (text : PySem.Str) : Bool := (text != PySem.Str.ofString "") && (PySem.Txt.item text 0 != PySem.Str.ofString "/") && noIn (PySem.Str.ofString "\n") (PySem.Txt.slice text (some 1) none)
theorem ld_rest {w : World} (text : PySem.Str) (t2 : Tok) (hlen : text.length ≤ 6) :
   BoolTell PySem.Challenge.rw_en5030_01.row.prog w (Mine.hd.heap_39 w.params) 493 [.str text t2] 1 Any9 (lRest text) := by
  w_top off
  k_fill
  intro p loose mean mg mb dp un gd cn cs a ccd cl outer A₀ base h₀ L m news s Q E B F X N T hk hOk hd hu hret
  refine wpAny_call ?_
  walk_at "mine enter"
  k_steps
  · have e1 : (text != PySem.Str.ofString "") = true := by assumption
    have e2 : (PySem.Txt.item text 0 != PySem.Str.ofString "/") = true := by assumption
    unfold lRest noIn at hret
    rw [e1, e2, Bool.true_and, Bool.true_and] at hret
    simp only [Bool.not_not]
    exact hret _ _ (by k_asm) (by k_asm)
  · have e1 : (text != PySem.Str.ofString "") = true := by assumption
    have e2 : (PySem.Txt.item text 0 != PySem.Str.ofString "/") = false := by assumption
    unfold lRest at hret
    rw [e1, e2, Bool.true_and, Bool.false_and] at hret
    rw [e2]
    exact hret _ _ (by k_asm) (by k_asm)
  · have e1 : (text != PySem.Str.ofString "") = false := by assumption
    unfold lRest at hret
    rw [e1, Bool.false_and, Bool.false_and] at hret
    rw [e1]
    exact hret _ _ (by k_asm) (by k_asm)
end Mine
namespace Mine
local macro_rules | `(tactic| walk_at "mine enterC") => `(tactic| k_dflt (refine' code_defC ?k1 ?k2 ?k3 ?k4 ?k5 ?kA ?kF ?kK ?k6 ?k7 ?k8 ?k9 ?kB ?kD ?_ ?c2 ?c3 ?c4; (case kA => exact rfl); (case kF => exact rfl); (case kK => assumption); (case k1 => k_asm); (case k2 => k_asm); (case k3 => k_asm); (case k4 => k_asm); (case k5 => k_asm); (case k6 => k_is); (case k7 => k_is); (case k8 => ktr_room); (case k9 => first | exact BindsTo.of_eq rfl | exact binds_K (by k_in) rfl (by k_is) rfl rfl rfl | fail "enterC: no rule for these arguments"); (case kB => exact rfl); (case kD => decide +kernel); (case c2 => exact rfl); (case c3 => exact rfl); (case c4 => exact rfl); k_whole; intro g' L' h' tk' cells' FG' F' N' Y' B' X' T' l1; (try k_lt l1); k_cells Y'; (try simp only [List.cons_append, List.nil_append] at N'); (try dsimp only); (try k_lift B'); (try k_fold)))
local macro_rules | `(tactic| k_all) => `(tactic| exact Mine.ne_of_all (by assumption) (by omega))
local macro_rules | `(tactic| walk_at "eval ListComp") => `(tactic| (k_here; lct_look; k_dflt (refine Mine.listComp_G (by k_asm) (by with_unfolding_all rfl) (by decide) (by rfl) (by decide) (by rfl) ?_)))
local macro_rules | `(tactic| walk_at "TestEnd") => `(tactic| (first | refine Mine.TestEnd.of ?_ (by k_asm) (by k_asm) (fun _ hp => hp) | refine Mine.TestEnd.of ?_ (by k_asm) (by k_asm) (by walk_at "mine sub")))
local macro_rules | `(tactic| walk_at "EltEnd") => `(tactic| (first | refine Mine.EltEnd.of ?_ (by k_asm) (by k_asm) (fun _ hp => hp) | refine Mine.EltEnd.of ?_ (by k_asm) (by k_asm) (by walk_at "mine sub")))
local macro_rules | `(tactic| walk_at "mine sub") => `(tactic| (intro p9 hp9; (repeat (first | exact hp9 | exact List.mem_append_left _ hp9 | refine List.mem_cons_of_mem _ ?_))))
local macro_rules | `(tactic| walk_at "mine sub1") => `(tactic| (intro p9 hp9; rcases List.mem_cons.mp hp9 with h9 | h9; (rw [h9]; exact List.mem_cons_self); (repeat (first | exact h9 | exact List.mem_append_left _ h9 | refine List.mem_cons_of_mem _ ?_))))
local macro_rules | `(tactic| walk_at "mine off") => `(tactic| first | assumption | exact And.right (by assumption) | exact And.right (And.right (by assumption)) | exact And.right (And.right (And.right (by assumption))))
local macro_rules | `(tactic| walk_at "mine tup") => `(tactic| first | assumption | exact Mine.TupIn.mono (by assumption) (by walk_at "mine sub"))
local macro_rules | `(tactic| walk_at "call builtin:isinstance") => `(tactic| ((with_reducible show wpAny _ _ (call (Value.builtin "isinstance") [Value.ref _, Value.type "tuple"]) _ _ _); refine' call_isinstance_yes (Heap.IsTuple.typeIs (Mine.TupIn.at ?tin ?tn)) meta_tuple PySem.F.isi_sub_tuple ?_; (case tn => k_asm); (case tin => walk_at "mine tup")))
local macro_rules | `(tactic| walk_at "mine enter") => `(tactic| k_dflt (refine' code_def ?k1 ?k2 ?k3 ?k4 ?k5 ?kA ?kF ?kK ?k6 ?k7 ?k8 ?k9 ?kB ?_ ?c2 ?c3 ?c4 ?c5; (case kA => exact rfl); (case kF => exact rfl); (case kK => assumption); (case k1 => k_asm); (case k2 => k_asm); (case k3 => k_asm); (case k4 => k_asm); (case k5 => k_asm); (case k6 => k_is); (case k7 => k_is); (case k8 => ktr_room); (case k9 => first | exact BindsTo.of_eq rfl | exact binds_K (by k_in) rfl (by k_is) rfl rfl rfl | fail "enter: no rule for these arguments"); (case c5 => decide); (case kB => exact locs rfl); (case c2 => exact rfl); (case c3 => exact rfl); (case c4 => exact rfl); k_whole; intro g' L' h' FG' F' N' B' X' T'; (try dsimp only); (try k_lift B'); (try k_fold)))
local macro_rules | `(tactic| walk_at "mine ok") => `(tactic| first | assumption | exact Mine.okText_slice (by assumption) _ _)
local macro_rules | `(tactic| walk_at "mine okn") => `(tactic| first | trivial | assumption | walk_at "mine tup")
local macro_rules | `(tactic| walk_at "exec Assign cons ListComp") => `(tactic| (k_here; lct_look; k_dflt (refine Mine.assign_listComp_G (by k_asm) (by rfl) (by with_unfolding_all rfl) (by with_unfolding_all rfl) (by decide) (by rfl) (by decide) (by rfl) (by rfl) (by rfl) ?_)))
local macro_rules | `(tactic| walk_at "mine okn") => `(tactic| exact ⟨_, by k_mem⟩)
local macro_rules | `(tactic| k_mem) => `(tactic| first | assumption | exact List.mem_cons_self | (refine List.mem_cons_of_mem _ ?_; k_mem) | (refine List.mem_append.mpr (Or.inl ?_); k_mem) | (refine List.mem_append.mpr (Or.inr ?_); k_mem))
local macro_rules | `(tactic| walk_at "subscriptTail Name Slice ref ref") => `(tactic| (k_here; (with_reducible show wpAny _ _ (subscriptTail _ (PySem.Expr.Slice none none (some _) _) (Value.ref _) (Value.ref _)) _ _ _); k_dflt (refine' krv_ints ?F ?N ?l ?k ?i ?_ ?s ?t ?z; (case F => k_asm); (case N => k_asm); (case l => is_list); (case k => exact IsPart.int _ _); (case i => assumption); (case s => with_unfolding_all rfl); (case t => kmk_pure); (case z => assumption)); intro D' ws' h' F' N' l1 hI' hC'))
local macro_rules | `(tactic| is_list) => `(tactic| exact News.isList (by k_asm) (by k_mem))
local macro_rules | `(tactic| walk_at "mine step") => `(tactic| first | (k_unfold; (try dsimp only)) | (k_end; kc_close) | walk1 | (dsimp only; walk1) | (leave1; walk_say "STEP leave1"; (try dsimp only)))
local macro_rules | `(tactic| walk_at "mine cls") => `(tactic| (k_dflt (refine' call_cls ?k1 ?k2 ?k3 ?k4 ?k5 ?k6 ?_; (case k1 => k_asm); (case k2 => k_asm); (case k3 => k_asm); (case k4 => k_is); (case k5 => k_is); (case k6 => k_is); k_whole); intro x' d' h' F' N' l1 l2; (try k_lt l1); (try k_lt2 l2); (try k_sweep)))
local macro_rules | `(tactic| k_room) => `(tactic| ktr_room)
local macro_rules | `(tactic| walk_at "call type:list nil nil") => `(tactic| (k_here; k_dflt (refine' Mine.list0_N ?zF ?zN ?_; (case zF => k_asm); (case zN => k_asm)); intro D' c' h' F' N' l1; (try k_lt l1)))
local macro_rules | `(tactic| walk_at "call type:dict nil nil") => `(tactic| (k_here; k_dflt (refine' Mine.dict0_N ?zF ?zN ?_; (case zF => k_asm); (case zN => k_asm)); intro D' h' F' N' l1; (try k_lt l1)))
local macro_rules | `(tactic| walk_at "call type:dict") => `(tactic| (k_here; k_dflt (refine' Mine.dictCopy_K ?zF ?zX ?zN ?zl ?zk ?zn ?za ?zs ?_; (case zF => k_asm); (case zX => k_asm); (case zN => k_asm); (case zl => k_is); (case zk => k_keys); (case zn => first | decide +kernel | (simp only [Mine.kvOf, List.map_cons, List.map_nil]; decide +kernel)); (case za => decide); (case zs => exact Nat.le_of_ble_eq_true rfl)); intro D' h' F' N'))
local macro_rules | `(tactic| walk_at "compareOp Is ref ref") => `(tactic| with_reducible refine wpAny_is_ref_self ?_)
local macro_rules | `(tactic| ktr_units) => `(tactic| (have hcL9 := cLine_is; (try simp only [Mine.units_under_make, units_in1, units_deeper, Around.mark_units, units_caller] at *); (try dsimp only [ktrTop] at *); omega))
local macro_rules | `(tactic| walk_at "mine ks") => `(tactic| k_dflt (refine' ks_code_super ?k1 ?k2 ?k3 ?k4 ?k5 ?kA ?kF ?kK ?k6 ?k7 ?k8 ?k9 ?kB ?_ ?c1 ?c2 ?c3 ?c4; (case kA => exact rfl); (case kF => exact rfl); (case kK => first | exact rfl | assumption); (case k1 => k_asm); (case k2 => k_asm); (case k3 => k_asm); (case k4 => k_asm); (case k5 => k_asm); (case k6 => k_is); (case k7 => k_is); (case k8 => k_room); (case k9 => first | exact BindsTo.of_eq rfl | exact binds_K (by k_in) rfl (by k_is) rfl rfl rfl); (case kB => exact locs rfl); (case c1 => decide); (case c2 => exact rfl); (case c3 => exact rfl); (case c4 => exact rfl); intro g' L' h' FG' F' N' B' X' T' l1; (try k_lt l1); (try dsimp only); (try k_lift B')))
local macro_rules | `(tactic| walk_at "wpAt func") => `(tactic| ((try dsimp only); first
  | (k_dflt (ks_step "execs cons"; refine ks_wpAt_execs_cons ?_))
  | (k_dflt (ks_step "exec Expr"; refine ks_wpAt_Expr_any ?_))
  | (k_dflt (ks_step "exec Return"; refine ks_wpAt_Return_some ?_))
  | (k_dflt (ks_step "exec Assign"; first | refine ks_wpAt_Assign_Name ?_ | refine ks_wpAt_Assign_Attr ?_))
  | (k_dflt (ks_step "exec If"; refine ks_wpAt_If ?_))
  | (k_dflt (ks_step "eval Call"; refine ks_wpAt_MethodCall ?_))))
local macro_rules | `(tactic| walk_at "call type:set cons nil") => `(tactic| (k_here; k_dflt (refine' Mine.setTuple_N ?zF ?zN ?zh ?zl ?zi ?zb ?_; (case zF => k_asm); (case zN => k_asm); (case zh => rfl); (case zl => exact ⟨_, by k_mem, rfl, _, rfl⟩); (case zi => walk_at "mine strs"); (case zb => exact Nat.le_of_ble_eq_true rfl)); intro D' h' tk' F' N'))
local macro_rules | `(tactic| walk_at "mine strs") => `(tactic| first | exact Mine.strs2 _ _ _ _ | exact Mine.strs0)
local macro_rules | `(tactic| walk_at "mine ksr") => `(tactic| k_dflt (refine' Mine.ks_rest ?k1 ?k2 ?k3 ?k4 ?k5 ?kA ?kF ?kK ?k6 ?k7 ?k8 ?kV ?kP ?kG ?kB ?_ ?c1 ?c2 ?c3 ?c4; (case kA => exact rfl); (case kF => exact rfl); (case kK => first | exact rfl | assumption); (case k1 => k_asm); (case k2 => k_asm); (case k3 => k_asm); (case k4 => k_asm); (case k5 => k_asm); (case k6 => k_is); (case k7 => k_is); (case k8 => k_room); (case kV => kl_lit); (case kP => exact rfl); (case kG => exact fun _ => rfl); (case kB => exact fun _ => locs rfl); (case c1 => decide); (case c2 => exact rfl); (case c3 => exact rfl); (case c4 => exact rfl); intro D' g' L' h' l1 FG' F' N' B' X' T'; (try k_lt l1); (try dsimp only); (try k_lift B')))
def lFree (text : PySem.Str) (a1 : Int) (a2 : Option Int) : Bool := noIn (PySem.Str.ofString "/") text && decide (a1 ≤ text.length) && (match a2 with | none => true | some b => decide ((text.length : Int) ≤ b))
theorem ld_free_some {w : World} (text : PySem.Str) (t2 t3 t4 : Tok) (hlen : text.length ≤ 6) (a1 a2 : Int) :
   BoolTell PySem.Challenge.rw_en5030_01.row.prog w (Mine.hd.heap_39 w.params) 486 [.str text t2, .int a1 t3, .int a2 t4] 1 Any9 (lFree text a1 (some a2)) := by
  w_top off
  k_fill
  intro p loose mean mg mb dp un gd cn cs a ccd cl outer A₀ base h₀ L m news s Q E B F X N T hk hOk hd hu hret
  refine wpAny_call ?_
  walk_at "mine enter"
  k_steps
  · have e1 : noIn (PySem.Str.ofString "/") text = true := by assumption
    have e2 : a1 ≤ (text.length : Int) := by assumption
    unfold lFree at hret
    rw [e1, decide_eq_true e2, Bool.true_and, Bool.true_and] at hret
    exact hret _ _ (by k_asm) (by k_asm)
  · have e1 : noIn (PySem.Str.ofString "/") text = true := by assumption
    have e2 : ¬ a1 ≤ (text.length : Int) := by assumption
    unfold lFree at hret
    rw [e1, decide_eq_false e2, Bool.true_and, Bool.false_and] at hret
    rw [decide_eq_false e2]
    exact hret _ _ (by k_asm) (by k_asm)
  · have e1 : noIn (PySem.Str.ofString "/") text = false := by assumption
    unfold lFree at hret
    rw [e1, Bool.false_and, Bool.false_and] at hret
    simp only [Bool.not_not]
    rw [show (Builtin.Str.occurrences text (PySem.Str.ofString "/") 0 text.length 1).isEmpty = false from e1]
    exact hret _ _ (by k_asm) (by k_asm)
theorem ld_free_none {w : World} (text : PySem.Str) (t2 t3 : Tok) (hlen : text.length ≤ 6) (a1 : Int) :
   BoolTell PySem.Challenge.rw_en5030_01.row.prog w (Mine.hd.heap_39 w.params) 486 [.str text t2, .int a1 t3, .none] 1 Any9 (lFree text a1 none) := by
  w_top off
  k_fill
  intro p loose mean mg mb dp un gd cn cs a ccd cl outer A₀ base h₀ L m news s Q E B F X N T hk hOk hd hu hret
  refine wpAny_call ?_
  walk_at "mine enter"
  k_steps
  · have e1 : noIn (PySem.Str.ofString "/") text = true := by assumption
    have e2 : a1 ≤ (text.length : Int) := by assumption
    unfold lFree at hret
    rw [e1, decide_eq_true e2, Bool.true_and, Bool.true_and] at hret
    exact hret _ _ (by k_asm) (by k_asm)
  · have e1 : noIn (PySem.Str.ofString "/") text = true := by assumption
    have e2 : ¬ a1 ≤ (text.length : Int) := by assumption
    unfold lFree at hret
    rw [e1, decide_eq_false e2, Bool.true_and, Bool.false_and] at hret
    rw [decide_eq_false e2]
    exact hret _ _ (by k_asm) (by k_asm)
  · have e1 : noIn (PySem.Str.ofString "/") text = false := by assumption
    unfold lFree at hret
    rw [e1, Bool.false_and, Bool.false_and] at hret
    simp only [Bool.not_not]
    rw [show (Builtin.Str.occurrences text (PySem.Str.ofString "/") 0 text.length 1).isEmpty = false from e1]
    exact hret _ _ (by k_asm) (by k_asm)
end Mine
namespace Mine
local macro_rules | `(tactic| walk_at "mine enterC") => `(tactic| k_dflt (refine' code_defC ?k1 ?k2 ?k3 ?k4 ?k5 ?kA ?kF ?kK ?k6 ?k7 ?k8 ?k9 ?kB ?kD ?_ ?c2 ?c3 ?c4; (case kA => exact rfl); (case kF => exact rfl); (case kK => assumption); (case k1 => k_asm); (case k2 => k_asm); (case k3 => k_asm); (case k4 => k_asm); (case k5 => k_asm); (case k6 => k_is); (case k7 => k_is); (case k8 => ktr_room); (case k9 => first | exact BindsTo.of_eq rfl | exact binds_K (by k_in) rfl (by k_is) rfl rfl rfl | fail "enterC: no rule for these arguments"); (case kB => exact rfl); (case kD => decide +kernel); (case c2 => exact rfl); (case c3 => exact rfl); (case c4 => exact rfl); k_whole; intro g' L' h' tk' cells' FG' F' N' Y' B' X' T' l1; (try k_lt l1); k_cells Y'; (try simp only [List.cons_append, List.nil_append] at N'); (try dsimp only); (try k_lift B'); (try k_fold)))
local macro_rules | `(tactic| k_all) => `(tactic| exact Mine.ne_of_all (by assumption) (by omega))
local macro_rules | `(tactic| walk_at "eval ListComp") => `(tactic| (k_here; lct_look; k_dflt (refine Mine.listComp_G (by k_asm) (by with_unfolding_all rfl) (by decide) (by rfl) (by decide) (by rfl) ?_)))
local macro_rules | `(tactic| walk_at "TestEnd") => `(tactic| (first | refine Mine.TestEnd.of ?_ (by k_asm) (by k_asm) (fun _ hp => hp) | refine Mine.TestEnd.of ?_ (by k_asm) (by k_asm) (by walk_at "mine sub")))
local macro_rules | `(tactic| walk_at "EltEnd") => `(tactic| (first | refine Mine.EltEnd.of ?_ (by k_asm) (by k_asm) (fun _ hp => hp) | refine Mine.EltEnd.of ?_ (by k_asm) (by k_asm) (by walk_at "mine sub")))
local macro_rules | `(tactic| walk_at "mine sub") => `(tactic| (intro p9 hp9; (repeat (first | exact hp9 | exact List.mem_append_left _ hp9 | refine List.mem_cons_of_mem _ ?_))))
local macro_rules | `(tactic| walk_at "mine sub1") => `(tactic| (intro p9 hp9; rcases List.mem_cons.mp hp9 with h9 | h9; (rw [h9]; exact List.mem_cons_self); (repeat (first | exact h9 | exact List.mem_append_left _ h9 | refine List.mem_cons_of_mem _ ?_))))
local macro_rules | `(tactic| walk_at "mine off") => `(tactic| first | assumption | exact And.right (by assumption) | exact And.right (And.right (by assumption)) | exact And.right (And.right (And.right (by assumption))))
local macro_rules | `(tactic| walk_at "mine tup") => `(tactic| first | assumption | exact Mine.TupIn.mono (by assumption) (by walk_at "mine sub"))
local macro_rules | `(tactic| walk_at "call builtin:isinstance") => `(tactic| ((with_reducible show wpAny _ _ (call (Value.builtin "isinstance") [Value.ref _, Value.type "tuple"]) _ _ _); refine' call_isinstance_yes (Heap.IsTuple.typeIs (Mine.TupIn.at ?tin ?tn)) meta_tuple PySem.F.isi_sub_tuple ?_; (case tn => k_asm); (case tin => walk_at "mine tup")))
local macro_rules | `(tactic| walk_at "mine enter") => `(tactic| k_dflt (refine' code_def ?k1 ?k2 ?k3 ?k4 ?k5 ?kA ?kF ?kK ?k6 ?k7 ?k8 ?k9 ?kB ?_ ?c2 ?c3 ?c4 ?c5; (case kA => exact rfl); (case kF => exact rfl); (case kK => assumption); (case k1 => k_asm); (case k2 => k_asm); (case k3 => k_asm); (case k4 => k_asm); (case k5 => k_asm); (case k6 => k_is); (case k7 => k_is); (case k8 => ktr_room); (case k9 => first | exact BindsTo.of_eq rfl | exact binds_K (by k_in) rfl (by k_is) rfl rfl rfl | fail "enter: no rule for these arguments"); (case c5 => decide); (case kB => exact locs rfl); (case c2 => exact rfl); (case c3 => exact rfl); (case c4 => exact rfl); k_whole; intro g' L' h' FG' F' N' B' X' T'; (try dsimp only); (try k_lift B'); (try k_fold)))
local macro_rules | `(tactic| walk_at "mine ok") => `(tactic| first | assumption | exact Mine.okText_slice (by assumption) _ _)
local macro_rules | `(tactic| walk_at "mine okn") => `(tactic| first | trivial | assumption | walk_at "mine tup")
local macro_rules | `(tactic| walk_at "exec Assign cons ListComp") => `(tactic| (k_here; lct_look; k_dflt (refine Mine.assign_listComp_G (by k_asm) (by rfl) (by with_unfolding_all rfl) (by with_unfolding_all rfl) (by decide) (by rfl) (by decide) (by rfl) (by rfl) (by rfl) ?_)))
local macro_rules | `(tactic| walk_at "mine okn") => `(tactic| exact ⟨_, by k_mem⟩)
local macro_rules | `(tactic| k_mem) => `(tactic| first | assumption | exact List.mem_cons_self | (refine List.mem_cons_of_mem _ ?_; k_mem) | (refine List.mem_append.mpr (Or.inl ?_); k_mem) | (refine List.mem_append.mpr (Or.inr ?_); k_mem))
local macro_rules | `(tactic| walk_at "subscriptTail Name Slice ref ref") => `(tactic| (k_here; (with_reducible show wpAny _ _ (subscriptTail _ (PySem.Expr.Slice none none (some _) _) (Value.ref _) (Value.ref _)) _ _ _); k_dflt (refine' krv_ints ?F ?N ?l ?k ?i ?_ ?s ?t ?z; (case F => k_asm); (case N => k_asm); (case l => is_list); (case k => exact IsPart.int _ _); (case i => assumption); (case s => with_unfolding_all rfl); (case t => kmk_pure); (case z => assumption)); intro D' ws' h' F' N' l1 hI' hC'))
local macro_rules | `(tactic| is_list) => `(tactic| exact News.isList (by k_asm) (by k_mem))
local macro_rules | `(tactic| walk_at "mine step") => `(tactic| first | (k_unfold; (try dsimp only)) | (k_end; kc_close) | walk1 | (dsimp only; walk1) | (leave1; walk_say "STEP leave1"; (try dsimp only)))
local macro_rules | `(tactic| walk_at "mine cls") => `(tactic| (k_dflt (refine' call_cls ?k1 ?k2 ?k3 ?k4 ?k5 ?k6 ?_; (case k1 => k_asm); (case k2 => k_asm); (case k3 => k_asm); (case k4 => k_is); (case k5 => k_is); (case k6 => k_is); k_whole); intro x' d' h' F' N' l1 l2; (try k_lt l1); (try k_lt2 l2); (try k_sweep)))
local macro_rules | `(tactic| k_room) => `(tactic| ktr_room)
local macro_rules | `(tactic| walk_at "call type:list nil nil") => `(tactic| (k_here; k_dflt (refine' Mine.list0_N ?zF ?zN ?_; (case zF => k_asm); (case zN => k_asm)); intro D' c' h' F' N' l1; (try k_lt l1)))
local macro_rules | `(tactic| walk_at "call type:dict nil nil") => `(tactic| (k_here; k_dflt (refine' Mine.dict0_N ?zF ?zN ?_; (case zF => k_asm); (case zN => k_asm)); intro D' h' F' N' l1; (try k_lt l1)))
local macro_rules | `(tactic| walk_at "call type:dict") => `(tactic| (k_here; k_dflt (refine' Mine.dictCopy_K ?zF ?zX ?zN ?zl ?zk ?zn ?za ?zs ?_; (case zF => k_asm); (case zX => k_asm); (case zN => k_asm); (case zl => k_is); (case zk => k_keys); (case zn => first | decide +kernel | (simp only [Mine.kvOf, List.map_cons, List.map_nil]; decide +kernel)); (case za => decide); (case zs => exact Nat.le_of_ble_eq_true rfl)); intro D' h' F' N'))
local macro_rules | `(tactic| walk_at "compareOp Is ref ref") => `(tactic| with_reducible refine wpAny_is_ref_self ?_)
local macro_rules | `(tactic| ktr_units) => `(tactic| (have hcL9 := cLine_is; (try simp only [Mine.units_under_make, units_in1, units_deeper, Around.mark_units, units_caller] at *); (try dsimp only [ktrTop] at *); omega))
local macro_rules | `(tactic| walk_at "mine ks") => `(tactic| k_dflt (refine' ks_code_super ?k1 ?k2 ?k3 ?k4 ?k5 ?kA ?kF ?kK ?k6 ?k7 ?k8 ?k9 ?kB ?_ ?c1 ?c2 ?c3 ?c4; (case kA => exact rfl); (case kF => exact rfl); (case kK => first | exact rfl | assumption); (case k1 => k_asm); (case k2 => k_asm); (case k3 => k_asm); (case k4 => k_asm); (case k5 => k_asm); (case k6 => k_is); (case k7 => k_is); (case k8 => k_room); (case k9 => first | exact BindsTo.of_eq rfl | exact binds_K (by k_in) rfl (by k_is) rfl rfl rfl); (case kB => exact locs rfl); (case c1 => decide); (case c2 => exact rfl); (case c3 => exact rfl); (case c4 => exact rfl); intro g' L' h' FG' F' N' B' X' T' l1; (try k_lt l1); (try dsimp only); (try k_lift B')))
local macro_rules | `(tactic| walk_at "wpAt func") => `(tactic| ((try dsimp only); first
  | (k_dflt (ks_step "execs cons"; refine ks_wpAt_execs_cons ?_))
  | (k_dflt (ks_step "exec Expr"; refine ks_wpAt_Expr_any ?_))
  | (k_dflt (ks_step "exec Return"; refine ks_wpAt_Return_some ?_))
  | (k_dflt (ks_step "exec Assign"; first | refine ks_wpAt_Assign_Name ?_ | refine ks_wpAt_Assign_Attr ?_))
  | (k_dflt (ks_step "exec If"; refine ks_wpAt_If ?_))
  | (k_dflt (ks_step "eval Call"; refine ks_wpAt_MethodCall ?_))))
local macro_rules | `(tactic| walk_at "call type:set cons nil") => `(tactic| (k_here; k_dflt (refine' Mine.setTuple_N ?zF ?zN ?zh ?zl ?zi ?zb ?_; (case zF => k_asm); (case zN => k_asm); (case zh => rfl); (case zl => exact ⟨_, by k_mem, rfl, _, rfl⟩); (case zi => walk_at "mine strs"); (case zb => exact Nat.le_of_ble_eq_true rfl)); intro D' h' tk' F' N'))
local macro_rules | `(tactic| walk_at "mine strs") => `(tactic| first | exact Mine.strs2 _ _ _ _ | exact Mine.strs0)
local macro_rules | `(tactic| walk_at "mine ksr") => `(tactic| k_dflt (refine' Mine.ks_rest ?k1 ?k2 ?k3 ?k4 ?k5 ?kA ?kF ?kK ?k6 ?k7 ?k8 ?kV ?kP ?kG ?kB ?_ ?c1 ?c2 ?c3 ?c4; (case kA => exact rfl); (case kF => exact rfl); (case kK => first | exact rfl | assumption); (case k1 => k_asm); (case k2 => k_asm); (case k3 => k_asm); (case k4 => k_asm); (case k5 => k_asm); (case k6 => k_is); (case k7 => k_is); (case k8 => k_room); (case kV => kl_lit); (case kP => exact rfl); (case kG => exact fun _ => rfl); (case kB => exact fun _ => locs rfl); (case c1 => decide); (case c2 => exact rfl); (case c3 => exact rfl); (case c4 => exact rfl); intro D' g' L' h' l1 FG' F' N' B' X' T'; (try k_lt l1); (try dsimp only); (try k_lift B')))
inductive Kind9
  | number | signed | rest
  | free (least : Int) (most : Option Int)
def lSigned (t : PySem.Str) : Bool := lDigits (if (PySem.Txt.slice t none (some 1) == PySem.Str.ofString "-") = true then PySem.Txt.slice t (some 1) none else t)
local macro_rules | `(tactic| walk_at "call ref") => `(tactic| (k_here; k_dflt (refine' Mine.boolTell_use (Mine.ld_digits _ _ ?zo) ?z1 ?z2 ?z3 ?z4 ?z5 ?z6 ?z7 ?z8 ?z9 ?_; (case zo => walk_at "mine ok"); (case z1 => k_asm); (case z2 => k_asm); (case z3 => k_asm); (case z4 => k_asm); (case z5 => k_asm); (case z6 => first | exact rfl | assumption); (case z7 => walk_at "mine okn"); (case z8 => ktr_room); (case z9 => ktr_units)); intro h9 tk9 F9 N9; (try dsimp only); (try k_fold)))
local macro_rules | `(tactic| walk_at "call ref") => `(tactic| (k_here; k_dflt (refine' Mine.boolTell_use (Mine.ld_rest _ _ ?zo) ?z1 ?z2 ?z3 ?z4 ?z5 ?z6 ?z7 ?z8 ?z9 ?_; (case zo => exact (show Mine.okText _ from by walk_at "mine ok").1); (case z1 => k_asm); (case z2 => k_asm); (case z3 => k_asm); (case z4 => k_asm); (case z5 => k_asm); (case z6 => first | exact rfl | assumption); (case z7 => walk_at "mine okn"); (case z8 => ktr_room); (case z9 => ktr_units)); intro h9 tk9 F9 N9; (try dsimp only); (try k_fold)))
local macro_rules | `(tactic| walk_at "call ref") => `(tactic| (k_here; k_dflt (refine' Mine.boolTell_use (Mine.ld_free_some _ _ _ _ ?zo _ _) ?z1 ?z2 ?z3 ?z4 ?z5 ?z6 ?z7 ?z8 ?z9 ?_; (case zo => exact (show Mine.okText _ from by walk_at "mine ok").1); (case z1 => k_asm); (case z2 => k_asm); (case z3 => k_asm); (case z4 => k_asm); (case z5 => k_asm); (case z6 => first | exact rfl | assumption); (case z7 => walk_at "mine okn"); (case z8 => ktr_room); (case z9 => ktr_units)); intro h9 tk9 F9 N9; (try dsimp only); (try k_fold)))
local macro_rules | `(tactic| walk_at "call ref") => `(tactic| (k_here; k_dflt (refine' Mine.boolTell_use (Mine.ld_free_none _ _ _ ?zo _) ?z1 ?z2 ?z3 ?z4 ?z5 ?z6 ?z7 ?z8 ?z9 ?_; (case zo => exact (show Mine.okText _ from by walk_at "mine ok").1); (case z1 => k_asm); (case z2 => k_asm); (case z3 => k_asm); (case z4 => k_asm); (case z5 => k_asm); (case z6 => first | exact rfl | assumption); (case z7 => walk_at "mine okn"); (case z8 => ktr_room); (case z9 => ktr_units)); intro h9 tk9 F9 N9; (try dsimp only); (try k_fold)))
local macro_rules | `(tactic| walk_at "compareOp Eq ref str") => `(tactic| (k_here; k_dflt (refine eq_dataH (by ke_read) (by ke_read) (by ke_shaped) (by ke_shaped) (by ke_room) ?_); ke_norm))
theorem lf_number {w : World} (text : PySem.Str) (t1 t2 : Tok) (hok : okText text) :
   BoolTell PySem.Challenge.rw_en5030_01.row.prog w (Mine.hd.heap_39 w.params) 500 [.str (PySem.Str.ofString "number") t1, .str text t2] 2 Any9 (lDigits text) := by
  w_top off
  k_fill
  intro p loose mean mg mb dp un gd cn cs a ccd cl outer A₀ base h₀ L m news s Q E B F X N T hk hOk hd hu hret
  have hlen : text.length ≤ 6 := hok.1
  refine wpAny_call ?_
  walk_at "mine enter"
  k_steps
  all_goals exact hret _ _ (by k_asm) (by k_asm)
theorem lf_signed {w : World} (text : PySem.Str) (t1 t2 : Tok) (hok : okText text) :
   BoolTell PySem.Challenge.rw_en5030_01.row.prog w (Mine.hd.heap_39 w.params) 500 [.str (PySem.Str.ofString "signed") t1, .str text t2] 2 Any9 (lSigned text) := by
  w_top off
  k_fill
  intro p loose mean mg mb dp un gd cn cs a ccd cl outer A₀ base h₀ L m news s Q E B F X N T hk hOk hd hu hret
  have hlen : text.length ≤ 6 := hok.1
  refine wpAny_call ?_
  walk_at "mine enter"
  k_steps
  · have e : (PySem.Txt.slice text none (some 1) == PySem.Str.ofString "-") = true := by assumption
    unfold lSigned at hret
    rw [if_pos e] at hret
    exact hret _ _ (by k_asm) (by k_asm)
  · have e : (PySem.Txt.slice text none (some 1) == PySem.Str.ofString "-") = false := by assumption
    unfold lSigned at hret
    rw [if_neg (by rw [e]; decide)] at hret
    exact hret _ _ (by k_asm) (by k_asm)
theorem lf_rest {w : World} (text : PySem.Str) (t1 t2 : Tok) (hok : okText text) :
   BoolTell PySem.Challenge.rw_en5030_01.row.prog w (Mine.hd.heap_39 w.params) 500 [.str (PySem.Str.ofString "rest") t1, .str text t2] 2 Any9 (lRest text) := by
  w_top off
  k_fill
  intro p loose mean mg mb dp un gd cn cs a ccd cl outer A₀ base h₀ L m news s Q E B F X N T hk hOk hd hu hret
  have hlen : text.length ≤ 6 := hok.1
  refine wpAny_call ?_
  walk_at "mine enter"
  k_steps
  all_goals exact hret _ _ (by k_asm) (by k_asm)
theorem lf_free_none {w : World} (text : PySem.Str) (t1 t2 : Tok) (r : Addr) (a1 a2 : Int) (t3 t4 : Tok) (hok : okText text) :
   BoolTell PySem.Challenge.rw_en5030_01.row.prog w (Mine.hd.heap_39 w.params) 500 [.ref r, .str text t2] 2 (fun nw => ∃ k, (r, ({ cls := .type "tuple", data := .seq #[.int a1 t3, .none] k } : Obj)) ∈ nw) (lFree text a1 none) := by
  w_top off
  k_fill
  intro p loose mean mg mb dp un gd cn cs a ccd cl outer A₀ base h₀ L m news s Q E B F X N T hk hOk hd hu hret
  have hlen : text.length ≤ 6 := hok.1
  obtain ⟨k9, hmem⟩ := hOk
  refine wpAny_call ?_
  walk_at "mine enter"
  k_steps
  all_goals exact hret _ _ (by k_asm) (by k_asm)
theorem lf_free_some {w : World} (text : PySem.Str) (t1 t2 : Tok) (r : Addr) (a1 a2 : Int) (t3 t4 : Tok) (hok : okText text) :
   BoolTell PySem.Challenge.rw_en5030_01.row.prog w (Mine.hd.heap_39 w.params) 500 [.ref r, .str text t2] 2 (fun nw => ∃ k, (r, ({ cls := .type "tuple", data := .seq #[.int a1 t3, .int a2 t4] k } : Obj)) ∈ nw) (lFree text a1 (some a2)) := by
  w_top off
  k_fill
  intro p loose mean mg mb dp un gd cn cs a ccd cl outer A₀ base h₀ L m news s Q E B F X N T hk hOk hd hu hret
  have hlen : text.length ≤ 6 := hok.1
  obtain ⟨k9, hmem⟩ := hOk
  refine wpAny_call ?_
  walk_at "mine enter"
  k_steps
  all_goals exact hret _ _ (by k_asm) (by k_asm)
end Mine
namespace Mine
local macro_rules | `(tactic| walk_at "mine enterC") => `(tactic| k_dflt (refine' code_defC ?k1 ?k2 ?k3 ?k4 ?k5 ?kA ?kF ?kK ?k6 ?k7 ?k8 ?k9 ?kB ?kD ?_ ?c2 ?c3 ?c4; (case kA => exact rfl); (case kF => exact rfl); (case kK => assumption); (case k1 => k_asm); (case k2 => k_asm); (case k3 => k_asm); (case k4 => k_asm); (case k5 => k_asm); (case k6 => k_is); (case k7 => k_is); (case k8 => ktr_room); (case k9 => first | exact BindsTo.of_eq rfl | exact binds_K (by k_in) rfl (by k_is) rfl rfl rfl | fail "enterC: no rule for these arguments"); (case kB => exact rfl); (case kD => decide +kernel); (case c2 => exact rfl); (case c3 => exact rfl); (case c4 => exact rfl); k_whole; intro g' L' h' tk' cells' FG' F' N' Y' B' X' T' l1; (try k_lt l1); k_cells Y'; (try simp only [List.cons_append, List.nil_append] at N'); (try dsimp only); (try k_lift B'); (try k_fold)))
local macro_rules | `(tactic| k_all) => `(tactic| exact Mine.ne_of_all (by assumption) (by omega))
local macro_rules | `(tactic| walk_at "eval ListComp") => `(tactic| (k_here; lct_look; k_dflt (refine Mine.listComp_G (by k_asm) (by with_unfolding_all rfl) (by decide) (by rfl) (by decide) (by rfl) ?_)))
local macro_rules | `(tactic| walk_at "TestEnd") => `(tactic| (first | refine Mine.TestEnd.of ?_ (by k_asm) (by k_asm) (fun _ hp => hp) | refine Mine.TestEnd.of ?_ (by k_asm) (by k_asm) (by walk_at "mine sub")))
local macro_rules | `(tactic| walk_at "EltEnd") => `(tactic| (first | refine Mine.EltEnd.of ?_ (by k_asm) (by k_asm) (fun _ hp => hp) | refine Mine.EltEnd.of ?_ (by k_asm) (by k_asm) (by walk_at "mine sub")))
local macro_rules | `(tactic| walk_at "mine sub") => `(tactic| (intro p9 hp9; (repeat (first | exact hp9 | exact List.mem_append_left _ hp9 | refine List.mem_cons_of_mem _ ?_))))
local macro_rules | `(tactic| walk_at "mine sub1") => `(tactic| (intro p9 hp9; rcases List.mem_cons.mp hp9 with h9 | h9; (rw [h9]; exact List.mem_cons_self); (repeat (first | exact h9 | exact List.mem_append_left _ h9 | refine List.mem_cons_of_mem _ ?_))))
local macro_rules | `(tactic| walk_at "mine off") => `(tactic| first | assumption | exact And.right (by assumption) | exact And.right (And.right (by assumption)) | exact And.right (And.right (And.right (by assumption))))
local macro_rules | `(tactic| walk_at "mine tup") => `(tactic| first | assumption | exact Mine.TupIn.mono (by assumption) (by walk_at "mine sub"))
local macro_rules | `(tactic| walk_at "call builtin:isinstance") => `(tactic| ((with_reducible show wpAny _ _ (call (Value.builtin "isinstance") [Value.ref _, Value.type "tuple"]) _ _ _); refine' call_isinstance_yes (Heap.IsTuple.typeIs (Mine.TupIn.at ?tin ?tn)) meta_tuple PySem.F.isi_sub_tuple ?_; (case tn => k_asm); (case tin => walk_at "mine tup")))
local macro_rules | `(tactic| walk_at "mine enter") => `(tactic| k_dflt (refine' code_def ?k1 ?k2 ?k3 ?k4 ?k5 ?kA ?kF ?kK ?k6 ?k7 ?k8 ?k9 ?kB ?_ ?c2 ?c3 ?c4 ?c5; (case kA => exact rfl); (case kF => exact rfl); (case kK => assumption); (case k1 => k_asm); (case k2 => k_asm); (case k3 => k_asm); (case k4 => k_asm); (case k5 => k_asm); (case k6 => k_is); (case k7 => k_is); (case k8 => ktr_room); (case k9 => first | exact BindsTo.of_eq rfl | exact binds_K (by k_in) rfl (by k_is) rfl rfl rfl | fail "enter: no rule for these arguments"); (case c5 => decide); (case kB => exact locs rfl); (case c2 => exact rfl); (case c3 => exact rfl); (case c4 => exact rfl); k_whole; intro g' L' h' FG' F' N' B' X' T'; (try dsimp only); (try k_lift B'); (try k_fold)))
local macro_rules | `(tactic| walk_at "mine ok") => `(tactic| first | assumption | exact Mine.okText_slice (by assumption) _ _)
local macro_rules | `(tactic| walk_at "mine okn") => `(tactic| first | trivial | assumption | walk_at "mine tup")
local macro_rules | `(tactic| walk_at "exec Assign cons ListComp") => `(tactic| (k_here; lct_look; k_dflt (refine Mine.assign_listComp_G (by k_asm) (by rfl) (by with_unfolding_all rfl) (by with_unfolding_all rfl) (by decide) (by rfl) (by decide) (by rfl) (by rfl) (by rfl) ?_)))
local macro_rules | `(tactic| walk_at "mine okn") => `(tactic| exact ⟨_, by k_mem⟩)
local macro_rules | `(tactic| k_mem) => `(tactic| first | assumption | exact List.mem_cons_self | (refine List.mem_cons_of_mem _ ?_; k_mem) | (refine List.mem_append.mpr (Or.inl ?_); k_mem) | (refine List.mem_append.mpr (Or.inr ?_); k_mem))
local macro_rules | `(tactic| walk_at "subscriptTail Name Slice ref ref") => `(tactic| (k_here; (with_reducible show wpAny _ _ (subscriptTail _ (PySem.Expr.Slice none none (some _) _) (Value.ref _) (Value.ref _)) _ _ _); k_dflt (refine' krv_ints ?F ?N ?l ?k ?i ?_ ?s ?t ?z; (case F => k_asm); (case N => k_asm); (case l => is_list); (case k => exact IsPart.int _ _); (case i => assumption); (case s => with_unfolding_all rfl); (case t => kmk_pure); (case z => assumption)); intro D' ws' h' F' N' l1 hI' hC'))
local macro_rules | `(tactic| is_list) => `(tactic| exact News.isList (by k_asm) (by k_mem))
local macro_rules | `(tactic| walk_at "mine step") => `(tactic| first | (k_unfold; (try dsimp only)) | (k_end; kc_close) | walk1 | (dsimp only; walk1) | (leave1; walk_say "STEP leave1"; (try dsimp only)))
local macro_rules | `(tactic| walk_at "mine cls") => `(tactic| (k_dflt (refine' call_cls ?k1 ?k2 ?k3 ?k4 ?k5 ?k6 ?_; (case k1 => k_asm); (case k2 => k_asm); (case k3 => k_asm); (case k4 => k_is); (case k5 => k_is); (case k6 => k_is); k_whole); intro x' d' h' F' N' l1 l2; (try k_lt l1); (try k_lt2 l2); (try k_sweep)))
local macro_rules | `(tactic| k_room) => `(tactic| ktr_room)
local macro_rules | `(tactic| walk_at "call type:list nil nil") => `(tactic| (k_here; k_dflt (refine' Mine.list0_N ?zF ?zN ?_; (case zF => k_asm); (case zN => k_asm)); intro D' c' h' F' N' l1; (try k_lt l1)))
local macro_rules | `(tactic| walk_at "call type:dict nil nil") => `(tactic| (k_here; k_dflt (refine' Mine.dict0_N ?zF ?zN ?_; (case zF => k_asm); (case zN => k_asm)); intro D' h' F' N' l1; (try k_lt l1)))
local macro_rules | `(tactic| walk_at "call type:dict") => `(tactic| (k_here; k_dflt (refine' Mine.dictCopy_K ?zF ?zX ?zN ?zl ?zk ?zn ?za ?zs ?_; (case zF => k_asm); (case zX => k_asm); (case zN => k_asm); (case zl => k_is); (case zk => k_keys); (case zn => first | decide +kernel | (simp only [Mine.kvOf, List.map_cons, List.map_nil]; decide +kernel)); (case za => decide); (case zs => exact Nat.le_of_ble_eq_true rfl)); intro D' h' F' N'))
local macro_rules | `(tactic| walk_at "compareOp Is ref ref") => `(tactic| with_reducible refine wpAny_is_ref_self ?_)
local macro_rules | `(tactic| ktr_units) => `(tactic| (have hcL9 := cLine_is; (try simp only [Mine.units_under_make, units_in1, units_deeper, Around.mark_units, units_caller] at *); (try dsimp only [ktrTop] at *); omega))
local macro_rules | `(tactic| walk_at "mine ks") => `(tactic| k_dflt (refine' ks_code_super ?k1 ?k2 ?k3 ?k4 ?k5 ?kA ?kF ?kK ?k6 ?k7 ?k8 ?k9 ?kB ?_ ?c1 ?c2 ?c3 ?c4; (case kA => exact rfl); (case kF => exact rfl); (case kK => first | exact rfl | assumption); (case k1 => k_asm); (case k2 => k_asm); (case k3 => k_asm); (case k4 => k_asm); (case k5 => k_asm); (case k6 => k_is); (case k7 => k_is); (case k8 => k_room); (case k9 => first | exact BindsTo.of_eq rfl | exact binds_K (by k_in) rfl (by k_is) rfl rfl rfl); (case kB => exact locs rfl); (case c1 => decide); (case c2 => exact rfl); (case c3 => exact rfl); (case c4 => exact rfl); intro g' L' h' FG' F' N' B' X' T' l1; (try k_lt l1); (try dsimp only); (try k_lift B')))
local macro_rules | `(tactic| walk_at "wpAt func") => `(tactic| ((try dsimp only); first
  | (k_dflt (ks_step "execs cons"; refine ks_wpAt_execs_cons ?_))
  | (k_dflt (ks_step "exec Expr"; refine ks_wpAt_Expr_any ?_))
  | (k_dflt (ks_step "exec Return"; refine ks_wpAt_Return_some ?_))
  | (k_dflt (ks_step "exec Assign"; first | refine ks_wpAt_Assign_Name ?_ | refine ks_wpAt_Assign_Attr ?_))
  | (k_dflt (ks_step "exec If"; refine ks_wpAt_If ?_))
  | (k_dflt (ks_step "eval Call"; refine ks_wpAt_MethodCall ?_))))
local macro_rules | `(tactic| walk_at "call type:set cons nil") => `(tactic| (k_here; k_dflt (refine' Mine.setTuple_N ?zF ?zN ?zh ?zl ?zi ?zb ?_; (case zF => k_asm); (case zN => k_asm); (case zh => rfl); (case zl => exact ⟨_, by k_mem, rfl, _, rfl⟩); (case zi => walk_at "mine strs"); (case zb => exact Nat.le_of_ble_eq_true rfl)); intro D' h' tk' F' N'))
local macro_rules | `(tactic| walk_at "mine strs") => `(tactic| first | exact Mine.strs2 _ _ _ _ | exact Mine.strs0)
local macro_rules | `(tactic| walk_at "mine ksr") => `(tactic| k_dflt (refine' Mine.ks_rest ?k1 ?k2 ?k3 ?k4 ?k5 ?kA ?kF ?kK ?k6 ?k7 ?k8 ?kV ?kP ?kG ?kB ?_ ?c1 ?c2 ?c3 ?c4; (case kA => exact rfl); (case kF => exact rfl); (case kK => first | exact rfl | assumption); (case k1 => k_asm); (case k2 => k_asm); (case k3 => k_asm); (case k4 => k_asm); (case k5 => k_asm); (case k6 => k_is); (case k7 => k_is); (case k8 => k_room); (case kV => kl_lit); (case kP => exact rfl); (case kG => exact fun _ => rfl); (case kB => exact fun _ => locs rfl); (case c1 => decide); (case c2 => exact rfl); (case c3 => exact rfl); (case c4 => exact rfl); intro D' g' L' h' l1 FG' F' N' B' X' T'; (try k_lt l1); (try dsimp only); (try k_lift B')))
/-- the kind's own reading of a text -/
def lEnds (f : PySem.Str → Bool) (target : PySem.Str) (pos : Int) : List Int := (rng pos 1 (target.length + 1 - pos).toNat).filter fun n => f (sl target pos n)
local macro_rules | `(tactic| walk_at "call ref") => `(tactic| (k_here; k_dflt (refine' Mine.boolTell_use (Mine.lf_number _ _ _ ?zo) ?z1 ?z2 ?z3 ?z4 ?z5 ?z6 ?z7 ?z8 ?z9 ?_; (case zo => walk_at "mine ok"); (case z1 => k_asm); (case z2 => k_asm); (case z3 => k_asm); (case z4 => k_asm); (case z5 => k_asm); (case z6 => first | exact rfl | assumption); (case z7 => walk_at "mine okn"); (case z8 => ktr_room); (case z9 => ktr_units)); intro h9 tk9 F9 N9; (try dsimp only); (try k_fold)))
local macro_rules | `(tactic| walk_at "call ref") => `(tactic| (k_here; k_dflt (refine' Mine.boolTell_use (Mine.lf_signed _ _ _ ?zo) ?z1 ?z2 ?z3 ?z4 ?z5 ?z6 ?z7 ?z8 ?z9 ?_; (case zo => walk_at "mine ok"); (case z1 => k_asm); (case z2 => k_asm); (case z3 => k_asm); (case z4 => k_asm); (case z5 => k_asm); (case z6 => first | exact rfl | assumption); (case z7 => walk_at "mine okn"); (case z8 => ktr_room); (case z9 => ktr_units)); intro h9 tk9 F9 N9; (try dsimp only); (try k_fold)))
local macro_rules | `(tactic| walk_at "call ref") => `(tactic| (k_here; k_dflt (refine' Mine.boolTell_use (Mine.lf_rest _ _ _ ?zo) ?z1 ?z2 ?z3 ?z4 ?z5 ?z6 ?z7 ?z8 ?z9 ?_; (case zo => walk_at "mine ok"); (case z1 => k_asm); (case z2 => k_asm); (case z3 => k_asm); (case z4 => k_asm); (case z5 => k_asm); (case z6 => first | exact rfl | assumption); (case z7 => walk_at "mine okn"); (case z8 => ktr_room); (case z9 => ktr_units)); intro h9 tk9 F9 N9; (try dsimp only); (try k_fold)))
local macro_rules | `(tactic| walk_at "call ref") => `(tactic| (k_here; k_dflt (refine' Mine.boolTell_use (Mine.lf_free_none _ 0 _ _ _ 0 _ 0 ?zo) ?z1 ?z2 ?z3 ?z4 ?z5 ?z6 ?z7 ?z8 ?z9 ?_; (case zo => walk_at "mine ok"); (case z1 => k_asm); (case z2 => k_asm); (case z3 => k_asm); (case z4 => k_asm); (case z5 => k_asm); (case z6 => first | exact rfl | assumption); (case z7 => walk_at "mine okn"); (case z8 => ktr_room); (case z9 => ktr_units)); intro h9 tk9 F9 N9; (try dsimp only); (try k_fold)))
local macro_rules | `(tactic| walk_at "call ref") => `(tactic| (k_here; k_dflt (refine' Mine.boolTell_use (Mine.lf_free_some _ 0 _ _ _ _ _ _ ?zo) ?z1 ?z2 ?z3 ?z4 ?z5 ?z6 ?z7 ?z8 ?z9 ?_; (case zo => walk_at "mine ok"); (case z1 => k_asm); (case z2 => k_asm); (case z3 => k_asm); (case z4 => k_asm); (case z5 => k_asm); (case z6 => first | exact rfl | assumption); (case z7 => walk_at "mine okn"); (case z8 => ktr_room); (case z9 => ktr_units)); intro h9 tk9 F9 N9; (try dsimp only); (try k_fold)))
local macro_rules | `(tactic| walk_at "compareOp Eq ref str") => `(tactic| (k_here; k_dflt (refine eq_dataH (by ke_read) (by ke_read) (by ke_shaped) (by ke_shaped) (by ke_room) ?_); ke_norm))
theorem le_number {w : World} (target : PySem.Str) (pos : Int) (t1 t2 t3 : Tok) (hok : okText target) (hp : 0 ≤ pos ∧ pos ≤ target.length) :
   IntsTell PySem.Challenge.rw_en5030_01.row.prog w (Mine.hd.heap_39 w.params) 505 [.str (PySem.Str.ofString "number") t1, .str target t2, .int pos t3] 3 Any9 ((lEnds lDigits target pos).reverse) := by
  w_top off
  k_fill
  intro p loose mean mg mb dp un gd cn cs a ccd cl outer A₀ base h₀ L m news s Q E B F X N T hk hOk hd hu hret
  have hlen : target.length ≤ 6 := hok.1
  refine wpAny_call ?_
  walk_at "mine enterC"
  k_steps
  refine Mine.srcF_range (by rfl) (by k_asm) (by k_asm) (by assumption) (small_one (by omega) (by omega) (by omega) (by omega)) (rangeSize_nat _ _) (by rw [PySem.sizeLine_eq]; omega) ?_
  intro g1
  refine Mine.rest_filter (Mine.rng _ _ _) Mine.IntIs Mine.IntIs (fun n => lDigits (sl target pos n)) (Mine.rng_length _ _ _) trivial Mine.rng_at ?_ ?_ ?_
  · intro d v I oI C oC D m₂ ys h tk E' hd hr hC hx F N
    obtain ⟨td, rfl⟩ := hr
    k_steps
    all_goals rfl
  · intro d v I oI C oC D m₂ ys h tk E' hd hr hC hx F N
    obtain ⟨td, rfl⟩ := hr
    k_steps
    all_goals exact ⟨_, rfl⟩
  · intro ys hys D h tk FE NE oE
    have hI := intsAre_of hys
    have hz9 := all2_size hys (by rw [rng_length]; omega)
    k_steps
    exact hret _ _ _ _ _ (by assumption) (by k_asm) (cb_drop (by k_asm) (by walk_at "mine sub1"))
theorem le_signed {w : World} (target : PySem.Str) (pos : Int) (t1 t2 t3 : Tok) (hok : okText target) (hp : 0 ≤ pos ∧ pos ≤ target.length) :
   IntsTell PySem.Challenge.rw_en5030_01.row.prog w (Mine.hd.heap_39 w.params) 505 [.str (PySem.Str.ofString "signed") t1, .str target t2, .int pos t3] 3 Any9 ((lEnds lSigned target pos).reverse) := by
  w_top off
  k_fill
  intro p loose mean mg mb dp un gd cn cs a ccd cl outer A₀ base h₀ L m news s Q E B F X N T hk hOk hd hu hret
  have hlen : target.length ≤ 6 := hok.1
  refine wpAny_call ?_
  walk_at "mine enterC"
  k_steps
  refine Mine.srcF_range (by rfl) (by k_asm) (by k_asm) (by assumption) (small_one (by omega) (by omega) (by omega) (by omega)) (rangeSize_nat _ _) (by rw [PySem.sizeLine_eq]; omega) ?_
  intro g1
  refine Mine.rest_filter (Mine.rng _ _ _) Mine.IntIs Mine.IntIs (fun n => lSigned (sl target pos n)) (Mine.rng_length _ _ _) trivial Mine.rng_at ?_ ?_ ?_
  · intro d v I oI C oC D m₂ ys h tk E' hd hr hC hx F N
    obtain ⟨td, rfl⟩ := hr
    k_steps
    all_goals rfl
  · intro d v I oI C oC D m₂ ys h tk E' hd hr hC hx F N
    obtain ⟨td, rfl⟩ := hr
    k_steps
    all_goals exact ⟨_, rfl⟩
  · intro ys hys D h tk FE NE oE
    have hI := intsAre_of hys
    have hz9 := all2_size hys (by rw [rng_length]; omega)
    k_steps
    exact hret _ _ _ _ _ (by assumption) (by k_asm) (cb_drop (by k_asm) (by walk_at "mine sub1"))
theorem le_rest {w : World} (target : PySem.Str) (pos : Int) (t1 t2 t3 : Tok) (hok : okText target) (hp : 0 ≤ pos ∧ pos ≤ target.length) :
   IntsTell PySem.Challenge.rw_en5030_01.row.prog w (Mine.hd.heap_39 w.params) 505 [.str (PySem.Str.ofString "rest") t1, .str target t2, .int pos t3] 3 Any9 (lEnds lRest target pos) := by
  w_top off
  k_fill
  intro p loose mean mg mb dp un gd cn cs a ccd cl outer A₀ base h₀ L m news s Q E B F X N T hk hOk hd hu hret
  have hlen : target.length ≤ 6 := hok.1
  refine wpAny_call ?_
  walk_at "mine enterC"
  k_steps
  refine Mine.srcF_range (by rfl) (by k_asm) (by k_asm) (by assumption) (small_one (by omega) (by omega) (by omega) (by omega)) (rangeSize_nat _ _) (by rw [PySem.sizeLine_eq]; omega) ?_
  intro g1
  refine Mine.rest_filter (Mine.rng _ _ _) Mine.IntIs Mine.IntIs (fun n => lRest (sl target pos n)) (Mine.rng_length _ _ _) trivial Mine.rng_at ?_ ?_ ?_
  · intro d v I oI C oC D m₂ ys h tk E' hd hr hC hx F N
    obtain ⟨td, rfl⟩ := hr
    k_steps
    all_goals rfl
  · intro d v I oI C oC D m₂ ys h tk E' hd hr hC hx F N
    obtain ⟨td, rfl⟩ := hr
    k_steps
    all_goals exact ⟨_, rfl⟩
  · intro ys hys D h tk FE NE oE
    have hI := intsAre_of hys
    have hz9 := all2_size hys (by rw [rng_length]; omega)
    k_steps
    exact hret _ _ _ _ _ (by assumption) (by k_asm) (cb_drop (by k_asm) (by walk_at "mine sub1"))
theorem le_free_none {w : World} (target : PySem.Str) (pos : Int) (t1 t2 t3 : Tok) (r : Addr) (a1 a2 : Int) (t4 t5 : Tok) (hok : okText target) (hp : 0 ≤ pos ∧ pos ≤ target.length) :
   IntsTell PySem.Challenge.rw_en5030_01.row.prog w (Mine.hd.heap_39 w.params) 505 [.ref r, .str target t2, .int pos t3] 3 (fun nw => ∃ k, (r, ({ cls := .type "tuple", data := .seq #[.int a1 t4, .none] k } : Obj)) ∈ nw) ((lEnds (fun x => lFree x a1 none) target pos).reverse) := by
  w_top off
  k_fill
  intro p loose mean mg mb dp un gd cn cs a ccd cl outer A₀ base h₀ L m news s Q E B F X N T hk hOk hd hu hret
  have hlen : target.length ≤ 6 := hok.1
  obtain ⟨k9, hmem⟩ := hOk
  refine wpAny_call ?_
  walk_at "mine enterC"
  k_steps
  refine Mine.srcF_range (by rfl) (by k_asm) (by k_asm) (by assumption) (small_one (by omega) (by omega) (by omega) (by omega)) (rangeSize_nat _ _) (by rw [PySem.sizeLine_eq]; omega) ?_
  intro g1
  refine Mine.rest_filter (Mine.rng _ _ _) Mine.IntIs Mine.IntIs (fun n => (fun x => lFree x a1 none) (sl target pos n)) (Mine.rng_length _ _ _) trivial Mine.rng_at ?_ ?_ ?_
  · intro d v I oI C oC D m₂ ys h tk E' hd hr hC hx F N
    obtain ⟨td, rfl⟩ := hr
    k_steps
    all_goals rfl
  · intro d v I oI C oC D m₂ ys h tk E' hd hr hC hx F N
    obtain ⟨td, rfl⟩ := hr
    k_steps
    all_goals exact ⟨_, rfl⟩
  · intro ys hys D h tk FE NE oE
    have hI := intsAre_of hys
    have hz9 := all2_size hys (by rw [rng_length]; omega)
    k_steps
    exact hret _ _ _ _ _ (by assumption) (by k_asm) (cb_drop (by k_asm) (by walk_at "mine sub1"))
theorem le_free_some {w : World} (target : PySem.Str) (pos : Int) (t1 t2 t3 : Tok) (r : Addr) (a1 a2 : Int) (t4 t5 : Tok) (hok : okText target) (hp : 0 ≤ pos ∧ pos ≤ target.length) :
   IntsTell PySem.Challenge.rw_en5030_01.row.prog w (Mine.hd.heap_39 w.params) 505 [.ref r, .str target t2, .int pos t3] 3 (fun nw => ∃ k, (r, ({ cls := .type "tuple", data := .seq #[.int a1 t4, .int a2 t5] k } : Obj)) ∈ nw) ((lEnds (fun x => lFree x a1 (some a2)) target pos).reverse) := by
  w_top off
  k_fill
  intro p loose mean mg mb dp un gd cn cs a ccd cl outer A₀ base h₀ L m news s Q E B F X N T hk hOk hd hu hret
  have hlen : target.length ≤ 6 := hok.1
  obtain ⟨k9, hmem⟩ := hOk
  refine wpAny_call ?_
  walk_at "mine enterC"
  k_steps
  refine Mine.srcF_range (by rfl) (by k_asm) (by k_asm) (by assumption) (small_one (by omega) (by omega) (by omega) (by omega)) (rangeSize_nat _ _) (by rw [PySem.sizeLine_eq]; omega) ?_
  intro g1
  refine Mine.rest_filter (Mine.rng _ _ _) Mine.IntIs Mine.IntIs (fun n => (fun x => lFree x a1 (some a2)) (sl target pos n)) (Mine.rng_length _ _ _) trivial Mine.rng_at ?_ ?_ ?_
  · intro d v I oI C oC D m₂ ys h tk E' hd hr hC hx F N
    obtain ⟨td, rfl⟩ := hr
    k_steps
    all_goals rfl
  · intro d v I oI C oC D m₂ ys h tk E' hd hr hC hx F N
    obtain ⟨td, rfl⟩ := hr
    k_steps
    all_goals exact ⟨_, rfl⟩
  · intro ys hys D h tk FE NE oE
    have hI := intsAre_of hys
    have hz9 := all2_size hys (by rw [rng_length]; omega)
    k_steps
    exact hret _ _ _ _ _ (by assumption) (by k_asm) (cb_drop (by k_asm) (by walk_at "mine sub1"))
end Mine
namespace Mine
local macro_rules | `(tactic| walk_at "mine enterC") => `(tactic| k_dflt (refine' code_defC ?k1 ?k2 ?k3 ?k4 ?k5 ?kA ?kF ?kK ?k6 ?k7 ?k8 ?k9 ?kB ?kD ?_ ?c2 ?c3 ?c4; (case kA => exact rfl); (case kF => exact rfl); (case kK => assumption); (case k1 => k_asm); (case k2 => k_asm); (case k3 => k_asm); (case k4 => k_asm); (case k5 => k_asm); (case k6 => k_is); (case k7 => k_is); (case k8 => ktr_room); (case k9 => first | exact BindsTo.of_eq rfl | exact binds_K (by k_in) rfl (by k_is) rfl rfl rfl | fail "enterC: no rule for these arguments"); (case kB => exact rfl); (case kD => decide +kernel); (case c2 => exact rfl); (case c3 => exact rfl); (case c4 => exact rfl); k_whole; intro g' L' h' tk' cells' FG' F' N' Y' B' X' T' l1; (try k_lt l1); k_cells Y'; (try simp only [List.cons_append, List.nil_append] at N'); (try dsimp only); (try k_lift B'); (try k_fold)))
local macro_rules | `(tactic| k_all) => `(tactic| exact Mine.ne_of_all (by assumption) (by omega))
local macro_rules | `(tactic| walk_at "eval ListComp") => `(tactic| (k_here; lct_look; k_dflt (refine Mine.listComp_G (by k_asm) (by with_unfolding_all rfl) (by decide) (by rfl) (by decide) (by rfl) ?_)))
local macro_rules | `(tactic| walk_at "TestEnd") => `(tactic| (first | refine Mine.TestEnd.of ?_ (by k_asm) (by k_asm) (fun _ hp => hp) | refine Mine.TestEnd.of ?_ (by k_asm) (by k_asm) (by walk_at "mine sub")))
local macro_rules | `(tactic| walk_at "EltEnd") => `(tactic| (first | refine Mine.EltEnd.of ?_ (by k_asm) (by k_asm) (fun _ hp => hp) | refine Mine.EltEnd.of ?_ (by k_asm) (by k_asm) (by walk_at "mine sub")))
local macro_rules | `(tactic| walk_at "mine sub") => `(tactic| (intro p9 hp9; (repeat (first | exact hp9 | exact List.mem_append_left _ hp9 | refine List.mem_cons_of_mem _ ?_))))
local macro_rules | `(tactic| walk_at "mine sub1") => `(tactic| (intro p9 hp9; rcases List.mem_cons.mp hp9 with h9 | h9; (rw [h9]; exact List.mem_cons_self); (repeat (first | exact h9 | exact List.mem_append_left _ h9 | refine List.mem_cons_of_mem _ ?_))))
local macro_rules | `(tactic| walk_at "mine off") => `(tactic| first | assumption | exact And.right (by assumption) | exact And.right (And.right (by assumption)) | exact And.right (And.right (And.right (by assumption))))
local macro_rules | `(tactic| walk_at "mine tup") => `(tactic| first | assumption | exact Mine.TupIn.mono (by assumption) (by walk_at "mine sub"))
local macro_rules | `(tactic| walk_at "call builtin:isinstance") => `(tactic| ((with_reducible show wpAny _ _ (call (Value.builtin "isinstance") [Value.ref _, Value.type "tuple"]) _ _ _); refine' call_isinstance_yes (Heap.IsTuple.typeIs (Mine.TupIn.at ?tin ?tn)) meta_tuple PySem.F.isi_sub_tuple ?_; (case tn => k_asm); (case tin => walk_at "mine tup")))
local macro_rules | `(tactic| walk_at "mine enter") => `(tactic| k_dflt (refine' code_def ?k1 ?k2 ?k3 ?k4 ?k5 ?kA ?kF ?kK ?k6 ?k7 ?k8 ?k9 ?kB ?_ ?c2 ?c3 ?c4 ?c5; (case kA => exact rfl); (case kF => exact rfl); (case kK => assumption); (case k1 => k_asm); (case k2 => k_asm); (case k3 => k_asm); (case k4 => k_asm); (case k5 => k_asm); (case k6 => k_is); (case k7 => k_is); (case k8 => ktr_room); (case k9 => first | exact BindsTo.of_eq rfl | exact binds_K (by k_in) rfl (by k_is) rfl rfl rfl | fail "enter: no rule for these arguments"); (case c5 => decide); (case kB => exact locs rfl); (case c2 => exact rfl); (case c3 => exact rfl); (case c4 => exact rfl); k_whole; intro g' L' h' FG' F' N' B' X' T'; (try dsimp only); (try k_lift B'); (try k_fold)))
local macro_rules | `(tactic| walk_at "mine ok") => `(tactic| first | assumption | exact Mine.okText_slice (by assumption) _ _)
local macro_rules | `(tactic| walk_at "mine okn") => `(tactic| first | trivial | assumption | walk_at "mine tup")
local macro_rules | `(tactic| walk_at "exec Assign cons ListComp") => `(tactic| (k_here; lct_look; k_dflt (refine Mine.assign_listComp_G (by k_asm) (by rfl) (by with_unfolding_all rfl) (by with_unfolding_all rfl) (by decide) (by rfl) (by decide) (by rfl) (by rfl) (by rfl) ?_)))
local macro_rules | `(tactic| walk_at "mine okn") => `(tactic| exact ⟨_, by k_mem⟩)
local macro_rules | `(tactic| k_mem) => `(tactic| first | assumption | exact List.mem_cons_self | (refine List.mem_cons_of_mem _ ?_; k_mem) | (refine List.mem_append.mpr (Or.inl ?_); k_mem) | (refine List.mem_append.mpr (Or.inr ?_); k_mem))
local macro_rules | `(tactic| walk_at "subscriptTail Name Slice ref ref") => `(tactic| (k_here; (with_reducible show wpAny _ _ (subscriptTail _ (PySem.Expr.Slice none none (some _) _) (Value.ref _) (Value.ref _)) _ _ _); k_dflt (refine' krv_ints ?F ?N ?l ?k ?i ?_ ?s ?t ?z; (case F => k_asm); (case N => k_asm); (case l => is_list); (case k => exact IsPart.int _ _); (case i => assumption); (case s => with_unfolding_all rfl); (case t => kmk_pure); (case z => assumption)); intro D' ws' h' F' N' l1 hI' hC'))
local macro_rules | `(tactic| is_list) => `(tactic| exact News.isList (by k_asm) (by k_mem))
local macro_rules | `(tactic| walk_at "mine step") => `(tactic| first | (k_unfold; (try dsimp only)) | (k_end; kc_close) | walk1 | (dsimp only; walk1) | (leave1; walk_say "STEP leave1"; (try dsimp only)))
local macro_rules | `(tactic| walk_at "mine cls") => `(tactic| (k_dflt (refine' call_cls ?k1 ?k2 ?k3 ?k4 ?k5 ?k6 ?_; (case k1 => k_asm); (case k2 => k_asm); (case k3 => k_asm); (case k4 => k_is); (case k5 => k_is); (case k6 => k_is); k_whole); intro x' d' h' F' N' l1 l2; (try k_lt l1); (try k_lt2 l2); (try k_sweep)))
local macro_rules | `(tactic| k_room) => `(tactic| ktr_room)
local macro_rules | `(tactic| walk_at "call type:list nil nil") => `(tactic| (k_here; k_dflt (refine' Mine.list0_N ?zF ?zN ?_; (case zF => k_asm); (case zN => k_asm)); intro D' c' h' F' N' l1; (try k_lt l1)))
local macro_rules | `(tactic| walk_at "call type:dict nil nil") => `(tactic| (k_here; k_dflt (refine' Mine.dict0_N ?zF ?zN ?_; (case zF => k_asm); (case zN => k_asm)); intro D' h' F' N' l1; (try k_lt l1)))
local macro_rules | `(tactic| walk_at "call type:dict") => `(tactic| (k_here; k_dflt (refine' Mine.dictCopy_K ?zF ?zX ?zN ?zl ?zk ?zn ?za ?zs ?_; (case zF => k_asm); (case zX => k_asm); (case zN => k_asm); (case zl => k_is); (case zk => k_keys); (case zn => first | decide +kernel | (simp only [Mine.kvOf, List.map_cons, List.map_nil]; decide +kernel)); (case za => decide); (case zs => exact Nat.le_of_ble_eq_true rfl)); intro D' h' F' N'))
local macro_rules | `(tactic| walk_at "compareOp Is ref ref") => `(tactic| with_reducible refine wpAny_is_ref_self ?_)
local macro_rules | `(tactic| ktr_units) => `(tactic| (have hcL9 := cLine_is; (try simp only [Mine.units_under_make, units_in1, units_deeper, Around.mark_units, units_caller] at *); (try dsimp only [ktrTop] at *); omega))
local macro_rules | `(tactic| walk_at "mine ks") => `(tactic| k_dflt (refine' ks_code_super ?k1 ?k2 ?k3 ?k4 ?k5 ?kA ?kF ?kK ?k6 ?k7 ?k8 ?k9 ?kB ?_ ?c1 ?c2 ?c3 ?c4; (case kA => exact rfl); (case kF => exact rfl); (case kK => first | exact rfl | assumption); (case k1 => k_asm); (case k2 => k_asm); (case k3 => k_asm); (case k4 => k_asm); (case k5 => k_asm); (case k6 => k_is); (case k7 => k_is); (case k8 => k_room); (case k9 => first | exact BindsTo.of_eq rfl | exact binds_K (by k_in) rfl (by k_is) rfl rfl rfl); (case kB => exact locs rfl); (case c1 => decide); (case c2 => exact rfl); (case c3 => exact rfl); (case c4 => exact rfl); intro g' L' h' FG' F' N' B' X' T' l1; (try k_lt l1); (try dsimp only); (try k_lift B')))
local macro_rules | `(tactic| walk_at "wpAt func") => `(tactic| ((try dsimp only); first
  | (k_dflt (ks_step "execs cons"; refine ks_wpAt_execs_cons ?_))
  | (k_dflt (ks_step "exec Expr"; refine ks_wpAt_Expr_any ?_))
  | (k_dflt (ks_step "exec Return"; refine ks_wpAt_Return_some ?_))
  | (k_dflt (ks_step "exec Assign"; first | refine ks_wpAt_Assign_Name ?_ | refine ks_wpAt_Assign_Attr ?_))
  | (k_dflt (ks_step "exec If"; refine ks_wpAt_If ?_))
  | (k_dflt (ks_step "eval Call"; refine ks_wpAt_MethodCall ?_))))
local macro_rules | `(tactic| walk_at "call type:set cons nil") => `(tactic| (k_here; k_dflt (refine' Mine.setTuple_N ?zF ?zN ?zh ?zl ?zi ?zb ?_; (case zF => k_asm); (case zN => k_asm); (case zh => rfl); (case zl => exact ⟨_, by k_mem, rfl, _, rfl⟩); (case zi => walk_at "mine strs"); (case zb => exact Nat.le_of_ble_eq_true rfl)); intro D' h' tk' F' N'))
local macro_rules | `(tactic| walk_at "mine strs") => `(tactic| first | exact Mine.strs2 _ _ _ _ | exact Mine.strs0)
local macro_rules | `(tactic| walk_at "mine ksr") => `(tactic| k_dflt (refine' Mine.ks_rest ?k1 ?k2 ?k3 ?k4 ?k5 ?kA ?kF ?kK ?k6 ?k7 ?k8 ?kV ?kP ?kG ?kB ?_ ?c1 ?c2 ?c3 ?c4; (case kA => exact rfl); (case kF => exact rfl); (case kK => first | exact rfl | assumption); (case k1 => k_asm); (case k2 => k_asm); (case k3 => k_asm); (case k4 => k_asm); (case k5 => k_asm); (case k6 => k_is); (case k7 => k_is); (case k8 => k_room); (case kV => kl_lit); (case kP => exact rfl); (case kG => exact fun _ => rfl); (case kB => exact fun _ => locs rfl); (case c1 => decide); (case c2 => exact rfl); (case c3 => exact rfl); (case c4 => exact rfl); intro D' g' L' h' l1 FG' F' N' B' X' T'; (try k_lt l1); (try dsimp only); (try k_lift B')))
theorem la_x {w : World} (target : PySem.Str) (pos : Int) (t2 t3 : Tok) (r : Addr) (its : Array Value) (ws : List PySem.Str) (hws : All2 StrIs ws its.toList) (hsz : its.size ≤ 8) (hwl : ∀ x ∈ ws, x.length ≤ 8) (hok : okText target) (hp : 0 ≤ pos ∧ pos ≤ target.length) :
   IntsTell PySem.Challenge.rw_en5030_01.row.prog w (Mine.hd.heap_39 w.params) 517 [.ref r, .str target t2, .int pos t3] 1 (TupIn r its) (peWords ws target pos) := by
  w_top off
  k_fill
  intro p loose mean mg mb dp un gd cn cs a ccd cl outer A₀ base h₀ L m news s Q E B F X N T hk hOk hd hu hret
  have hlen : target.length ≤ 6 := hok.1
  refine wpAny_call ?_
  walk_at "mine enterC"
  k_steps
  refine Mine.src_tuple (its := its) (by rfl) (by k_asm) (by k_asm) (by walk_at "mine tup") (by rw [PySem.sizeLine_eq]; omega) ?_
  intro g1
  refine Mine.rest_filter ws StrIs (fun d v => ∃ t, v = Value.int (pos + d.length) t) (fun d => sl target pos (pos + d.length) == d) (by rw [all2_len hws]; simp) (by walk_at "mine tup") (fun i v _ hv => all2_at hws i v (by simpa using hv)) ?_ ?_ ?_
  · intro d v I oI C oC D m₂ ys h tk E' hd hr hC hx F N
    obtain ⟨td, rfl⟩ := hr
    have hdl := hwl d hd
    k_steps
  · intro d v I oI C oC D m₂ ys h tk E' hd hr hC hx F N
    obtain ⟨td, rfl⟩ := hr
    have hdl := hwl d hd
    k_steps
    all_goals exact ⟨_, rfl⟩
  · intro ys hys D h tk FE NE oE
    k_steps
    exact hret D ys _ _ _ (intsAre_map _ hys) (by k_asm) (cb_drop (by k_asm) (by walk_at "mine sub1"))
end Mine
namespace Mine
local macro_rules | `(tactic| walk_at "mine enterC") => `(tactic| k_dflt (refine' code_defC ?k1 ?k2 ?k3 ?k4 ?k5 ?kA ?kF ?kK ?k6 ?k7 ?k8 ?k9 ?kB ?kD ?_ ?c2 ?c3 ?c4; (case kA => exact rfl); (case kF => exact rfl); (case kK => assumption); (case k1 => k_asm); (case k2 => k_asm); (case k3 => k_asm); (case k4 => k_asm); (case k5 => k_asm); (case k6 => k_is); (case k7 => k_is); (case k8 => ktr_room); (case k9 => first | exact BindsTo.of_eq rfl | exact binds_K (by k_in) rfl (by k_is) rfl rfl rfl | fail "enterC: no rule for these arguments"); (case kB => exact rfl); (case kD => decide +kernel); (case c2 => exact rfl); (case c3 => exact rfl); (case c4 => exact rfl); k_whole; intro g' L' h' tk' cells' FG' F' N' Y' B' X' T' l1; (try k_lt l1); k_cells Y'; (try simp only [List.cons_append, List.nil_append] at N'); (try dsimp only); (try k_lift B'); (try k_fold)))
local macro_rules | `(tactic| k_all) => `(tactic| exact Mine.ne_of_all (by assumption) (by omega))
local macro_rules | `(tactic| walk_at "eval ListComp") => `(tactic| (k_here; lct_look; k_dflt (refine Mine.listComp_G (by k_asm) (by with_unfolding_all rfl) (by decide) (by rfl) (by decide) (by rfl) ?_)))
local macro_rules | `(tactic| walk_at "TestEnd") => `(tactic| (first | refine Mine.TestEnd.of ?_ (by k_asm) (by k_asm) (fun _ hp => hp) | refine Mine.TestEnd.of ?_ (by k_asm) (by k_asm) (by walk_at "mine sub")))
local macro_rules | `(tactic| walk_at "EltEnd") => `(tactic| (first | refine Mine.EltEnd.of ?_ (by k_asm) (by k_asm) (fun _ hp => hp) | refine Mine.EltEnd.of ?_ (by k_asm) (by k_asm) (by walk_at "mine sub")))
local macro_rules | `(tactic| walk_at "mine sub") => `(tactic| (intro p9 hp9; (repeat (first | exact hp9 | exact List.mem_append_left _ hp9 | refine List.mem_cons_of_mem _ ?_))))
local macro_rules | `(tactic| walk_at "mine sub1") => `(tactic| (intro p9 hp9; rcases List.mem_cons.mp hp9 with h9 | h9; (rw [h9]; exact List.mem_cons_self); (repeat (first | exact h9 | exact List.mem_append_left _ h9 | refine List.mem_cons_of_mem _ ?_))))
local macro_rules | `(tactic| walk_at "mine off") => `(tactic| first | assumption | exact And.right (by assumption) | exact And.right (And.right (by assumption)) | exact And.right (And.right (And.right (by assumption))))
local macro_rules | `(tactic| walk_at "mine tup") => `(tactic| first | assumption | exact Mine.TupIn.mono (by assumption) (by walk_at "mine sub"))
local macro_rules | `(tactic| walk_at "call builtin:isinstance") => `(tactic| ((with_reducible show wpAny _ _ (call (Value.builtin "isinstance") [Value.ref _, Value.type "tuple"]) _ _ _); refine' call_isinstance_yes (Heap.IsTuple.typeIs (Mine.TupIn.at ?tin ?tn)) meta_tuple PySem.F.isi_sub_tuple ?_; (case tn => k_asm); (case tin => walk_at "mine tup")))
local macro_rules | `(tactic| walk_at "mine enter") => `(tactic| k_dflt (refine' code_def ?k1 ?k2 ?k3 ?k4 ?k5 ?kA ?kF ?kK ?k6 ?k7 ?k8 ?k9 ?kB ?_ ?c2 ?c3 ?c4 ?c5; (case kA => exact rfl); (case kF => exact rfl); (case kK => assumption); (case k1 => k_asm); (case k2 => k_asm); (case k3 => k_asm); (case k4 => k_asm); (case k5 => k_asm); (case k6 => k_is); (case k7 => k_is); (case k8 => ktr_room); (case k9 => first | exact BindsTo.of_eq rfl | exact binds_K (by k_in) rfl (by k_is) rfl rfl rfl | fail "enter: no rule for these arguments"); (case c5 => decide); (case kB => exact locs rfl); (case c2 => exact rfl); (case c3 => exact rfl); (case c4 => exact rfl); k_whole; intro g' L' h' FG' F' N' B' X' T'; (try dsimp only); (try k_lift B'); (try k_fold)))
local macro_rules | `(tactic| walk_at "mine ok") => `(tactic| first | assumption | exact Mine.okText_slice (by assumption) _ _)
local macro_rules | `(tactic| walk_at "mine okn") => `(tactic| first | trivial | assumption | walk_at "mine tup")
local macro_rules | `(tactic| walk_at "exec Assign cons ListComp") => `(tactic| (k_here; lct_look; k_dflt (refine Mine.assign_listComp_G (by k_asm) (by rfl) (by with_unfolding_all rfl) (by with_unfolding_all rfl) (by decide) (by rfl) (by decide) (by rfl) (by rfl) (by rfl) ?_)))
local macro_rules | `(tactic| walk_at "mine okn") => `(tactic| exact ⟨_, by k_mem⟩)
local macro_rules | `(tactic| k_mem) => `(tactic| first | assumption | exact List.mem_cons_self | (refine List.mem_cons_of_mem _ ?_; k_mem) | (refine List.mem_append.mpr (Or.inl ?_); k_mem) | (refine List.mem_append.mpr (Or.inr ?_); k_mem))
local macro_rules | `(tactic| walk_at "subscriptTail Name Slice ref ref") => `(tactic| (k_here; (with_reducible show wpAny _ _ (subscriptTail _ (PySem.Expr.Slice none none (some _) _) (Value.ref _) (Value.ref _)) _ _ _); k_dflt (refine' krv_ints ?F ?N ?l ?k ?i ?_ ?s ?t ?z; (case F => k_asm); (case N => k_asm); (case l => is_list); (case k => exact IsPart.int _ _); (case i => assumption); (case s => with_unfolding_all rfl); (case t => kmk_pure); (case z => assumption)); intro D' ws' h' F' N' l1 hI' hC'))
local macro_rules | `(tactic| is_list) => `(tactic| exact News.isList (by k_asm) (by k_mem))
local macro_rules | `(tactic| walk_at "mine step") => `(tactic| first | (k_unfold; (try dsimp only)) | (k_end; kc_close) | walk1 | (dsimp only; walk1) | (leave1; walk_say "STEP leave1"; (try dsimp only)))
local macro_rules | `(tactic| walk_at "mine cls") => `(tactic| (k_dflt (refine' call_cls ?k1 ?k2 ?k3 ?k4 ?k5 ?k6 ?_; (case k1 => k_asm); (case k2 => k_asm); (case k3 => k_asm); (case k4 => k_is); (case k5 => k_is); (case k6 => k_is); k_whole); intro x' d' h' F' N' l1 l2; (try k_lt l1); (try k_lt2 l2); (try k_sweep)))
local macro_rules | `(tactic| k_room) => `(tactic| ktr_room)
local macro_rules | `(tactic| walk_at "call type:list nil nil") => `(tactic| (k_here; k_dflt (refine' Mine.list0_N ?zF ?zN ?_; (case zF => k_asm); (case zN => k_asm)); intro D' c' h' F' N' l1; (try k_lt l1)))
local macro_rules | `(tactic| walk_at "call type:dict nil nil") => `(tactic| (k_here; k_dflt (refine' Mine.dict0_N ?zF ?zN ?_; (case zF => k_asm); (case zN => k_asm)); intro D' h' F' N' l1; (try k_lt l1)))
local macro_rules | `(tactic| walk_at "call type:dict") => `(tactic| (k_here; k_dflt (refine' Mine.dictCopy_K ?zF ?zX ?zN ?zl ?zk ?zn ?za ?zs ?_; (case zF => k_asm); (case zX => k_asm); (case zN => k_asm); (case zl => k_is); (case zk => k_keys); (case zn => first | decide +kernel | (simp only [Mine.kvOf, List.map_cons, List.map_nil]; decide +kernel)); (case za => decide); (case zs => exact Nat.le_of_ble_eq_true rfl)); intro D' h' F' N'))
local macro_rules | `(tactic| walk_at "compareOp Is ref ref") => `(tactic| with_reducible refine wpAny_is_ref_self ?_)
local macro_rules | `(tactic| ktr_units) => `(tactic| (have hcL9 := cLine_is; (try simp only [Mine.units_under_make, units_in1, units_deeper, Around.mark_units, units_caller] at *); (try dsimp only [ktrTop] at *); omega))
local macro_rules | `(tactic| walk_at "mine ks") => `(tactic| k_dflt (refine' ks_code_super ?k1 ?k2 ?k3 ?k4 ?k5 ?kA ?kF ?kK ?k6 ?k7 ?k8 ?k9 ?kB ?_ ?c1 ?c2 ?c3 ?c4; (case kA => exact rfl); (case kF => exact rfl); (case kK => first | exact rfl | assumption); (case k1 => k_asm); (case k2 => k_asm); (case k3 => k_asm); (case k4 => k_asm); (case k5 => k_asm); (case k6 => k_is); (case k7 => k_is); (case k8 => k_room); (case k9 => first | exact BindsTo.of_eq rfl | exact binds_K (by k_in) rfl (by k_is) rfl rfl rfl); (case kB => exact locs rfl); (case c1 => decide); (case c2 => exact rfl); (case c3 => exact rfl); (case c4 => exact rfl); intro g' L' h' FG' F' N' B' X' T' l1; (try k_lt l1); (try dsimp only); (try k_lift B')))
local macro_rules | `(tactic| walk_at "wpAt func") => `(tactic| ((try dsimp only); first
  | (k_dflt (ks_step "execs cons"; refine ks_wpAt_execs_cons ?_))
  | (k_dflt (ks_step "exec Expr"; refine ks_wpAt_Expr_any ?_))
  | (k_dflt (ks_step "exec Return"; refine ks_wpAt_Return_some ?_))
  | (k_dflt (ks_step "exec Assign"; first | refine ks_wpAt_Assign_Name ?_ | refine ks_wpAt_Assign_Attr ?_))
  | (k_dflt (ks_step "exec If"; refine ks_wpAt_If ?_))
  | (k_dflt (ks_step "eval Call"; refine ks_wpAt_MethodCall ?_))))
local macro_rules | `(tactic| walk_at "call type:set cons nil") => `(tactic| (k_here; k_dflt (refine' Mine.setTuple_N ?zF ?zN ?zh ?zl ?zi ?zb ?_; (case zF => k_asm); (case zN => k_asm); (case zh => rfl); (case zl => exact ⟨_, by k_mem, rfl, _, rfl⟩); (case zi => walk_at "mine strs"); (case zb => exact Nat.le_of_ble_eq_true rfl)); intro D' h' tk' F' N'))
local macro_rules | `(tactic| walk_at "mine strs") => `(tactic| first | exact Mine.strs2 _ _ _ _ | exact Mine.strs0)
local macro_rules | `(tactic| walk_at "mine ksr") => `(tactic| k_dflt (refine' Mine.ks_rest ?k1 ?k2 ?k3 ?k4 ?k5 ?kA ?kF ?kK ?k6 ?k7 ?k8 ?kV ?kP ?kG ?kB ?_ ?c1 ?c2 ?c3 ?c4; (case kA => exact rfl); (case kF => exact rfl); (case kK => first | exact rfl | assumption); (case k1 => k_asm); (case k2 => k_asm); (case k3 => k_asm); (case k4 => k_asm); (case k5 => k_asm); (case k6 => k_is); (case k7 => k_is); (case k8 => k_room); (case kV => kl_lit); (case kP => exact rfl); (case kG => exact fun _ => rfl); (case kB => exact fun _ => locs rfl); (case c1 => decide); (case c2 => exact rfl); (case c3 => exact rfl); (case c4 => exact rfl); intro D' g' L' h' l1 FG' F' N' B' X' T'; (try k_lt l1); (try dsimp only); (try k_lift B')))
def laSlash (target : PySem.Str) (pos : Int) : List Int :=
  if 0 < pos ∧ (PySem.Txt.item target (pos - 1) == PySem.Str.ofString "/") = true then [] else if (sl target pos (pos + 1) == PySem.Str.ofString "/") = true then [pos + 1, pos] else [pos]
theorem la_slash {w : World} (target : PySem.Str) (pos : Int) (t2 t3 : Tok) (hok : okText target) (hp : 0 ≤ pos ∧ pos ≤ target.length) :
   IntsTell PySem.Challenge.rw_en5030_01.row.prog w (Mine.hd.heap_39 w.params) 512 [.str target t2, .int pos t3] 1 Any9 (laSlash target pos) := by
  w_top off
  k_fill
  intro p loose mean mg mb dp un gd cn cs a ccd cl outer A₀ base h₀ L m news s Q E B F X N T hk hOk hd hu hret
  have hlen : target.length ≤ 6 := hok.1
  refine wpAny_call ?_
  walk_at "mine enter"
  k_steps
  · have e0 : 0 < pos := by assumption
    have e1 : (PySem.Txt.item target (pos - 1) == PySem.Str.ofString "/") = true := by assumption
    unfold laSlash at hret
    rw [if_pos ⟨e0, e1⟩] at hret
    exact hret _ [] _ _ _ .nil (by k_asm) (cb_drop (by k_asm) (by walk_at "mine sub1"))
  · have e0 : 0 < pos := by assumption
    have e1 : (PySem.Txt.item target (pos - 1) == PySem.Str.ofString "/") = false := by assumption
    have e2 : (sl target pos (pos + 1) == PySem.Str.ofString "/") = true := by assumption
    unfold laSlash at hret
    rw [if_neg (by rw [e1]; simp), if_pos e2] at hret
    exact hret _ [_, _] _ _ _ (.cons _ _ (.cons _ _ .nil)) (by k_asm) (cb_drop (by k_asm) (by walk_at "mine sub1"))
  · have e0 : 0 < pos := by assumption
    have e1 : (PySem.Txt.item target (pos - 1) == PySem.Str.ofString "/") = false := by assumption
    have e2 : (sl target pos (pos + 1) == PySem.Str.ofString "/") = false := by assumption
    unfold laSlash at hret
    rw [if_neg (by rw [e1]; simp), if_neg (by rw [e2]; decide)] at hret
    exact hret _ [_] _ _ _ (.cons _ _ .nil) (by k_asm) (cb_drop (by k_asm) (by walk_at "mine sub1"))
  · have e0 : ¬ 0 < pos := by assumption
    have e2 : (sl target pos (pos + 1) == PySem.Str.ofString "/") = true := by assumption
    unfold laSlash at hret
    rw [if_neg (fun q => e0 q.1), if_pos e2] at hret
    exact hret _ [_, _] _ _ _ (.cons _ _ (.cons _ _ .nil)) (by k_asm) (cb_drop (by k_asm) (by walk_at "mine sub1"))
  · have e0 : ¬ 0 < pos := by assumption
    have e2 : (sl target pos (pos + 1) == PySem.Str.ofString "/") = false := by assumption
    unfold laSlash at hret
    rw [if_neg (fun q => e0 q.1), if_neg (by rw [e2]; decide)] at hret
    exact hret _ [_] _ _ _ (.cons _ _ .nil) (by k_asm) (cb_drop (by k_asm) (by walk_at "mine sub1"))
end Mine
namespace Mine
local macro_rules | `(tactic| walk_at "mine enterC") => `(tactic| k_dflt (refine' code_defC ?k1 ?k2 ?k3 ?k4 ?k5 ?kA ?kF ?kK ?k6 ?k7 ?k8 ?k9 ?kB ?kD ?_ ?c2 ?c3 ?c4; (case kA => exact rfl); (case kF => exact rfl); (case kK => assumption); (case k1 => k_asm); (case k2 => k_asm); (case k3 => k_asm); (case k4 => k_asm); (case k5 => k_asm); (case k6 => k_is); (case k7 => k_is); (case k8 => ktr_room); (case k9 => first | exact BindsTo.of_eq rfl | exact binds_K (by k_in) rfl (by k_is) rfl rfl rfl | fail "enterC: no rule for these arguments"); (case kB => exact rfl); (case kD => decide +kernel); (case c2 => exact rfl); (case c3 => exact rfl); (case c4 => exact rfl); k_whole; intro g' L' h' tk' cells' FG' F' N' Y' B' X' T' l1; (try k_lt l1); k_cells Y'; (try simp only [List.cons_append, List.nil_append] at N'); (try dsimp only); (try k_lift B'); (try k_fold)))
local macro_rules | `(tactic| k_all) => `(tactic| exact Mine.ne_of_all (by assumption) (by omega))
local macro_rules | `(tactic| walk_at "eval ListComp") => `(tactic| (k_here; lct_look; k_dflt (refine Mine.listComp_G (by k_asm) (by with_unfolding_all rfl) (by decide) (by rfl) (by decide) (by rfl) ?_)))
local macro_rules | `(tactic| walk_at "TestEnd") => `(tactic| (first | refine Mine.TestEnd.of ?_ (by k_asm) (by k_asm) (fun _ hp => hp) | refine Mine.TestEnd.of ?_ (by k_asm) (by k_asm) (by walk_at "mine sub")))
local macro_rules | `(tactic| walk_at "EltEnd") => `(tactic| (first | refine Mine.EltEnd.of ?_ (by k_asm) (by k_asm) (fun _ hp => hp) | refine Mine.EltEnd.of ?_ (by k_asm) (by k_asm) (by walk_at "mine sub")))
local macro_rules | `(tactic| walk_at "mine sub") => `(tactic| (intro p9 hp9; (repeat (first | exact hp9 | exact List.mem_append_left _ hp9 | refine List.mem_cons_of_mem _ ?_))))
local macro_rules | `(tactic| walk_at "mine sub1") => `(tactic| (intro p9 hp9; rcases List.mem_cons.mp hp9 with h9 | h9; (rw [h9]; exact List.mem_cons_self); (repeat (first | exact h9 | exact List.mem_append_left _ h9 | refine List.mem_cons_of_mem _ ?_))))
local macro_rules | `(tactic| walk_at "mine off") => `(tactic| first | assumption | exact And.right (by assumption) | exact And.right (And.right (by assumption)) | exact And.right (And.right (And.right (by assumption))))
local macro_rules | `(tactic| walk_at "mine tup") => `(tactic| first | assumption | exact Mine.TupIn.mono (by assumption) (by walk_at "mine sub"))
local macro_rules | `(tactic| walk_at "call builtin:isinstance") => `(tactic| ((with_reducible show wpAny _ _ (call (Value.builtin "isinstance") [Value.ref _, Value.type "tuple"]) _ _ _); refine' call_isinstance_yes (Heap.IsTuple.typeIs (Mine.TupIn.at ?tin ?tn)) meta_tuple PySem.F.isi_sub_tuple ?_; (case tn => k_asm); (case tin => walk_at "mine tup")))
local macro_rules | `(tactic| walk_at "mine enter") => `(tactic| k_dflt (refine' code_def ?k1 ?k2 ?k3 ?k4 ?k5 ?kA ?kF ?kK ?k6 ?k7 ?k8 ?k9 ?kB ?_ ?c2 ?c3 ?c4 ?c5; (case kA => exact rfl); (case kF => exact rfl); (case kK => assumption); (case k1 => k_asm); (case k2 => k_asm); (case k3 => k_asm); (case k4 => k_asm); (case k5 => k_asm); (case k6 => k_is); (case k7 => k_is); (case k8 => ktr_room); (case k9 => first | exact BindsTo.of_eq rfl | exact binds_K (by k_in) rfl (by k_is) rfl rfl rfl | fail "enter: no rule for these arguments"); (case c5 => decide); (case kB => exact locs rfl); (case c2 => exact rfl); (case c3 => exact rfl); (case c4 => exact rfl); k_whole; intro g' L' h' FG' F' N' B' X' T'; (try dsimp only); (try k_lift B'); (try k_fold)))
local macro_rules | `(tactic| walk_at "mine ok") => `(tactic| first | assumption | exact Mine.okText_slice (by assumption) _ _)
local macro_rules | `(tactic| walk_at "mine okn") => `(tactic| first | trivial | assumption | walk_at "mine tup")
local macro_rules | `(tactic| walk_at "exec Assign cons ListComp") => `(tactic| (k_here; lct_look; k_dflt (refine Mine.assign_listComp_G (by k_asm) (by rfl) (by with_unfolding_all rfl) (by with_unfolding_all rfl) (by decide) (by rfl) (by decide) (by rfl) (by rfl) (by rfl) ?_)))
local macro_rules | `(tactic| walk_at "mine okn") => `(tactic| exact ⟨_, by k_mem⟩)
local macro_rules | `(tactic| k_mem) => `(tactic| first | assumption | exact List.mem_cons_self | (refine List.mem_cons_of_mem _ ?_; k_mem) | (refine List.mem_append.mpr (Or.inl ?_); k_mem) | (refine List.mem_append.mpr (Or.inr ?_); k_mem))
local macro_rules | `(tactic| walk_at "subscriptTail Name Slice ref ref") => `(tactic| (k_here; (with_reducible show wpAny _ _ (subscriptTail _ (PySem.Expr.Slice none none (some _) _) (Value.ref _) (Value.ref _)) _ _ _); k_dflt (refine' krv_ints ?F ?N ?l ?k ?i ?_ ?s ?t ?z; (case F => k_asm); (case N => k_asm); (case l => is_list); (case k => exact IsPart.int _ _); (case i => assumption); (case s => with_unfolding_all rfl); (case t => kmk_pure); (case z => assumption)); intro D' ws' h' F' N' l1 hI' hC'))
local macro_rules | `(tactic| is_list) => `(tactic| exact News.isList (by k_asm) (by k_mem))
theorem mp_nil {w : World} (target : PySem.Str) (pos : Int) (t2 t3 : Tok) (r : Addr) (hok : okText target) (hp : 0 ≤ pos ∧ pos ≤ target.length) :
   ValTell PySem.Challenge.rw_en5030_01.row.prog w (Mine.hd.heap_39 w.params) 244 [.ref r, .str target t2, .int pos t3] 1 (fun nw => ∃ k, (r, listO [] k) ∈ nw) (MpRes (decide (pos = target.length)) []) := by
  w_top off
  k_fill
  intro p loose mean mg mb dp un gd cn cs a ccd cl outer A₀ base h₀ L m news s Q E B F X N T hk hOk hd hu hret
  have hlen : target.length ≤ 6 := hok.1
  obtain ⟨k9, hmem⟩ := hOk
  refine wpAny_call ?_
  walk_at "mine enter"
  k_steps
  · have e : pos = (target.length : Int) := by assumption
    exact hret _ [(_, listO [] _)] _ _ (mpRes_true (decide_eq_true e) .nil) (by k_asm) (cb_drop (by k_asm) (by walk_at "mine sub1"))
  · have e : ¬ pos = (target.length : Int) := by assumption
    exact hret _ [] _ _ (mpRes_false (decide_eq_false e)) (by k_asm) (cb_drop (by k_asm) (by walk_at "mine sub"))
end Mine
namespace Mine
local macro_rules | `(tactic| walk_at "mine enterC") => `(tactic| k_dflt (refine' code_defC ?k1 ?k2 ?k3 ?k4 ?k5 ?kA ?kF ?kK ?k6 ?k7 ?k8 ?k9 ?kB ?kD ?_ ?c2 ?c3 ?c4; (case kA => exact rfl); (case kF => exact rfl); (case kK => assumption); (case k1 => k_asm); (case k2 => k_asm); (case k3 => k_asm); (case k4 => k_asm); (case k5 => k_asm); (case k6 => k_is); (case k7 => k_is); (case k8 => ktr_room); (case k9 => first | exact BindsTo.of_eq rfl | exact binds_K (by k_in) rfl (by k_is) rfl rfl rfl | fail "enterC: no rule for these arguments"); (case kB => exact rfl); (case kD => decide +kernel); (case c2 => exact rfl); (case c3 => exact rfl); (case c4 => exact rfl); k_whole; intro g' L' h' tk' cells' FG' F' N' Y' B' X' T' l1; (try k_lt l1); k_cells Y'; (try simp only [List.cons_append, List.nil_append] at N'); (try dsimp only); (try k_lift B'); (try k_fold)))
local macro_rules | `(tactic| k_all) => `(tactic| exact Mine.ne_of_all (by assumption) (by omega))
local macro_rules | `(tactic| walk_at "eval ListComp") => `(tactic| (k_here; lct_look; k_dflt (refine Mine.listComp_G (by k_asm) (by with_unfolding_all rfl) (by decide) (by rfl) (by decide) (by rfl) ?_)))
local macro_rules | `(tactic| walk_at "TestEnd") => `(tactic| (first | refine Mine.TestEnd.of ?_ (by k_asm) (by k_asm) (fun _ hp => hp) | refine Mine.TestEnd.of ?_ (by k_asm) (by k_asm) (by walk_at "mine sub")))
local macro_rules | `(tactic| walk_at "EltEnd") => `(tactic| (first | refine Mine.EltEnd.of ?_ (by k_asm) (by k_asm) (fun _ hp => hp) | refine Mine.EltEnd.of ?_ (by k_asm) (by k_asm) (by walk_at "mine sub")))
local macro_rules | `(tactic| walk_at "mine sub") => `(tactic| (intro p9 hp9; (repeat (first | exact hp9 | exact List.mem_append_left _ hp9 | refine List.mem_cons_of_mem _ ?_))))
local macro_rules | `(tactic| walk_at "mine sub1") => `(tactic| (intro p9 hp9; rcases List.mem_cons.mp hp9 with h9 | h9; (rw [h9]; exact List.mem_cons_self); (repeat (first | exact h9 | exact List.mem_append_left _ h9 | refine List.mem_cons_of_mem _ ?_))))
local macro_rules | `(tactic| walk_at "mine off") => `(tactic| first | assumption | exact And.right (by assumption) | exact And.right (And.right (by assumption)) | exact And.right (And.right (And.right (by assumption))))
local macro_rules | `(tactic| walk_at "mine tup") => `(tactic| first | assumption | exact Mine.TupIn.mono (by assumption) (by walk_at "mine sub"))
local macro_rules | `(tactic| walk_at "call builtin:isinstance") => `(tactic| ((with_reducible show wpAny _ _ (call (Value.builtin "isinstance") [Value.ref _, Value.type "tuple"]) _ _ _); refine' call_isinstance_yes (Heap.IsTuple.typeIs (Mine.TupIn.at ?tin ?tn)) meta_tuple PySem.F.isi_sub_tuple ?_; (case tn => k_asm); (case tin => walk_at "mine tup")))
local macro_rules | `(tactic| walk_at "mine enter") => `(tactic| k_dflt (refine' code_def ?k1 ?k2 ?k3 ?k4 ?k5 ?kA ?kF ?kK ?k6 ?k7 ?k8 ?k9 ?kB ?_ ?c2 ?c3 ?c4 ?c5; (case kA => exact rfl); (case kF => exact rfl); (case kK => assumption); (case k1 => k_asm); (case k2 => k_asm); (case k3 => k_asm); (case k4 => k_asm); (case k5 => k_asm); (case k6 => k_is); (case k7 => k_is); (case k8 => ktr_room); (case k9 => first | exact BindsTo.of_eq rfl | exact binds_K (by k_in) rfl (by k_is) rfl rfl rfl | fail "enter: no rule for these arguments"); (case c5 => decide); (case kB => exact locs rfl); (case c2 => exact rfl); (case c3 => exact rfl); (case c4 => exact rfl); k_whole; intro g' L' h' FG' F' N' B' X' T'; (try dsimp only); (try k_lift B'); (try k_fold)))
local macro_rules | `(tactic| walk_at "mine ok") => `(tactic| first | assumption | exact Mine.okText_slice (by assumption) _ _)
local macro_rules | `(tactic| walk_at "mine okn") => `(tactic| first | trivial | assumption | walk_at "mine tup")
local macro_rules | `(tactic| walk_at "exec Assign cons ListComp") => `(tactic| (k_here; lct_look; k_dflt (refine Mine.assign_listComp_G (by k_asm) (by rfl) (by with_unfolding_all rfl) (by with_unfolding_all rfl) (by decide) (by rfl) (by decide) (by rfl) (by rfl) (by rfl) ?_)))
local macro_rules | `(tactic| walk_at "mine okn") => `(tactic| exact ⟨_, by k_mem⟩)
local macro_rules | `(tactic| k_mem) => `(tactic| first | assumption | exact List.mem_cons_self | (refine List.mem_cons_of_mem _ ?_; k_mem) | (refine List.mem_append.mpr (Or.inl ?_); k_mem) | (refine List.mem_append.mpr (Or.inr ?_); k_mem))
local macro_rules | `(tactic| walk_at "subscriptTail Name Slice ref ref") => `(tactic| (k_here; (with_reducible show wpAny _ _ (subscriptTail _ (PySem.Expr.Slice none none (some _) _) (Value.ref _) (Value.ref _)) _ _ _); k_dflt (refine' krv_ints ?F ?N ?l ?k ?i ?_ ?s ?t ?z; (case F => k_asm); (case N => k_asm); (case l => is_list); (case k => exact IsPart.int _ _); (case i => assumption); (case s => with_unfolding_all rfl); (case t => kmk_pure); (case z => assumption)); intro D' ws' h' F' N' l1 hI' hC'))
local macro_rules | `(tactic| is_list) => `(tactic| exact News.isList (by k_asm) (by k_mem))

theorem mp_one {w : World} (target : PySem.Str) (t1 t2 t3 : Tok) (r q : Addr) (regex : PySem.Str) (ends : List Int) (hok : okText target) (he : ∀ e ∈ ends, 0 ≤ e ∧ e ≤ target.length) (hel : ends.length ≤ 10)
   (hpe : ∀ t1 t2 t3, IntsTell PySem.Challenge.rw_en5030_01.row.prog w (Mine.hd.heap_39 w.params) 236 [.str regex t1, .str target t2, .int 0 t3] 1 Any9 ends) :
   ValTell PySem.Challenge.rw_en5030_01.row.prog w (Mine.hd.heap_39 w.params) 244 [.ref r, .str target t2] 3 (fun nw => (∃ k, (r, listO [.ref q] k) ∈ nw) ∧ ∃ k, (q, ({ cls := .type "tuple", data := .seq #[.bool true, .str regex t1] k } : Obj)) ∈ nw) (MpRes (ends.contains target.length) [target]) := by
  w_top off
  k_fill
  intro p loose mean mg mb dp un gd cn cs a ccd cl outer A₀ base h₀ L m news s Q E B F X N T hk hOk hd hu hret
  have hlen : target.length ≤ 6 := hok.1
  obtain ⟨⟨k9, hmem⟩, k8, hmem2⟩ := hOk
  refine wpAny_call ?_
  walk_at "mine enter"
  k_steps
  k_dflt (refine' Mine.intsTell_use (hpe _ _ _) ?z1 ?z2 ?z3 ?z4 ?z5 ?z6 ?z7 ?z8 ?z9 ?_)
  (case z1 => k_asm)
  (case z2 => k_asm)
  (case z3 => k_asm)
  (case z4 => k_asm)
  (case z5 => k_asm)
  (case z6 => first | exact rfl | assumption)
  (case z7 => trivial)
  (case z8 => ktr_room)
  (case z9 => ktr_units)
  intro D9 ys9 k9 h9 tk9 hI9 F9 N9
  have hz9 : ys9.length ≤ 10 := by rw [hI9.length]; exact hel
  k_with "pyIter ref" => k_search (fun pre => ∀ e ∈ pre, e ≠ (target.length : Int))
  k_steps
  · k_dflt (refine' Mine.valTell_use (mp_nil _ kN _ _ _ hok ?y0) ?z1 ?z2 ?z3 ?z4 ?z5 ?z6 ?z7 ?z8 ?z9 ?_)
    (case y0 => exact he _ kMem)
    (case z1 => k_asm)
    (case z2 => k_asm)
    (case z3 => k_asm)
    (case z4 => k_asm)
    (case z5 => k_asm)
    (case z6 => first | exact rfl | assumption)
    (case z7 => exact ⟨_, List.mem_cons_self⟩)
    (case z8 => ktr_room)
    (case z9 => ktr_units)
    intro v7 tl7 h7 tk7 R7 F7 N7
    by_cases hc7 : kN = (target.length : Int)
    · rw [decide_eq_true hc7] at R7
      obtain ⟨D6, vs6, k6, rfl, rfl, hv6⟩ := R7
      cases hv6
      simp only [List.cons_append, List.nil_append] at N7
      k_steps
      subst hc7
      exact hret _ [(_, listO [.str (PySem.Txt.slice target (some 0) (some (target.length : Int))) _] _)] _ _ (mpRes_true (contains_of kMem) (.cons ⟨_, by rw [slice_whole]⟩ .nil)) (by k_asm) (cb_drop (by k_asm) (by walk_at "mine sub1"))
    · rw [decide_eq_false hc7] at R7
      obtain ⟨rfl, rfl⟩ := R7
      simp only [List.nil_append] at N7
      k_steps
  · k_with_none
    exact hret _ [] _ _ (mpRes_false (contains_not kInv)) (by k_asm) (cb_drop (by k_asm) (by walk_at "mine sub"))
end Mine
namespace Mine
local macro_rules | `(tactic| walk_at "mine enterC") => `(tactic| k_dflt (refine' code_defC ?k1 ?k2 ?k3 ?k4 ?k5 ?kA ?kF ?kK ?k6 ?k7 ?k8 ?k9 ?kB ?kD ?_ ?c2 ?c3 ?c4; (case kA => exact rfl); (case kF => exact rfl); (case kK => assumption); (case k1 => k_asm); (case k2 => k_asm); (case k3 => k_asm); (case k4 => k_asm); (case k5 => k_asm); (case k6 => k_is); (case k7 => k_is); (case k8 => ktr_room); (case k9 => first | exact BindsTo.of_eq rfl | exact binds_K (by k_in) rfl (by k_is) rfl rfl rfl | fail "enterC: no rule for these arguments"); (case kB => exact rfl); (case kD => decide +kernel); (case c2 => exact rfl); (case c3 => exact rfl); (case c4 => exact rfl); k_whole; intro g' L' h' tk' cells' FG' F' N' Y' B' X' T' l1; (try k_lt l1); k_cells Y'; (try simp only [List.cons_append, List.nil_append] at N'); (try dsimp only); (try k_lift B'); (try k_fold)))
local macro_rules | `(tactic| k_all) => `(tactic| exact Mine.ne_of_all (by assumption) (by omega))
local macro_rules | `(tactic| walk_at "eval ListComp") => `(tactic| (k_here; lct_look; k_dflt (refine Mine.listComp_G (by k_asm) (by with_unfolding_all rfl) (by decide) (by rfl) (by decide) (by rfl) ?_)))
local macro_rules | `(tactic| walk_at "TestEnd") => `(tactic| (first | refine Mine.TestEnd.of ?_ (by k_asm) (by k_asm) (fun _ hp => hp) | refine Mine.TestEnd.of ?_ (by k_asm) (by k_asm) (by walk_at "mine sub")))
local macro_rules | `(tactic| walk_at "EltEnd") => `(tactic| (first | refine Mine.EltEnd.of ?_ (by k_asm) (by k_asm) (fun _ hp => hp) | refine Mine.EltEnd.of ?_ (by k_asm) (by k_asm) (by walk_at "mine sub")))
local macro_rules | `(tactic| walk_at "mine sub") => `(tactic| (intro p9 hp9; (repeat (first | exact hp9 | exact List.mem_append_left _ hp9 | refine List.mem_cons_of_mem _ ?_))))
local macro_rules | `(tactic| walk_at "mine sub1") => `(tactic| (intro p9 hp9; rcases List.mem_cons.mp hp9 with h9 | h9; (rw [h9]; exact List.mem_cons_self); (repeat (first | exact h9 | exact List.mem_append_left _ h9 | refine List.mem_cons_of_mem _ ?_))))
local macro_rules | `(tactic| walk_at "mine off") => `(tactic| first | assumption | exact And.right (by assumption) | exact And.right (And.right (by assumption)) | exact And.right (And.right (And.right (by assumption))))
local macro_rules | `(tactic| walk_at "mine tup") => `(tactic| first | assumption | exact Mine.TupIn.mono (by assumption) (by walk_at "mine sub"))
local macro_rules | `(tactic| walk_at "call builtin:isinstance") => `(tactic| ((with_reducible show wpAny _ _ (call (Value.builtin "isinstance") [Value.ref _, Value.type "tuple"]) _ _ _); refine' call_isinstance_yes (Heap.IsTuple.typeIs (Mine.TupIn.at ?tin ?tn)) meta_tuple PySem.F.isi_sub_tuple ?_; (case tn => k_asm); (case tin => walk_at "mine tup")))
local macro_rules | `(tactic| walk_at "mine enter") => `(tactic| k_dflt (refine' code_def ?k1 ?k2 ?k3 ?k4 ?k5 ?kA ?kF ?kK ?k6 ?k7 ?k8 ?k9 ?kB ?_ ?c2 ?c3 ?c4 ?c5; (case kA => exact rfl); (case kF => exact rfl); (case kK => assumption); (case k1 => k_asm); (case k2 => k_asm); (case k3 => k_asm); (case k4 => k_asm); (case k5 => k_asm); (case k6 => k_is); (case k7 => k_is); (case k8 => ktr_room); (case k9 => first | exact BindsTo.of_eq rfl | exact binds_K (by k_in) rfl (by k_is) rfl rfl rfl | fail "enter: no rule for these arguments"); (case c5 => decide); (case kB => exact locs rfl); (case c2 => exact rfl); (case c3 => exact rfl); (case c4 => exact rfl); k_whole; intro g' L' h' FG' F' N' B' X' T'; (try dsimp only); (try k_lift B'); (try k_fold)))
local macro_rules | `(tactic| walk_at "mine ok") => `(tactic| first | assumption | exact Mine.okText_slice (by assumption) _ _)
local macro_rules | `(tactic| walk_at "mine okn") => `(tactic| first | trivial | assumption | walk_at "mine tup")
local macro_rules | `(tactic| walk_at "exec Assign cons ListComp") => `(tactic| (k_here; lct_look; k_dflt (refine Mine.assign_listComp_G (by k_asm) (by rfl) (by with_unfolding_all rfl) (by with_unfolding_all rfl) (by decide) (by rfl) (by decide) (by rfl) (by rfl) (by rfl) ?_)))
local macro_rules | `(tactic| walk_at "mine okn") => `(tactic| exact ⟨_, by k_mem⟩)
local macro_rules | `(tactic| k_mem) => `(tactic| first | assumption | exact List.mem_cons_self | (refine List.mem_cons_of_mem _ ?_; k_mem) | (refine List.mem_append.mpr (Or.inl ?_); k_mem) | (refine List.mem_append.mpr (Or.inr ?_); k_mem))
local macro_rules | `(tactic| walk_at "subscriptTail Name Slice ref ref") => `(tactic| (k_here; (with_reducible show wpAny _ _ (subscriptTail _ (PySem.Expr.Slice none none (some _) _) (Value.ref _) (Value.ref _)) _ _ _); k_dflt (refine' krv_ints ?F ?N ?l ?k ?i ?_ ?s ?t ?z; (case F => k_asm); (case N => k_asm); (case l => is_list); (case k => exact IsPart.int _ _); (case i => assumption); (case s => with_unfolding_all rfl); (case t => kmk_pure); (case z => assumption)); intro D' ws' h' F' N' l1 hI' hC'))
local macro_rules | `(tactic| is_list) => `(tactic| exact News.isList (by k_asm) (by k_mem))
theorem lw_any {w : World} (target : PySem.Str) (kv : Value) (t1 t2 : Tok) (regex : PySem.Str) (ends : List Int) (OkK : List (Addr × Obj) → Prop) (hok : okText target) (he : ∀ e ∈ ends, 0 ≤ e ∧ e ≤ target.length) (hel : ends.length ≤ 10)
   (hpe : ∀ t1 t2 t3, IntsTell PySem.Challenge.rw_en5030_01.row.prog w (Mine.hd.heap_39 w.params) 236 [.str regex t1, .str target t2, .int 0 t3] 1 Any9 ends)
   (hlf : BoolTell PySem.Challenge.rw_en5030_01.row.prog w (Mine.hd.heap_39 w.params) 500 [kv, .str target t2] 2 OkK (ends.contains (target.length : Int)))
   (hmono : ∀ nw nw', OkK nw → (∀ p ∈ nw, p ∈ nw') → OkK nw') :
   BoolTell PySem.Challenge.rw_en5030_01.row.prog w (Mine.hd.heap_39 w.params) 524 [kv, .str regex t1, .str target t2] 4 OkK true := by
  w_top off
  k_fill
  intro p loose mean mg mb dp un gd cn cs a ccd cl outer A₀ base h₀ L m news s Q E B F X N T hk hOk hd hu hret
  have hlen : target.length ≤ 6 := hok.1
  refine wpAny_call ?_
  walk_at "mine enter"
  k_steps
  k_dflt (refine' Mine.valTell_use (mp_one _ _ _ 0 _ _ _ ends hok he hel hpe) ?z1 ?z2 ?z3 ?z4 ?z5 ?z6 ?z7 ?z8 ?z9 ?_)
  (case z1 => k_asm)
  (case z2 => k_asm)
  (case z3 => k_asm)
  (case z4 => k_asm)
  (case z5 => k_asm)
  (case z6 => first | exact rfl | assumption)
  (case z7 => exact ⟨⟨_, by k_mem⟩, _, by k_mem⟩)
  (case z8 => ktr_room)
  (case z9 => ktr_units)
  intro v7 tl7 h7 tk7 R7 F7 N7
  generalize hb : ends.contains (target.length : Int) = b at R7 hlf
  cases b with
  | true =>
    obtain ⟨D6, vs6, k6, rfl, rfl, hv6⟩ := R7
    simp only [List.cons_append, List.nil_append] at N7
    k_steps
    k_dflt (refine' Mine.boolTell_use hlf ?z1 ?z2 ?z3 ?z4 ?z5 ?z6 ?z7 ?z8 ?z9 ?_)
    (case z1 => k_asm)
    (case z2 => k_asm)
    (case z3 => k_asm)
    (case z4 => k_asm)
    (case z5 => k_asm)
    (case z6 => first | exact rfl | assumption)
    (case z7 => exact hmono _ _ hOk (by walk_at "mine sub"))
    (case z8 => ktr_room)
    (case z9 => ktr_units)
    intro h6 tk6 F6 N6
    k_steps
    refine eq_strs_one (vs := vs6) (by is_list) hv6 (okText_ok hok) (by is_list) (by ke_room) ?_
    k_steps
    exact hret _ _ (by k_asm) (cb_drop (by k_asm) (by walk_at "mine sub"))
  | false =>
    obtain ⟨rfl, rfl⟩ := R7
    simp only [List.nil_append] at N7
    k_steps
    k_dflt (refine' Mine.boolTell_use hlf ?z1 ?z2 ?z3 ?z4 ?z5 ?z6 ?z7 ?z8 ?z9 ?_)
    (case z1 => k_asm)
    (case z2 => k_asm)
    (case z3 => k_asm)
    (case z4 => k_asm)
    (case z5 => k_asm)
    (case z6 => first | exact rfl | assumption)
    (case z7 => exact hmono _ _ hOk (by walk_at "mine sub"))
    (case z8 => ktr_room)
    (case z9 => ktr_units)
    intro h6 tk6 F6 N6
    k_steps
    exact hret _ _ (by k_asm) (cb_drop (by k_asm) (by walk_at "mine sub"))
end Mine
namespace Mine
local macro_rules | `(tactic| walk_at "mine enterC") => `(tactic| k_dflt (refine' code_defC ?k1 ?k2 ?k3 ?k4 ?k5 ?kA ?kF ?kK ?k6 ?k7 ?k8 ?k9 ?kB ?kD ?_ ?c2 ?c3 ?c4; (case kA => exact rfl); (case kF => exact rfl); (case kK => assumption); (case k1 => k_asm); (case k2 => k_asm); (case k3 => k_asm); (case k4 => k_asm); (case k5 => k_asm); (case k6 => k_is); (case k7 => k_is); (case k8 => ktr_room); (case k9 => first | exact BindsTo.of_eq rfl | exact binds_K (by k_in) rfl (by k_is) rfl rfl rfl | fail "enterC: no rule for these arguments"); (case kB => exact rfl); (case kD => decide +kernel); (case c2 => exact rfl); (case c3 => exact rfl); (case c4 => exact rfl); k_whole; intro g' L' h' tk' cells' FG' F' N' Y' B' X' T' l1; (try k_lt l1); k_cells Y'; (try simp only [List.cons_append, List.nil_append] at N'); (try dsimp only); (try k_lift B'); (try k_fold)))
local macro_rules | `(tactic| k_all) => `(tactic| exact Mine.ne_of_all (by assumption) (by omega))
local macro_rules | `(tactic| walk_at "eval ListComp") => `(tactic| (k_here; lct_look; k_dflt (refine Mine.listComp_G (by k_asm) (by with_unfolding_all rfl) (by decide) (by rfl) (by decide) (by rfl) ?_)))
local macro_rules | `(tactic| walk_at "TestEnd") => `(tactic| (first | refine Mine.TestEnd.of ?_ (by k_asm) (by k_asm) (fun _ hp => hp) | refine Mine.TestEnd.of ?_ (by k_asm) (by k_asm) (by walk_at "mine sub")))
local macro_rules | `(tactic| walk_at "EltEnd") => `(tactic| (first | refine Mine.EltEnd.of ?_ (by k_asm) (by k_asm) (fun _ hp => hp) | refine Mine.EltEnd.of ?_ (by k_asm) (by k_asm) (by walk_at "mine sub")))
local macro_rules | `(tactic| walk_at "mine sub") => `(tactic| (intro p9 hp9; (repeat (first | exact hp9 | exact List.mem_append_left _ hp9 | refine List.mem_cons_of_mem _ ?_))))
local macro_rules | `(tactic| walk_at "mine sub1") => `(tactic| (intro p9 hp9; rcases List.mem_cons.mp hp9 with h9 | h9; (rw [h9]; exact List.mem_cons_self); (repeat (first | exact h9 | exact List.mem_append_left _ h9 | refine List.mem_cons_of_mem _ ?_))))
local macro_rules | `(tactic| walk_at "mine off") => `(tactic| first | assumption | exact And.right (by assumption) | exact And.right (And.right (by assumption)) | exact And.right (And.right (And.right (by assumption))))
local macro_rules | `(tactic| walk_at "mine tup") => `(tactic| first | assumption | exact Mine.TupIn.mono (by assumption) (by walk_at "mine sub"))
local macro_rules | `(tactic| walk_at "call builtin:isinstance") => `(tactic| ((with_reducible show wpAny _ _ (call (Value.builtin "isinstance") [Value.ref _, Value.type "tuple"]) _ _ _); refine' call_isinstance_yes (Heap.IsTuple.typeIs (Mine.TupIn.at ?tin ?tn)) meta_tuple PySem.F.isi_sub_tuple ?_; (case tn => k_asm); (case tin => walk_at "mine tup")))
local macro_rules | `(tactic| walk_at "mine enter") => `(tactic| k_dflt (refine' code_def ?k1 ?k2 ?k3 ?k4 ?k5 ?kA ?kF ?kK ?k6 ?k7 ?k8 ?k9 ?kB ?_ ?c2 ?c3 ?c4 ?c5; (case kA => exact rfl); (case kF => exact rfl); (case kK => assumption); (case k1 => k_asm); (case k2 => k_asm); (case k3 => k_asm); (case k4 => k_asm); (case k5 => k_asm); (case k6 => k_is); (case k7 => k_is); (case k8 => ktr_room); (case k9 => first | exact BindsTo.of_eq rfl | exact binds_K (by k_in) rfl (by k_is) rfl rfl rfl | fail "enter: no rule for these arguments"); (case c5 => decide); (case kB => exact locs rfl); (case c2 => exact rfl); (case c3 => exact rfl); (case c4 => exact rfl); k_whole; intro g' L' h' FG' F' N' B' X' T'; (try dsimp only); (try k_lift B'); (try k_fold)))
local macro_rules | `(tactic| walk_at "mine ok") => `(tactic| first | assumption | exact Mine.okText_slice (by assumption) _ _)
local macro_rules | `(tactic| walk_at "mine okn") => `(tactic| first | trivial | assumption | walk_at "mine tup")
local macro_rules | `(tactic| walk_at "exec Assign cons ListComp") => `(tactic| (k_here; lct_look; k_dflt (refine Mine.assign_listComp_G (by k_asm) (by rfl) (by with_unfolding_all rfl) (by with_unfolding_all rfl) (by decide) (by rfl) (by decide) (by rfl) (by rfl) (by rfl) ?_)))
local macro_rules | `(tactic| walk_at "mine okn") => `(tactic| exact ⟨_, by k_mem⟩)
local macro_rules | `(tactic| k_mem) => `(tactic| first | assumption | exact List.mem_cons_self | (refine List.mem_cons_of_mem _ ?_; k_mem) | (refine List.mem_append.mpr (Or.inl ?_); k_mem) | (refine List.mem_append.mpr (Or.inr ?_); k_mem))
local macro_rules | `(tactic| walk_at "subscriptTail Name Slice ref ref") => `(tactic| (k_here; (with_reducible show wpAny _ _ (subscriptTail _ (PySem.Expr.Slice none none (some _) _) (Value.ref _) (Value.ref _)) _ _ _); k_dflt (refine' krv_ints ?F ?N ?l ?k ?i ?_ ?s ?t ?z; (case F => k_asm); (case N => k_asm); (case l => is_list); (case k => exact IsPart.int _ _); (case i => assumption); (case s => with_unfolding_all rfl); (case t => kmk_pure); (case z => assumption)); intro D' ws' h' F' N' l1 hI' hC'))
local macro_rules | `(tactic| is_list) => `(tactic| exact News.isList (by k_asm) (by k_mem))
local macro_rules | `(tactic| walk_at "mine step") => `(tactic| first | (k_unfold; (try dsimp only)) | (k_end; kc_close) | walk1 | (dsimp only; walk1) | (leave1; walk_say "STEP leave1"; (try dsimp only)))
local macro_rules | `(tactic| walk_at "mine cls") => `(tactic| (k_dflt (refine' call_cls ?k1 ?k2 ?k3 ?k4 ?k5 ?k6 ?_; (case k1 => k_asm); (case k2 => k_asm); (case k3 => k_asm); (case k4 => k_is); (case k5 => k_is); (case k6 => k_is); k_whole); intro x' d' h' F' N' l1 l2; (try k_lt l1); (try k_lt2 l2); (try k_sweep)))
local macro_rules | `(tactic| k_room) => `(tactic| ktr_room)
local macro_rules | `(tactic| walk_at "call type:list nil nil") => `(tactic| (k_here; k_dflt (refine' Mine.list0_N ?zF ?zN ?_; (case zF => k_asm); (case zN => k_asm)); intro D' c' h' F' N' l1; (try k_lt l1)))
local macro_rules | `(tactic| walk_at "call type:dict nil nil") => `(tactic| (k_here; k_dflt (refine' Mine.dict0_N ?zF ?zN ?_; (case zF => k_asm); (case zN => k_asm)); intro D' h' F' N' l1; (try k_lt l1)))
local macro_rules | `(tactic| walk_at "call type:dict") => `(tactic| (k_here; k_dflt (refine' Mine.dictCopy_K ?zF ?zX ?zN ?zl ?zk ?zn ?za ?zs ?_; (case zF => k_asm); (case zX => k_asm); (case zN => k_asm); (case zl => k_is); (case zk => k_keys); (case zn => first | decide +kernel | (simp only [Mine.kvOf, List.map_cons, List.map_nil]; decide +kernel)); (case za => decide); (case zs => exact Nat.le_of_ble_eq_true rfl)); intro D' h' F' N'))
local macro_rules | `(tactic| walk_at "compareOp Is ref ref") => `(tactic| with_reducible refine wpAny_is_ref_self ?_)
local macro_rules | `(tactic| ktr_units) => `(tactic| (have hcL9 := cLine_is; (try simp only [Mine.units_under_make, units_in1, units_deeper, Around.mark_units, units_caller] at *); (try dsimp only [ktrTop] at *); omega))
local macro_rules | `(tactic| walk_at "mine ks") => `(tactic| k_dflt (refine' ks_code_super ?k1 ?k2 ?k3 ?k4 ?k5 ?kA ?kF ?kK ?k6 ?k7 ?k8 ?k9 ?kB ?_ ?c1 ?c2 ?c3 ?c4; (case kA => exact rfl); (case kF => exact rfl); (case kK => first | exact rfl | assumption); (case k1 => k_asm); (case k2 => k_asm); (case k3 => k_asm); (case k4 => k_asm); (case k5 => k_asm); (case k6 => k_is); (case k7 => k_is); (case k8 => k_room); (case k9 => first | exact BindsTo.of_eq rfl | exact binds_K (by k_in) rfl (by k_is) rfl rfl rfl); (case kB => exact locs rfl); (case c1 => decide); (case c2 => exact rfl); (case c3 => exact rfl); (case c4 => exact rfl); intro g' L' h' FG' F' N' B' X' T' l1; (try k_lt l1); (try dsimp only); (try k_lift B')))
local macro_rules | `(tactic| walk_at "wpAt func") => `(tactic| ((try dsimp only); first
  | (k_dflt (ks_step "execs cons"; refine ks_wpAt_execs_cons ?_))
  | (k_dflt (ks_step "exec Expr"; refine ks_wpAt_Expr_any ?_))
  | (k_dflt (ks_step "exec Return"; refine ks_wpAt_Return_some ?_))
  | (k_dflt (ks_step "exec Assign"; first | refine ks_wpAt_Assign_Name ?_ | refine ks_wpAt_Assign_Attr ?_))
  | (k_dflt (ks_step "exec If"; refine ks_wpAt_If ?_))
  | (k_dflt (ks_step "eval Call"; refine ks_wpAt_MethodCall ?_))))
local macro_rules | `(tactic| walk_at "call type:set cons nil") => `(tactic| (k_here; k_dflt (refine' Mine.setTuple_N ?zF ?zN ?zh ?zl ?zi ?zb ?_; (case zF => k_asm); (case zN => k_asm); (case zh => rfl); (case zl => exact ⟨_, by k_mem, rfl, _, rfl⟩); (case zi => walk_at "mine strs"); (case zb => exact Nat.le_of_ble_eq_true rfl)); intro D' h' tk' F' N'))
local macro_rules | `(tactic| walk_at "mine strs") => `(tactic| first | exact Mine.strs2 _ _ _ _ | exact Mine.strs0)
local macro_rules | `(tactic| walk_at "mine ksr") => `(tactic| k_dflt (refine' Mine.ks_rest ?k1 ?k2 ?k3 ?k4 ?k5 ?kA ?kF ?kK ?k6 ?k7 ?k8 ?kV ?kP ?kG ?kB ?_ ?c1 ?c2 ?c3 ?c4; (case kA => exact rfl); (case kF => exact rfl); (case kK => first | exact rfl | assumption); (case k1 => k_asm); (case k2 => k_asm); (case k3 => k_asm); (case k4 => k_asm); (case k5 => k_asm); (case k6 => k_is); (case k7 => k_is); (case k8 => k_room); (case kV => kl_lit); (case kP => exact rfl); (case kG => exact fun _ => rfl); (case kB => exact fun _ => locs rfl); (case c1 => decide); (case c2 => exact rfl); (case c3 => exact rfl); (case c4 => exact rfl); intro D' g' L' h' l1 FG' F' N' B' X' T'; (try k_lt l1); (try dsimp only); (try k_lift B')))
def RefOnly (v : Value) (tl : List (Addr × Obj)) : Prop := (∃ x, v = .ref x) ∧ tl = []
theorem mk_state {w : World} : ValTell PySem.Challenge.rw_en5030_01.row.prog w (Mine.hd.heap_39 w.params) 227 [] 2 Any9 RefOnly := by
  w_top off
  k_fill
  intro p loose mean mg mb dp un gd cn cs a ccd cl outer A₀ base h₀ L m news s Q E B F X N T hk hOk hd hu hret
  walk_at "mine cls"
  walk_at "mine enter"
  k_steps
  exact hret _ [] _ _ ⟨⟨_, rfl⟩, rfl⟩ (by k_asm) (cb_drop (by k_asm) (by walk_at "mine sub"))
local macro_rules | `(tactic| walk_at "call ref") => `(tactic| (k_here; k_dflt (refine' Mine.valTell_use Mine.mk_state ?z1 ?z2 ?z3 ?z4 ?z5 ?z6 ?z7 ?z8 ?z9 ?_; (case z1 => k_asm); (case z2 => k_asm); (case z3 => k_asm); (case z4 => k_asm); (case z5 => k_asm); (case z6 => first | exact rfl | assumption); (case z7 => trivial); (case z8 => ktr_room); (case z9 => ktr_units); intro v9 tl9 h9 tk9 R9 F9 N9; obtain ⟨⟨x9, e9⟩, f9⟩ := R9; subst e9; subst f9; (try simp only [List.nil_append] at N9); (try dsimp only); (try k_fold))))
theorem mk_smm {w : World} : ValTell PySem.Challenge.rw_en5030_01.row.prog w (Mine.hd.heap_39 w.params) 282 [.bool true] 4 Any9 RefOnly := by
  w_top off
  k_fill
  intro p loose mean mg mb dp un gd cn cs a ccd cl outer A₀ base h₀ L m news s Q E B F X N T hk hOk hd hu hret
  walk_at "mine cls"
  walk_at "mine enter"
  k_steps
  exact hret _ [] _ _ ⟨⟨_, rfl⟩, rfl⟩ (by k_asm) (cb_drop (by k_asm) (by walk_at "mine sub"))
local macro_rules | `(tactic| walk_at "call ref") => `(tactic| (k_here; k_dflt (refine' Mine.valTell_use Mine.mk_smm ?z1 ?z2 ?z3 ?z4 ?z5 ?z6 ?z7 ?z8 ?z9 ?_; (case z1 => k_asm); (case z2 => k_asm); (case z3 => k_asm); (case z4 => k_asm); (case z5 => k_asm); (case z6 => first | exact rfl | assumption); (case z7 => trivial); (case z8 => ktr_room); (case z9 => ktr_units); intro v9 tl9 h9 tk9 R9 F9 N9; obtain ⟨⟨x9, e9⟩, f9⟩ := R9; subst e9; subst f9; (try simp only [List.nil_append] at N9); (try dsimp only); (try k_fold))))
local macro_rules | `(tactic| walk_at "pyIter ref") => `(tactic| k_dflt (refine' Mine.loop_none ?zh ?zF ?zN ?zm ?_; (case zh => rfl); (case zF => k_asm); (case zN => k_asm); (case zm => exact ⟨_, List.mem_cons_self, rfl, _, rfl⟩); intro h9 tk9 F9 N9))
theorem mk_map {w : World} : ValTell PySem.Challenge.rw_en5030_01.row.prog w (Mine.hd.heap_39 w.params) 357 [] 6 Any9 RefOnly := by
  w_top off
  k_fill
  intro p loose mean mg mb dp un gd cn cs a ccd cl outer A₀ base h₀ L m news s Q E B F X N T hk hOk hd hu hret
  walk_at "mine cls"
  walk_at "mine enter"
  (rename Fr _ _ _ _ => Fx)
  have Fy := (show Fr _ _ _ (fun y => List.lookup y [(PySem.Str.ofString "host_matching", Value.bool false), (PySem.Str.ofString "sort_key", Value.none), (PySem.Str.ofString "sort_parameters", Value.bool false), (PySem.Str.ofString "converters", Value.none), (PySem.Str.ofString "redirect_defaults", Value.bool true), (PySem.Str.ofString "merge_slashes", Value.bool true), (PySem.Str.ofString "strict_slashes", Value.bool true), (PySem.Str.ofString "default_subdomain", Value.str (PySem.Str.ofString "") _), (PySem.Str.ofString "rules", Value.none), (PySem.Str.ofString "self", Value.ref _)]) from Fx)
  clear Fx
  k_steps
  exact hret _ [] _ _ ⟨⟨_, rfl⟩, rfl⟩ (by k_asm) (cb_drop (by k_asm) (by walk_at "mine sub"))
end Mine
namespace Mine
local macro_rules | `(tactic| walk_at "mine enterC") => `(tactic| k_dflt (refine' code_defC ?k1 ?k2 ?k3 ?k4 ?k5 ?kA ?kF ?kK ?k6 ?k7 ?k8 ?k9 ?kB ?kD ?_ ?c2 ?c3 ?c4; (case kA => exact rfl); (case kF => exact rfl); (case kK => assumption); (case k1 => k_asm); (case k2 => k_asm); (case k3 => k_asm); (case k4 => k_asm); (case k5 => k_asm); (case k6 => k_is); (case k7 => k_is); (case k8 => ktr_room); (case k9 => first | exact BindsTo.of_eq rfl | exact binds_K (by k_in) rfl (by k_is) rfl rfl rfl | fail "enterC: no rule for these arguments"); (case kB => exact rfl); (case kD => decide +kernel); (case c2 => exact rfl); (case c3 => exact rfl); (case c4 => exact rfl); k_whole; intro g' L' h' tk' cells' FG' F' N' Y' B' X' T' l1; (try k_lt l1); k_cells Y'; (try simp only [List.cons_append, List.nil_append] at N'); (try dsimp only); (try k_lift B'); (try k_fold)))
local macro_rules | `(tactic| k_all) => `(tactic| exact Mine.ne_of_all (by assumption) (by omega))
local macro_rules | `(tactic| walk_at "eval ListComp") => `(tactic| (k_here; lct_look; k_dflt (refine Mine.listComp_G (by k_asm) (by with_unfolding_all rfl) (by decide) (by rfl) (by decide) (by rfl) ?_)))
local macro_rules | `(tactic| walk_at "TestEnd") => `(tactic| (first | refine Mine.TestEnd.of ?_ (by k_asm) (by k_asm) (fun _ hp => hp) | refine Mine.TestEnd.of ?_ (by k_asm) (by k_asm) (by walk_at "mine sub")))
local macro_rules | `(tactic| walk_at "EltEnd") => `(tactic| (first | refine Mine.EltEnd.of ?_ (by k_asm) (by k_asm) (fun _ hp => hp) | refine Mine.EltEnd.of ?_ (by k_asm) (by k_asm) (by walk_at "mine sub")))
local macro_rules | `(tactic| walk_at "mine sub") => `(tactic| (intro p9 hp9; (repeat (first | exact hp9 | exact List.mem_append_left _ hp9 | refine List.mem_cons_of_mem _ ?_))))
local macro_rules | `(tactic| walk_at "mine sub1") => `(tactic| (intro p9 hp9; rcases List.mem_cons.mp hp9 with h9 | h9; (rw [h9]; exact List.mem_cons_self); (repeat (first | exact h9 | exact List.mem_append_left _ h9 | refine List.mem_cons_of_mem _ ?_))))
local macro_rules | `(tactic| walk_at "mine off") => `(tactic| first | assumption | exact And.right (by assumption) | exact And.right (And.right (by assumption)) | exact And.right (And.right (And.right (by assumption))))
local macro_rules | `(tactic| walk_at "mine tup") => `(tactic| first | assumption | exact Mine.TupIn.mono (by assumption) (by walk_at "mine sub"))
local macro_rules | `(tactic| walk_at "call builtin:isinstance") => `(tactic| ((with_reducible show wpAny _ _ (call (Value.builtin "isinstance") [Value.ref _, Value.type "tuple"]) _ _ _); refine' call_isinstance_yes (Heap.IsTuple.typeIs (Mine.TupIn.at ?tin ?tn)) meta_tuple PySem.F.isi_sub_tuple ?_; (case tn => k_asm); (case tin => walk_at "mine tup")))
local macro_rules | `(tactic| walk_at "mine enter") => `(tactic| k_dflt (refine' code_def ?k1 ?k2 ?k3 ?k4 ?k5 ?kA ?kF ?kK ?k6 ?k7 ?k8 ?k9 ?kB ?_ ?c2 ?c3 ?c4 ?c5; (case kA => exact rfl); (case kF => exact rfl); (case kK => assumption); (case k1 => k_asm); (case k2 => k_asm); (case k3 => k_asm); (case k4 => k_asm); (case k5 => k_asm); (case k6 => k_is); (case k7 => k_is); (case k8 => ktr_room); (case k9 => first | exact BindsTo.of_eq rfl | exact binds_K (by k_in) rfl (by k_is) rfl rfl rfl | fail "enter: no rule for these arguments"); (case c5 => decide); (case kB => exact locs rfl); (case c2 => exact rfl); (case c3 => exact rfl); (case c4 => exact rfl); k_whole; intro g' L' h' FG' F' N' B' X' T'; (try dsimp only); (try k_lift B'); (try k_fold)))
local macro_rules | `(tactic| walk_at "mine ok") => `(tactic| first | assumption | exact Mine.okText_slice (by assumption) _ _)
local macro_rules | `(tactic| walk_at "mine okn") => `(tactic| first | trivial | assumption | walk_at "mine tup")
local macro_rules | `(tactic| walk_at "exec Assign cons ListComp") => `(tactic| (k_here; lct_look; k_dflt (refine Mine.assign_listComp_G (by k_asm) (by rfl) (by with_unfolding_all rfl) (by with_unfolding_all rfl) (by decide) (by rfl) (by decide) (by rfl) (by rfl) (by rfl) ?_)))
local macro_rules | `(tactic| walk_at "mine okn") => `(tactic| exact ⟨_, by k_mem⟩)
local macro_rules | `(tactic| k_mem) => `(tactic| first | assumption | exact List.mem_cons_self | (refine List.mem_cons_of_mem _ ?_; k_mem) | (refine List.mem_append.mpr (Or.inl ?_); k_mem) | (refine List.mem_append.mpr (Or.inr ?_); k_mem))
local macro_rules | `(tactic| walk_at "subscriptTail Name Slice ref ref") => `(tactic| (k_here; (with_reducible show wpAny _ _ (subscriptTail _ (PySem.Expr.Slice none none (some _) _) (Value.ref _) (Value.ref _)) _ _ _); k_dflt (refine' krv_ints ?F ?N ?l ?k ?i ?_ ?s ?t ?z; (case F => k_asm); (case N => k_asm); (case l => is_list); (case k => exact IsPart.int _ _); (case i => assumption); (case s => with_unfolding_all rfl); (case t => kmk_pure); (case z => assumption)); intro D' ws' h' F' N' l1 hI' hC'))
local macro_rules | `(tactic| is_list) => `(tactic| exact News.isList (by k_asm) (by k_mem))
local macro_rules | `(tactic| walk_at "mine step") => `(tactic| first | (k_unfold; (try dsimp only)) | (k_end; kc_close) | walk1 | (dsimp only; walk1) | (leave1; walk_say "STEP leave1"; (try dsimp only)))
local macro_rules | `(tactic| walk_at "mine cls") => `(tactic| (k_dflt (refine' call_cls ?k1 ?k2 ?k3 ?k4 ?k5 ?k6 ?_; (case k1 => k_asm); (case k2 => k_asm); (case k3 => k_asm); (case k4 => k_is); (case k5 => k_is); (case k6 => k_is); k_whole); intro x' d' h' F' N' l1 l2; (try k_lt l1); (try k_lt2 l2); (try k_sweep)))
local macro_rules | `(tactic| k_room) => `(tactic| ktr_room)
local macro_rules | `(tactic| walk_at "call type:list nil nil") => `(tactic| (k_here; k_dflt (refine' Mine.list0_N ?zF ?zN ?_; (case zF => k_asm); (case zN => k_asm)); intro D' c' h' F' N' l1; (try k_lt l1)))
local macro_rules | `(tactic| walk_at "call type:dict nil nil") => `(tactic| (k_here; k_dflt (refine' Mine.dict0_N ?zF ?zN ?_; (case zF => k_asm); (case zN => k_asm)); intro D' h' F' N' l1; (try k_lt l1)))
local macro_rules | `(tactic| walk_at "call type:dict") => `(tactic| (k_here; k_dflt (refine' Mine.dictCopy_K ?zF ?zX ?zN ?zl ?zk ?zn ?za ?zs ?_; (case zF => k_asm); (case zX => k_asm); (case zN => k_asm); (case zl => k_is); (case zk => k_keys); (case zn => first | decide +kernel | (simp only [Mine.kvOf, List.map_cons, List.map_nil]; decide +kernel)); (case za => decide); (case zs => exact Nat.le_of_ble_eq_true rfl)); intro D' h' F' N'))
local macro_rules | `(tactic| walk_at "compareOp Is ref ref") => `(tactic| with_reducible refine wpAny_is_ref_self ?_)
local macro_rules | `(tactic| ktr_units) => `(tactic| (have hcL9 := cLine_is; (try simp only [Mine.units_under_make, units_in1, units_deeper, Around.mark_units, units_caller] at *); (try dsimp only [ktrTop] at *); omega))
local macro_rules | `(tactic| walk_at "mine ks") => `(tactic| k_dflt (refine' ks_code_super ?k1 ?k2 ?k3 ?k4 ?k5 ?kA ?kF ?kK ?k6 ?k7 ?k8 ?k9 ?kB ?_ ?c1 ?c2 ?c3 ?c4; (case kA => exact rfl); (case kF => exact rfl); (case kK => first | exact rfl | assumption); (case k1 => k_asm); (case k2 => k_asm); (case k3 => k_asm); (case k4 => k_asm); (case k5 => k_asm); (case k6 => k_is); (case k7 => k_is); (case k8 => k_room); (case k9 => first | exact BindsTo.of_eq rfl | exact binds_K (by k_in) rfl (by k_is) rfl rfl rfl); (case kB => exact locs rfl); (case c1 => decide); (case c2 => exact rfl); (case c3 => exact rfl); (case c4 => exact rfl); intro g' L' h' FG' F' N' B' X' T' l1; (try k_lt l1); (try dsimp only); (try k_lift B')))
local macro_rules | `(tactic| walk_at "wpAt func") => `(tactic| ((try dsimp only); first
  | (k_dflt (ks_step "execs cons"; refine ks_wpAt_execs_cons ?_))
  | (k_dflt (ks_step "exec Expr"; refine ks_wpAt_Expr_any ?_))
  | (k_dflt (ks_step "exec Return"; refine ks_wpAt_Return_some ?_))
  | (k_dflt (ks_step "exec Assign"; first | refine ks_wpAt_Assign_Name ?_ | refine ks_wpAt_Assign_Attr ?_))
  | (k_dflt (ks_step "exec If"; refine ks_wpAt_If ?_))
  | (k_dflt (ks_step "eval Call"; refine ks_wpAt_MethodCall ?_))))
local macro_rules | `(tactic| walk_at "call type:set cons nil") => `(tactic| (k_here; k_dflt (refine' Mine.setTuple_N ?zF ?zN ?zh ?zl ?zi ?zb ?_; (case zF => k_asm); (case zN => k_asm); (case zh => rfl); (case zl => exact ⟨_, by k_mem, rfl, _, rfl⟩); (case zi => walk_at "mine strs"); (case zb => exact Nat.le_of_ble_eq_true rfl)); intro D' h' tk' F' N'))
local macro_rules | `(tactic| walk_at "mine strs") => `(tactic| first | exact Mine.strs2 _ _ _ _ | exact Mine.strs0)
local macro_rules | `(tactic| walk_at "mine ksr") => `(tactic| k_dflt (refine' Mine.ks_rest ?k1 ?k2 ?k3 ?k4 ?k5 ?kA ?kF ?kK ?k6 ?k7 ?k8 ?kV ?kP ?kG ?kB ?_ ?c1 ?c2 ?c3 ?c4; (case kA => exact rfl); (case kF => exact rfl); (case kK => first | exact rfl | assumption); (case k1 => k_asm); (case k2 => k_asm); (case k3 => k_asm); (case k4 => k_asm); (case k5 => k_asm); (case k6 => k_is); (case k7 => k_is); (case k8 => k_room); (case kV => kl_lit); (case kP => exact rfl); (case kG => exact fun _ => rfl); (case kB => exact fun _ => locs rfl); (case c1 => decide); (case c2 => exact rfl); (case c3 => exact rfl); (case c4 => exact rfl); intro D' g' L' h' l1 FG' F' N' B' X' T'; (try k_lt l1); (try dsimp only); (try k_lift B')))
def IntConv (P : Params) (r : Addr) (v : Value) (tl : List (Addr × Obj)) : Prop :=
  ∃ x d t1 t2 t3 t4 t5 u, v = .ref x ∧ tl = [(x, instObj 172 d), (d, dictOf [entO P "map" t1 (.ref r), entO P "fixed_digits" t2 (.int 0 u), entO P "min" t3 .none, entO P "max" t4 .none, entO P "signed" t5 (.bool false)] 5)]
theorem mk_int {w : World} (r : Addr) : ValTell PySem.Challenge.rw_en5030_01.row.prog w (Mine.hd.heap_39 w.params) 172 [.ref r] 4 Any9 (IntConv w.params r) := by
  w_top off
  k_fill
  intro p loose mean mg mb dp un gd cn cs a ccd cl outer A₀ base h₀ L m news s Q E B F X N T hk hOk hd hu hret
  walk_at "mine cls"
  walk_at "mine ks"
  k_steps
  (rename News _ _ _ _ => kN)
  exact hret _ _ _ _ ⟨_, _, _, _, _, _, _, _, rfl, rfl⟩ (by k_asm) (Mine.news_drop 4 kN)
def IntConvS (P : Params) (r : Addr) (v : Value) (tl : List (Addr × Obj)) : Prop :=
  ∃ x d t0 t1 t2 t3 t4 t5 u u', v = .ref x ∧ tl = [(x, instObj 172 d), (d, dictOf [entO P "regex" t0 (.str (PySem.Str.ofString "-?\\d+") u'), entO P "map" t1 (.ref r), entO P "fixed_digits" t2 (.int 0 u), entO P "min" t3 .none, entO P "max" t4 .none, entO P "signed" t5 (.bool true)] 6)]
theorem mk_ints {w : World} (r : Addr) (tt : Tok) : ValTell PySem.Challenge.rw_en5030_01.row.prog w (Mine.hd.heap_39 w.params) 172 [.ref r, .int 0 tt, .none, .none, .bool true] 4 Any9 (IntConvS w.params r) := by
  w_top off
  k_fill
  intro p loose mean mg mb dp un gd cn cs a ccd cl outer A₀ base h₀ L m news s Q E B F X N T hk hOk hd hu hret
  walk_at "mine cls"
  walk_at "mine ks"
  k_steps
  (rename News _ _ _ _ => kN)
  exact hret _ _ _ _ ⟨_, _, _, _, _, _, _, _, _, _, rfl, rfl⟩ (by k_asm) (Mine.news_drop 4 kN)
end Mine
namespace Mine
local macro_rules | `(tactic| walk_at "mine enterC") => `(tactic| k_dflt (refine' code_defC ?k1 ?k2 ?k3 ?k4 ?k5 ?kA ?kF ?kK ?k6 ?k7 ?k8 ?k9 ?kB ?kD ?_ ?c2 ?c3 ?c4; (case kA => exact rfl); (case kF => exact rfl); (case kK => assumption); (case k1 => k_asm); (case k2 => k_asm); (case k3 => k_asm); (case k4 => k_asm); (case k5 => k_asm); (case k6 => k_is); (case k7 => k_is); (case k8 => ktr_room); (case k9 => first | exact BindsTo.of_eq rfl | exact binds_K (by k_in) rfl (by k_is) rfl rfl rfl | fail "enterC: no rule for these arguments"); (case kB => exact rfl); (case kD => decide +kernel); (case c2 => exact rfl); (case c3 => exact rfl); (case c4 => exact rfl); k_whole; intro g' L' h' tk' cells' FG' F' N' Y' B' X' T' l1; (try k_lt l1); k_cells Y'; (try simp only [List.cons_append, List.nil_append] at N'); (try dsimp only); (try k_lift B'); (try k_fold)))
local macro_rules | `(tactic| k_all) => `(tactic| exact Mine.ne_of_all (by assumption) (by omega))
local macro_rules | `(tactic| walk_at "eval ListComp") => `(tactic| (k_here; lct_look; k_dflt (refine Mine.listComp_G (by k_asm) (by with_unfolding_all rfl) (by decide) (by rfl) (by decide) (by rfl) ?_)))
local macro_rules | `(tactic| walk_at "TestEnd") => `(tactic| (first | refine Mine.TestEnd.of ?_ (by k_asm) (by k_asm) (fun _ hp => hp) | refine Mine.TestEnd.of ?_ (by k_asm) (by k_asm) (by walk_at "mine sub")))
local macro_rules | `(tactic| walk_at "EltEnd") => `(tactic| (first | refine Mine.EltEnd.of ?_ (by k_asm) (by k_asm) (fun _ hp => hp) | refine Mine.EltEnd.of ?_ (by k_asm) (by k_asm) (by walk_at "mine sub")))
local macro_rules | `(tactic| walk_at "mine sub") => `(tactic| (intro p9 hp9; (repeat (first | exact hp9 | exact List.mem_append_left _ hp9 | refine List.mem_cons_of_mem _ ?_))))
local macro_rules | `(tactic| walk_at "mine sub1") => `(tactic| (intro p9 hp9; rcases List.mem_cons.mp hp9 with h9 | h9; (rw [h9]; exact List.mem_cons_self); (repeat (first | exact h9 | exact List.mem_append_left _ h9 | refine List.mem_cons_of_mem _ ?_))))
local macro_rules | `(tactic| walk_at "mine off") => `(tactic| first | assumption | exact And.right (by assumption) | exact And.right (And.right (by assumption)) | exact And.right (And.right (And.right (by assumption))))
local macro_rules | `(tactic| walk_at "mine tup") => `(tactic| first | assumption | exact Mine.TupIn.mono (by assumption) (by walk_at "mine sub"))
local macro_rules | `(tactic| walk_at "call builtin:isinstance") => `(tactic| ((with_reducible show wpAny _ _ (call (Value.builtin "isinstance") [Value.ref _, Value.type "tuple"]) _ _ _); refine' call_isinstance_yes (Heap.IsTuple.typeIs (Mine.TupIn.at ?tin ?tn)) meta_tuple PySem.F.isi_sub_tuple ?_; (case tn => k_asm); (case tin => walk_at "mine tup")))
local macro_rules | `(tactic| walk_at "mine enter") => `(tactic| k_dflt (refine' code_def ?k1 ?k2 ?k3 ?k4 ?k5 ?kA ?kF ?kK ?k6 ?k7 ?k8 ?k9 ?kB ?_ ?c2 ?c3 ?c4 ?c5; (case kA => exact rfl); (case kF => exact rfl); (case kK => assumption); (case k1 => k_asm); (case k2 => k_asm); (case k3 => k_asm); (case k4 => k_asm); (case k5 => k_asm); (case k6 => k_is); (case k7 => k_is); (case k8 => ktr_room); (case k9 => first | exact BindsTo.of_eq rfl | exact binds_K (by k_in) rfl (by k_is) rfl rfl rfl | fail "enter: no rule for these arguments"); (case c5 => decide); (case kB => exact locs rfl); (case c2 => exact rfl); (case c3 => exact rfl); (case c4 => exact rfl); k_whole; intro g' L' h' FG' F' N' B' X' T'; (try dsimp only); (try k_lift B'); (try k_fold)))
local macro_rules | `(tactic| walk_at "mine ok") => `(tactic| first | assumption | exact Mine.okText_slice (by assumption) _ _)
local macro_rules | `(tactic| walk_at "mine okn") => `(tactic| first | trivial | assumption | walk_at "mine tup")
local macro_rules | `(tactic| walk_at "exec Assign cons ListComp") => `(tactic| (k_here; lct_look; k_dflt (refine Mine.assign_listComp_G (by k_asm) (by rfl) (by with_unfolding_all rfl) (by with_unfolding_all rfl) (by decide) (by rfl) (by decide) (by rfl) (by rfl) (by rfl) ?_)))
local macro_rules | `(tactic| walk_at "mine okn") => `(tactic| exact ⟨_, by k_mem⟩)
local macro_rules | `(tactic| k_mem) => `(tactic| first | assumption | exact List.mem_cons_self | (refine List.mem_cons_of_mem _ ?_; k_mem) | (refine List.mem_append.mpr (Or.inl ?_); k_mem) | (refine List.mem_append.mpr (Or.inr ?_); k_mem))
local macro_rules | `(tactic| walk_at "subscriptTail Name Slice ref ref") => `(tactic| (k_here; (with_reducible show wpAny _ _ (subscriptTail _ (PySem.Expr.Slice none none (some _) _) (Value.ref _) (Value.ref _)) _ _ _); k_dflt (refine' krv_ints ?F ?N ?l ?k ?i ?_ ?s ?t ?z; (case F => k_asm); (case N => k_asm); (case l => is_list); (case k => exact IsPart.int _ _); (case i => assumption); (case s => with_unfolding_all rfl); (case t => kmk_pure); (case z => assumption)); intro D' ws' h' F' N' l1 hI' hC'))
local macro_rules | `(tactic| is_list) => `(tactic| exact News.isList (by k_asm) (by k_mem))
local macro_rules | `(tactic| walk_at "mine step") => `(tactic| first | (k_unfold; (try dsimp only)) | (k_end; kc_close) | walk1 | (dsimp only; walk1) | (leave1; walk_say "STEP leave1"; (try dsimp only)))
local macro_rules | `(tactic| walk_at "mine cls") => `(tactic| (k_dflt (refine' call_cls ?k1 ?k2 ?k3 ?k4 ?k5 ?k6 ?_; (case k1 => k_asm); (case k2 => k_asm); (case k3 => k_asm); (case k4 => k_is); (case k5 => k_is); (case k6 => k_is); k_whole); intro x' d' h' F' N' l1 l2; (try k_lt l1); (try k_lt2 l2); (try k_sweep)))
local macro_rules | `(tactic| k_room) => `(tactic| ktr_room)
local macro_rules | `(tactic| walk_at "call type:list nil nil") => `(tactic| (k_here; k_dflt (refine' Mine.list0_N ?zF ?zN ?_; (case zF => k_asm); (case zN => k_asm)); intro D' c' h' F' N' l1; (try k_lt l1)))
local macro_rules | `(tactic| walk_at "call type:dict nil nil") => `(tactic| (k_here; k_dflt (refine' Mine.dict0_N ?zF ?zN ?_; (case zF => k_asm); (case zN => k_asm)); intro D' h' F' N' l1; (try k_lt l1)))
local macro_rules | `(tactic| walk_at "call type:dict") => `(tactic| (k_here; k_dflt (refine' Mine.dictCopy_K ?zF ?zX ?zN ?zl ?zk ?zn ?za ?zs ?_; (case zF => k_asm); (case zX => k_asm); (case zN => k_asm); (case zl => k_is); (case zk => k_keys); (case zn => first | decide +kernel | (simp only [Mine.kvOf, List.map_cons, List.map_nil]; decide +kernel)); (case za => decide); (case zs => exact Nat.le_of_ble_eq_true rfl)); intro D' h' F' N'))
local macro_rules | `(tactic| walk_at "compareOp Is ref ref") => `(tactic| with_reducible refine wpAny_is_ref_self ?_)
local macro_rules | `(tactic| ktr_units) => `(tactic| (have hcL9 := cLine_is; (try simp only [Mine.units_under_make, units_in1, units_deeper, Around.mark_units, units_caller] at *); (try dsimp only [ktrTop] at *); omega))
local macro_rules | `(tactic| walk_at "mine ks") => `(tactic| k_dflt (refine' ks_code_super ?k1 ?k2 ?k3 ?k4 ?k5 ?kA ?kF ?kK ?k6 ?k7 ?k8 ?k9 ?kB ?_ ?c1 ?c2 ?c3 ?c4; (case kA => exact rfl); (case kF => exact rfl); (case kK => first | exact rfl | assumption); (case k1 => k_asm); (case k2 => k_asm); (case k3 => k_asm); (case k4 => k_asm); (case k5 => k_asm); (case k6 => k_is); (case k7 => k_is); (case k8 => k_room); (case k9 => first | exact BindsTo.of_eq rfl | exact binds_K (by k_in) rfl (by k_is) rfl rfl rfl); (case kB => exact locs rfl); (case c1 => decide); (case c2 => exact rfl); (case c3 => exact rfl); (case c4 => exact rfl); intro g' L' h' FG' F' N' B' X' T' l1; (try k_lt l1); (try dsimp only); (try k_lift B')))
local macro_rules | `(tactic| walk_at "wpAt func") => `(tactic| ((try dsimp only); first
  | (k_dflt (ks_step "execs cons"; refine ks_wpAt_execs_cons ?_))
  | (k_dflt (ks_step "exec Expr"; refine ks_wpAt_Expr_any ?_))
  | (k_dflt (ks_step "exec Return"; refine ks_wpAt_Return_some ?_))
  | (k_dflt (ks_step "exec Assign"; first | refine ks_wpAt_Assign_Name ?_ | refine ks_wpAt_Assign_Attr ?_))
  | (k_dflt (ks_step "exec If"; refine ks_wpAt_If ?_))
  | (k_dflt (ks_step "eval Call"; refine ks_wpAt_MethodCall ?_))))
local macro_rules | `(tactic| walk_at "call type:set cons nil") => `(tactic| (k_here; k_dflt (refine' Mine.setTuple_N ?zF ?zN ?zh ?zl ?zi ?zb ?_; (case zF => k_asm); (case zN => k_asm); (case zh => rfl); (case zl => exact ⟨_, by k_mem, rfl, _, rfl⟩); (case zi => walk_at "mine strs"); (case zb => exact Nat.le_of_ble_eq_true rfl)); intro D' h' tk' F' N'))
local macro_rules | `(tactic| walk_at "mine strs") => `(tactic| first | exact Mine.strs2 _ _ _ _ | exact Mine.strs0)
local macro_rules | `(tactic| walk_at "mine ksr") => `(tactic| k_dflt (refine' Mine.ks_rest ?k1 ?k2 ?k3 ?k4 ?k5 ?kA ?kF ?kK ?k6 ?k7 ?k8 ?kV ?kP ?kG ?kB ?_ ?c1 ?c2 ?c3 ?c4; (case kA => exact rfl); (case kF => exact rfl); (case kK => first | exact rfl | assumption); (case k1 => k_asm); (case k2 => k_asm); (case k3 => k_asm); (case k4 => k_asm); (case k5 => k_asm); (case k6 => k_is); (case k7 => k_is); (case k8 => k_room); (case kV => kl_lit); (case kP => exact rfl); (case kG => exact fun _ => rfl); (case kB => exact fun _ => locs rfl); (case c1 => decide); (case c2 => exact rfl); (case c3 => exact rfl); (case c4 => exact rfl); intro D' g' L' h' l1 FG' F' N' B' X' T'; (try k_lt l1); (try dsimp only); (try k_lift B')))
def TxtConv (P : Params) (C : Addr) (r : Addr) (rx : PySem.Str) (v : Value) (tl : List (Addr × Obj)) : Prop :=
  ∃ x d t1 t2 u, v = .ref x ∧ tl = [(x, instObj C d), (d, dictOf [entO P "map" t1 (.ref r), entO P "regex" t2 (.str rx u)] 2)]
def BarConv (P : Params) (C : Addr) (r : Addr) (v : Value) (tl : List (Addr × Obj)) : Prop :=
  ∃ x d t1, v = .ref x ∧ tl = [(x, instObj C d), (d, dictOf [entO P "map" t1 (.ref r)] 1)]
theorem mk_uni_1_ {w : World} (r : Addr) (a1 a2 : Tok) : ValTell PySem.Challenge.rw_en5030_01.row.prog w (Mine.hd.heap_39 w.params) 76 [.ref r] 4 Any9 (TxtConv w.params 76 r (PySem.Str.ofString "[^/]{1,}")) := by
  w_top off
  k_fill
  intro p loose mean mg mb dp un gd cn cs a ccd cl outer A₀ base h₀ L m news s Q E B F X N T hk hOk hd hu hret
  walk_at "mine cls"
  walk_at "mine ks"
  k_steps
  (rename News _ _ _ _ => kN)
  exact hret _ _ _ _ ⟨_, _, _, _, _, rfl, rfl⟩ (by k_asm) (Mine.news_drop 4 kN)
theorem mk_uni_22 {w : World} (r : Addr) (a1 a2 : Tok) : ValTell PySem.Challenge.rw_en5030_01.row.prog w (Mine.hd.heap_39 w.params) 76 [.ref r, .int 1 a1, .none, .int 2 a2] 4 Any9 (TxtConv w.params 76 r (PySem.Str.ofString "[^/]{2}")) := by
  w_top off
  k_fill
  intro p loose mean mg mb dp un gd cn cs a ccd cl outer A₀ base h₀ L m news s Q E B F X N T hk hOk hd hu hret
  walk_at "mine cls"
  walk_at "mine ks"
  k_steps
  (rename News _ _ _ _ => kN)
  exact hret _ _ _ _ ⟨_, _, _, _, _, rfl, rfl⟩ (by k_asm) (Mine.news_drop 4 kN)
theorem mk_uni_23 {w : World} (r : Addr) (a1 a2 : Tok) : ValTell PySem.Challenge.rw_en5030_01.row.prog w (Mine.hd.heap_39 w.params) 76 [.ref r, .int 2 a1, .int 3 a2] 4 Any9 (TxtConv w.params 76 r (PySem.Str.ofString "[^/]{2,3}")) := by
  w_top off
  k_fill
  intro p loose mean mg mb dp un gd cn cs a ccd cl outer A₀ base h₀ L m news s Q E B F X N T hk hOk hd hu hret
  walk_at "mine cls"
  walk_at "mine ks"
  k_steps
  (rename News _ _ _ _ => kN)
  exact hret _ _ _ _ ⟨_, _, _, _, _, rfl, rfl⟩ (by k_asm) (Mine.news_drop 4 kN)
theorem mk_uni_12 {w : World} (r : Addr) (a1 a2 : Tok) : ValTell PySem.Challenge.rw_en5030_01.row.prog w (Mine.hd.heap_39 w.params) 76 [.ref r, .int 1 a1, .int 2 a2] 4 Any9 (TxtConv w.params 76 r (PySem.Str.ofString "[^/]{1,2}")) := by
  w_top off
  k_fill
  intro p loose mean mg mb dp un gd cn cs a ccd cl outer A₀ base h₀ L m news s Q E B F X N T hk hOk hd hu hret
  walk_at "mine cls"
  walk_at "mine ks"
  k_steps
  (rename News _ _ _ _ => kN)
  exact hret _ _ _ _ ⟨_, _, _, _, _, rfl, rfl⟩ (by k_asm) (Mine.news_drop 4 kN)
theorem mk_uni_3_ {w : World} (r : Addr) (a1 a2 : Tok) : ValTell PySem.Challenge.rw_en5030_01.row.prog w (Mine.hd.heap_39 w.params) 76 [.ref r, .int 3 a1] 4 Any9 (TxtConv w.params 76 r (PySem.Str.ofString "[^/]{3,}")) := by
  w_top off
  k_fill
  intro p loose mean mg mb dp un gd cn cs a ccd cl outer A₀ base h₀ L m news s Q E B F X N T hk hOk hd hu hret
  walk_at "mine cls"
  walk_at "mine ks"
  k_steps
  (rename News _ _ _ _ => kN)
  exact hret _ _ _ _ ⟨_, _, _, _, _, rfl, rfl⟩ (by k_asm) (Mine.news_drop 4 kN)
theorem mk_base {w : World} (r : Addr) : ValTell PySem.Challenge.rw_en5030_01.row.prog w (Mine.hd.heap_39 w.params) 52 [.ref r] 4 Any9 (BarConv w.params 52 r) := by
  w_top off
  k_fill
  intro p loose mean mg mb dp un gd cn cs a ccd cl outer A₀ base h₀ L m news s Q E B F X N T hk hOk hd hu hret
  obtain ⟨kd, nm, gg, cc, mm⟩ := cs
  dsimp only at hk
  subst hk
  k_steps
  (rename News _ _ _ _ => kN)
  exact hret _ _ _ _ ⟨_, _, _, rfl, rfl⟩ (by k_asm) (Mine.news_drop 2 kN)
theorem mk_path {w : World} (r : Addr) : ValTell PySem.Challenge.rw_en5030_01.row.prog w (Mine.hd.heap_39 w.params) 116 [.ref r] 4 Any9 (BarConv w.params 116 r) := by
  w_top off
  k_fill
  intro p loose mean mg mb dp un gd cn cs a ccd cl outer A₀ base h₀ L m news s Q E B F X N T hk hOk hd hu hret
  obtain ⟨kd, nm, gg, cc, mm⟩ := cs
  dsimp only at hk
  subst hk
  k_steps
  (rename News _ _ _ _ => kN)
  exact hret _ _ _ _ ⟨_, _, _, rfl, rfl⟩ (by k_asm) (Mine.news_drop 2 kN)
end Mine
namespace Mine
local macro_rules | `(tactic| walk_at "mine enterC") => `(tactic| k_dflt (refine' code_defC ?k1 ?k2 ?k3 ?k4 ?k5 ?kA ?kF ?kK ?k6 ?k7 ?k8 ?k9 ?kB ?kD ?_ ?c2 ?c3 ?c4; (case kA => exact rfl); (case kF => exact rfl); (case kK => assumption); (case k1 => k_asm); (case k2 => k_asm); (case k3 => k_asm); (case k4 => k_asm); (case k5 => k_asm); (case k6 => k_is); (case k7 => k_is); (case k8 => ktr_room); (case k9 => first | exact BindsTo.of_eq rfl | exact binds_K (by k_in) rfl (by k_is) rfl rfl rfl | fail "enterC: no rule for these arguments"); (case kB => exact rfl); (case kD => decide +kernel); (case c2 => exact rfl); (case c3 => exact rfl); (case c4 => exact rfl); k_whole; intro g' L' h' tk' cells' FG' F' N' Y' B' X' T' l1; (try k_lt l1); k_cells Y'; (try simp only [List.cons_append, List.nil_append] at N'); (try dsimp only); (try k_lift B'); (try k_fold)))
local macro_rules | `(tactic| k_all) => `(tactic| exact Mine.ne_of_all (by assumption) (by omega))
local macro_rules | `(tactic| walk_at "eval ListComp") => `(tactic| (k_here; lct_look; k_dflt (refine Mine.listComp_G (by k_asm) (by with_unfolding_all rfl) (by decide) (by rfl) (by decide) (by rfl) ?_)))
local macro_rules | `(tactic| walk_at "TestEnd") => `(tactic| (first | refine Mine.TestEnd.of ?_ (by k_asm) (by k_asm) (fun _ hp => hp) | refine Mine.TestEnd.of ?_ (by k_asm) (by k_asm) (by walk_at "mine sub")))
local macro_rules | `(tactic| walk_at "EltEnd") => `(tactic| (first | refine Mine.EltEnd.of ?_ (by k_asm) (by k_asm) (fun _ hp => hp) | refine Mine.EltEnd.of ?_ (by k_asm) (by k_asm) (by walk_at "mine sub")))
local macro_rules | `(tactic| walk_at "mine sub") => `(tactic| (intro p9 hp9; (repeat (first | exact hp9 | exact List.mem_append_left _ hp9 | refine List.mem_cons_of_mem _ ?_))))
local macro_rules | `(tactic| walk_at "mine sub1") => `(tactic| (intro p9 hp9; rcases List.mem_cons.mp hp9 with h9 | h9; (rw [h9]; exact List.mem_cons_self); (repeat (first | exact h9 | exact List.mem_append_left _ h9 | refine List.mem_cons_of_mem _ ?_))))
local macro_rules | `(tactic| walk_at "mine off") => `(tactic| first | assumption | exact And.right (by assumption) | exact And.right (And.right (by assumption)) | exact And.right (And.right (And.right (by assumption))))
local macro_rules | `(tactic| walk_at "mine tup") => `(tactic| first | assumption | exact Mine.TupIn.mono (by assumption) (by walk_at "mine sub"))
local macro_rules | `(tactic| walk_at "call builtin:isinstance") => `(tactic| ((with_reducible show wpAny _ _ (call (Value.builtin "isinstance") [Value.ref _, Value.type "tuple"]) _ _ _); refine' call_isinstance_yes (Heap.IsTuple.typeIs (Mine.TupIn.at ?tin ?tn)) meta_tuple PySem.F.isi_sub_tuple ?_; (case tn => k_asm); (case tin => walk_at "mine tup")))
local macro_rules | `(tactic| walk_at "mine enter") => `(tactic| k_dflt (refine' code_def ?k1 ?k2 ?k3 ?k4 ?k5 ?kA ?kF ?kK ?k6 ?k7 ?k8 ?k9 ?kB ?_ ?c2 ?c3 ?c4 ?c5; (case kA => exact rfl); (case kF => exact rfl); (case kK => assumption); (case k1 => k_asm); (case k2 => k_asm); (case k3 => k_asm); (case k4 => k_asm); (case k5 => k_asm); (case k6 => k_is); (case k7 => k_is); (case k8 => ktr_room); (case k9 => first | exact BindsTo.of_eq rfl | exact binds_K (by k_in) rfl (by k_is) rfl rfl rfl | fail "enter: no rule for these arguments"); (case c5 => decide); (case kB => exact locs rfl); (case c2 => exact rfl); (case c3 => exact rfl); (case c4 => exact rfl); k_whole; intro g' L' h' FG' F' N' B' X' T'; (try dsimp only); (try k_lift B'); (try k_fold)))
local macro_rules | `(tactic| walk_at "mine ok") => `(tactic| first | assumption | exact Mine.okText_slice (by assumption) _ _)
local macro_rules | `(tactic| walk_at "mine okn") => `(tactic| first | trivial | assumption | walk_at "mine tup")
local macro_rules | `(tactic| walk_at "exec Assign cons ListComp") => `(tactic| (k_here; lct_look; k_dflt (refine Mine.assign_listComp_G (by k_asm) (by rfl) (by with_unfolding_all rfl) (by with_unfolding_all rfl) (by decide) (by rfl) (by decide) (by rfl) (by rfl) (by rfl) ?_)))
local macro_rules | `(tactic| walk_at "mine okn") => `(tactic| exact ⟨_, by k_mem⟩)
local macro_rules | `(tactic| k_mem) => `(tactic| first | assumption | exact List.mem_cons_self | (refine List.mem_cons_of_mem _ ?_; k_mem) | (refine List.mem_append.mpr (Or.inl ?_); k_mem) | (refine List.mem_append.mpr (Or.inr ?_); k_mem))
local macro_rules | `(tactic| walk_at "subscriptTail Name Slice ref ref") => `(tactic| (k_here; (with_reducible show wpAny _ _ (subscriptTail _ (PySem.Expr.Slice none none (some _) _) (Value.ref _) (Value.ref _)) _ _ _); k_dflt (refine' krv_ints ?F ?N ?l ?k ?i ?_ ?s ?t ?z; (case F => k_asm); (case N => k_asm); (case l => is_list); (case k => exact IsPart.int _ _); (case i => assumption); (case s => with_unfolding_all rfl); (case t => kmk_pure); (case z => assumption)); intro D' ws' h' F' N' l1 hI' hC'))
local macro_rules | `(tactic| is_list) => `(tactic| exact News.isList (by k_asm) (by k_mem))
local macro_rules | `(tactic| walk_at "mine step") => `(tactic| first | (k_unfold; (try dsimp only)) | (k_end; kc_close) | walk1 | (dsimp only; walk1) | (leave1; walk_say "STEP leave1"; (try dsimp only)))
local macro_rules | `(tactic| walk_at "mine cls") => `(tactic| (k_dflt (refine' call_cls ?k1 ?k2 ?k3 ?k4 ?k5 ?k6 ?_; (case k1 => k_asm); (case k2 => k_asm); (case k3 => k_asm); (case k4 => k_is); (case k5 => k_is); (case k6 => k_is); k_whole); intro x' d' h' F' N' l1 l2; (try k_lt l1); (try k_lt2 l2); (try k_sweep)))
local macro_rules | `(tactic| k_room) => `(tactic| ktr_room)
local macro_rules | `(tactic| walk_at "call type:list nil nil") => `(tactic| (k_here; k_dflt (refine' Mine.list0_N ?zF ?zN ?_; (case zF => k_asm); (case zN => k_asm)); intro D' c' h' F' N' l1; (try k_lt l1)))
local macro_rules | `(tactic| walk_at "call type:dict nil nil") => `(tactic| (k_here; k_dflt (refine' Mine.dict0_N ?zF ?zN ?_; (case zF => k_asm); (case zN => k_asm)); intro D' h' F' N' l1; (try k_lt l1)))
local macro_rules | `(tactic| walk_at "call type:dict") => `(tactic| (k_here; k_dflt (refine' Mine.dictCopy_K ?zF ?zX ?zN ?zl ?zk ?zn ?za ?zs ?_; (case zF => k_asm); (case zX => k_asm); (case zN => k_asm); (case zl => k_is); (case zk => k_keys); (case zn => first | decide +kernel | (simp only [Mine.kvOf, List.map_cons, List.map_nil]; decide +kernel)); (case za => decide); (case zs => exact Nat.le_of_ble_eq_true rfl)); intro D' h' F' N'))
local macro_rules | `(tactic| walk_at "compareOp Is ref ref") => `(tactic| with_reducible refine wpAny_is_ref_self ?_)
local macro_rules | `(tactic| ktr_units) => `(tactic| (have hcL9 := cLine_is; (try simp only [Mine.units_under_make, units_in1, units_deeper, Around.mark_units, units_caller] at *); (try dsimp only [ktrTop] at *); omega))
local macro_rules | `(tactic| walk_at "mine ks") => `(tactic| k_dflt (refine' ks_code_super ?k1 ?k2 ?k3 ?k4 ?k5 ?kA ?kF ?kK ?k6 ?k7 ?k8 ?k9 ?kB ?_ ?c1 ?c2 ?c3 ?c4; (case kA => exact rfl); (case kF => exact rfl); (case kK => first | exact rfl | assumption); (case k1 => k_asm); (case k2 => k_asm); (case k3 => k_asm); (case k4 => k_asm); (case k5 => k_asm); (case k6 => k_is); (case k7 => k_is); (case k8 => k_room); (case k9 => first | exact BindsTo.of_eq rfl | exact binds_K (by k_in) rfl (by k_is) rfl rfl rfl); (case kB => exact locs rfl); (case c1 => decide); (case c2 => exact rfl); (case c3 => exact rfl); (case c4 => exact rfl); intro g' L' h' FG' F' N' B' X' T' l1; (try k_lt l1); (try dsimp only); (try k_lift B')))
local macro_rules | `(tactic| walk_at "wpAt func") => `(tactic| ((try dsimp only); first
  | (k_dflt (ks_step "execs cons"; refine ks_wpAt_execs_cons ?_))
  | (k_dflt (ks_step "exec Expr"; refine ks_wpAt_Expr_any ?_))
  | (k_dflt (ks_step "exec Return"; refine ks_wpAt_Return_some ?_))
  | (k_dflt (ks_step "exec Assign"; first | refine ks_wpAt_Assign_Name ?_ | refine ks_wpAt_Assign_Attr ?_))
  | (k_dflt (ks_step "exec If"; refine ks_wpAt_If ?_))
  | (k_dflt (ks_step "eval Call"; refine ks_wpAt_MethodCall ?_))))
local macro_rules | `(tactic| walk_at "call type:set cons nil") => `(tactic| (k_here; k_dflt (refine' Mine.setTuple_N ?zF ?zN ?zh ?zl ?zi ?zb ?_; (case zF => k_asm); (case zN => k_asm); (case zh => rfl); (case zl => exact ⟨_, by k_mem, rfl, _, rfl⟩); (case zi => walk_at "mine strs"); (case zb => exact Nat.le_of_ble_eq_true rfl)); intro D' h' tk' F' N'))
local macro_rules | `(tactic| walk_at "mine strs") => `(tactic| first | exact Mine.strs2 _ _ _ _ | exact Mine.strs0)
local macro_rules | `(tactic| walk_at "mine ksr") => `(tactic| k_dflt (refine' Mine.ks_rest ?k1 ?k2 ?k3 ?k4 ?k5 ?kA ?kF ?kK ?k6 ?k7 ?k8 ?kV ?kP ?kG ?kB ?_ ?c1 ?c2 ?c3 ?c4; (case kA => exact rfl); (case kF => exact rfl); (case kK => first | exact rfl | assumption); (case k1 => k_asm); (case k2 => k_asm); (case k3 => k_asm); (case k4 => k_asm); (case k5 => k_asm); (case k6 => k_is); (case k7 => k_is); (case k8 => k_room); (case kV => kl_lit); (case kP => exact rfl); (case kG => exact fun _ => rfl); (case kB => exact fun _ => locs rfl); (case c1 => decide); (case c2 => exact rfl); (case c3 => exact rfl); (case c4 => exact rfl); intro D' g' L' h' l1 FG' F' N' B' X' T'; (try k_lt l1); (try dsimp only); (try k_lift B')))
def AnyConv (P : Params) (r : Addr) (vs : List Value) (v : Value) (tl : List (Addr × Obj)) : Prop :=
  ∃ x d q t1 t2 t3 iv k, v = .ref x ∧ tl = [(q, ({ cls := .type "tuple", data := .seq vs.toArray k } : Obj)), (x, instObj 104 d), (d, dictOf [entO P "map" t1 (.ref r), entO P "items" t2 iv, entO P "regex" t3 (.ref q)] 3)]
theorem mk_any {w : World} (r : Addr) (x0 x1 : PySem.Str) (u0 u1 : Tok) : ValTell PySem.Challenge.rw_en5030_01.row.prog w (Mine.hd.heap_39 w.params) 104 [.ref r, .str x0 u0, .str x1 u1] 4 Any9 (AnyConv w.params r [.str x0 u0, .str x1 u1]) := by
  w_top off
  k_fill
  intro p loose mean mg mb dp un gd cn cs a ccd cl outer A₀ base h₀ L m news s Q E B F X N T hk hOk hd hu hret
  walk_at "mine cls"
  walk_at "mine ksr"
  k_steps
  (rename News _ _ _ _ => kN)
  exact hret _ _ _ _ ⟨_, _, _, _, _, _, _, _, rfl, rfl⟩ (by k_asm) (Mine.news_drop 4 kN)
theorem mk_any0 {w : World} (r : Addr) : ValTell PySem.Challenge.rw_en5030_01.row.prog w (Mine.hd.heap_39 w.params) 104 [.ref r] 4 Any9 (fun v tl => ∃ u, AnyConv w.params r [.str (PySem.Str.ofString "") u] v tl) := by
  w_top off
  k_fill
  intro p loose mean mg mb dp un gd cn cs a ccd cl outer A₀ base h₀ L m news s Q E B F X N T hk hOk hd hu hret
  walk_at "mine cls"
  walk_at "mine ksr"
  k_steps
  (rename News _ _ _ _ => kN)
  exact hret _ _ _ _ ⟨_, _, _, _, _, _, _, _, _, rfl, rfl⟩ (by k_asm) (Mine.news_keep1 5 kN)
end Mine
namespace Mine
local macro_rules | `(tactic| walk_at "mine enterC") => `(tactic| k_dflt (refine' code_defC ?k1 ?k2 ?k3 ?k4 ?k5 ?kA ?kF ?kK ?k6 ?k7 ?k8 ?k9 ?kB ?kD ?_ ?c2 ?c3 ?c4; (case kA => exact rfl); (case kF => exact rfl); (case kK => assumption); (case k1 => k_asm); (case k2 => k_asm); (case k3 => k_asm); (case k4 => k_asm); (case k5 => k_asm); (case k6 => k_is); (case k7 => k_is); (case k8 => ktr_room); (case k9 => first | exact BindsTo.of_eq rfl | exact binds_K (by k_in) rfl (by k_is) rfl rfl rfl | fail "enterC: no rule for these arguments"); (case kB => exact rfl); (case kD => decide +kernel); (case c2 => exact rfl); (case c3 => exact rfl); (case c4 => exact rfl); k_whole; intro g' L' h' tk' cells' FG' F' N' Y' B' X' T' l1; (try k_lt l1); k_cells Y'; (try simp only [List.cons_append, List.nil_append] at N'); (try dsimp only); (try k_lift B'); (try k_fold)))
local macro_rules | `(tactic| k_all) => `(tactic| exact Mine.ne_of_all (by assumption) (by omega))
local macro_rules | `(tactic| walk_at "eval ListComp") => `(tactic| (k_here; lct_look; k_dflt (refine Mine.listComp_G (by k_asm) (by with_unfolding_all rfl) (by decide) (by rfl) (by decide) (by rfl) ?_)))
local macro_rules | `(tactic| walk_at "TestEnd") => `(tactic| (first | refine Mine.TestEnd.of ?_ (by k_asm) (by k_asm) (fun _ hp => hp) | refine Mine.TestEnd.of ?_ (by k_asm) (by k_asm) (by walk_at "mine sub")))
local macro_rules | `(tactic| walk_at "EltEnd") => `(tactic| (first | refine Mine.EltEnd.of ?_ (by k_asm) (by k_asm) (fun _ hp => hp) | refine Mine.EltEnd.of ?_ (by k_asm) (by k_asm) (by walk_at "mine sub")))
local macro_rules | `(tactic| walk_at "mine sub") => `(tactic| (intro p9 hp9; (repeat (first | exact hp9 | exact List.mem_append_left _ hp9 | refine List.mem_cons_of_mem _ ?_))))
local macro_rules | `(tactic| walk_at "mine sub1") => `(tactic| (intro p9 hp9; rcases List.mem_cons.mp hp9 with h9 | h9; (rw [h9]; exact List.mem_cons_self); (repeat (first | exact h9 | exact List.mem_append_left _ h9 | refine List.mem_cons_of_mem _ ?_))))
local macro_rules | `(tactic| walk_at "mine off") => `(tactic| first | assumption | exact And.right (by assumption) | exact And.right (And.right (by assumption)) | exact And.right (And.right (And.right (by assumption))))
local macro_rules | `(tactic| walk_at "mine tup") => `(tactic| first | assumption | exact Mine.TupIn.mono (by assumption) (by walk_at "mine sub"))
local macro_rules | `(tactic| walk_at "call builtin:isinstance") => `(tactic| ((with_reducible show wpAny _ _ (call (Value.builtin "isinstance") [Value.ref _, Value.type "tuple"]) _ _ _); refine' call_isinstance_yes (Heap.IsTuple.typeIs (Mine.TupIn.at ?tin ?tn)) meta_tuple PySem.F.isi_sub_tuple ?_; (case tn => k_asm); (case tin => walk_at "mine tup")))
local macro_rules | `(tactic| walk_at "mine enter") => `(tactic| k_dflt (refine' code_def ?k1 ?k2 ?k3 ?k4 ?k5 ?kA ?kF ?kK ?k6 ?k7 ?k8 ?k9 ?kB ?_ ?c2 ?c3 ?c4 ?c5; (case kA => exact rfl); (case kF => exact rfl); (case kK => assumption); (case k1 => k_asm); (case k2 => k_asm); (case k3 => k_asm); (case k4 => k_asm); (case k5 => k_asm); (case k6 => k_is); (case k7 => k_is); (case k8 => ktr_room); (case k9 => first | exact BindsTo.of_eq rfl | exact binds_K (by k_in) rfl (by k_is) rfl rfl rfl | fail "enter: no rule for these arguments"); (case c5 => decide); (case kB => exact locs rfl); (case c2 => exact rfl); (case c3 => exact rfl); (case c4 => exact rfl); k_whole; intro g' L' h' FG' F' N' B' X' T'; (try dsimp only); (try k_lift B'); (try k_fold)))
local macro_rules | `(tactic| walk_at "mine ok") => `(tactic| first | assumption | exact Mine.okText_slice (by assumption) _ _)
local macro_rules | `(tactic| walk_at "mine okn") => `(tactic| first | trivial | assumption | walk_at "mine tup")
local macro_rules | `(tactic| walk_at "exec Assign cons ListComp") => `(tactic| (k_here; lct_look; k_dflt (refine Mine.assign_listComp_G (by k_asm) (by rfl) (by with_unfolding_all rfl) (by with_unfolding_all rfl) (by decide) (by rfl) (by decide) (by rfl) (by rfl) (by rfl) ?_)))
local macro_rules | `(tactic| walk_at "mine okn") => `(tactic| exact ⟨_, by k_mem⟩)
local macro_rules | `(tactic| k_mem) => `(tactic| first | assumption | exact List.mem_cons_self | (refine List.mem_cons_of_mem _ ?_; k_mem) | (refine List.mem_append.mpr (Or.inl ?_); k_mem) | (refine List.mem_append.mpr (Or.inr ?_); k_mem))
local macro_rules | `(tactic| walk_at "subscriptTail Name Slice ref ref") => `(tactic| (k_here; (with_reducible show wpAny _ _ (subscriptTail _ (PySem.Expr.Slice none none (some _) _) (Value.ref _) (Value.ref _)) _ _ _); k_dflt (refine' krv_ints ?F ?N ?l ?k ?i ?_ ?s ?t ?z; (case F => k_asm); (case N => k_asm); (case l => is_list); (case k => exact IsPart.int _ _); (case i => assumption); (case s => with_unfolding_all rfl); (case t => kmk_pure); (case z => assumption)); intro D' ws' h' F' N' l1 hI' hC'))
local macro_rules | `(tactic| is_list) => `(tactic| exact News.isList (by k_asm) (by k_mem))
local macro_rules | `(tactic| walk_at "mine step") => `(tactic| first | (k_unfold; (try dsimp only)) | (k_end; kc_close) | walk1 | (dsimp only; walk1) | (leave1; walk_say "STEP leave1"; (try dsimp only)))
local macro_rules | `(tactic| walk_at "mine cls") => `(tactic| (k_dflt (refine' call_cls ?k1 ?k2 ?k3 ?k4 ?k5 ?k6 ?_; (case k1 => k_asm); (case k2 => k_asm); (case k3 => k_asm); (case k4 => k_is); (case k5 => k_is); (case k6 => k_is); k_whole); intro x' d' h' F' N' l1 l2; (try k_lt l1); (try k_lt2 l2); (try k_sweep)))
local macro_rules | `(tactic| k_room) => `(tactic| ktr_room)
local macro_rules | `(tactic| walk_at "call type:list nil nil") => `(tactic| (k_here; k_dflt (refine' Mine.list0_N ?zF ?zN ?_; (case zF => k_asm); (case zN => k_asm)); intro D' c' h' F' N' l1; (try k_lt l1)))
local macro_rules | `(tactic| walk_at "call type:dict nil nil") => `(tactic| (k_here; k_dflt (refine' Mine.dict0_N ?zF ?zN ?_; (case zF => k_asm); (case zN => k_asm)); intro D' h' F' N' l1; (try k_lt l1)))
local macro_rules | `(tactic| walk_at "call type:dict") => `(tactic| (k_here; k_dflt (refine' Mine.dictCopy_K ?zF ?zX ?zN ?zl ?zk ?zn ?za ?zs ?_; (case zF => k_asm); (case zX => k_asm); (case zN => k_asm); (case zl => k_is); (case zk => k_keys); (case zn => first | decide +kernel | (simp only [Mine.kvOf, List.map_cons, List.map_nil]; decide +kernel)); (case za => decide); (case zs => exact Nat.le_of_ble_eq_true rfl)); intro D' h' F' N'))
local macro_rules | `(tactic| walk_at "compareOp Is ref ref") => `(tactic| with_reducible refine wpAny_is_ref_self ?_)
local macro_rules | `(tactic| ktr_units) => `(tactic| (have hcL9 := cLine_is; (try simp only [Mine.units_under_make, units_in1, units_deeper, Around.mark_units, units_caller] at *); (try dsimp only [ktrTop] at *); omega))
local macro_rules | `(tactic| walk_at "mine ks") => `(tactic| k_dflt (refine' ks_code_super ?k1 ?k2 ?k3 ?k4 ?k5 ?kA ?kF ?kK ?k6 ?k7 ?k8 ?k9 ?kB ?_ ?c1 ?c2 ?c3 ?c4; (case kA => exact rfl); (case kF => exact rfl); (case kK => first | exact rfl | assumption); (case k1 => k_asm); (case k2 => k_asm); (case k3 => k_asm); (case k4 => k_asm); (case k5 => k_asm); (case k6 => k_is); (case k7 => k_is); (case k8 => k_room); (case k9 => first | exact BindsTo.of_eq rfl | exact binds_K (by k_in) rfl (by k_is) rfl rfl rfl); (case kB => exact locs rfl); (case c1 => decide); (case c2 => exact rfl); (case c3 => exact rfl); (case c4 => exact rfl); intro g' L' h' FG' F' N' B' X' T' l1; (try k_lt l1); (try dsimp only); (try k_lift B')))
local macro_rules | `(tactic| walk_at "wpAt func") => `(tactic| ((try dsimp only); first
  | (k_dflt (ks_step "execs cons"; refine ks_wpAt_execs_cons ?_))
  | (k_dflt (ks_step "exec Expr"; refine ks_wpAt_Expr_any ?_))
  | (k_dflt (ks_step "exec Return"; refine ks_wpAt_Return_some ?_))
  | (k_dflt (ks_step "exec Assign"; first | refine ks_wpAt_Assign_Name ?_ | refine ks_wpAt_Assign_Attr ?_))
  | (k_dflt (ks_step "exec If"; refine ks_wpAt_If ?_))
  | (k_dflt (ks_step "eval Call"; refine ks_wpAt_MethodCall ?_))))
local macro_rules | `(tactic| walk_at "call type:set cons nil") => `(tactic| (k_here; k_dflt (refine' Mine.setTuple_N ?zF ?zN ?zh ?zl ?zi ?zb ?_; (case zF => k_asm); (case zN => k_asm); (case zh => rfl); (case zl => exact ⟨_, by k_mem, rfl, _, rfl⟩); (case zi => walk_at "mine strs"); (case zb => exact Nat.le_of_ble_eq_true rfl)); intro D' h' tk' F' N'))
local macro_rules | `(tactic| walk_at "mine strs") => `(tactic| first | exact Mine.strs2 _ _ _ _ | exact Mine.strs0)
local macro_rules | `(tactic| walk_at "mine ksr") => `(tactic| k_dflt (refine' Mine.ks_rest ?k1 ?k2 ?k3 ?k4 ?k5 ?kA ?kF ?kK ?k6 ?k7 ?k8 ?kV ?kP ?kG ?kB ?_ ?c1 ?c2 ?c3 ?c4; (case kA => exact rfl); (case kF => exact rfl); (case kK => first | exact rfl | assumption); (case k1 => k_asm); (case k2 => k_asm); (case k3 => k_asm); (case k4 => k_asm); (case k5 => k_asm); (case k6 => k_is); (case k7 => k_is); (case k8 => k_room); (case kV => kl_lit); (case kP => exact rfl); (case kG => exact fun _ => rfl); (case kB => exact fun _ => locs rfl); (case c1 => decide); (case c2 => exact rfl); (case c3 => exact rfl); (case c4 => exact rfl); intro D' g' L' h' l1 FG' F' N' B' X' T'; (try k_lt l1); (try dsimp only); (try k_lift B')))
theorem str_ext {x y : PySem.Str} (h : x.cps.toList = y.cps.toList) : x = y := by
  obtain ⟨a⟩ := x; obtain ⟨b⟩ := y
  exact congrArg PySem.Str.mk (Array.toList_inj.mp h)
theorem str_len (x : PySem.Str) : x.length = x.cps.toList.length := by simp [PySem.Str.length]
theorem sl_list {x : PySem.Str} {i j : Int} (h0 : 0 ≤ i) (h1 : i ≤ j) (h2 : j ≤ x.length) : (sl x i j).cps.toList = (x.cps.toList.drop i.toNat).take (j - i).toNat := by
  rw [show sl x i j = PySem.Txt.slice x (some i) (some j) from rfl, slice_nat h0 h1 h2]
theorem sl_len {x : PySem.Str} {i j : Int} (h0 : 0 ≤ i) (h1 : i ≤ j) (h2 : j ≤ x.length) : ((sl x i j).length : Int) = j - i := by
  rw [str_len, sl_list h0 h1 h2, List.length_take, List.length_drop, ← str_len]
  omega
theorem sl_empty {x : PySem.Str} {i : Int} (h0 : 0 ≤ i) (h1 : i ≤ x.length) : sl x i i = PySem.Str.ofString "" := by
  apply str_ext
  rw [sl_list h0 (by omega) h1]
  simp
  rfl
/-- a slice that ends behind the text -/
theorem slice_clip {x : PySem.Str} {i j : Int} (h : (x.length : Int) ≤ j) : PySem.Txt.slice x (some i) (some j) = PySem.Txt.slice x (some i) (some (x.length : Int)) := by
  have e : PySem.Builtin.Str.strSliceIndices (some i) (some j) 1 x.length = PySem.Builtin.Str.strSliceIndices (some i) (some (x.length : Int)) 1 x.length := by
    have h1 : ¬ (j < 0) := by omega
    have h2 : ¬ ((x.length : Int) < 0) := by omega
    have e2 : min j (x.length : Int) = min (x.length : Int) (x.length : Int) := by omega
    simp only [PySem.Builtin.Str.strSliceIndices, h1, h2, if_false, e2, show ((1 : Int) > 0) = True from by simp, if_true]
  unfold PySem.Txt.slice
  rw [e]
theorem slice_clipN {x : PySem.Str} {j : Int} (h : (x.length : Int) ≤ j) : PySem.Txt.slice x none (some j) = PySem.Txt.slice x none (some (x.length : Int)) := by
  have e : PySem.Builtin.Str.strSliceIndices none (some j) 1 x.length = PySem.Builtin.Str.strSliceIndices none (some (x.length : Int)) 1 x.length := by
    have h1 : ¬ (j < 0) := by omega
    have h2 : ¬ ((x.length : Int) < 0) := by omega
    have e2 : min j (x.length : Int) = min (x.length : Int) (x.length : Int) := by omega
    simp only [PySem.Builtin.Str.strSliceIndices, h1, h2, if_false, e2, show ((1 : Int) > 0) = True from by simp, if_true]
  unfold PySem.Txt.slice
  rw [e]
theorem slice_to {x : PySem.Str} {j : Int} (h0 : 0 ≤ j) (h : j ≤ x.length) : (PySem.Txt.slice x none (some j)).cps.toList = x.cps.toList.take j.toNat := by
  rw [eq_of_beq (slice_closes_to ⟨h0, by rw [toList_len]; exact h⟩)]
  simp
theorem slice_from1 {x : PySem.Str} (h : 1 ≤ x.length) : (PySem.Txt.slice x (some 1) none).cps.toList = x.cps.toList.drop 1 := by
  rw [eq_of_beq (slice_closes_from ⟨by omega, by rw [toList_len]; omega⟩)]
  show (List.take _ _).toArray.toList = _
  rw [List.toList_toArray, List.take_of_length_le]
  · rfl
  · rw [List.length_drop]
    have : (1 : Int).toNat = 1 := rfl
    omega
theorem item_nat {x : PySem.Str} {i : Int} (h0 : 0 ≤ i) (h1 : i < x.length) : PySem.Txt.item x i = ⟨#[x.cps.toList.getD i.toNat 0]⟩ := by
  rw [eq_of_beq (item_closes ⟨h0, h1⟩)]
  simp

/-- the whole numbers from a to b -/
def upto (a b : Int) : List Int := rng a 1 (b + 1 - a).toNat
theorem rng_cons (a : Int) (m : Nat) : rng a 1 (m + 1) = a :: rng (a + 1) 1 m := by
  unfold rng
  rw [List.range_succ_eq_map, List.map_cons, List.map_map]
  simp only [List.cons.injEq]
  refine ⟨by simp, List.map_congr_left fun i _ => ?_⟩
  simp only [Function.comp]
  omega
theorem upto_cons {a b : Int} (h : a ≤ b) : upto a b = a :: upto (a + 1) b := by
  unfold upto
  have e : (b + 1 - a).toNat = (b + 1 - (a + 1)).toNat + 1 := by omega
  rw [e, rng_cons]
theorem upto_nil {a b : Int} (h : b < a) : upto a b = [] := by
  unfold upto
  have e : (b + 1 - a).toNat = 0 := by omega
  rw [e]; rfl
theorem mem_upto {a b k : Int} (h : k ∈ upto a b) : a ≤ k ∧ k ≤ b := by
  have := mem_rng1 h
  omega
theorem rng_down (a : Int) (n : Nat) : rng a (-1) n = (rng (a - n + 1) 1 n).reverse := by
  apply List.ext_getElem
  · simp [rng]
  · intro i h1 h2
    simp only [rng, List.length_map, List.length_range] at h1
    simp only [rng, List.getElem_map, List.getElem_range, List.getElem_reverse, List.length_map, List.length_range]
    omega
theorem down_upto {a b : Int} {n : Nat} (h : n = (a - (b - 1)).toNat) : rng a (-1) n = (upto b a).reverse := by
  subst h
  rw [rng_down]
  unfold upto
  by_cases hc : b ≤ a + 1
  · have e : a - ((a - (b - 1)).toNat : Int) + 1 = b := by omega
    have e2 : (a - (b - 1)).toNat = (a + 1 - b).toNat := by omega
    rw [e, e2]
  · have e : (a - (b - 1)).toNat = 0 := by omega
    have e2 : (a + 1 - b).toNat = 0 := by omega
    rw [e, e2]; rfl
/-- a filter on a part of the numbers -/
theorem filter_part (g : Int → Bool) (a' b' b : Int) (hb : b' ≤ b) : ∀ (n : Nat) (a : Int), n = (b + 1 - a).toNat → a ≤ a' → (upto a b).filter (fun k => decide (a' ≤ k) && decide (k ≤ b') && g k) = (upto a' b').filter g
  | 0, a, hn, ha => by
    rw [upto_nil (a := a) (by omega), upto_nil (a := a') (by omega)]; rfl
  | n + 1, a, hn, ha => by
    by_cases hc : a' ≤ b'
    · rw [upto_cons (a := a) (by omega), List.filter_cons]
      by_cases he : a = a'
      · subst he
        rw [upto_cons hc, List.filter_cons]
        have h1 : (decide (a ≤ a) && decide (a ≤ b') && g a) = g a := by simp [hc]
        rw [h1]
        have h2 := filter_part g (a + 1) b' b hb n (a + 1) (by omega) (by omega)
        have h3 : (upto (a + 1) b).filter (fun k => decide (a ≤ k) && decide (k ≤ b') && g k) = (upto (a + 1) b).filter (fun k => decide (a + 1 ≤ k) && decide (k ≤ b') && g k) := by
          refine List.filter_congr fun k hk => ?_
          have := mem_upto hk
          simp [show a ≤ k by omega, show a + 1 ≤ k by omega]
        rw [h3, h2]
      · have h1 : (decide (a' ≤ a) && decide (a ≤ b') && g a) = false := by simp [show ¬ a' ≤ a by omega]
        rw [h1, if_neg (by simp)]
        exact filter_part g a' b' b hb n (a + 1) (by omega) (by omega)
    · rw [upto_nil (a := a') (by omega), List.filter_nil, List.filter_eq_nil_iff]
      intro k hk
      have := mem_upto hk
      simp only [Bool.and_eq_true, decide_eq_true_eq, not_and]
      intro h; omega
theorem part_of {f g : Int → Bool} {a a' b b' : Int} (ha : a ≤ a') (hb : b' ≤ b) (h : ∀ k, a ≤ k → k ≤ b → f k = (decide (a' ≤ k) && decide (k ≤ b') && g k)) : (upto a' b').filter g = (upto a b).filter f := by
  rw [← filter_part g a' b' b hb _ a rfl ha]
  refine List.filter_congr fun k hk => ?_
  have := mem_upto hk
  rw [h k this.1 this.2]
theorem lEnds_eq (f : PySem.Str → Bool) (target : PySem.Str) (pos : Int) : lEnds f target pos = (upto pos target.length).filter fun n => f (sl target pos n) := rfl

theorem dec_sign {c : Nat} (h : okSign c) : PySem.Unicode.isDecimal c = digitish c := by
  rcases h with h | h | h | h | h | h | h | h <;> subst h <;> decide +kernel
theorem digits_eq {x : PySem.Str} (h : okText x) : PySem.Txt.isdecimal x = lDigits x := by
  unfold PySem.Txt.isdecimal lDigits
  have e1 : (decide (x.length > 0)) = (x != PySem.Str.ofString "") := by
    by_cases hx : x = PySem.Str.ofString ""
    · subst hx; rfl
    · have : x.length > 0 := by
        rcases Nat.eq_zero_or_pos x.length with h0 | h0
        · exact absurd (str_ext (List.eq_nil_of_length_eq_zero (by rw [← str_len]; exact h0))) hx
        · exact h0
      simp [this, hx]
  rw [e1]
  congr 1
  rw [← Array.all_toList, Bool.eq_iff_iff, List.all_eq_true, List.isEmpty_iff, List.filter_eq_nil_iff]
  refine forall_congr' fun c => forall_congr' fun hc => ?_
  rw [dec_sign (h.2 c hc)]
  simp
theorem lDigits_empty : lDigits (PySem.Str.ofString "") = false := by decide +kernel

theorem num_eq {target : PySem.Str} {pos : Int} (hok : okText target) (hp : 0 ≤ pos ∧ pos ≤ target.length) : peNum target pos = (lEnds lDigits target pos).reverse := by
  unfold peNum
  rw [down_upto (b := pos + 1) (by omega), List.filter_reverse, lEnds_eq, part_of (a := pos) (b := target.length) (f := fun n => lDigits (sl target pos n)) (by omega) (by omega)]
  intro k h1 h2
  by_cases hk : k = pos
  · subst hk
    rw [sl_empty hp.1 hp.2, lDigits_empty]
    simp [show ¬ k + 1 ≤ k by omega]
  · simp only [show pos + 1 ≤ k by omega, h2, decide_true, Bool.true_and]
    exact (digits_eq (okText_slice hok _ _)).symm

theorem sl_one {x : PySem.Str} {i j : Int} (h0 : 0 ≤ i) (h1 : i < j) (h2 : j ≤ x.length) : PySem.Txt.slice (sl x i j) none (some 1) = sl x i (i + 1) := by
  have hl := sl_len h0 (by omega : i ≤ j) h2
  apply str_ext
  rw [slice_to (by omega) (by omega), sl_list h0 (by omega) h2, sl_list h0 (by omega) (by omega), List.take_take]
  congr 1
  omega
theorem sl_tail {x : PySem.Str} {i j : Int} (h0 : 0 ≤ i) (h1 : i < j) (h2 : j ≤ x.length) : PySem.Txt.slice (sl x i j) (some 1) none = sl x (i + 1) j := by
  have hl := sl_len h0 (by omega : i ≤ j) h2
  apply str_ext
  rw [slice_from1 (by omega), sl_list h0 (by omega) h2, sl_list (by omega) (by omega) (by omega), List.drop_take, List.drop_drop]
  have e1 : (i + 1).toNat = i.toNat + 1 := by omega
  have e2 : (j - (i + 1)).toNat = (j - i).toNat - 1 := by omega
  rw [e1, e2]
theorem sl_item {x : PySem.Str} {i j : Int} (h0 : 0 ≤ i) (h1 : i < j) (h2 : j ≤ x.length) : PySem.Txt.item (sl x i j) 0 = PySem.Txt.item x i := by
  have hl := sl_len h0 (by omega : i ≤ j) h2
  rw [item_nat (by omega) (by omega), item_nat h0 (by omega), sl_list h0 (by omega) h2]
  have e : (List.take (j - i).toNat (List.drop i.toNat x.cps.toList)).getD (0 : Int).toNat 0 = x.cps.toList.getD i.toNat 0 := by
    simp only [List.getD_eq_getElem?_getD, List.getElem?_take, List.getElem?_drop]
    rw [if_pos (by omega)]
    rfl
  rw [e]
theorem ne_empty {x : PySem.Str} (h : 0 < x.length) : (x != PySem.Str.ofString "") = true := by
  rw [bne_iff_ne]
  intro e
  subst e
  exact absurd h (by decide)

theorem signed_eq {target : PySem.Str} {pos : Int} (hok : okText target) (hp : 0 ≤ pos ∧ pos ≤ target.length) : peSigned target pos = (lEnds lSigned target pos).reverse := by
  have h0 : lSigned (sl target pos pos) = false := by
    rw [sl_empty hp.1 hp.2]; decide +kernel
  by_cases hl : pos = target.length
  · subst hl
    have hn : ¬ (sl target target.length (target.length + 1) == PySem.Str.ofString "-") = true := by
      rw [show sl target target.length (target.length + 1) = sl target target.length target.length from slice_clip (by omega), sl_empty hp.1 hp.2]
      decide +kernel
    unfold peSigned
    rw [if_neg hn, num_eq hok hp, lEnds_eq, lEnds_eq, upto_cons (by omega), upto_nil (by omega)]
    simp only [List.filter_cons, List.filter_nil, h0]
    rw [sl_empty hp.1 hp.2, lDigits_empty]
  · have hlt : pos < target.length := by omega
    unfold peSigned
    split
    · rename_i hc
      rw [num_eq hok (by omega), lEnds_eq, lEnds_eq, upto_cons (a := pos) (by omega), List.filter_cons, h0, if_neg (by simp)]
      refine congrArg List.reverse (List.filter_congr fun k hk => ?_)
      have hk' := mem_upto hk
      show _ = lSigned (sl target pos k)
      unfold lSigned
      rw [sl_one hp.1 (by omega) hk'.2, if_pos hc, sl_tail hp.1 (by omega) hk'.2]
    · rename_i hc
      rw [num_eq hok hp, lEnds_eq, lEnds_eq]
      refine congrArg List.reverse (List.filter_congr fun k hk => ?_)
      have hk' := mem_upto hk
      by_cases he : k = pos
      · subst he
        rw [h0, sl_empty hp.1 hp.2, lDigits_empty]
      · show _ = lSigned (sl target pos k)
        unfold lSigned
        rw [sl_one hp.1 (by omega) hk'.2, if_neg hc]
theorem rest_eq {target : PySem.Str} {pos : Int} (hp : 0 ≤ pos ∧ pos ≤ target.length) : peRest target pos = lEnds lRest target pos := by
  have h0 : lRest (sl target pos pos) = false := by
    rw [sl_empty hp.1 hp.2]; decide +kernel
  unfold peRest
  rw [lEnds_eq, upto_cons (a := pos) (by omega), List.filter_cons, h0, if_neg (by simp)]
  refine List.filter_congr fun k hk => ?_
  have hk' := mem_upto hk
  show _ = lRest (sl target pos k)
  unfold lRest
  have hl := sl_len hp.1 (by omega : pos ≤ k) hk'.2
  rw [ne_empty (by omega), sl_item hp.1 (by omega) hk'.2, sl_tail hp.1 (by omega) hk'.2]
  rfl
theorem free_none_eq {target : PySem.Str} {pos least : Int} (hl : 0 ≤ least) (hp : 0 ≤ pos ∧ pos ≤ target.length) : peFree target.length least target pos = (lEnds (fun t => lFree t least none) target pos).reverse := by
  unfold peFree
  rw [down_upto (b := pos + least) (by omega), List.filter_reverse, lEnds_eq, part_of (a := pos) (b := target.length) (f := fun n => lFree (sl target pos n) least none) (by omega) (by omega)]
  intro k h1 h2
  have h := sl_len hp.1 h1 h2
  unfold lFree
  rw [h, Bool.and_true, Bool.and_comm]
  congr 1
  simp only [h2, decide_true, Bool.and_true]
  exact decide_eq_decide.mpr (by omega)
theorem free_some_eq {target : PySem.Str} {pos least most : Int} (hl : 0 ≤ least) (hp : 0 ≤ pos ∧ pos ≤ target.length) : peFree (if pos + most < target.length then pos + most else target.length) least target pos = (lEnds (fun t => lFree t least (some most)) target pos).reverse := by
  unfold peFree
  rw [down_upto (b := pos + least) (by omega), List.filter_reverse, lEnds_eq, part_of (a := pos) (b := target.length) (f := fun n => lFree (sl target pos n) least (some most)) (by omega) (by split <;> omega)]
  intro k h1 h2
  have h := sl_len hp.1 h1 h2
  unfold lFree
  rw [h]
  generalize noIn (PySem.Str.ofString "/") (sl target pos k) = b
  have e1 : decide (pos + least ≤ k) = decide (least ≤ k - pos) := decide_eq_decide.mpr (by omega)
  have e2 : decide (k ≤ if pos + most < target.length then pos + most else target.length) = decide (k - pos ≤ most) := decide_eq_decide.mpr (by split <;> omega)
  rw [e1, e2]
  cases b <;> simp
theorem slash_eq {target : PySem.Str} {pos : Int} (hp : 0 ≤ pos ∧ pos ≤ target.length) : peSlash target pos = laSlash target pos := by
  unfold peSlash laSlash
  have e : (PySem.Txt.endswith (PySem.Txt.slice target none (some pos)) (PySem.Str.ofString "/") = true) ↔ (0 < pos ∧ (PySem.Txt.item target (pos - 1) == PySem.Str.ofString "/") = true) := by
    have hs := slice_to hp.1 hp.2
    have hl : ((PySem.Txt.slice target none (some pos)).length : Int) = pos := by
      rw [str_len, hs, List.length_take, ← str_len]; omega
    have h1 : (PySem.Str.ofString "/").length = 1 := by decide +kernel
    have hlit : PySem.Str.ofString "/" = ⟨#[47]⟩ := by decide +kernel
    have key : 0 < pos → PySem.Builtin.Str.subAt (PySem.Txt.slice target none (some pos)) (PySem.Str.ofString "/") ((PySem.Txt.slice target none (some pos)).length - 1) = (PySem.Txt.item target (pos - 1) == PySem.Str.ofString "/") := by
      intro hpos
      have hlen := str_len target
      have hlt : (pos - 1).toNat < target.cps.toList.length := by omega
      rw [PySem.StrLaws.subAt_eq, hs, h1, item_nat (by omega) (by omega), hlit, sign_beq]
      have e1 : (PySem.Txt.slice target none (some pos)).length - 1 = (pos - 1).toNat := by omega
      have e2 : pos.toNat - (pos - 1).toNat = 1 := by omega
      rw [e1, List.drop_take, e2, List.drop_eq_getElem_cons hlt]
      simp only [List.take_succ_cons, List.take_zero, List.getD_eq_getElem?_getD, List.getElem?_eq_getElem hlt, Option.getD_some]
      simp
    unfold PySem.Txt.endswith
    rw [Bool.and_eq_true, decide_eq_true_eq, h1]
    constructor
    · rintro ⟨h2, h3⟩
      have hpos : 0 < pos := by omega
      exact ⟨hpos, by rw [← key hpos]; exact h3⟩
    · rintro ⟨h2, h3⟩
      exact ⟨by omega, by rw [key h2]; exact h3⟩
  simp only [e]
theorem lEnds_mem {f : PySem.Str → Bool} {target : PySem.Str} {pos : Int} {e : Int} (h : e ∈ lEnds f target pos) : pos ≤ e ∧ e ≤ target.length := mem_upto (List.mem_filter.mp h).1
theorem lEnds_length (f : PySem.Str → Bool) (target : PySem.Str) {pos : Int} (hp : 0 ≤ pos) : ((lEnds f target pos).length : Int) ≤ target.length + 1 := by
  rw [lEnds_eq]
  have h := List.length_filter_le (fun n => f (sl target pos n)) (upto pos target.length)
  have h2 : (upto pos target.length).length = (target.length + 1 - pos).toNat := rng_length _ _ _
  omega
theorem lEnds_contains (f : PySem.Str → Bool) (target : PySem.Str) : (lEnds f target 0).contains (target.length : Int) = f target := by
  have hm : (target.length : Int) ∈ upto 0 target.length := by
    unfold upto rng
    rw [List.mem_map]
    exact ⟨target.length, List.mem_range.mpr (by omega), by omega⟩
  have e : sl target 0 target.length = target := slice_whole target
  rw [lEnds_eq]
  cases hf : f target with
  | true => exact contains_of (List.mem_filter.mpr ⟨hm, by rw [e, hf]⟩)
  | false =>
    refine contains_not fun k hk he => ?_
    subst he
    have := (List.mem_filter.mp hk).2
    rw [e, hf] at this
    exact absurd this (by simp)
theorem lEnds_containsR (f : PySem.Str → Bool) (target : PySem.Str) : (lEnds f target 0).reverse.contains (target.length : Int) = f target := by
  rw [← lEnds_contains f target]
  simp
end Mine
namespace Mine
local macro_rules | `(tactic| walk_at "mine enterC") => `(tactic| k_dflt (refine' code_defC ?k1 ?k2 ?k3 ?k4 ?k5 ?kA ?kF ?kK ?k6 ?k7 ?k8 ?k9 ?kB ?kD ?_ ?c2 ?c3 ?c4; (case kA => exact rfl); (case kF => exact rfl); (case kK => assumption); (case k1 => k_asm); (case k2 => k_asm); (case k3 => k_asm); (case k4 => k_asm); (case k5 => k_asm); (case k6 => k_is); (case k7 => k_is); (case k8 => ktr_room); (case k9 => first | exact BindsTo.of_eq rfl | exact binds_K (by k_in) rfl (by k_is) rfl rfl rfl | fail "enterC: no rule for these arguments"); (case kB => exact rfl); (case kD => decide +kernel); (case c2 => exact rfl); (case c3 => exact rfl); (case c4 => exact rfl); k_whole; intro g' L' h' tk' cells' FG' F' N' Y' B' X' T' l1; (try k_lt l1); k_cells Y'; (try simp only [List.cons_append, List.nil_append] at N'); (try dsimp only); (try k_lift B'); (try k_fold)))
local macro_rules | `(tactic| k_all) => `(tactic| exact Mine.ne_of_all (by assumption) (by omega))
local macro_rules | `(tactic| walk_at "eval ListComp") => `(tactic| (k_here; lct_look; k_dflt (refine Mine.listComp_G (by k_asm) (by with_unfolding_all rfl) (by decide) (by rfl) (by decide) (by rfl) ?_)))
local macro_rules | `(tactic| walk_at "TestEnd") => `(tactic| (first | refine Mine.TestEnd.of ?_ (by k_asm) (by k_asm) (fun _ hp => hp) | refine Mine.TestEnd.of ?_ (by k_asm) (by k_asm) (by walk_at "mine sub")))
local macro_rules | `(tactic| walk_at "EltEnd") => `(tactic| (first | refine Mine.EltEnd.of ?_ (by k_asm) (by k_asm) (fun _ hp => hp) | refine Mine.EltEnd.of ?_ (by k_asm) (by k_asm) (by walk_at "mine sub")))
local macro_rules | `(tactic| walk_at "mine sub") => `(tactic| (intro p9 hp9; (repeat (first | exact hp9 | exact List.mem_append_left _ hp9 | refine List.mem_cons_of_mem _ ?_))))
local macro_rules | `(tactic| walk_at "mine sub1") => `(tactic| (intro p9 hp9; rcases List.mem_cons.mp hp9 with h9 | h9; (rw [h9]; exact List.mem_cons_self); (repeat (first | exact h9 | exact List.mem_append_left _ h9 | refine List.mem_cons_of_mem _ ?_))))
local macro_rules | `(tactic| walk_at "mine off") => `(tactic| first | assumption | exact And.right (by assumption) | exact And.right (And.right (by assumption)) | exact And.right (And.right (And.right (by assumption))))
local macro_rules | `(tactic| walk_at "mine tup") => `(tactic| first | assumption | exact Mine.TupIn.mono (by assumption) (by walk_at "mine sub"))
local macro_rules | `(tactic| walk_at "call builtin:isinstance") => `(tactic| ((with_reducible show wpAny _ _ (call (Value.builtin "isinstance") [Value.ref _, Value.type "tuple"]) _ _ _); refine' call_isinstance_yes (Heap.IsTuple.typeIs (Mine.TupIn.at ?tin ?tn)) meta_tuple PySem.F.isi_sub_tuple ?_; (case tn => k_asm); (case tin => walk_at "mine tup")))
local macro_rules | `(tactic| walk_at "mine enter") => `(tactic| k_dflt (refine' code_def ?k1 ?k2 ?k3 ?k4 ?k5 ?kA ?kF ?kK ?k6 ?k7 ?k8 ?k9 ?kB ?_ ?c2 ?c3 ?c4 ?c5; (case kA => exact rfl); (case kF => exact rfl); (case kK => assumption); (case k1 => k_asm); (case k2 => k_asm); (case k3 => k_asm); (case k4 => k_asm); (case k5 => k_asm); (case k6 => k_is); (case k7 => k_is); (case k8 => ktr_room); (case k9 => first | exact BindsTo.of_eq rfl | exact binds_K (by k_in) rfl (by k_is) rfl rfl rfl | fail "enter: no rule for these arguments"); (case c5 => decide); (case kB => exact locs rfl); (case c2 => exact rfl); (case c3 => exact rfl); (case c4 => exact rfl); k_whole; intro g' L' h' FG' F' N' B' X' T'; (try dsimp only); (try k_lift B'); (try k_fold)))
local macro_rules | `(tactic| walk_at "mine ok") => `(tactic| first | assumption | exact Mine.okText_slice (by assumption) _ _)
local macro_rules | `(tactic| walk_at "mine okn") => `(tactic| first | trivial | assumption | walk_at "mine tup")
local macro_rules | `(tactic| walk_at "exec Assign cons ListComp") => `(tactic| (k_here; lct_look; k_dflt (refine Mine.assign_listComp_G (by k_asm) (by rfl) (by with_unfolding_all rfl) (by with_unfolding_all rfl) (by decide) (by rfl) (by decide) (by rfl) (by rfl) (by rfl) ?_)))
local macro_rules | `(tactic| walk_at "mine okn") => `(tactic| exact ⟨_, by k_mem⟩)
local macro_rules | `(tactic| k_mem) => `(tactic| first | assumption | exact List.mem_cons_self | (refine List.mem_cons_of_mem _ ?_; k_mem) | (refine List.mem_append.mpr (Or.inl ?_); k_mem) | (refine List.mem_append.mpr (Or.inr ?_); k_mem))
local macro_rules | `(tactic| walk_at "subscriptTail Name Slice ref ref") => `(tactic| (k_here; (with_reducible show wpAny _ _ (subscriptTail _ (PySem.Expr.Slice none none (some _) _) (Value.ref _) (Value.ref _)) _ _ _); k_dflt (refine' krv_ints ?F ?N ?l ?k ?i ?_ ?s ?t ?z; (case F => k_asm); (case N => k_asm); (case l => is_list); (case k => exact IsPart.int _ _); (case i => assumption); (case s => with_unfolding_all rfl); (case t => kmk_pure); (case z => assumption)); intro D' ws' h' F' N' l1 hI' hC'))
local macro_rules | `(tactic| is_list) => `(tactic| exact News.isList (by k_asm) (by k_mem))
local macro_rules | `(tactic| walk_at "mine step") => `(tactic| first | (k_unfold; (try dsimp only)) | (k_end; kc_close) | walk1 | (dsimp only; walk1) | (leave1; walk_say "STEP leave1"; (try dsimp only)))
local macro_rules | `(tactic| walk_at "mine cls") => `(tactic| (k_dflt (refine' call_cls ?k1 ?k2 ?k3 ?k4 ?k5 ?k6 ?_; (case k1 => k_asm); (case k2 => k_asm); (case k3 => k_asm); (case k4 => k_is); (case k5 => k_is); (case k6 => k_is); k_whole); intro x' d' h' F' N' l1 l2; (try k_lt l1); (try k_lt2 l2); (try k_sweep)))
local macro_rules | `(tactic| k_room) => `(tactic| ktr_room)
local macro_rules | `(tactic| walk_at "call type:list nil nil") => `(tactic| (k_here; k_dflt (refine' Mine.list0_N ?zF ?zN ?_; (case zF => k_asm); (case zN => k_asm)); intro D' c' h' F' N' l1; (try k_lt l1)))
local macro_rules | `(tactic| walk_at "call type:dict nil nil") => `(tactic| (k_here; k_dflt (refine' Mine.dict0_N ?zF ?zN ?_; (case zF => k_asm); (case zN => k_asm)); intro D' h' F' N' l1; (try k_lt l1)))
local macro_rules | `(tactic| walk_at "call type:dict") => `(tactic| (k_here; k_dflt (refine' Mine.dictCopy_K ?zF ?zX ?zN ?zl ?zk ?zn ?za ?zs ?_; (case zF => k_asm); (case zX => k_asm); (case zN => k_asm); (case zl => k_is); (case zk => k_keys); (case zn => first | decide +kernel | (simp only [Mine.kvOf, List.map_cons, List.map_nil]; decide +kernel)); (case za => decide); (case zs => exact Nat.le_of_ble_eq_true rfl)); intro D' h' F' N'))
local macro_rules | `(tactic| walk_at "compareOp Is ref ref") => `(tactic| with_reducible refine wpAny_is_ref_self ?_)
local macro_rules | `(tactic| ktr_units) => `(tactic| (have hcL9 := cLine_is; (try simp only [Mine.units_under_make, units_in1, units_deeper, Around.mark_units, units_caller] at *); (try dsimp only [ktrTop] at *); omega))
local macro_rules | `(tactic| walk_at "mine ks") => `(tactic| k_dflt (refine' ks_code_super ?k1 ?k2 ?k3 ?k4 ?k5 ?kA ?kF ?kK ?k6 ?k7 ?k8 ?k9 ?kB ?_ ?c1 ?c2 ?c3 ?c4; (case kA => exact rfl); (case kF => exact rfl); (case kK => first | exact rfl | assumption); (case k1 => k_asm); (case k2 => k_asm); (case k3 => k_asm); (case k4 => k_asm); (case k5 => k_asm); (case k6 => k_is); (case k7 => k_is); (case k8 => k_room); (case k9 => first | exact BindsTo.of_eq rfl | exact binds_K (by k_in) rfl (by k_is) rfl rfl rfl); (case kB => exact locs rfl); (case c1 => decide); (case c2 => exact rfl); (case c3 => exact rfl); (case c4 => exact rfl); intro g' L' h' FG' F' N' B' X' T' l1; (try k_lt l1); (try dsimp only); (try k_lift B')))
local macro_rules | `(tactic| walk_at "wpAt func") => `(tactic| ((try dsimp only); first
  | (k_dflt (ks_step "execs cons"; refine ks_wpAt_execs_cons ?_))
  | (k_dflt (ks_step "exec Expr"; refine ks_wpAt_Expr_any ?_))
  | (k_dflt (ks_step "exec Return"; refine ks_wpAt_Return_some ?_))
  | (k_dflt (ks_step "exec Assign"; first | refine ks_wpAt_Assign_Name ?_ | refine ks_wpAt_Assign_Attr ?_))
  | (k_dflt (ks_step "exec If"; refine ks_wpAt_If ?_))
  | (k_dflt (ks_step "eval Call"; refine ks_wpAt_MethodCall ?_))))
local macro_rules | `(tactic| walk_at "call type:set cons nil") => `(tactic| (k_here; k_dflt (refine' Mine.setTuple_N ?zF ?zN ?zh ?zl ?zi ?zb ?_; (case zF => k_asm); (case zN => k_asm); (case zh => rfl); (case zl => exact ⟨_, by k_mem, rfl, _, rfl⟩); (case zi => walk_at "mine strs"); (case zb => exact Nat.le_of_ble_eq_true rfl)); intro D' h' tk' F' N'))
local macro_rules | `(tactic| walk_at "mine strs") => `(tactic| first | exact Mine.strs2 _ _ _ _ | exact Mine.strs0)
local macro_rules | `(tactic| walk_at "mine ksr") => `(tactic| k_dflt (refine' Mine.ks_rest ?k1 ?k2 ?k3 ?k4 ?k5 ?kA ?kF ?kK ?k6 ?k7 ?k8 ?kV ?kP ?kG ?kB ?_ ?c1 ?c2 ?c3 ?c4; (case kA => exact rfl); (case kF => exact rfl); (case kK => first | exact rfl | assumption); (case k1 => k_asm); (case k2 => k_asm); (case k3 => k_asm); (case k4 => k_asm); (case k5 => k_asm); (case k6 => k_is); (case k7 => k_is); (case k8 => k_room); (case kV => kl_lit); (case kP => exact rfl); (case kG => exact fun _ => rfl); (case kB => exact fun _ => locs rfl); (case c1 => decide); (case c2 => exact rfl); (case c3 => exact rfl); (case c4 => exact rfl); intro D' g' L' h' l1 FG' F' N' B' X' T'; (try k_lt l1); (try dsimp only); (try k_lift B')))
theorem pk_number {w : World} (target : PySem.Str) (pos : Int) (t1 t2 t3 : Tok) (hok : okText target) (hp : 0 ≤ pos ∧ pos ≤ target.length) :
   IntsTell PySem.Challenge.rw_en5030_01.row.prog w (Mine.hd.heap_39 w.params) 236 [.str (PySem.Str.ofString "\\d+") t1, .str target t2, .int pos t3] 1 Any9 ((lEnds (lDigits) target pos).reverse) := by
  rw [← num_eq hok hp]
  exact pe_num target pos t1 t2 t3 hok.1 hp
theorem lw_number {w : World} (target : PySem.Str) (t1 t2 t3 : Tok) (hok : okText target) :
   BoolTell PySem.Challenge.rw_en5030_01.row.prog w (Mine.hd.heap_39 w.params) 524 [.str (PySem.Str.ofString "number") t1, .str (PySem.Str.ofString "\\d+") t2, .str target t3] 4 (Any9) true :=
  lw_any target _ t2 t3 _ ((lEnds (lDigits) target 0).reverse) _ hok (fun e h => lEnds_mem (List.mem_reverse.mp h)) (by rw [List.length_reverse]; have := lEnds_length (lDigits) target (Int.le_refl 0); have := hok.1; omega) (fun a b c => pk_number target 0 a b c hok ⟨by omega, by omega⟩) (by rw [lEnds_containsR]; exact lf_number target t1 t3 hok) (fun _ _ _ _ => trivial)
theorem pk_signed {w : World} (target : PySem.Str) (pos : Int) (t1 t2 t3 : Tok) (hok : okText target) (hp : 0 ≤ pos ∧ pos ≤ target.length) :
   IntsTell PySem.Challenge.rw_en5030_01.row.prog w (Mine.hd.heap_39 w.params) 236 [.str (PySem.Str.ofString "-?\\d+") t1, .str target t2, .int pos t3] 1 Any9 ((lEnds (lSigned) target pos).reverse) := by
  rw [← signed_eq hok hp]
  exact pe_signed target pos t1 t2 t3 hok.1 hp
theorem lw_signed {w : World} (target : PySem.Str) (t1 t2 t3 : Tok) (hok : okText target) :
   BoolTell PySem.Challenge.rw_en5030_01.row.prog w (Mine.hd.heap_39 w.params) 524 [.str (PySem.Str.ofString "signed") t1, .str (PySem.Str.ofString "-?\\d+") t2, .str target t3] 4 (Any9) true :=
  lw_any target _ t2 t3 _ ((lEnds (lSigned) target 0).reverse) _ hok (fun e h => lEnds_mem (List.mem_reverse.mp h)) (by rw [List.length_reverse]; have := lEnds_length (lSigned) target (Int.le_refl 0); have := hok.1; omega) (fun a b c => pk_signed target 0 a b c hok ⟨by omega, by omega⟩) (by rw [lEnds_containsR]; exact lf_signed target t1 t3 hok) (fun _ _ _ _ => trivial)
theorem pk_rest {w : World} (target : PySem.Str) (pos : Int) (t1 t2 t3 : Tok) (hok : okText target) (hp : 0 ≤ pos ∧ pos ≤ target.length) :
   IntsTell PySem.Challenge.rw_en5030_01.row.prog w (Mine.hd.heap_39 w.params) 236 [.str (PySem.Str.ofString "[^/].*?") t1, .str target t2, .int pos t3] 1 Any9 (lEnds (lRest) target pos) := by
  rw [← rest_eq hp]
  exact pe_rest target pos t1 t2 t3 hok.1 hp
theorem lw_rest {w : World} (target : PySem.Str) (t1 t2 t3 : Tok) (hok : okText target) :
   BoolTell PySem.Challenge.rw_en5030_01.row.prog w (Mine.hd.heap_39 w.params) 524 [.str (PySem.Str.ofString "rest") t1, .str (PySem.Str.ofString "[^/].*?") t2, .str target t3] 4 (Any9) true :=
  lw_any target _ t2 t3 _ (lEnds (lRest) target 0) _ hok (fun e h => lEnds_mem (h)) (by have := lEnds_length (lRest) target (Int.le_refl 0); have := hok.1; omega) (fun a b c => pk_rest target 0 a b c hok ⟨by omega, by omega⟩) (by rw [lEnds_contains]; exact lf_rest target t1 t3 hok) (fun _ _ _ _ => trivial)
theorem pk_f1 {w : World} (target : PySem.Str) (pos : Int) (t1 t2 t3 : Tok) (hok : okText target) (hp : 0 ≤ pos ∧ pos ≤ target.length) :
   IntsTell PySem.Challenge.rw_en5030_01.row.prog w (Mine.hd.heap_39 w.params) 236 [.str (PySem.Str.ofString "[^/]{1,}") t1, .str target t2, .int pos t3] 1 Any9 ((lEnds (fun t => lFree t 1 none) target pos).reverse) := by
  rw [← free_none_eq (least := 1) (by decide) hp]
  have e : (if pos + target.length < target.length then pos + (target.length : Int) else target.length) = target.length := if_neg (by omega)
  have h := pe_1_ (w := w) target pos t1 t2 t3 hok.1 hp
  rw [e] at h
  exact h
theorem lw_f1 {w : World} (target : PySem.Str) (r : Addr) (u1 : Tok) (t1 t2 t3 : Tok) (hok : okText target) :
   BoolTell PySem.Challenge.rw_en5030_01.row.prog w (Mine.hd.heap_39 w.params) 524 [.ref r, .str (PySem.Str.ofString "[^/]{1,}") t2, .str target t3] 4 (fun nw => ∃ k, (r, ({ cls := .type "tuple", data := .seq #[.int 1 u1, .none] k } : Obj)) ∈ nw) true :=
  lw_any target _ t2 t3 _ ((lEnds (fun t => lFree t 1 none) target 0).reverse) _ hok (fun e h => lEnds_mem (List.mem_reverse.mp h)) (by rw [List.length_reverse]; have := lEnds_length (fun t => lFree t 1 none) target (Int.le_refl 0); have := hok.1; omega) (fun a b c => pk_f1 target 0 a b c hok ⟨by omega, by omega⟩) (by rw [lEnds_containsR]; exact lf_free_none target 0 t3 r 1 0 u1 0 hok) (fun _ _ ⟨k, h⟩ hs => ⟨k, hs _ h⟩)
theorem pk_f22 {w : World} (target : PySem.Str) (pos : Int) (t1 t2 t3 : Tok) (hok : okText target) (hp : 0 ≤ pos ∧ pos ≤ target.length) :
   IntsTell PySem.Challenge.rw_en5030_01.row.prog w (Mine.hd.heap_39 w.params) 236 [.str (PySem.Str.ofString "[^/]{2}") t1, .str target t2, .int pos t3] 1 Any9 ((lEnds (fun t => lFree t 2 (some 2)) target pos).reverse) := by
  rw [← free_some_eq (least := 2) (most := 2) (by decide) hp]
  exact pe_22 target pos t1 t2 t3 hok.1 hp
theorem lw_f22 {w : World} (target : PySem.Str) (r : Addr) (u1 u2 : Tok) (t1 t2 t3 : Tok) (hok : okText target) :
   BoolTell PySem.Challenge.rw_en5030_01.row.prog w (Mine.hd.heap_39 w.params) 524 [.ref r, .str (PySem.Str.ofString "[^/]{2}") t2, .str target t3] 4 (fun nw => ∃ k, (r, ({ cls := .type "tuple", data := .seq #[.int 2 u1, .int 2 u2] k } : Obj)) ∈ nw) true :=
  lw_any target _ t2 t3 _ ((lEnds (fun t => lFree t 2 (some 2)) target 0).reverse) _ hok (fun e h => lEnds_mem (List.mem_reverse.mp h)) (by rw [List.length_reverse]; have := lEnds_length (fun t => lFree t 2 (some 2)) target (Int.le_refl 0); have := hok.1; omega) (fun a b c => pk_f22 target 0 a b c hok ⟨by omega, by omega⟩) (by rw [lEnds_containsR]; exact lf_free_some target 0 t3 r 2 2 u1 u2 hok) (fun _ _ ⟨k, h⟩ hs => ⟨k, hs _ h⟩)
theorem pk_f23 {w : World} (target : PySem.Str) (pos : Int) (t1 t2 t3 : Tok) (hok : okText target) (hp : 0 ≤ pos ∧ pos ≤ target.length) :
   IntsTell PySem.Challenge.rw_en5030_01.row.prog w (Mine.hd.heap_39 w.params) 236 [.str (PySem.Str.ofString "[^/]{2,3}") t1, .str target t2, .int pos t3] 1 Any9 ((lEnds (fun t => lFree t 2 (some 3)) target pos).reverse) := by
  rw [← free_some_eq (least := 2) (most := 3) (by decide) hp]
  exact pe_23 target pos t1 t2 t3 hok.1 hp
theorem lw_f23 {w : World} (target : PySem.Str) (r : Addr) (u1 u2 : Tok) (t1 t2 t3 : Tok) (hok : okText target) :
   BoolTell PySem.Challenge.rw_en5030_01.row.prog w (Mine.hd.heap_39 w.params) 524 [.ref r, .str (PySem.Str.ofString "[^/]{2,3}") t2, .str target t3] 4 (fun nw => ∃ k, (r, ({ cls := .type "tuple", data := .seq #[.int 2 u1, .int 3 u2] k } : Obj)) ∈ nw) true :=
  lw_any target _ t2 t3 _ ((lEnds (fun t => lFree t 2 (some 3)) target 0).reverse) _ hok (fun e h => lEnds_mem (List.mem_reverse.mp h)) (by rw [List.length_reverse]; have := lEnds_length (fun t => lFree t 2 (some 3)) target (Int.le_refl 0); have := hok.1; omega) (fun a b c => pk_f23 target 0 a b c hok ⟨by omega, by omega⟩) (by rw [lEnds_containsR]; exact lf_free_some target 0 t3 r 2 3 u1 u2 hok) (fun _ _ ⟨k, h⟩ hs => ⟨k, hs _ h⟩)
theorem pk_f12 {w : World} (target : PySem.Str) (pos : Int) (t1 t2 t3 : Tok) (hok : okText target) (hp : 0 ≤ pos ∧ pos ≤ target.length) :
   IntsTell PySem.Challenge.rw_en5030_01.row.prog w (Mine.hd.heap_39 w.params) 236 [.str (PySem.Str.ofString "[^/]{1,2}") t1, .str target t2, .int pos t3] 1 Any9 ((lEnds (fun t => lFree t 1 (some 2)) target pos).reverse) := by
  rw [← free_some_eq (least := 1) (most := 2) (by decide) hp]
  exact pe_12 target pos t1 t2 t3 hok.1 hp
theorem lw_f12 {w : World} (target : PySem.Str) (r : Addr) (u1 u2 : Tok) (t1 t2 t3 : Tok) (hok : okText target) :
   BoolTell PySem.Challenge.rw_en5030_01.row.prog w (Mine.hd.heap_39 w.params) 524 [.ref r, .str (PySem.Str.ofString "[^/]{1,2}") t2, .str target t3] 4 (fun nw => ∃ k, (r, ({ cls := .type "tuple", data := .seq #[.int 1 u1, .int 2 u2] k } : Obj)) ∈ nw) true :=
  lw_any target _ t2 t3 _ ((lEnds (fun t => lFree t 1 (some 2)) target 0).reverse) _ hok (fun e h => lEnds_mem (List.mem_reverse.mp h)) (by rw [List.length_reverse]; have := lEnds_length (fun t => lFree t 1 (some 2)) target (Int.le_refl 0); have := hok.1; omega) (fun a b c => pk_f12 target 0 a b c hok ⟨by omega, by omega⟩) (by rw [lEnds_containsR]; exact lf_free_some target 0 t3 r 1 2 u1 u2 hok) (fun _ _ ⟨k, h⟩ hs => ⟨k, hs _ h⟩)
theorem pk_f3 {w : World} (target : PySem.Str) (pos : Int) (t1 t2 t3 : Tok) (hok : okText target) (hp : 0 ≤ pos ∧ pos ≤ target.length) :
   IntsTell PySem.Challenge.rw_en5030_01.row.prog w (Mine.hd.heap_39 w.params) 236 [.str (PySem.Str.ofString "[^/]{3,}") t1, .str target t2, .int pos t3] 1 Any9 ((lEnds (fun t => lFree t 3 none) target pos).reverse) := by
  rw [← free_none_eq (least := 3) (by decide) hp]
  have e : (if pos + target.length < target.length then pos + (target.length : Int) else target.length) = target.length := if_neg (by omega)
  have h := pe_3_ (w := w) target pos t1 t2 t3 hok.1 hp
  rw [e] at h
  exact h
theorem lw_f3 {w : World} (target : PySem.Str) (r : Addr) (u1 : Tok) (t1 t2 t3 : Tok) (hok : okText target) :
   BoolTell PySem.Challenge.rw_en5030_01.row.prog w (Mine.hd.heap_39 w.params) 524 [.ref r, .str (PySem.Str.ofString "[^/]{3,}") t2, .str target t3] 4 (fun nw => ∃ k, (r, ({ cls := .type "tuple", data := .seq #[.int 3 u1, .none] k } : Obj)) ∈ nw) true :=
  lw_any target _ t2 t3 _ ((lEnds (fun t => lFree t 3 none) target 0).reverse) _ hok (fun e h => lEnds_mem (List.mem_reverse.mp h)) (by rw [List.length_reverse]; have := lEnds_length (fun t => lFree t 3 none) target (Int.le_refl 0); have := hok.1; omega) (fun a b c => pk_f3 target 0 a b c hok ⟨by omega, by omega⟩) (by rw [lEnds_containsR]; exact lf_free_none target 0 t3 r 3 0 u1 0 hok) (fun _ _ ⟨k, h⟩ hs => ⟨k, hs _ h⟩)
theorem pk_fb {w : World} (target : PySem.Str) (pos : Int) (t1 t2 t3 : Tok) (hok : okText target) (hp : 0 ≤ pos ∧ pos ≤ target.length) :
   IntsTell PySem.Challenge.rw_en5030_01.row.prog w (Mine.hd.heap_39 w.params) 236 [.str (PySem.Str.ofString "[^/]+") t1, .str target t2, .int pos t3] 1 Any9 ((lEnds (fun t => lFree t 1 none) target pos).reverse) := by
  rw [← free_none_eq (least := 1) (by decide) hp]
  have e : (if pos + target.length < target.length then pos + (target.length : Int) else target.length) = target.length := if_neg (by omega)
  have h := pe_base (w := w) target pos t1 t2 t3 hok.1 hp
  rw [e] at h
  exact h
theorem lw_fb {w : World} (target : PySem.Str) (r : Addr) (u1 : Tok) (t1 t2 t3 : Tok) (hok : okText target) :
   BoolTell PySem.Challenge.rw_en5030_01.row.prog w (Mine.hd.heap_39 w.params) 524 [.ref r, .str (PySem.Str.ofString "[^/]+") t2, .str target t3] 4 (fun nw => ∃ k, (r, ({ cls := .type "tuple", data := .seq #[.int 1 u1, .none] k } : Obj)) ∈ nw) true :=
  lw_any target _ t2 t3 _ ((lEnds (fun t => lFree t 1 none) target 0).reverse) _ hok (fun e h => lEnds_mem (List.mem_reverse.mp h)) (by rw [List.length_reverse]; have := lEnds_length (fun t => lFree t 1 none) target (Int.le_refl 0); have := hok.1; omega) (fun a b c => pk_fb target 0 a b c hok ⟨by omega, by omega⟩) (by rw [lEnds_containsR]; exact lf_free_none target 0 t3 r 1 0 u1 0 hok) (fun _ _ ⟨k, h⟩ hs => ⟨k, hs _ h⟩)
end Mine
namespace Mine
local macro_rules | `(tactic| walk_at "mine enterC") => `(tactic| k_dflt (refine' code_defC ?k1 ?k2 ?k3 ?k4 ?k5 ?kA ?kF ?kK ?k6 ?k7 ?k8 ?k9 ?kB ?kD ?_ ?c2 ?c3 ?c4; (case kA => exact rfl); (case kF => exact rfl); (case kK => assumption); (case k1 => k_asm); (case k2 => k_asm); (case k3 => k_asm); (case k4 => k_asm); (case k5 => k_asm); (case k6 => k_is); (case k7 => k_is); (case k8 => ktr_room); (case k9 => first | exact BindsTo.of_eq rfl | exact binds_K (by k_in) rfl (by k_is) rfl rfl rfl | fail "enterC: no rule for these arguments"); (case kB => exact rfl); (case kD => decide +kernel); (case c2 => exact rfl); (case c3 => exact rfl); (case c4 => exact rfl); k_whole; intro g' L' h' tk' cells' FG' F' N' Y' B' X' T' l1; (try k_lt l1); k_cells Y'; (try simp only [List.cons_append, List.nil_append] at N'); (try dsimp only); (try k_lift B'); (try k_fold)))
local macro_rules | `(tactic| k_all) => `(tactic| exact Mine.ne_of_all (by assumption) (by omega))
local macro_rules | `(tactic| walk_at "eval ListComp") => `(tactic| (k_here; lct_look; k_dflt (refine Mine.listComp_G (by k_asm) (by with_unfolding_all rfl) (by decide) (by rfl) (by decide) (by rfl) ?_)))
local macro_rules | `(tactic| walk_at "TestEnd") => `(tactic| (first | refine Mine.TestEnd.of ?_ (by k_asm) (by k_asm) (fun _ hp => hp) | refine Mine.TestEnd.of ?_ (by k_asm) (by k_asm) (by walk_at "mine sub")))
local macro_rules | `(tactic| walk_at "EltEnd") => `(tactic| (first | refine Mine.EltEnd.of ?_ (by k_asm) (by k_asm) (fun _ hp => hp) | refine Mine.EltEnd.of ?_ (by k_asm) (by k_asm) (by walk_at "mine sub")))
local macro_rules | `(tactic| walk_at "mine sub") => `(tactic| (intro p9 hp9; (repeat (first | exact hp9 | exact List.mem_append_left _ hp9 | refine List.mem_cons_of_mem _ ?_))))
local macro_rules | `(tactic| walk_at "mine sub1") => `(tactic| (intro p9 hp9; rcases List.mem_cons.mp hp9 with h9 | h9; (rw [h9]; exact List.mem_cons_self); (repeat (first | exact h9 | exact List.mem_append_left _ h9 | refine List.mem_cons_of_mem _ ?_))))
local macro_rules | `(tactic| walk_at "mine off") => `(tactic| first | assumption | exact And.right (by assumption) | exact And.right (And.right (by assumption)) | exact And.right (And.right (And.right (by assumption))))
local macro_rules | `(tactic| walk_at "mine tup") => `(tactic| first | assumption | exact Mine.TupIn.mono (by assumption) (by walk_at "mine sub"))
local macro_rules | `(tactic| walk_at "call builtin:isinstance") => `(tactic| ((with_reducible show wpAny _ _ (call (Value.builtin "isinstance") [Value.ref _, Value.type "tuple"]) _ _ _); refine' call_isinstance_yes (Heap.IsTuple.typeIs (Mine.TupIn.at ?tin ?tn)) meta_tuple PySem.F.isi_sub_tuple ?_; (case tn => k_asm); (case tin => walk_at "mine tup")))
local macro_rules | `(tactic| walk_at "mine enter") => `(tactic| k_dflt (refine' code_def ?k1 ?k2 ?k3 ?k4 ?k5 ?kA ?kF ?kK ?k6 ?k7 ?k8 ?k9 ?kB ?_ ?c2 ?c3 ?c4 ?c5; (case kA => exact rfl); (case kF => exact rfl); (case kK => assumption); (case k1 => k_asm); (case k2 => k_asm); (case k3 => k_asm); (case k4 => k_asm); (case k5 => k_asm); (case k6 => k_is); (case k7 => k_is); (case k8 => ktr_room); (case k9 => first | exact BindsTo.of_eq rfl | exact binds_K (by k_in) rfl (by k_is) rfl rfl rfl | fail "enter: no rule for these arguments"); (case c5 => decide); (case kB => exact locs rfl); (case c2 => exact rfl); (case c3 => exact rfl); (case c4 => exact rfl); k_whole; intro g' L' h' FG' F' N' B' X' T'; (try dsimp only); (try k_lift B'); (try k_fold)))
local macro_rules | `(tactic| walk_at "mine ok") => `(tactic| first | assumption | exact Mine.okText_slice (by assumption) _ _)
local macro_rules | `(tactic| walk_at "mine okn") => `(tactic| first | trivial | assumption | walk_at "mine tup")
local macro_rules | `(tactic| walk_at "exec Assign cons ListComp") => `(tactic| (k_here; lct_look; k_dflt (refine Mine.assign_listComp_G (by k_asm) (by rfl) (by with_unfolding_all rfl) (by with_unfolding_all rfl) (by decide) (by rfl) (by decide) (by rfl) (by rfl) (by rfl) ?_)))
local macro_rules | `(tactic| walk_at "mine okn") => `(tactic| exact ⟨_, by k_mem⟩)
local macro_rules | `(tactic| k_mem) => `(tactic| first | assumption | exact List.mem_cons_self | (refine List.mem_cons_of_mem _ ?_; k_mem) | (refine List.mem_append.mpr (Or.inl ?_); k_mem) | (refine List.mem_append.mpr (Or.inr ?_); k_mem))
local macro_rules | `(tactic| walk_at "subscriptTail Name Slice ref ref") => `(tactic| (k_here; (with_reducible show wpAny _ _ (subscriptTail _ (PySem.Expr.Slice none none (some _) _) (Value.ref _) (Value.ref _)) _ _ _); k_dflt (refine' krv_ints ?F ?N ?l ?k ?i ?_ ?s ?t ?z; (case F => k_asm); (case N => k_asm); (case l => is_list); (case k => exact IsPart.int _ _); (case i => assumption); (case s => with_unfolding_all rfl); (case t => kmk_pure); (case z => assumption)); intro D' ws' h' F' N' l1 hI' hC'))
local macro_rules | `(tactic| is_list) => `(tactic| exact News.isList (by k_asm) (by k_mem))
local macro_rules | `(tactic| walk_at "mine step") => `(tactic| first | (k_unfold; (try dsimp only)) | (k_end; kc_close) | walk1 | (dsimp only; walk1) | (leave1; walk_say "STEP leave1"; (try dsimp only)))
local macro_rules | `(tactic| walk_at "mine cls") => `(tactic| (k_dflt (refine' call_cls ?k1 ?k2 ?k3 ?k4 ?k5 ?k6 ?_; (case k1 => k_asm); (case k2 => k_asm); (case k3 => k_asm); (case k4 => k_is); (case k5 => k_is); (case k6 => k_is); k_whole); intro x' d' h' F' N' l1 l2; (try k_lt l1); (try k_lt2 l2); (try k_sweep)))
local macro_rules | `(tactic| k_room) => `(tactic| ktr_room)
local macro_rules | `(tactic| walk_at "call type:list nil nil") => `(tactic| (k_here; k_dflt (refine' Mine.list0_N ?zF ?zN ?_; (case zF => k_asm); (case zN => k_asm)); intro D' c' h' F' N' l1; (try k_lt l1)))
local macro_rules | `(tactic| walk_at "call type:dict nil nil") => `(tactic| (k_here; k_dflt (refine' Mine.dict0_N ?zF ?zN ?_; (case zF => k_asm); (case zN => k_asm)); intro D' h' F' N' l1; (try k_lt l1)))
local macro_rules | `(tactic| walk_at "call type:dict") => `(tactic| (k_here; k_dflt (refine' Mine.dictCopy_K ?zF ?zX ?zN ?zl ?zk ?zn ?za ?zs ?_; (case zF => k_asm); (case zX => k_asm); (case zN => k_asm); (case zl => k_is); (case zk => k_keys); (case zn => first | decide +kernel | (simp only [Mine.kvOf, List.map_cons, List.map_nil]; decide +kernel)); (case za => decide); (case zs => exact Nat.le_of_ble_eq_true rfl)); intro D' h' F' N'))
local macro_rules | `(tactic| walk_at "compareOp Is ref ref") => `(tactic| with_reducible refine wpAny_is_ref_self ?_)
local macro_rules | `(tactic| ktr_units) => `(tactic| (have hcL9 := cLine_is; (try simp only [Mine.units_under_make, units_in1, units_deeper, Around.mark_units, units_caller] at *); (try dsimp only [ktrTop] at *); omega))
local macro_rules | `(tactic| walk_at "mine ks") => `(tactic| k_dflt (refine' ks_code_super ?k1 ?k2 ?k3 ?k4 ?k5 ?kA ?kF ?kK ?k6 ?k7 ?k8 ?k9 ?kB ?_ ?c1 ?c2 ?c3 ?c4; (case kA => exact rfl); (case kF => exact rfl); (case kK => first | exact rfl | assumption); (case k1 => k_asm); (case k2 => k_asm); (case k3 => k_asm); (case k4 => k_asm); (case k5 => k_asm); (case k6 => k_is); (case k7 => k_is); (case k8 => k_room); (case k9 => first | exact BindsTo.of_eq rfl | exact binds_K (by k_in) rfl (by k_is) rfl rfl rfl); (case kB => exact locs rfl); (case c1 => decide); (case c2 => exact rfl); (case c3 => exact rfl); (case c4 => exact rfl); intro g' L' h' FG' F' N' B' X' T' l1; (try k_lt l1); (try dsimp only); (try k_lift B')))
local macro_rules | `(tactic| walk_at "wpAt func") => `(tactic| ((try dsimp only); first
  | (k_dflt (ks_step "execs cons"; refine ks_wpAt_execs_cons ?_))
  | (k_dflt (ks_step "exec Expr"; refine ks_wpAt_Expr_any ?_))
  | (k_dflt (ks_step "exec Return"; refine ks_wpAt_Return_some ?_))
  | (k_dflt (ks_step "exec Assign"; first | refine ks_wpAt_Assign_Name ?_ | refine ks_wpAt_Assign_Attr ?_))
  | (k_dflt (ks_step "exec If"; refine ks_wpAt_If ?_))
  | (k_dflt (ks_step "eval Call"; refine ks_wpAt_MethodCall ?_))))
local macro_rules | `(tactic| walk_at "call type:set cons nil") => `(tactic| (k_here; k_dflt (refine' Mine.setTuple_N ?zF ?zN ?zh ?zl ?zi ?zb ?_; (case zF => k_asm); (case zN => k_asm); (case zh => rfl); (case zl => exact ⟨_, by k_mem, rfl, _, rfl⟩); (case zi => walk_at "mine strs"); (case zb => exact Nat.le_of_ble_eq_true rfl)); intro D' h' tk' F' N'))
local macro_rules | `(tactic| walk_at "mine strs") => `(tactic| first | exact Mine.strs2 _ _ _ _ | exact Mine.strs0)
local macro_rules | `(tactic| walk_at "mine ksr") => `(tactic| k_dflt (refine' Mine.ks_rest ?k1 ?k2 ?k3 ?k4 ?k5 ?kA ?kF ?kK ?k6 ?k7 ?k8 ?kV ?kP ?kG ?kB ?_ ?c1 ?c2 ?c3 ?c4; (case kA => exact rfl); (case kF => exact rfl); (case kK => first | exact rfl | assumption); (case k1 => k_asm); (case k2 => k_asm); (case k3 => k_asm); (case k4 => k_asm); (case k5 => k_asm); (case k6 => k_is); (case k7 => k_is); (case k8 => k_room); (case kV => kl_lit); (case kP => exact rfl); (case kG => exact fun _ => rfl); (case kB => exact fun _ => locs rfl); (case c1 => decide); (case c2 => exact rfl); (case c3 => exact rfl); (case c4 => exact rfl); intro D' g' L' h' l1 FG' F' N' B' X' T'; (try k_lt l1); (try dsimp only); (try k_lift B')))
structure KindOk (w : World) (target : PySem.Str) (kv : Value) (rx : PySem.Str) (Ok : List (Addr × Obj) → Prop) (ends : Int → List Int) : Prop where
  mono : ∀ nw nw', Ok nw → (∀ p ∈ nw, p ∈ nw') → Ok nw'
  whole : ∀ (t2 t3 : Tok), BoolTell PySem.Challenge.rw_en5030_01.row.prog w (Mine.hd.heap_39 w.params) 524 [kv, .str rx t2, .str target t3] 4 Ok true
  piece : ∀ (pos : Int) (t1 t2 t3 : Tok), 0 ≤ pos ∧ pos ≤ target.length → IntsTell PySem.Challenge.rw_en5030_01.row.prog w (Mine.hd.heap_39 w.params) 236 [.str rx t1, .str target t2, .int pos t3] 1 Any9 (ends pos)
  told : ∀ (pos : Int) (t2 t3 : Tok), 0 ≤ pos ∧ pos ≤ target.length → IntsTell PySem.Challenge.rw_en5030_01.row.prog w (Mine.hd.heap_39 w.params) 505 [kv, .str target t2, .int pos t3] 3 Ok (ends pos)
def PairGood (w : World) (target : PySem.Str) (nw : List (Addr × Obj)) (v : Value) : Prop :=
  ∃ T kv rx tr k Ok ends, v = .ref T ∧ (T, ({ cls := .type "tuple", data := .seq #[kv, .str rx tr] k } : Obj)) ∈ nw ∧ Ok nw ∧ KindOk w target kv rx Ok ends
theorem pg_number {w : World} {target : PySem.Str} {nw : List (Addr × Obj)} {T : Addr} {t1 tr : Tok} {k : Nat} (hok : okText target) (h : (T, ({ cls := .type "tuple", data := .seq #[.str (PySem.Str.ofString "number") t1, .str (PySem.Str.ofString "\\d+") tr] k } : Obj)) ∈ nw) : PairGood w target nw (.ref T) :=
  ⟨T, _, _, tr, k, Any9, fun pos => (lEnds lDigits target pos).reverse, rfl, h, trivial, ⟨fun _ _ _ _ => trivial, fun t2 t3 => lw_number target t1 t2 t3 hok, fun pos t1 t2 t3 hp => pk_number target pos t1 t2 t3 hok hp, fun pos t2 t3 hp => le_number target pos t1 t2 t3 hok hp⟩⟩
theorem pg_signed {w : World} {target : PySem.Str} {nw : List (Addr × Obj)} {T : Addr} {t1 tr : Tok} {k : Nat} (hok : okText target) (h : (T, ({ cls := .type "tuple", data := .seq #[.str (PySem.Str.ofString "signed") t1, .str (PySem.Str.ofString "-?\\d+") tr] k } : Obj)) ∈ nw) : PairGood w target nw (.ref T) :=
  ⟨T, _, _, tr, k, Any9, fun pos => (lEnds lSigned target pos).reverse, rfl, h, trivial, ⟨fun _ _ _ _ => trivial, fun t2 t3 => lw_signed target t1 t2 t3 hok, fun pos t1 t2 t3 hp => pk_signed target pos t1 t2 t3 hok hp, fun pos t2 t3 hp => le_signed target pos t1 t2 t3 hok hp⟩⟩
theorem pg_rest {w : World} {target : PySem.Str} {nw : List (Addr × Obj)} {T : Addr} {t1 tr : Tok} {k : Nat} (hok : okText target) (h : (T, ({ cls := .type "tuple", data := .seq #[.str (PySem.Str.ofString "rest") t1, .str (PySem.Str.ofString "[^/].*?") tr] k } : Obj)) ∈ nw) : PairGood w target nw (.ref T) :=
  ⟨T, _, _, tr, k, Any9, fun pos => lEnds lRest target pos, rfl, h, trivial, ⟨fun _ _ _ _ => trivial, fun t2 t3 => lw_rest target t1 t2 t3 hok, fun pos t1 t2 t3 hp => pk_rest target pos t1 t2 t3 hok hp, fun pos t2 t3 hp => le_rest target pos t1 t2 t3 hok hp⟩⟩
theorem pg_f1 {w : World} {target : PySem.Str} {nw : List (Addr × Obj)} {T r : Addr} {u1 tr : Tok} {k k' : Nat} (hok : okText target) (h : (T, ({ cls := .type "tuple", data := .seq #[.ref r, .str (PySem.Str.ofString "[^/]{1,}") tr] k } : Obj)) ∈ nw) (h' : (r, ({ cls := .type "tuple", data := .seq #[.int 1 u1, .none] k' } : Obj)) ∈ nw) : PairGood w target nw (.ref T) :=
  ⟨T, _, _, tr, k, (fun nw => ∃ k, (r, ({ cls := .type "tuple", data := .seq #[.int 1 u1, .none] k } : Obj)) ∈ nw), fun pos => (lEnds (fun x => lFree x 1 none) target pos).reverse, rfl, h, ⟨k', h'⟩, ⟨fun _ _ ⟨k, h⟩ hs => ⟨k, hs _ h⟩, fun t2 t3 => lw_f1 target r u1 t2 t2 t3 hok, fun pos t1 t2 t3 hp => pk_f1 target pos t1 t2 t3 hok hp, fun pos t2 t3 hp => le_free_none target pos t2 t2 t3 r 1 0 u1 0 hok hp⟩⟩
theorem pg_f22 {w : World} {target : PySem.Str} {nw : List (Addr × Obj)} {T r : Addr} {u1 u2 tr : Tok} {k k' : Nat} (hok : okText target) (h : (T, ({ cls := .type "tuple", data := .seq #[.ref r, .str (PySem.Str.ofString "[^/]{2}") tr] k } : Obj)) ∈ nw) (h' : (r, ({ cls := .type "tuple", data := .seq #[.int 2 u1, .int 2 u2] k' } : Obj)) ∈ nw) : PairGood w target nw (.ref T) :=
  ⟨T, _, _, tr, k, (fun nw => ∃ k, (r, ({ cls := .type "tuple", data := .seq #[.int 2 u1, .int 2 u2] k } : Obj)) ∈ nw), fun pos => (lEnds (fun x => lFree x 2 (some 2)) target pos).reverse, rfl, h, ⟨k', h'⟩, ⟨fun _ _ ⟨k, h⟩ hs => ⟨k, hs _ h⟩, fun t2 t3 => lw_f22 target r u1 u2 t2 t2 t3 hok, fun pos t1 t2 t3 hp => pk_f22 target pos t1 t2 t3 hok hp, fun pos t2 t3 hp => le_free_some target pos t2 t2 t3 r 2 2 u1 u2 hok hp⟩⟩
theorem pg_f23 {w : World} {target : PySem.Str} {nw : List (Addr × Obj)} {T r : Addr} {u1 u2 tr : Tok} {k k' : Nat} (hok : okText target) (h : (T, ({ cls := .type "tuple", data := .seq #[.ref r, .str (PySem.Str.ofString "[^/]{2,3}") tr] k } : Obj)) ∈ nw) (h' : (r, ({ cls := .type "tuple", data := .seq #[.int 2 u1, .int 3 u2] k' } : Obj)) ∈ nw) : PairGood w target nw (.ref T) :=
  ⟨T, _, _, tr, k, (fun nw => ∃ k, (r, ({ cls := .type "tuple", data := .seq #[.int 2 u1, .int 3 u2] k } : Obj)) ∈ nw), fun pos => (lEnds (fun x => lFree x 2 (some 3)) target pos).reverse, rfl, h, ⟨k', h'⟩, ⟨fun _ _ ⟨k, h⟩ hs => ⟨k, hs _ h⟩, fun t2 t3 => lw_f23 target r u1 u2 t2 t2 t3 hok, fun pos t1 t2 t3 hp => pk_f23 target pos t1 t2 t3 hok hp, fun pos t2 t3 hp => le_free_some target pos t2 t2 t3 r 2 3 u1 u2 hok hp⟩⟩
theorem pg_f12 {w : World} {target : PySem.Str} {nw : List (Addr × Obj)} {T r : Addr} {u1 u2 tr : Tok} {k k' : Nat} (hok : okText target) (h : (T, ({ cls := .type "tuple", data := .seq #[.ref r, .str (PySem.Str.ofString "[^/]{1,2}") tr] k } : Obj)) ∈ nw) (h' : (r, ({ cls := .type "tuple", data := .seq #[.int 1 u1, .int 2 u2] k' } : Obj)) ∈ nw) : PairGood w target nw (.ref T) :=
  ⟨T, _, _, tr, k, (fun nw => ∃ k, (r, ({ cls := .type "tuple", data := .seq #[.int 1 u1, .int 2 u2] k } : Obj)) ∈ nw), fun pos => (lEnds (fun x => lFree x 1 (some 2)) target pos).reverse, rfl, h, ⟨k', h'⟩, ⟨fun _ _ ⟨k, h⟩ hs => ⟨k, hs _ h⟩, fun t2 t3 => lw_f12 target r u1 u2 t2 t2 t3 hok, fun pos t1 t2 t3 hp => pk_f12 target pos t1 t2 t3 hok hp, fun pos t2 t3 hp => le_free_some target pos t2 t2 t3 r 1 2 u1 u2 hok hp⟩⟩
theorem pg_f3 {w : World} {target : PySem.Str} {nw : List (Addr × Obj)} {T r : Addr} {u1 tr : Tok} {k k' : Nat} (hok : okText target) (h : (T, ({ cls := .type "tuple", data := .seq #[.ref r, .str (PySem.Str.ofString "[^/]{3,}") tr] k } : Obj)) ∈ nw) (h' : (r, ({ cls := .type "tuple", data := .seq #[.int 3 u1, .none] k' } : Obj)) ∈ nw) : PairGood w target nw (.ref T) :=
  ⟨T, _, _, tr, k, (fun nw => ∃ k, (r, ({ cls := .type "tuple", data := .seq #[.int 3 u1, .none] k } : Obj)) ∈ nw), fun pos => (lEnds (fun x => lFree x 3 none) target pos).reverse, rfl, h, ⟨k', h'⟩, ⟨fun _ _ ⟨k, h⟩ hs => ⟨k, hs _ h⟩, fun t2 t3 => lw_f3 target r u1 t2 t2 t3 hok, fun pos t1 t2 t3 hp => pk_f3 target pos t1 t2 t3 hok hp, fun pos t2 t3 hp => le_free_none target pos t2 t2 t3 r 3 0 u1 0 hok hp⟩⟩
theorem pg_fb {w : World} {target : PySem.Str} {nw : List (Addr × Obj)} {T r : Addr} {u1 tr : Tok} {k k' : Nat} (hok : okText target) (h : (T, ({ cls := .type "tuple", data := .seq #[.ref r, .str (PySem.Str.ofString "[^/]+") tr] k } : Obj)) ∈ nw) (h' : (r, ({ cls := .type "tuple", data := .seq #[.int 1 u1, .none] k' } : Obj)) ∈ nw) : PairGood w target nw (.ref T) :=
  ⟨T, _, _, tr, k, (fun nw => ∃ k, (r, ({ cls := .type "tuple", data := .seq #[.int 1 u1, .none] k } : Obj)) ∈ nw), fun pos => (lEnds (fun x => lFree x 1 none) target pos).reverse, rfl, h, ⟨k', h'⟩, ⟨fun _ _ ⟨k, h⟩ hs => ⟨k, hs _ h⟩, fun t2 t3 => lw_fb target r u1 t2 t2 t3 hok, fun pos t1 t2 t3 hp => pk_fb target pos t1 t2 t3 hok hp, fun pos t2 t3 hp => le_free_none target pos t2 t2 t3 r 1 0 u1 0 hok hp⟩⟩
end Mine
namespace Mine
local macro_rules | `(tactic| walk_at "mine enterC") => `(tactic| k_dflt (refine' code_defC ?k1 ?k2 ?k3 ?k4 ?k5 ?kA ?kF ?kK ?k6 ?k7 ?k8 ?k9 ?kB ?kD ?_ ?c2 ?c3 ?c4; (case kA => exact rfl); (case kF => exact rfl); (case kK => assumption); (case k1 => k_asm); (case k2 => k_asm); (case k3 => k_asm); (case k4 => k_asm); (case k5 => k_asm); (case k6 => k_is); (case k7 => k_is); (case k8 => ktr_room); (case k9 => first | exact BindsTo.of_eq rfl | exact binds_K (by k_in) rfl (by k_is) rfl rfl rfl | fail "enterC: no rule for these arguments"); (case kB => exact rfl); (case kD => decide +kernel); (case c2 => exact rfl); (case c3 => exact rfl); (case c4 => exact rfl); k_whole; intro g' L' h' tk' cells' FG' F' N' Y' B' X' T' l1; (try k_lt l1); k_cells Y'; (try simp only [List.cons_append, List.nil_append] at N'); (try dsimp only); (try k_lift B'); (try k_fold)))
local macro_rules | `(tactic| k_all) => `(tactic| exact Mine.ne_of_all (by assumption) (by omega))
local macro_rules | `(tactic| walk_at "eval ListComp") => `(tactic| (k_here; lct_look; k_dflt (refine Mine.listComp_G (by k_asm) (by with_unfolding_all rfl) (by decide) (by rfl) (by decide) (by rfl) ?_)))
local macro_rules | `(tactic| walk_at "TestEnd") => `(tactic| (first | refine Mine.TestEnd.of ?_ (by k_asm) (by k_asm) (fun _ hp => hp) | refine Mine.TestEnd.of ?_ (by k_asm) (by k_asm) (by walk_at "mine sub")))
local macro_rules | `(tactic| walk_at "EltEnd") => `(tactic| (first | refine Mine.EltEnd.of ?_ (by k_asm) (by k_asm) (fun _ hp => hp) | refine Mine.EltEnd.of ?_ (by k_asm) (by k_asm) (by walk_at "mine sub")))
local macro_rules | `(tactic| walk_at "mine sub") => `(tactic| (intro p9 hp9; (repeat (first | exact hp9 | exact List.mem_append_left _ hp9 | refine List.mem_cons_of_mem _ ?_))))
local macro_rules | `(tactic| walk_at "mine sub1") => `(tactic| (intro p9 hp9; rcases List.mem_cons.mp hp9 with h9 | h9; (rw [h9]; exact List.mem_cons_self); (repeat (first | exact h9 | exact List.mem_append_left _ h9 | refine List.mem_cons_of_mem _ ?_))))
local macro_rules | `(tactic| walk_at "mine off") => `(tactic| first | assumption | exact And.right (by assumption) | exact And.right (And.right (by assumption)) | exact And.right (And.right (And.right (by assumption))))
local macro_rules | `(tactic| walk_at "mine tup") => `(tactic| first | assumption | exact Mine.TupIn.mono (by assumption) (by walk_at "mine sub"))
local macro_rules | `(tactic| walk_at "call builtin:isinstance") => `(tactic| ((with_reducible show wpAny _ _ (call (Value.builtin "isinstance") [Value.ref _, Value.type "tuple"]) _ _ _); refine' call_isinstance_yes (Heap.IsTuple.typeIs (Mine.TupIn.at ?tin ?tn)) meta_tuple PySem.F.isi_sub_tuple ?_; (case tn => k_asm); (case tin => walk_at "mine tup")))
local macro_rules | `(tactic| walk_at "mine enter") => `(tactic| k_dflt (refine' code_def ?k1 ?k2 ?k3 ?k4 ?k5 ?kA ?kF ?kK ?k6 ?k7 ?k8 ?k9 ?kB ?_ ?c2 ?c3 ?c4 ?c5; (case kA => exact rfl); (case kF => exact rfl); (case kK => assumption); (case k1 => k_asm); (case k2 => k_asm); (case k3 => k_asm); (case k4 => k_asm); (case k5 => k_asm); (case k6 => k_is); (case k7 => k_is); (case k8 => ktr_room); (case k9 => first | exact BindsTo.of_eq rfl | exact binds_K (by k_in) rfl (by k_is) rfl rfl rfl | fail "enter: no rule for these arguments"); (case c5 => decide); (case kB => exact locs rfl); (case c2 => exact rfl); (case c3 => exact rfl); (case c4 => exact rfl); k_whole; intro g' L' h' FG' F' N' B' X' T'; (try dsimp only); (try k_lift B'); (try k_fold)))
local macro_rules | `(tactic| walk_at "mine ok") => `(tactic| first | assumption | exact Mine.okText_slice (by assumption) _ _)
local macro_rules | `(tactic| walk_at "mine okn") => `(tactic| first | trivial | assumption | walk_at "mine tup")
local macro_rules | `(tactic| walk_at "exec Assign cons ListComp") => `(tactic| (k_here; lct_look; k_dflt (refine Mine.assign_listComp_G (by k_asm) (by rfl) (by with_unfolding_all rfl) (by with_unfolding_all rfl) (by decide) (by rfl) (by decide) (by rfl) (by rfl) (by rfl) ?_)))
local macro_rules | `(tactic| walk_at "mine okn") => `(tactic| exact ⟨_, by k_mem⟩)
local macro_rules | `(tactic| k_mem) => `(tactic| first | assumption | exact List.mem_cons_self | (refine List.mem_cons_of_mem _ ?_; k_mem) | (refine List.mem_append.mpr (Or.inl ?_); k_mem) | (refine List.mem_append.mpr (Or.inr ?_); k_mem))
local macro_rules | `(tactic| walk_at "subscriptTail Name Slice ref ref") => `(tactic| (k_here; (with_reducible show wpAny _ _ (subscriptTail _ (PySem.Expr.Slice none none (some _) _) (Value.ref _) (Value.ref _)) _ _ _); k_dflt (refine' krv_ints ?F ?N ?l ?k ?i ?_ ?s ?t ?z; (case F => k_asm); (case N => k_asm); (case l => is_list); (case k => exact IsPart.int _ _); (case i => assumption); (case s => with_unfolding_all rfl); (case t => kmk_pure); (case z => assumption)); intro D' ws' h' F' N' l1 hI' hC'))
local macro_rules | `(tactic| is_list) => `(tactic| exact News.isList (by k_asm) (by k_mem))
local macro_rules | `(tactic| walk_at "mine step") => `(tactic| first | (k_unfold; (try dsimp only)) | (k_end; kc_close) | walk1 | (dsimp only; walk1) | (leave1; walk_say "STEP leave1"; (try dsimp only)))
local macro_rules | `(tactic| walk_at "mine cls") => `(tactic| (k_dflt (refine' call_cls ?k1 ?k2 ?k3 ?k4 ?k5 ?k6 ?_; (case k1 => k_asm); (case k2 => k_asm); (case k3 => k_asm); (case k4 => k_is); (case k5 => k_is); (case k6 => k_is); k_whole); intro x' d' h' F' N' l1 l2; (try k_lt l1); (try k_lt2 l2); (try k_sweep)))
local macro_rules | `(tactic| k_room) => `(tactic| ktr_room)
local macro_rules | `(tactic| walk_at "call type:list nil nil") => `(tactic| (k_here; k_dflt (refine' Mine.list0_N ?zF ?zN ?_; (case zF => k_asm); (case zN => k_asm)); intro D' c' h' F' N' l1; (try k_lt l1)))
local macro_rules | `(tactic| walk_at "call type:dict nil nil") => `(tactic| (k_here; k_dflt (refine' Mine.dict0_N ?zF ?zN ?_; (case zF => k_asm); (case zN => k_asm)); intro D' h' F' N' l1; (try k_lt l1)))
local macro_rules | `(tactic| walk_at "call type:dict") => `(tactic| (k_here; k_dflt (refine' Mine.dictCopy_K ?zF ?zX ?zN ?zl ?zk ?zn ?za ?zs ?_; (case zF => k_asm); (case zX => k_asm); (case zN => k_asm); (case zl => k_is); (case zk => k_keys); (case zn => first | decide +kernel | (simp only [Mine.kvOf, List.map_cons, List.map_nil]; decide +kernel)); (case za => decide); (case zs => exact Nat.le_of_ble_eq_true rfl)); intro D' h' F' N'))
local macro_rules | `(tactic| walk_at "compareOp Is ref ref") => `(tactic| with_reducible refine wpAny_is_ref_self ?_)
local macro_rules | `(tactic| ktr_units) => `(tactic| (have hcL9 := cLine_is; (try simp only [Mine.units_under_make, units_in1, units_deeper, Around.mark_units, units_caller] at *); (try dsimp only [ktrTop] at *); omega))
local macro_rules | `(tactic| walk_at "mine ks") => `(tactic| k_dflt (refine' ks_code_super ?k1 ?k2 ?k3 ?k4 ?k5 ?kA ?kF ?kK ?k6 ?k7 ?k8 ?k9 ?kB ?_ ?c1 ?c2 ?c3 ?c4; (case kA => exact rfl); (case kF => exact rfl); (case kK => first | exact rfl | assumption); (case k1 => k_asm); (case k2 => k_asm); (case k3 => k_asm); (case k4 => k_asm); (case k5 => k_asm); (case k6 => k_is); (case k7 => k_is); (case k8 => k_room); (case k9 => first | exact BindsTo.of_eq rfl | exact binds_K (by k_in) rfl (by k_is) rfl rfl rfl); (case kB => exact locs rfl); (case c1 => decide); (case c2 => exact rfl); (case c3 => exact rfl); (case c4 => exact rfl); intro g' L' h' FG' F' N' B' X' T' l1; (try k_lt l1); (try dsimp only); (try k_lift B')))
local macro_rules | `(tactic| walk_at "wpAt func") => `(tactic| ((try dsimp only); first
  | (k_dflt (ks_step "execs cons"; refine ks_wpAt_execs_cons ?_))
  | (k_dflt (ks_step "exec Expr"; refine ks_wpAt_Expr_any ?_))
  | (k_dflt (ks_step "exec Return"; refine ks_wpAt_Return_some ?_))
  | (k_dflt (ks_step "exec Assign"; first | refine ks_wpAt_Assign_Name ?_ | refine ks_wpAt_Assign_Attr ?_))
  | (k_dflt (ks_step "exec If"; refine ks_wpAt_If ?_))
  | (k_dflt (ks_step "eval Call"; refine ks_wpAt_MethodCall ?_))))
local macro_rules | `(tactic| walk_at "call type:set cons nil") => `(tactic| (k_here; k_dflt (refine' Mine.setTuple_N ?zF ?zN ?zh ?zl ?zi ?zb ?_; (case zF => k_asm); (case zN => k_asm); (case zh => rfl); (case zl => exact ⟨_, by k_mem, rfl, _, rfl⟩); (case zi => walk_at "mine strs"); (case zb => exact Nat.le_of_ble_eq_true rfl)); intro D' h' tk' F' N'))
local macro_rules | `(tactic| walk_at "mine strs") => `(tactic| first | exact Mine.strs2 _ _ _ _ | exact Mine.strs0)
local macro_rules | `(tactic| walk_at "mine ksr") => `(tactic| k_dflt (refine' Mine.ks_rest ?k1 ?k2 ?k3 ?k4 ?k5 ?kA ?kF ?kK ?k6 ?k7 ?k8 ?kV ?kP ?kG ?kB ?_ ?c1 ?c2 ?c3 ?c4; (case kA => exact rfl); (case kF => exact rfl); (case kK => first | exact rfl | assumption); (case k1 => k_asm); (case k2 => k_asm); (case k3 => k_asm); (case k4 => k_asm); (case k5 => k_asm); (case k6 => k_is); (case k7 => k_is); (case k8 => k_room); (case kV => kl_lit); (case kP => exact rfl); (case kG => exact fun _ => rfl); (case kB => exact fun _ => locs rfl); (case c1 => decide); (case c2 => exact rfl); (case c3 => exact rfl); (case c4 => exact rfl); intro D' g' L' h' l1 FG' F' N' B' X' T'; (try k_lt l1); (try dsimp only); (try k_lift B')))
section
variable {w : World} {A : Around} {E : Value → Shared → Prop} {s : Shared} {env : Env} {h₀ : Heap} {target : Expr} {body : List Stmt} {Q : Flow → Shared → Prop}
theorem pairs_go {ax : Addr} {lo : Obj} {vs : List Value} {n : Nat} {m₀ : PySem.Str → Option Value} {news : List (Addr × Obj)} (names : List PySem.Str) (txt : PySem.Str)
    (hh : A.handled = none) (F : Fr h₀ env.locals s.heap m₀) (N : News h₀ env.locals s.heap news) (hm : (ax, lo) ∈ news) (hc : lo.cls = .type "list") (hd : lo.data = .seq vs.toArray n)
    (hgood : ∀ v ∈ vs, PairGood w txt news v)
    (turn : ∀ (nw : List (Addr × Obj)) (T : Addr) (kv : Value) (rx : PySem.Str) (tr : Tok) (k : Nat) (Ok : List (Addr × Obj) → Prop) (ends : Int → List Int) (u : PySem.Str → Option Value) (h : Heap) (tk : Nat) (own : List (Addr × Obj)),
      Ok nw → KindOk w txt kv rx Ok ends → Fr h₀ env.locals h (fun y => if names.contains y then u y else m₀ y) → News h₀ env.locals h ((T, ({ cls := .type "tuple", data := .seq #[kv, .str rx tr] k } : Obj)) :: (own ++ nw)) →
      wpAny (model PySem.Challenge.rw_en5030_01.row.prog w) A (assign target env (.ref T)) (fun _ s₂ => wpAny (model PySem.Challenge.rw_en5030_01.row.prog w) A (execs body env) (MyPost h₀ env.locals names m₀ (own ++ nw) { s with heap := h, toks := tk } Q) E s₂) E { s with heap := h, toks := tk })
    (done : ∀ (u : PySem.Str → Option Value) h tk, Fr h₀ env.locals h (fun y => if names.contains y then u y else m₀ y) → News h₀ env.locals h news → Q .next { s with heap := h, toks := tk }) :
    wpAny (model PySem.Challenge.rw_en5030_01.row.prog w) A (pyIter (.ref ax)) (fun it s₂ => TurnsAt PySem.Challenge.rw_en5030_01.row.prog w A h₀ env target body Q E it s₂) E s := by
  refine pairs_turns names (PairGood w txt news) hh F N hm hc hd hgood ?_ done
  intro v u h tk own hg F₁ N₁
  obtain ⟨T, kv, rx, tr, k, Ok, ends, rfl, hmem, hok, K⟩ := hg
  refine turn news T kv rx tr k Ok ends u h tk own hok K F₁ ?_
  intro p hp
  rcases List.mem_cons.mp hp with rfl | hp
  · exact N₁ _ (List.mem_append_right _ hmem)
  · exact N₁ p hp
end
end Mine
namespace Mine
local macro_rules | `(tactic| walk_at "mine enterC") => `(tactic| k_dflt (refine' code_defC ?k1 ?k2 ?k3 ?k4 ?k5 ?kA ?kF ?kK ?k6 ?k7 ?k8 ?k9 ?kB ?kD ?_ ?c2 ?c3 ?c4; (case kA => exact rfl); (case kF => exact rfl); (case kK => assumption); (case k1 => k_asm); (case k2 => k_asm); (case k3 => k_asm); (case k4 => k_asm); (case k5 => k_asm); (case k6 => k_is); (case k7 => k_is); (case k8 => ktr_room); (case k9 => first | exact BindsTo.of_eq rfl | exact binds_K (by k_in) rfl (by k_is) rfl rfl rfl | fail "enterC: no rule for these arguments"); (case kB => exact rfl); (case kD => decide +kernel); (case c2 => exact rfl); (case c3 => exact rfl); (case c4 => exact rfl); k_whole; intro g' L' h' tk' cells' FG' F' N' Y' B' X' T' l1; (try k_lt l1); k_cells Y'; (try simp only [List.cons_append, List.nil_append] at N'); (try dsimp only); (try k_lift B'); (try k_fold)))
local macro_rules | `(tactic| k_all) => `(tactic| exact Mine.ne_of_all (by assumption) (by omega))
local macro_rules | `(tactic| walk_at "eval ListComp") => `(tactic| (k_here; lct_look; k_dflt (refine Mine.listComp_G (by k_asm) (by with_unfolding_all rfl) (by decide) (by rfl) (by decide) (by rfl) ?_)))
local macro_rules | `(tactic| walk_at "TestEnd") => `(tactic| (first | refine Mine.TestEnd.of ?_ (by k_asm) (by k_asm) (fun _ hp => hp) | refine Mine.TestEnd.of ?_ (by k_asm) (by k_asm) (by walk_at "mine sub")))
local macro_rules | `(tactic| walk_at "EltEnd") => `(tactic| (first | refine Mine.EltEnd.of ?_ (by k_asm) (by k_asm) (fun _ hp => hp) | refine Mine.EltEnd.of ?_ (by k_asm) (by k_asm) (by walk_at "mine sub")))
local macro_rules | `(tactic| walk_at "mine sub") => `(tactic| (intro p9 hp9; (repeat (first | exact hp9 | exact List.mem_append_left _ hp9 | refine List.mem_cons_of_mem _ ?_))))
local macro_rules | `(tactic| walk_at "mine sub1") => `(tactic| (intro p9 hp9; rcases List.mem_cons.mp hp9 with h9 | h9; (rw [h9]; exact List.mem_cons_self); (repeat (first | exact h9 | exact List.mem_append_left _ h9 | refine List.mem_cons_of_mem _ ?_))))
local macro_rules | `(tactic| walk_at "mine off") => `(tactic| first | assumption | exact And.right (by assumption) | exact And.right (And.right (by assumption)) | exact And.right (And.right (And.right (by assumption))))
local macro_rules | `(tactic| walk_at "mine tup") => `(tactic| first | assumption | exact Mine.TupIn.mono (by assumption) (by walk_at "mine sub"))
local macro_rules | `(tactic| walk_at "call builtin:isinstance") => `(tactic| ((with_reducible show wpAny _ _ (call (Value.builtin "isinstance") [Value.ref _, Value.type "tuple"]) _ _ _); refine' call_isinstance_yes (Heap.IsTuple.typeIs (Mine.TupIn.at ?tin ?tn)) meta_tuple PySem.F.isi_sub_tuple ?_; (case tn => k_asm); (case tin => walk_at "mine tup")))
local macro_rules | `(tactic| walk_at "mine enter") => `(tactic| k_dflt (refine' code_def ?k1 ?k2 ?k3 ?k4 ?k5 ?kA ?kF ?kK ?k6 ?k7 ?k8 ?k9 ?kB ?_ ?c2 ?c3 ?c4 ?c5; (case kA => exact rfl); (case kF => exact rfl); (case kK => assumption); (case k1 => k_asm); (case k2 => k_asm); (case k3 => k_asm); (case k4 => k_asm); (case k5 => k_asm); (case k6 => k_is); (case k7 => k_is); (case k8 => ktr_room); (case k9 => first | exact BindsTo.of_eq rfl | exact binds_K (by k_in) rfl (by k_is) rfl rfl rfl | fail "enter: no rule for these arguments"); (case c5 => decide); (case kB => exact locs rfl); (case c2 => exact rfl); (case c3 => exact rfl); (case c4 => exact rfl); k_whole; intro g' L' h' FG' F' N' B' X' T'; (try dsimp only); (try k_lift B'); (try k_fold)))
local macro_rules | `(tactic| walk_at "mine ok") => `(tactic| first | assumption | exact Mine.okText_slice (by assumption) _ _)
local macro_rules | `(tactic| walk_at "mine okn") => `(tactic| first | trivial | assumption | walk_at "mine tup")
local macro_rules | `(tactic| walk_at "exec Assign cons ListComp") => `(tactic| (k_here; lct_look; k_dflt (refine Mine.assign_listComp_G (by k_asm) (by rfl) (by with_unfolding_all rfl) (by with_unfolding_all rfl) (by decide) (by rfl) (by decide) (by rfl) (by rfl) (by rfl) ?_)))
local macro_rules | `(tactic| walk_at "mine okn") => `(tactic| exact ⟨_, by k_mem⟩)
local macro_rules | `(tactic| k_mem) => `(tactic| first | assumption | exact List.mem_cons_self | (refine List.mem_cons_of_mem _ ?_; k_mem) | (refine List.mem_append.mpr (Or.inl ?_); k_mem) | (refine List.mem_append.mpr (Or.inr ?_); k_mem))
local macro_rules | `(tactic| walk_at "subscriptTail Name Slice ref ref") => `(tactic| (k_here; (with_reducible show wpAny _ _ (subscriptTail _ (PySem.Expr.Slice none none (some _) _) (Value.ref _) (Value.ref _)) _ _ _); k_dflt (refine' krv_ints ?F ?N ?l ?k ?i ?_ ?s ?t ?z; (case F => k_asm); (case N => k_asm); (case l => is_list); (case k => exact IsPart.int _ _); (case i => assumption); (case s => with_unfolding_all rfl); (case t => kmk_pure); (case z => assumption)); intro D' ws' h' F' N' l1 hI' hC'))
local macro_rules | `(tactic| is_list) => `(tactic| exact News.isList (by k_asm) (by k_mem))
local macro_rules | `(tactic| walk_at "mine step") => `(tactic| first | (k_unfold; (try dsimp only)) | (k_end; kc_close) | walk1 | (dsimp only; walk1) | (leave1; walk_say "STEP leave1"; (try dsimp only)))
local macro_rules | `(tactic| walk_at "mine cls") => `(tactic| (k_dflt (refine' call_cls ?k1 ?k2 ?k3 ?k4 ?k5 ?k6 ?_; (case k1 => k_asm); (case k2 => k_asm); (case k3 => k_asm); (case k4 => k_is); (case k5 => k_is); (case k6 => k_is); k_whole); intro x' d' h' F' N' l1 l2; (try k_lt l1); (try k_lt2 l2); (try k_sweep)))
local macro_rules | `(tactic| k_room) => `(tactic| ktr_room)
local macro_rules | `(tactic| walk_at "call type:list nil nil") => `(tactic| (k_here; k_dflt (refine' Mine.list0_N ?zF ?zN ?_; (case zF => k_asm); (case zN => k_asm)); intro D' c' h' F' N' l1; (try k_lt l1)))
local macro_rules | `(tactic| walk_at "call type:dict nil nil") => `(tactic| (k_here; k_dflt (refine' Mine.dict0_N ?zF ?zN ?_; (case zF => k_asm); (case zN => k_asm)); intro D' h' F' N' l1; (try k_lt l1)))
local macro_rules | `(tactic| walk_at "call type:dict") => `(tactic| (k_here; k_dflt (refine' Mine.dictCopy_K ?zF ?zX ?zN ?zl ?zk ?zn ?za ?zs ?_; (case zF => k_asm); (case zX => k_asm); (case zN => k_asm); (case zl => k_is); (case zk => k_keys); (case zn => first | decide +kernel | (simp only [Mine.kvOf, List.map_cons, List.map_nil]; decide +kernel)); (case za => decide); (case zs => exact Nat.le_of_ble_eq_true rfl)); intro D' h' F' N'))
local macro_rules | `(tactic| walk_at "compareOp Is ref ref") => `(tactic| with_reducible refine wpAny_is_ref_self ?_)
local macro_rules | `(tactic| ktr_units) => `(tactic| (have hcL9 := cLine_is; (try simp only [Mine.units_under_make, units_in1, units_deeper, Around.mark_units, units_caller] at *); (try dsimp only [ktrTop] at *); omega))
local macro_rules | `(tactic| walk_at "mine ks") => `(tactic| k_dflt (refine' ks_code_super ?k1 ?k2 ?k3 ?k4 ?k5 ?kA ?kF ?kK ?k6 ?k7 ?k8 ?k9 ?kB ?_ ?c1 ?c2 ?c3 ?c4; (case kA => exact rfl); (case kF => exact rfl); (case kK => first | exact rfl | assumption); (case k1 => k_asm); (case k2 => k_asm); (case k3 => k_asm); (case k4 => k_asm); (case k5 => k_asm); (case k6 => k_is); (case k7 => k_is); (case k8 => k_room); (case k9 => first | exact BindsTo.of_eq rfl | exact binds_K (by k_in) rfl (by k_is) rfl rfl rfl); (case kB => exact locs rfl); (case c1 => decide); (case c2 => exact rfl); (case c3 => exact rfl); (case c4 => exact rfl); intro g' L' h' FG' F' N' B' X' T' l1; (try k_lt l1); (try dsimp only); (try k_lift B')))
local macro_rules | `(tactic| walk_at "wpAt func") => `(tactic| ((try dsimp only); first
  | (k_dflt (ks_step "execs cons"; refine ks_wpAt_execs_cons ?_))
  | (k_dflt (ks_step "exec Expr"; refine ks_wpAt_Expr_any ?_))
  | (k_dflt (ks_step "exec Return"; refine ks_wpAt_Return_some ?_))
  | (k_dflt (ks_step "exec Assign"; first | refine ks_wpAt_Assign_Name ?_ | refine ks_wpAt_Assign_Attr ?_))
  | (k_dflt (ks_step "exec If"; refine ks_wpAt_If ?_))
  | (k_dflt (ks_step "eval Call"; refine ks_wpAt_MethodCall ?_))))
local macro_rules | `(tactic| walk_at "call type:set cons nil") => `(tactic| (k_here; k_dflt (refine' Mine.setTuple_N ?zF ?zN ?zh ?zl ?zi ?zb ?_; (case zF => k_asm); (case zN => k_asm); (case zh => rfl); (case zl => exact ⟨_, by k_mem, rfl, _, rfl⟩); (case zi => walk_at "mine strs"); (case zb => exact Nat.le_of_ble_eq_true rfl)); intro D' h' tk' F' N'))
local macro_rules | `(tactic| walk_at "mine strs") => `(tactic| first | exact Mine.strs2 _ _ _ _ | exact Mine.strs0)
local macro_rules | `(tactic| walk_at "mine ksr") => `(tactic| k_dflt (refine' Mine.ks_rest ?k1 ?k2 ?k3 ?k4 ?k5 ?kA ?kF ?kK ?k6 ?k7 ?k8 ?kV ?kP ?kG ?kB ?_ ?c1 ?c2 ?c3 ?c4; (case kA => exact rfl); (case kF => exact rfl); (case kK => first | exact rfl | assumption); (case k1 => k_asm); (case k2 => k_asm); (case k3 => k_asm); (case k4 => k_asm); (case k5 => k_asm); (case k6 => k_is); (case k7 => k_is); (case k8 => k_room); (case kV => kl_lit); (case kP => exact rfl); (case kG => exact fun _ => rfl); (case kB => exact fun _ => locs rfl); (case c1 => decide); (case c2 => exact rfl); (case c3 => exact rfl); (case c4 => exact rfl); intro D' g' L' h' l1 FG' F' N' B' X' T'; (try k_lt l1); (try dsimp only); (try k_lift B')))
section
variable {w : World}
theorem tup_of {ax : Addr} {its : Array Value} {k : Nat} {nw : List (Addr × Obj)} (h : (ax, ({ cls := .type "tuple", data := .seq its k } : Obj)) ∈ nw) : TupIn ax its nw := ⟨_, h, rfl, _, rfl⟩
theorem pk_slash {w : World} (target : PySem.Str) (pos : Int) (t1 t2 t3 : Tok) (hok : okText target) (hp : 0 ≤ pos ∧ pos ≤ target.length) :
   IntsTell PySem.Challenge.rw_en5030_01.row.prog w (Mine.hd.heap_39 w.params) 236 [.str (PySem.Str.ofString "(?<!/)(/?)") t1, .str target t2, .int pos t3] 1 Any9 (laSlash target pos) := by
  rw [← slash_eq hp]
  exact pe_slash target pos t1 t2 t3 hok.1 hp
theorem peWords_empty (target : PySem.Str) : peWords [PySem.Str.ofString ""] target 0 = [0] := by
  have e : (PySem.Str.ofString "").length = 0 := by decide +kernel
  have h : sl target 0 ((0 : Int) + ((0 : Nat) : Int)) = PySem.Str.ofString "" := sl_empty (Int.le_refl 0) (by omega)
  unfold peWords
  rw [List.filter_cons, e, h]
  simp [e]
theorem pk_empty {w : World} (target : PySem.Str) (t2 t3 : Tok) (r : Addr) (u : Tok) (hok : okText target) :
   IntsTell PySem.Challenge.rw_en5030_01.row.prog w (Mine.hd.heap_39 w.params) 236 [.ref r, .str target t2, .int 0 t3] 1 (TupIn r #[.str (PySem.Str.ofString "") u]) [0] := by
  rw [← peWords_empty target]
  exact pe_words target 0 t2 t3 r _ _ (.cons ⟨_, rfl⟩ .nil) (Nat.le_of_ble_eq_true rfl) (List.forall_mem_cons.mpr ⟨by decide +kernel, List.forall_mem_nil _⟩) hok.1 ⟨Int.le_refl 0, by omega⟩
theorem pk_two {w : World} (target : PySem.Str) (pos : Int) (t2 t3 : Tok) (r : Addr) (x0 x1 : PySem.Str) (u0 u1 : Tok) (h0 : x0.length ≤ 8) (h1 : x1.length ≤ 8) (hok : okText target) (hp : 0 ≤ pos ∧ pos ≤ target.length) :
   IntsTell PySem.Challenge.rw_en5030_01.row.prog w (Mine.hd.heap_39 w.params) 236 [.ref r, .str target t2, .int pos t3] 1 (TupIn r #[.str x0 u0, .str x1 u1]) (peWords [x0, x1] target pos) :=
  pe_words target pos t2 t3 r _ _ (.cons ⟨_, rfl⟩ (.cons ⟨_, rfl⟩ .nil)) (Nat.le_of_ble_eq_true rfl) (List.forall_mem_cons.mpr ⟨h0, List.forall_mem_cons.mpr ⟨h1, List.forall_mem_nil _⟩⟩) hok.1 hp
theorem la_two {w : World} (target : PySem.Str) (pos : Int) (t2 t3 : Tok) (r : Addr) (x0 x1 : PySem.Str) (u0 u1 : Tok) (h0 : x0.length ≤ 8) (h1 : x1.length ≤ 8) (hok : okText target) (hp : 0 ≤ pos ∧ pos ≤ target.length) :
   IntsTell PySem.Challenge.rw_en5030_01.row.prog w (Mine.hd.heap_39 w.params) 517 [.ref r, .str target t2, .int pos t3] 1 (TupIn r #[.str x0 u0, .str x1 u1]) (peWords [x0, x1] target pos) :=
  la_x target pos t2 t3 r _ _ (.cons ⟨_, rfl⟩ (.cons ⟨_, rfl⟩ .nil)) (Nat.le_of_ble_eq_true rfl) (List.forall_mem_cons.mpr ⟨h0, List.forall_mem_cons.mpr ⟨h1, List.forall_mem_nil _⟩⟩) hok hp
end
end Mine
namespace Mine
local macro_rules | `(tactic| walk_at "mine enterC") => `(tactic| k_dflt (refine' code_defC ?k1 ?k2 ?k3 ?k4 ?k5 ?kA ?kF ?kK ?k6 ?k7 ?k8 ?k9 ?kB ?kD ?_ ?c2 ?c3 ?c4; (case kA => exact rfl); (case kF => exact rfl); (case kK => assumption); (case k1 => k_asm); (case k2 => k_asm); (case k3 => k_asm); (case k4 => k_asm); (case k5 => k_asm); (case k6 => k_is); (case k7 => k_is); (case k8 => ktr_room); (case k9 => first | exact BindsTo.of_eq rfl | exact binds_K (by k_in) rfl (by k_is) rfl rfl rfl | fail "enterC: no rule for these arguments"); (case kB => exact rfl); (case kD => decide +kernel); (case c2 => exact rfl); (case c3 => exact rfl); (case c4 => exact rfl); k_whole; intro g' L' h' tk' cells' FG' F' N' Y' B' X' T' l1; (try k_lt l1); k_cells Y'; (try simp only [List.cons_append, List.nil_append] at N'); (try dsimp only); (try k_lift B'); (try k_fold)))
local macro_rules | `(tactic| k_all) => `(tactic| exact Mine.ne_of_all (by assumption) (by omega))
local macro_rules | `(tactic| walk_at "eval ListComp") => `(tactic| (k_here; lct_look; k_dflt (refine Mine.listComp_G (by k_asm) (by with_unfolding_all rfl) (by decide) (by rfl) (by decide) (by rfl) ?_)))
local macro_rules | `(tactic| walk_at "TestEnd") => `(tactic| (first | refine Mine.TestEnd.of ?_ (by k_asm) (by k_asm) (fun _ hp => hp) | refine Mine.TestEnd.of ?_ (by k_asm) (by k_asm) (by walk_at "mine sub")))
local macro_rules | `(tactic| walk_at "EltEnd") => `(tactic| (first | refine Mine.EltEnd.of ?_ (by k_asm) (by k_asm) (fun _ hp => hp) | refine Mine.EltEnd.of ?_ (by k_asm) (by k_asm) (by walk_at "mine sub")))
local macro_rules | `(tactic| walk_at "mine sub") => `(tactic| (intro p9 hp9; (repeat (first | exact hp9 | exact List.mem_append_left _ hp9 | refine List.mem_cons_of_mem _ ?_))))
local macro_rules | `(tactic| walk_at "mine sub1") => `(tactic| (intro p9 hp9; rcases List.mem_cons.mp hp9 with h9 | h9; (rw [h9]; exact List.mem_cons_self); (repeat (first | exact h9 | exact List.mem_append_left _ h9 | refine List.mem_cons_of_mem _ ?_))))
local macro_rules | `(tactic| walk_at "mine off") => `(tactic| first | assumption | exact And.right (by assumption) | exact And.right (And.right (by assumption)) | exact And.right (And.right (And.right (by assumption))))
local macro_rules | `(tactic| walk_at "mine tup") => `(tactic| first | assumption | exact Mine.TupIn.mono (by assumption) (by walk_at "mine sub"))
local macro_rules | `(tactic| walk_at "call builtin:isinstance") => `(tactic| ((with_reducible show wpAny _ _ (call (Value.builtin "isinstance") [Value.ref _, Value.type "tuple"]) _ _ _); refine' call_isinstance_yes (Heap.IsTuple.typeIs (Mine.TupIn.at ?tin ?tn)) meta_tuple PySem.F.isi_sub_tuple ?_; (case tn => k_asm); (case tin => walk_at "mine tup")))
local macro_rules | `(tactic| walk_at "mine enter") => `(tactic| k_dflt (refine' code_def ?k1 ?k2 ?k3 ?k4 ?k5 ?kA ?kF ?kK ?k6 ?k7 ?k8 ?k9 ?kB ?_ ?c2 ?c3 ?c4 ?c5; (case kA => exact rfl); (case kF => exact rfl); (case kK => assumption); (case k1 => k_asm); (case k2 => k_asm); (case k3 => k_asm); (case k4 => k_asm); (case k5 => k_asm); (case k6 => k_is); (case k7 => k_is); (case k8 => ktr_room); (case k9 => first | exact BindsTo.of_eq rfl | exact binds_K (by k_in) rfl (by k_is) rfl rfl rfl | fail "enter: no rule for these arguments"); (case c5 => decide); (case kB => exact locs rfl); (case c2 => exact rfl); (case c3 => exact rfl); (case c4 => exact rfl); k_whole; intro g' L' h' FG' F' N' B' X' T'; (try dsimp only); (try k_lift B'); (try k_fold)))
local macro_rules | `(tactic| walk_at "mine ok") => `(tactic| first | assumption | exact Mine.okText_slice (by assumption) _ _)
local macro_rules | `(tactic| walk_at "mine okn") => `(tactic| first | trivial | assumption | walk_at "mine tup")
local macro_rules | `(tactic| walk_at "exec Assign cons ListComp") => `(tactic| (k_here; lct_look; k_dflt (refine Mine.assign_listComp_G (by k_asm) (by rfl) (by with_unfolding_all rfl) (by with_unfolding_all rfl) (by decide) (by rfl) (by decide) (by rfl) (by rfl) (by rfl) ?_)))
local macro_rules | `(tactic| walk_at "mine okn") => `(tactic| exact ⟨_, by k_mem⟩)
local macro_rules | `(tactic| k_mem) => `(tactic| first | assumption | exact List.mem_cons_self | (refine List.mem_cons_of_mem _ ?_; k_mem) | (refine List.mem_append.mpr (Or.inl ?_); k_mem) | (refine List.mem_append.mpr (Or.inr ?_); k_mem))
local macro_rules | `(tactic| walk_at "subscriptTail Name Slice ref ref") => `(tactic| (k_here; (with_reducible show wpAny _ _ (subscriptTail _ (PySem.Expr.Slice none none (some _) _) (Value.ref _) (Value.ref _)) _ _ _); k_dflt (refine' krv_ints ?F ?N ?l ?k ?i ?_ ?s ?t ?z; (case F => k_asm); (case N => k_asm); (case l => is_list); (case k => exact IsPart.int _ _); (case i => assumption); (case s => with_unfolding_all rfl); (case t => kmk_pure); (case z => assumption)); intro D' ws' h' F' N' l1 hI' hC'))
local macro_rules | `(tactic| is_list) => `(tactic| exact News.isList (by k_asm) (by k_mem))
local macro_rules | `(tactic| walk_at "mine step") => `(tactic| first | (k_unfold; (try dsimp only)) | (k_end; kc_close) | walk1 | (dsimp only; walk1) | (leave1; walk_say "STEP leave1"; (try dsimp only)))
local macro_rules | `(tactic| walk_at "mine cls") => `(tactic| (k_dflt (refine' call_cls ?k1 ?k2 ?k3 ?k4 ?k5 ?k6 ?_; (case k1 => k_asm); (case k2 => k_asm); (case k3 => k_asm); (case k4 => k_is); (case k5 => k_is); (case k6 => k_is); k_whole); intro x' d' h' F' N' l1 l2; (try k_lt l1); (try k_lt2 l2); (try k_sweep)))
local macro_rules | `(tactic| k_room) => `(tactic| ktr_room)
local macro_rules | `(tactic| walk_at "call type:list nil nil") => `(tactic| (k_here; k_dflt (refine' Mine.list0_N ?zF ?zN ?_; (case zF => k_asm); (case zN => k_asm)); intro D' c' h' F' N' l1; (try k_lt l1)))
local macro_rules | `(tactic| walk_at "call type:dict nil nil") => `(tactic| (k_here; k_dflt (refine' Mine.dict0_N ?zF ?zN ?_; (case zF => k_asm); (case zN => k_asm)); intro D' h' F' N' l1; (try k_lt l1)))
local macro_rules | `(tactic| walk_at "call type:dict") => `(tactic| (k_here; k_dflt (refine' Mine.dictCopy_K ?zF ?zX ?zN ?zl ?zk ?zn ?za ?zs ?_; (case zF => k_asm); (case zX => k_asm); (case zN => k_asm); (case zl => k_is); (case zk => k_keys); (case zn => first | decide +kernel | (simp only [Mine.kvOf, List.map_cons, List.map_nil]; decide +kernel)); (case za => decide); (case zs => exact Nat.le_of_ble_eq_true rfl)); intro D' h' F' N'))
local macro_rules | `(tactic| walk_at "compareOp Is ref ref") => `(tactic| with_reducible refine wpAny_is_ref_self ?_)
local macro_rules | `(tactic| ktr_units) => `(tactic| (have hcL9 := cLine_is; (try simp only [Mine.units_under_make, units_in1, units_deeper, Around.mark_units, units_caller] at *); (try dsimp only [ktrTop] at *); omega))
local macro_rules | `(tactic| walk_at "mine ks") => `(tactic| k_dflt (refine' ks_code_super ?k1 ?k2 ?k3 ?k4 ?k5 ?kA ?kF ?kK ?k6 ?k7 ?k8 ?k9 ?kB ?_ ?c1 ?c2 ?c3 ?c4; (case kA => exact rfl); (case kF => exact rfl); (case kK => first | exact rfl | assumption); (case k1 => k_asm); (case k2 => k_asm); (case k3 => k_asm); (case k4 => k_asm); (case k5 => k_asm); (case k6 => k_is); (case k7 => k_is); (case k8 => k_room); (case k9 => first | exact BindsTo.of_eq rfl | exact binds_K (by k_in) rfl (by k_is) rfl rfl rfl); (case kB => exact locs rfl); (case c1 => decide); (case c2 => exact rfl); (case c3 => exact rfl); (case c4 => exact rfl); intro g' L' h' FG' F' N' B' X' T' l1; (try k_lt l1); (try dsimp only); (try k_lift B')))
local macro_rules | `(tactic| walk_at "wpAt func") => `(tactic| ((try dsimp only); first
  | (k_dflt (ks_step "execs cons"; refine ks_wpAt_execs_cons ?_))
  | (k_dflt (ks_step "exec Expr"; refine ks_wpAt_Expr_any ?_))
  | (k_dflt (ks_step "exec Return"; refine ks_wpAt_Return_some ?_))
  | (k_dflt (ks_step "exec Assign"; first | refine ks_wpAt_Assign_Name ?_ | refine ks_wpAt_Assign_Attr ?_))
  | (k_dflt (ks_step "exec If"; refine ks_wpAt_If ?_))
  | (k_dflt (ks_step "eval Call"; refine ks_wpAt_MethodCall ?_))))
local macro_rules | `(tactic| walk_at "call type:set cons nil") => `(tactic| (k_here; k_dflt (refine' Mine.setTuple_N ?zF ?zN ?zh ?zl ?zi ?zb ?_; (case zF => k_asm); (case zN => k_asm); (case zh => rfl); (case zl => exact ⟨_, by k_mem, rfl, _, rfl⟩); (case zi => walk_at "mine strs"); (case zb => exact Nat.le_of_ble_eq_true rfl)); intro D' h' tk' F' N'))
local macro_rules | `(tactic| walk_at "mine strs") => `(tactic| first | exact Mine.strs2 _ _ _ _ | exact Mine.strs0)
local macro_rules | `(tactic| walk_at "mine ksr") => `(tactic| k_dflt (refine' Mine.ks_rest ?k1 ?k2 ?k3 ?k4 ?k5 ?kA ?kF ?kK ?k6 ?k7 ?k8 ?kV ?kP ?kG ?kB ?_ ?c1 ?c2 ?c3 ?c4; (case kA => exact rfl); (case kF => exact rfl); (case kK => first | exact rfl | assumption); (case k1 => k_asm); (case k2 => k_asm); (case k3 => k_asm); (case k4 => k_asm); (case k5 => k_asm); (case k6 => k_is); (case k7 => k_is); (case k8 => k_room); (case kV => kl_lit); (case kP => exact rfl); (case kG => exact fun _ => rfl); (case kB => exact fun _ => locs rfl); (case c1 => decide); (case c2 => exact rfl); (case c3 => exact rfl); (case c4 => exact rfl); intro D' g' L' h' l1 FG' F' N' B' X' T'; (try k_lt l1); (try dsimp only); (try k_lift B')))
local macro_rules | `(tactic| walk_at "callWith ref") => `(tactic| (k_here; k_dflt (refine' callWith_K0 ?zA ?zB ?_; (case zA => k_in); (case zB => k_is); k_whole)))
local macro_rules | `(tactic| walk_at "callWith ref") => `(tactic| (k_here; k_dflt (refine' callWith_K ?zA ?zB ?_; (case zA => k_asm); (case zB => k_is); k_whole)))
local macro_rules | `(tactic| walk_at "callWith ref nil nil") => `(tactic| (k_here; k_dflt (first | ((with_reducible show wpAny _ _ (callWith _ _ _ (backTo _ (starEach [] _)) _) _ _ _); (rename Fr _ _ _ _ => fC'); refine' callWith_K0 ?zC ?zD ?_; (case zC => exact Frag.In.keeps (by with_reducible assumption) (Fr.keep fC')); (case zD => k_is); k_whole) | (refine' callWith_K ?zA ?zB ?_; (case zA => k_asm); (case zB => k_is); k_whole) | (refine' callWith_K0 ?zC ?zD ?_; (case zC => k_in); (case zD => k_is); k_whole))))
local macro_rules | `(tactic| walk_at "call type:range") => `(tactic| ((rename Fr _ _ _ _ => F'); (rename News _ _ _ _ => N'); (with_unfolding_all refine range1_rows F' N' ?_); intro _ _ _ _ _ _ _ _ _))
local macro_rules | `(tactic| walk_at "InvEndN") => `(tactic| ((rename News _ _ _ _ => nE'); k_dflt (refine kst_end () (by assumption) nE' ?zEn ?zEo ?zEa ?zEf ?zEk ?zEr ?zEp; (case zEn => intro p9 hp9; (try dsimp only at hp9); (repeat (first | with_reducible exact hp9 | refine List.mem_cons_of_mem _ ?_))); (case zEo => intro p9 hp9; kst_mem); (case zEa => rfl); (case zEf => exact True.intro); (case zEk => exact List.forall_mem_nil _); (case zEr => kst_same); (case zEp => exact True.intro))))
local macro_rules | `(tactic| walk_at "eval ListComp") => `(tactic| (k_here; k_dflt (refine Mine.listComp_N (by k_asm) (by with_unfolding_all rfl) (by decide) (by rfl) (by decide) (by rfl) ?_)))
local macro_rules | `(tactic| walk_at "subscriptTail Name BinOp ref int") => `(tactic| (k_here; (with_reducible show wpAny _ _ (subscriptTail _ _ (Value.ref _) (Value.int (Int.fmod _ 8) _)) _ _ _); k_dflt (refine' Mine.signs_item ?zF ?zX ?zl ?za ?_ ?zs; (case zF => k_asm); (case zX => k_asm); (case zl => k_is); (case za => exact Mine.signs_all _ _ _ _ _ _ _ _); (case zs => with_unfolding_all rfl))))
local macro_rules | `(tactic| walk_at "call ref") => `(tactic| (k_here; (fail_if_success (fail_if_success (with_reducible show wpAny _ _ (call (Value.ref 357) _) _ _ _))); k_dflt (refine' Mine.valTell_use (Mine.mk_map) ?z1 ?z2 ?z3 ?z4 ?z5 ?z6 ?z7 ?z8 ?z9 ?_; (case z1 => k_asm); (case z2 => k_asm); (case z3 => k_asm); (case z4 => k_asm); (case z5 => k_asm); (case z6 => first | exact rfl | assumption); (case z7 => trivial); (case z8 => ktr_room); (case z9 => ktr_units); intro v9 tl9 h9 tk9 R9 F9 N9; obtain ⟨⟨x9, e9⟩, f9⟩ := R9; subst e9; subst f9; (try simp only [List.nil_append, List.cons_append] at N9); (try dsimp only); (try k_sweep); (try k_fold))))
local macro_rules | `(tactic| walk_at "call ref") => `(tactic| (k_here; (fail_if_success (fail_if_success (with_reducible show wpAny _ _ (call (Value.ref 172) [_]) _ _ _))); k_dflt (refine' Mine.valTell_use (Mine.mk_int _) ?z1 ?z2 ?z3 ?z4 ?z5 ?z6 ?z7 ?z8 ?z9 ?_; (case z1 => k_asm); (case z2 => k_asm); (case z3 => k_asm); (case z4 => k_asm); (case z5 => k_asm); (case z6 => first | exact rfl | assumption); (case z7 => trivial); (case z8 => ktr_room); (case z9 => ktr_units); intro v9 tl9 h9 tk9 R9 F9 N9; obtain ⟨x9, d9, t1, t2, t3, t4, t5, u9, e9, f9⟩ := R9; subst e9; subst f9; (try simp only [List.nil_append, List.cons_append] at N9); (try dsimp only); (try k_sweep); (try k_fold))))
local macro_rules | `(tactic| walk_at "call ref") => `(tactic| (k_here; (fail_if_success (fail_if_success (with_reducible show wpAny _ _ (call (Value.ref 172) [_, _, _, _, _]) _ _ _))); k_dflt (refine' Mine.valTell_use (Mine.mk_ints _ _) ?z1 ?z2 ?z3 ?z4 ?z5 ?z6 ?z7 ?z8 ?z9 ?_; (case z1 => k_asm); (case z2 => k_asm); (case z3 => k_asm); (case z4 => k_asm); (case z5 => k_asm); (case z6 => first | exact rfl | assumption); (case z7 => trivial); (case z8 => ktr_room); (case z9 => ktr_units); intro v9 tl9 h9 tk9 R9 F9 N9; obtain ⟨x9, d9, t0, t1, t2, t3, t4, t5, u9, u8, e9, f9⟩ := R9; subst e9; subst f9; (try simp only [List.nil_append, List.cons_append] at N9); (try dsimp only); (try k_sweep); (try k_fold))))
local macro_rules | `(tactic| walk_at "call ref") => `(tactic| (k_here; (fail_if_success (fail_if_success (with_reducible show wpAny _ _ (call (Value.ref 76) [_]) _ _ _))); k_dflt (refine' Mine.valTell_use (Mine.mk_uni_1_ _ 0 0) ?z1 ?z2 ?z3 ?z4 ?z5 ?z6 ?z7 ?z8 ?z9 ?_; (case z1 => k_asm); (case z2 => k_asm); (case z3 => k_asm); (case z4 => k_asm); (case z5 => k_asm); (case z6 => first | exact rfl | assumption); (case z7 => trivial); (case z8 => ktr_room); (case z9 => ktr_units); intro v9 tl9 h9 tk9 R9 F9 N9; obtain ⟨x9, d9, t1, t2, u9, e9, f9⟩ := R9; subst e9; subst f9; (try simp only [List.nil_append, List.cons_append] at N9); (try dsimp only); (try k_sweep); (try k_fold))))
local macro_rules | `(tactic| walk_at "call ref") => `(tactic| (k_here; (fail_if_success (fail_if_success (with_reducible show wpAny _ _ (call (Value.ref 76) [_, _, Value.none, _]) _ _ _))); k_dflt (refine' Mine.valTell_use (Mine.mk_uni_22 _ _ _) ?z1 ?z2 ?z3 ?z4 ?z5 ?z6 ?z7 ?z8 ?z9 ?_; (case z1 => k_asm); (case z2 => k_asm); (case z3 => k_asm); (case z4 => k_asm); (case z5 => k_asm); (case z6 => first | exact rfl | assumption); (case z7 => trivial); (case z8 => ktr_room); (case z9 => ktr_units); intro v9 tl9 h9 tk9 R9 F9 N9; obtain ⟨x9, d9, t1, t2, u9, e9, f9⟩ := R9; subst e9; subst f9; (try simp only [List.nil_append, List.cons_append] at N9); (try dsimp only); (try k_sweep); (try k_fold))))
local macro_rules | `(tactic| walk_at "call ref") => `(tactic| (k_here; (fail_if_success (fail_if_success (with_reducible show wpAny _ _ (call (Value.ref 76) [_, Value.int 2 _, _]) _ _ _))); k_dflt (refine' Mine.valTell_use (Mine.mk_uni_23 _ _ _) ?z1 ?z2 ?z3 ?z4 ?z5 ?z6 ?z7 ?z8 ?z9 ?_; (case z1 => k_asm); (case z2 => k_asm); (case z3 => k_asm); (case z4 => k_asm); (case z5 => k_asm); (case z6 => first | exact rfl | assumption); (case z7 => trivial); (case z8 => ktr_room); (case z9 => ktr_units); intro v9 tl9 h9 tk9 R9 F9 N9; obtain ⟨x9, d9, t1, t2, u9, e9, f9⟩ := R9; subst e9; subst f9; (try simp only [List.nil_append, List.cons_append] at N9); (try dsimp only); (try k_sweep); (try k_fold))))
local macro_rules | `(tactic| walk_at "call ref") => `(tactic| (k_here; (fail_if_success (fail_if_success (with_reducible show wpAny _ _ (call (Value.ref 76) [_, Value.int 1 _, _]) _ _ _))); k_dflt (refine' Mine.valTell_use (Mine.mk_uni_12 _ _ _) ?z1 ?z2 ?z3 ?z4 ?z5 ?z6 ?z7 ?z8 ?z9 ?_; (case z1 => k_asm); (case z2 => k_asm); (case z3 => k_asm); (case z4 => k_asm); (case z5 => k_asm); (case z6 => first | exact rfl | assumption); (case z7 => trivial); (case z8 => ktr_room); (case z9 => ktr_units); intro v9 tl9 h9 tk9 R9 F9 N9; obtain ⟨x9, d9, t1, t2, u9, e9, f9⟩ := R9; subst e9; subst f9; (try simp only [List.nil_append, List.cons_append] at N9); (try dsimp only); (try k_sweep); (try k_fold))))
local macro_rules | `(tactic| walk_at "call ref") => `(tactic| (k_here; (fail_if_success (fail_if_success (with_reducible show wpAny _ _ (call (Value.ref 76) [_, _]) _ _ _))); k_dflt (refine' Mine.valTell_use (Mine.mk_uni_3_ _ _ 0) ?z1 ?z2 ?z3 ?z4 ?z5 ?z6 ?z7 ?z8 ?z9 ?_; (case z1 => k_asm); (case z2 => k_asm); (case z3 => k_asm); (case z4 => k_asm); (case z5 => k_asm); (case z6 => first | exact rfl | assumption); (case z7 => trivial); (case z8 => ktr_room); (case z9 => ktr_units); intro v9 tl9 h9 tk9 R9 F9 N9; obtain ⟨x9, d9, t1, t2, u9, e9, f9⟩ := R9; subst e9; subst f9; (try simp only [List.nil_append, List.cons_append] at N9); (try dsimp only); (try k_sweep); (try k_fold))))
local macro_rules | `(tactic| walk_at "call ref") => `(tactic| (k_here; (fail_if_success (fail_if_success (with_reducible show wpAny _ _ (call (Value.ref 52) [_]) _ _ _))); k_dflt (refine' Mine.valTell_use (Mine.mk_base _) ?z1 ?z2 ?z3 ?z4 ?z5 ?z6 ?z7 ?z8 ?z9 ?_; (case z1 => k_asm); (case z2 => k_asm); (case z3 => k_asm); (case z4 => k_asm); (case z5 => k_asm); (case z6 => first | exact rfl | assumption); (case z7 => trivial); (case z8 => ktr_room); (case z9 => ktr_units); intro v9 tl9 h9 tk9 R9 F9 N9; obtain ⟨x9, d9, t1, e9, f9⟩ := R9; subst e9; subst f9; (try simp only [List.nil_append, List.cons_append] at N9); (try dsimp only); (try k_sweep); (try k_fold))))
local macro_rules | `(tactic| walk_at "call ref") => `(tactic| (k_here; (fail_if_success (fail_if_success (with_reducible show wpAny _ _ (call (Value.ref 116) [_]) _ _ _))); k_dflt (refine' Mine.valTell_use (Mine.mk_path _) ?z1 ?z2 ?z3 ?z4 ?z5 ?z6 ?z7 ?z8 ?z9 ?_; (case z1 => k_asm); (case z2 => k_asm); (case z3 => k_asm); (case z4 => k_asm); (case z5 => k_asm); (case z6 => first | exact rfl | assumption); (case z7 => trivial); (case z8 => ktr_room); (case z9 => ktr_units); intro v9 tl9 h9 tk9 R9 F9 N9; obtain ⟨x9, d9, t1, e9, f9⟩ := R9; subst e9; subst f9; (try simp only [List.nil_append, List.cons_append] at N9); (try dsimp only); (try k_sweep); (try k_fold))))
local macro_rules | `(tactic| walk_at "call ref") => `(tactic| (k_here; (fail_if_success (fail_if_success (with_reducible show wpAny _ _ (call (Value.ref 104) [_, _, _]) _ _ _))); k_dflt (refine' Mine.valTell_use (Mine.mk_any _ _ _ _ _) ?z1 ?z2 ?z3 ?z4 ?z5 ?z6 ?z7 ?z8 ?z9 ?_; (case z1 => k_asm); (case z2 => k_asm); (case z3 => k_asm); (case z4 => k_asm); (case z5 => k_asm); (case z6 => first | exact rfl | assumption); (case z7 => trivial); (case z8 => ktr_room); (case z9 => ktr_units); intro v9 tl9 h9 tk9 R9 F9 N9; obtain ⟨x9, d9, q9, t1, t2, t3, iv9, k9, e9, f9⟩ := R9; subst e9; subst f9; (try simp only [List.nil_append, List.cons_append] at N9); (try dsimp only); (try k_sweep); (try k_fold))))
local macro_rules | `(tactic| walk_at "call ref") => `(tactic| (k_here; (fail_if_success (fail_if_success (with_reducible show wpAny _ _ (call (Value.ref 104) [_]) _ _ _))); k_dflt (refine' Mine.valTell_use (Mine.mk_any0 _) ?z1 ?z2 ?z3 ?z4 ?z5 ?z6 ?z7 ?z8 ?z9 ?_; (case z1 => k_asm); (case z2 => k_asm); (case z3 => k_asm); (case z4 => k_asm); (case z5 => k_asm); (case z6 => first | exact rfl | assumption); (case z7 => trivial); (case z8 => ktr_room); (case z9 => ktr_units); intro v9 tl9 h9 tk9 R9 F9 N9; obtain ⟨u9, x9, d9, q9, t1, t2, t3, iv9, k9, e9, f9⟩ := R9; subst e9; subst f9; (try simp only [List.nil_append, List.cons_append] at N9); (try dsimp only); (try k_sweep); (try k_fold))))
local macro_rules | `(tactic| walk_at "call ref") => `(tactic| (k_here; (fail_if_success (fail_if_success (with_reducible show wpAny _ _ (call (Value.ref 524) [_, _, _]) _ _ _))); k_dflt (refine' Mine.boolTell_use (Mine.KindOk.whole ?zk _ _) ?z1 ?z2 ?z3 ?z4 ?z5 ?z6 ?z7 ?z8 ?z9 ?_; (case zk => assumption); (case z1 => k_asm); (case z2 => k_asm); (case z3 => k_asm); (case z4 => k_asm); (case z5 => k_asm); (case z6 => first | exact rfl | assumption); (case z7 => exact Mine.KindOk.mono (by assumption) _ _ (by assumption) (by intro p9 hp9; k_mem)); (case z8 => ktr_room); (case z9 => ktr_units); intro h9 tk9 F9 N9; (try dsimp only); (try k_fold))))
local macro_rules | `(tactic| walk_at "call ref") => `(tactic| (k_here; (fail_if_success (fail_if_success (with_reducible show wpAny _ _ (call (Value.ref 236) [Value.str _ _, Value.str _ _, Value.int _ _]) _ _ _))); k_dflt (refine' Mine.intsTell_use (Mine.KindOk.piece ?zk _ _ _ _ ?zp) ?z1 ?z2 ?z3 ?z4 ?z5 ?z6 ?z7 ?z8 ?z9 ?_; (case zk => assumption); (case zp => first | assumption | exact ⟨by omega, by omega⟩); (case z1 => k_asm); (case z2 => k_asm); (case z3 => k_asm); (case z4 => k_asm); (case z5 => k_asm); (case z6 => first | exact rfl | assumption); (case z7 => trivial); (case z8 => ktr_room); (case z9 => ktr_units); intro D9 ys9 k9 h9 tk9 hI9 F9 N9; (try dsimp only); (try k_fold))))
local macro_rules | `(tactic| walk_at "call ref") => `(tactic| (k_here; (fail_if_success (fail_if_success (with_reducible show wpAny _ _ (call (Value.ref 505) [_, _, _]) _ _ _))); k_dflt (refine' Mine.intsTell_use (Mine.KindOk.told ?zk _ _ _ ?zp) ?z1 ?z2 ?z3 ?z4 ?z5 ?z6 ?z7 ?z8 ?z9 ?_; (case zk => assumption); (case zp => first | assumption | exact ⟨by omega, by omega⟩); (case z1 => k_asm); (case z2 => k_asm); (case z3 => k_asm); (case z4 => k_asm); (case z5 => k_asm); (case z6 => first | exact rfl | assumption); (case z7 => exact Mine.KindOk.mono (by assumption) _ _ (by assumption) (by intro p9 hp9; k_mem)); (case z8 => ktr_room); (case z9 => ktr_units); intro D9 ys9 k9 h9 tk9 hI9 F9 N9; (try dsimp only); (try k_fold))))
local macro_rules | `(tactic| walk_at "call ref") => `(tactic| (k_here; (fail_if_success (fail_if_success (with_reducible show wpAny _ _ (call (Value.ref 236) [Value.ref _, Value.str _ _, Value.int _ _]) _ _ _))); k_dflt (refine' Mine.intsTell_use (Mine.pk_two _ _ _ _ _ _ _ _ _ ?zu ?zv ?zo ?zp) ?z1 ?z2 ?z3 ?z4 ?z5 ?z6 ?z7 ?z8 ?z9 ?_; (case z1 => k_asm); (case z2 => k_asm); (case z3 => k_asm); (case z4 => k_asm); (case z5 => k_asm); (case z6 => first | exact rfl | assumption); (case z7 => refine' Mine.tup_of ?zt; (case zt => k_mem)); (case z8 => ktr_room); (case z9 => ktr_units); (case zu => assumption); (case zv => assumption); (case zo => assumption); (case zp => first | assumption | exact ⟨by omega, by omega⟩); intro D9 ys9 k9 h9 tk9 hI9 F9 N9; (try dsimp only); (try k_fold))))
local macro_rules | `(tactic| walk_at "call ref") => `(tactic| (k_here; (fail_if_success (fail_if_success (with_reducible show wpAny _ _ (call (Value.ref 517) [Value.ref _, Value.str _ _, Value.int _ _]) _ _ _))); k_dflt (refine' Mine.intsTell_use (Mine.la_two _ _ _ _ _ _ _ _ _ ?zu ?zv ?zo ?zp) ?z1 ?z2 ?z3 ?z4 ?z5 ?z6 ?z7 ?z8 ?z9 ?_; (case z1 => k_asm); (case z2 => k_asm); (case z3 => k_asm); (case z4 => k_asm); (case z5 => k_asm); (case z6 => first | exact rfl | assumption); (case z7 => refine' Mine.tup_of ?zt; (case zt => k_mem)); (case z8 => ktr_room); (case z9 => ktr_units); (case zu => assumption); (case zv => assumption); (case zo => assumption); (case zp => first | assumption | exact ⟨by omega, by omega⟩); intro D9 ys9 k9 h9 tk9 hI9 F9 N9; (try dsimp only); (try k_fold))))
local macro_rules | `(tactic| walk_at "call ref") => `(tactic| (k_here; (fail_if_success (fail_if_success (with_reducible show wpAny _ _ (call (Value.ref 236) [Value.ref _, Value.str _ _, Value.int 0 _]) _ _ _))); k_dflt (refine' Mine.intsTell_use (Mine.pk_empty _ _ _ _ _ ?zo) ?z1 ?z2 ?z3 ?z4 ?z5 ?z6 ?z7 ?z8 ?z9 ?_; (case z1 => k_asm); (case z2 => k_asm); (case z3 => k_asm); (case z4 => k_asm); (case z5 => k_asm); (case z6 => first | exact rfl | assumption); (case z7 => refine' Mine.tup_of ?zt; (case zt => k_mem)); (case z8 => ktr_room); (case z9 => ktr_units); (case zo => assumption); intro D9 ys9 k9 h9 tk9 hI9 F9 N9; (try dsimp only); (try k_fold))))
local macro_rules | `(tactic| walk_at "call ref") => `(tactic| (k_here; (fail_if_success (fail_if_success (with_reducible show wpAny _ _ (call (Value.ref 236) [Value.str (PySem.Str.ofString "(?<!/)(/?)") _, Value.str _ _, Value.int _ _]) _ _ _))); k_dflt (refine' Mine.intsTell_use (Mine.pk_slash _ _ _ _ _ ?zo ?zp) ?z1 ?z2 ?z3 ?z4 ?z5 ?z6 ?z7 ?z8 ?z9 ?_; (case zo => assumption); (case zp => first | assumption | exact ⟨by omega, by omega⟩); (case z1 => k_asm); (case z2 => k_asm); (case z3 => k_asm); (case z4 => k_asm); (case z5 => k_asm); (case z6 => first | exact rfl | assumption); (case z7 => trivial); (case z8 => ktr_room); (case z9 => ktr_units); intro D9 ys9 k9 h9 tk9 hI9 F9 N9; (try dsimp only); (try k_fold))))
local macro_rules | `(tactic| walk_at "call ref") => `(tactic| (k_here; (fail_if_success (fail_if_success (with_reducible show wpAny _ _ (call (Value.ref 512) [Value.str _ _, Value.int _ _]) _ _ _))); k_dflt (refine' Mine.intsTell_use (Mine.la_slash _ _ _ _ ?zo ?zp) ?z1 ?z2 ?z3 ?z4 ?z5 ?z6 ?z7 ?z8 ?z9 ?_; (case zo => assumption); (case zp => first | assumption | exact ⟨by omega, by omega⟩); (case z1 => k_asm); (case z2 => k_asm); (case z3 => k_asm); (case z4 => k_asm); (case z5 => k_asm); (case z6 => first | exact rfl | assumption); (case z7 => trivial); (case z8 => ktr_room); (case z9 => ktr_units); intro D9 ys9 k9 h9 tk9 hI9 F9 N9; (try dsimp only); (try k_fold))))
theorem all_holds : PySem.Challenge.rw_en5030_01.Holds := by
  refine Mine.hd ?_
  k_go0
  (all_goals try k_fold)
  k_steps
  (rename IntsAre _ (List.take (min _ _ - 1) _) => hI9)
  have h6 := hI9.length
  have h6' := h6 ▸ take_le6 _ _ _
  refine srcN_list (by rfl) (by k_asm) (by k_asm) ⟨_, List.mem_cons_self, rfl, _, rfl⟩ ?_ ?_
  · rw [List.size_toArray, PySem.sizeLine_eq]
    omega
  intro g1
  refine rest_map _ IntIs SignV (by rw [List.size_toArray]; exact hI9.length.symm) ⟨_, List.mem_cons_self, rfl, _, rfl⟩ (ints_at hI9) ?_ ?_
  · intro d v I oI C oC D m₂ ys h tk E' hd hr hC hx F N
    obtain ⟨td, rfl⟩ := hr
    k_steps
    rename_i c9 t9 ho9
    exact ⟨c9, t9, rfl, ho9⟩
  · intro ys hys D h tk FE NE oE
    have hy6 := all2_len hys
    k_steps
    obtain ⟨xs9, hs1, hs2, hs3, hs4, hs5⟩ := signs_join hys
    refine join_listC (items := ys.toArray) (by is_list) hs1 (by decide) (by rw [hs2, hs3]; omega) ?_
    intro tT kT
    have hok := okText_join hs4 (by omega) hs5
    generalize PySem.Txt.join (PySem.Str.ofString "") xs9 = target at hok ⊢
    have hlen : target.length ≤ 6 := hok.1
    clear hs1 hs2 hs3 hs4 hs5 hys hI9
    (try (rename PySem.W.Hook.says _ _ _ => z9; clear z9))
    (try (rename PySem.Heap.CodeRec _ _ _ => z9; clear z9))
    (try (rename PySem.W.LooseAre _ _ _ => z9; clear z9))
    (try (rename PyProof.Rows.Tables _ _ _ _ => z9; clear z9))
    (try (rename PyProof.Rows.TopE _ _ _ _ => z9; clear z9))
    (try (rename PySem.W.TopW _ _ _ => z9; clear z9))
    (try (rename PySem.W.TabsAt _ _ => z9; clear z9))
    (try (rename PySem.ReadsAll _ _ _ _ => z9; clear z9))
    (try (rename PySem.W.Well _ _ _ _ => z9; clear z9))
    (try (rename PySem.Reads _ _ _ _ => z9; clear z9))
    (try (rename PySem.W.ReadsAllW _ _ _ _ _ _ => z9; clear z9))
    (try (rename PySem.W.Dflts _ _ _ _ _ _ => z9; clear z9))
    (try (rename PySem.Flt.MathXP _ _ _ => z9; clear z9))
    (repeat (with_reducible rename _ ∧ _ => z9; clear z9))
    (try (rename PySem.W.Ground _ _ _ _ _ _ _ _ _ => z9; clear z9))
    repeat' ((fail_if_success (with_reducible show wpAny _ _ (pyIter (Value.ref _)) (fun it s₂ => TurnsAt _ _ _ _ _ _ _ _ _ it s₂) _ _)); walk_at "mine step")
    (repeat (with_reducible rename _ ∧ _ => z9; clear z9))
    (rename Fr _ _ _ _ => zF)
    (rename News _ _ _ _ => zN)
    refine Mine.pairs_go [PySem.Str.ofString "kind", PySem.Str.ofString "regex", PySem.Str.ofString "pos"] target (by rfl) zF zN List.mem_cons_self rfl rfl ?good ?turn ?done
    case good =>
      clear zF
      refine List.forall_mem_cons.mpr ⟨?_, List.forall_mem_cons.mpr ⟨?_, List.forall_mem_cons.mpr ⟨?_, List.forall_mem_cons.mpr ⟨?_, List.forall_mem_cons.mpr ⟨?_, List.forall_mem_cons.mpr ⟨?_, List.forall_mem_cons.mpr ⟨?_, List.forall_mem_cons.mpr ⟨?_, List.forall_mem_cons.mpr ⟨?_, List.forall_mem_nil _⟩⟩⟩⟩⟩⟩⟩⟩⟩
      · refine' Mine.pg_number hok ?h; (case h => k_mem)
      · refine' Mine.pg_signed hok ?h; (case h => k_mem)
      · refine' Mine.pg_f1 hok ?h ?h'; (case h => k_mem); (case h' => k_mem)
      · refine' Mine.pg_f22 hok ?h ?h'; (case h => k_mem); (case h' => k_mem)
      · refine' Mine.pg_f23 hok ?h ?h'; (case h => k_mem); (case h' => k_mem)
      · refine' Mine.pg_f12 hok ?h ?h'; (case h => k_mem); (case h' => k_mem)
      · refine' Mine.pg_f3 hok ?h ?h'; (case h => k_mem); (case h' => k_mem)
      · refine' Mine.pg_fb hok ?h ?h'; (case h => k_mem); (case h' => k_mem)
      · refine' Mine.pg_rest hok ?h; (case h => k_mem)
    case turn =>
      clear zF zN
      intro nw T kv rx tr k Ok ends u h9 tk9 own hOk hK F9 N9
      repeat' (walk_at "mine step")
      (rename Fr _ _ _ _ => zF)
      (rename News _ _ _ _ => zN)
      refine Mine.MyEnd.of zF zN ?_ ?_
      · intro p9 hp9
        exact List.mem_cons_of_mem _ hp9
      · intro z hz
        obtain ⟨h1, h2, h3⟩ := off3 hz
        rw [if_neg h3, if_neg (c := ([] : List PySem.Str).contains z = true) (by simp), if_neg h2, if_neg h1, hz, if_neg Bool.false_ne_true]
    case done =>
      clear zF zN
      intro u h9 tk9 F9 N9
      have N8 := Mine.news_pick3 N9 36 41 42 rfl rfl rfl
      clear N9
      repeat' ((fail_if_success (with_reducible show wpAny _ _ (subscriptTail _ _ (Value.ref _) (Value.int (Int.fmod _ 6) _)) _ _ _)); walk_at "mine step")
      (rename News _ _ _ _ => zN)
      have zK := Mine.news_pick2 zN 8 9 rfl rfl
      refine Mine.words_go zN zK List.mem_cons_self rfl rfl rfl ?hall ?go (by with_unfolding_all rfl)
      case hall =>
        exact List.forall_mem_cons.mpr ⟨⟨_, _, _, _, _, _, rfl, by k_mem, by decide +kernel, by decide +kernel⟩, List.forall_mem_cons.mpr ⟨⟨_, _, _, _, _, _, rfl, by k_mem, by decide +kernel, by decide +kernel⟩, List.forall_mem_cons.mpr ⟨⟨_, _, _, _, _, _, rfl, by k_mem, by decide +kernel, by decide +kernel⟩, List.forall_mem_cons.mpr ⟨⟨_, _, _, _, _, _, rfl, by k_mem, by decide +kernel, by decide +kernel⟩, List.forall_mem_cons.mpr ⟨⟨_, _, _, _, _, _, rfl, by k_mem, by decide +kernel, by decide +kernel⟩, List.forall_mem_cons.mpr ⟨⟨_, _, _, _, _, _, rfl, by k_mem, by decide +kernel, by decide +kernel⟩, List.forall_mem_nil _⟩⟩⟩⟩⟩⟩
      case go =>
        clear zN zK
        (repeat (with_reducible rename _ ∧ _ => z9; clear z9))
        intro T x0 x1 u0 u1 k hl0 hl1 N7
        repeat' (walk_at "mine step")
end Mine
theorem PySem.Challenge.cw_en5030_01_holds : PySem.Challenge.rw_en5030_01.Holds :=
  Mine.all_holds
