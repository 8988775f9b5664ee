import PyProof.Rows.All
import Wide.All
import OpenK.AllK
import Wide.FinOn
import Lean
import PySem.Challenge.RW_vp0007_01
set_option Elab.async false
set_option linter.unusedVariables false
set_option linter.unusedSimpArgs false
namespace Mine
section
open PySem PySem.W PyProof.Rows
set_option maxRecDepth 100000 in
set_option maxHeartbeats 8000000 in
open_top hd for PySem.Challenge.rw_vp0007_01
end
set_option maxRecDepth 100000
/- part F0 -/
section
open PySem PySem.W PyProof.Rows
/-- a call of the def at f, wherever it is made: what it gives back -/
def CL (w : World) (f : Addr) (sz : Nat) (pre : Prop) (vs : List Value) (R : Tok → Value) : Prop :=
  ∀ (mean : ExcName → Option Value) (mg mb : Str → Option Value) (news : List (Addr × Obj)) (dp un : Nat) (gd : Option (List Code)) (cn : Str) (cs : Scope) (a : Addr) (ccd : Value) (cl : List (Str × Addr)) (outer : List Env) (A₀ : Around) (base h₀ : Heap) (L : Addr) (m : Str → Option Value) (s : Shared) (Q E : Value → Shared → Prop),
    Below A₀ base outer h₀ → Fr h₀ L s.heap m → (hd.heap_39 w.params).In h₀ → News h₀ L s.heap news →
    Top hd.view_39 (looseW hd.view_39 [Str.ofString "legal_date_gregorian", Str.ofString "to_jd_gregorian", Str.ofString "leap_hebrew",
      Str.ofString "month_length_hebrew", Str.ofString "to_jd_hebrew", Str.ofString "leap_julian",
      Str.ofString "month_length_julian", Str.ofString "legal_date_julian", Str.ofString "to_jd_julian",
      Str.ofString "easter", Str.ofString "_easter_julian", Str.ofString "passover"]) mean mg mb h₀ → cs.kind = .function →
    pre → dp + sz + 1 < recursionLimit → un + 8 * (sz + 1) < cLine →
    (∀ (t : Tok) (h' : Heap) (tk' : Nat), Fr h₀ L h' m → News h₀ L h' news → Q (R t) { s with heap := h', toks := tk' }) →
      wpAny (model Challenge.rw_vp0007_01.row.prog w) (ktrTop dp un gd cn cs L a ccd cl outer) (call (.ref f) vs) Q E s
theorem CL.use {w : World} {f : Addr} {sz : Nat} {pre : Prop} {vs : List Value} {R : Tok → Value} (c : CL w f sz pre vs R)
    {mean : ExcName → Option Value} {mg mb : Str → Option Value} {news : List (Addr × Obj)} {dp un : Nat} {gd : Option (List Code)} {cn : Str} {cs : Scope} {a : Addr} {ccd : Value} {cl : List (Str × Addr)} {outer : List Env} {A₀ : Around} {base h₀ : Heap} {L : Addr} {m : Str → Option Value} {s : Shared} {Q E : Value → Shared → Prop}
    (k1 : Below A₀ base outer h₀) (k2 : Fr h₀ L s.heap m) (k3 : (hd.heap_39 w.params).In h₀) (k4 : News h₀ L s.heap news)
    (k5 : Top hd.view_39 (looseW hd.view_39 [Str.ofString "legal_date_gregorian", Str.ofString "to_jd_gregorian", Str.ofString "leap_hebrew",
      Str.ofString "month_length_hebrew", Str.ofString "to_jd_hebrew", Str.ofString "leap_julian",
      Str.ofString "month_length_julian", Str.ofString "legal_date_julian", Str.ofString "to_jd_julian",
      Str.ofString "easter", Str.ofString "_easter_julian", Str.ofString "passover"]) mean mg mb h₀) (kK : cs.kind = .function)
    (kp : pre) (kd : dp + sz + 1 < recursionLimit) (ku : un + 8 * (sz + 1) < cLine)
    (kR : ∀ (t : Tok) (h' : Heap) (tk' : Nat), Fr h₀ L h' m → News h₀ L h' news → Q (R t) { s with heap := h', toks := tk' }) :
      wpAny (model Challenge.rw_vp0007_01.row.prog w) (ktrTop dp un gd cn cs L a ccd cl outer) (call (.ref f) vs) Q E s :=
  c _ _ _ _ _ _ _ _ _ _ _ _ _ _ _ _ _ _ _ _ _ k1 k2 k3 k4 k5 kK kp kd ku kR
/-- the same of a def that gives back a tuple of three ints -/
def CT (w : World) (f : Addr) (sz : Nat) (pre : Prop) (vs : List Value) (x y z : Int) : Prop :=
  ∀ (mean : ExcName → Option Value) (mg mb : Str → Option Value) (news : List (Addr × Obj)) (dp un : Nat) (gd : Option (List Code)) (cn : Str) (cs : Scope) (a : Addr) (ccd : Value) (cl : List (Str × Addr)) (outer : List Env) (A₀ : Around) (base h₀ : Heap) (L : Addr) (m : Str → Option Value) (s : Shared) (Q E : Value → Shared → Prop),
    Below A₀ base outer h₀ → Fr h₀ L s.heap m → (hd.heap_39 w.params).In h₀ → News h₀ L s.heap news →
    Top hd.view_39 (looseW hd.view_39 [Str.ofString "legal_date_gregorian", Str.ofString "to_jd_gregorian", Str.ofString "leap_hebrew",
      Str.ofString "month_length_hebrew", Str.ofString "to_jd_hebrew", Str.ofString "leap_julian",
      Str.ofString "month_length_julian", Str.ofString "legal_date_julian", Str.ofString "to_jd_julian",
      Str.ofString "easter", Str.ofString "_easter_julian", Str.ofString "passover"]) mean mg mb h₀ → cs.kind = .function →
    pre → dp + sz + 1 < recursionLimit → un + 8 * (sz + 1) < cLine →
    (∀ (D : Addr) (t1 t2 t3 : Tok) (c : Nat) (h' : Heap) (tk' : Nat), Fr h₀ L h' m → News h₀ L h' ((D, ({ cls := .type "tuple", data := .seq #[.int x t1, .int y t2, .int z t3] c } : Obj)) :: news) → AllLt D news → Q (.ref D) { s with heap := h', toks := tk' }) →
      wpAny (model Challenge.rw_vp0007_01.row.prog w) (ktrTop dp un gd cn cs L a ccd cl outer) (call (.ref f) vs) Q E s
theorem CT.use {w : World} {f : Addr} {sz : Nat} {pre : Prop} {vs : List Value} {x y z : Int} (c : CT w f sz pre vs x y z)
    {mean : ExcName → Option Value} {mg mb : Str → Option Value} {news : List (Addr × Obj)} {dp un : Nat} {gd : Option (List Code)} {cn : Str} {cs : Scope} {a : Addr} {ccd : Value} {cl : List (Str × Addr)} {outer : List Env} {A₀ : Around} {base h₀ : Heap} {L : Addr} {m : Str → Option Value} {s : Shared} {Q E : Value → Shared → Prop}
    (k1 : Below A₀ base outer h₀) (k2 : Fr h₀ L s.heap m) (k3 : (hd.heap_39 w.params).In h₀) (k4 : News h₀ L s.heap news)
    (k5 : Top hd.view_39 (looseW hd.view_39 [Str.ofString "legal_date_gregorian", Str.ofString "to_jd_gregorian", Str.ofString "leap_hebrew",
      Str.ofString "month_length_hebrew", Str.ofString "to_jd_hebrew", Str.ofString "leap_julian",
      Str.ofString "month_length_julian", Str.ofString "legal_date_julian", Str.ofString "to_jd_julian",
      Str.ofString "easter", Str.ofString "_easter_julian", Str.ofString "passover"]) mean mg mb h₀) (kK : cs.kind = .function)
    (kp : pre) (kd : dp + sz + 1 < recursionLimit) (ku : un + 8 * (sz + 1) < cLine)
    (kR : ∀ (D : Addr) (t1 t2 t3 : Tok) (c : Nat) (h' : Heap) (tk' : Nat), Fr h₀ L h' m → News h₀ L h' ((D, ({ cls := .type "tuple", data := .seq #[.int x t1, .int y t2, .int z t3] c } : Obj)) :: news) → AllLt D news → Q (.ref D) { s with heap := h', toks := tk' }) :
      wpAny (model Challenge.rw_vp0007_01.row.prog w) (ktrTop dp un gd cn cs L a ccd cl outer) (call (.ref f) vs) Q E s :=
  c _ _ _ _ _ _ _ _ _ _ _ _ _ _ _ _ _ _ _ _ _ k1 k2 k3 k4 k5 kK kp kd ku kR
section
variable {h₀ h' : Heap} {L : Addr} {m : Str → Option Value} {news : List (Addr × Obj)} {s : Shared} {Q : Value → Shared → Prop} {t : Tok} {tk' : Nat}
theorem retI {x y : Int} (hret : ∀ (t : Tok) (h' : Heap) (tk' : Nat), Fr h₀ L h' m → News h₀ L h' news → Q (.int x t) { s with heap := h', toks := tk' }) (e : y = x) (F : Fr h₀ L h' m) (N : News h₀ L h' news) : Q (.int y t) { s with heap := h', toks := tk' } := by
  subst e
  exact hret t h' tk' F N
theorem retB {x y : Bool} (hret : ∀ (t : Tok) (h' : Heap) (tk' : Nat), Fr h₀ L h' m → News h₀ L h' news → Q (.bool x) { s with heap := h', toks := tk' }) (e : y = x) (F : Fr h₀ L h' m) (N : News h₀ L h' news) : Q (.bool y) { s with heap := h', toks := tk' } := by
  subst e
  exact hret 0 h' tk' F N
end
theorem retT {h₀ h' : Heap} {L D : Addr} {m : Str → Option Value} {news news' : List (Addr × Obj)} {s : Shared} {Q : Value → Shared → Prop} {t1 t2 t3 : Tok} {c tk' : Nat} {x y z x' y' z' : Int}
    (hret : ∀ (D : Addr) (t1 t2 t3 : Tok) (c : Nat) (h' : Heap) (tk' : Nat), Fr h₀ L h' m → News h₀ L h' ((D, ({ cls := .type "tuple", data := .seq #[.int x t1, .int y t2, .int z t3] c } : Obj)) :: news) → AllLt D news → Q (.ref D) { s with heap := h', toks := tk' })
    (e1 : x' = x) (e2 : y' = y) (e3 : z' = z) (F : Fr h₀ L h' m) (NM : News h₀ L h' news' ∧ (D, ({ cls := .type "tuple", data := .seq #[.int x' t1, .int y' t2, .int z' t3] c } : Obj)) ∈ news') (hn : ∀ p ∈ news, p ∈ news') (hl : AllLt D news) : Q (.ref D) { s with heap := h', toks := tk' } := by
  subst e1; subst e2; subst e3
  refine hret D t1 t2 t3 c h' tk' F (fun p hp => ?_) hl
  rcases List.mem_cons.mp hp with rfl | hp
  · exact NM.1 _ NM.2
  · exact NM.1 p (hn p hp)
theorem retT3 {h₀ h' : Heap} {L D : Addr} {m : Str → Option Value} {news news' : List (Addr × Obj)} {s : Shared} {Q : Value → Shared → Prop} {t1 t2 t3 : Tok} {c tk' : Nat} {x y z x' y' z' : Int}
    (hret : ∀ (D : Addr) (t1 t2 t3 : Tok) (c : Nat) (h' : Heap) (tk' : Nat), Fr h₀ L h' m → News h₀ L h' ((D, ({ cls := .type "tuple", data := .seq #[.int x t1, .int y t2, .int z t3] c } : Obj)) :: news) → AllLt D news → Q (.ref D) { s with heap := h', toks := tk' })
    (e : x' = x ∧ y' = y ∧ z' = z) (F : Fr h₀ L h' m) (NM : News h₀ L h' news' ∧ (D, ({ cls := .type "tuple", data := .seq #[.int x' t1, .int y' t2, .int z' t3] c } : Obj)) ∈ news') (hn : ∀ p ∈ news, p ∈ news') (hl : AllLt D news) : Q (.ref D) { s with heap := h', toks := tk' } :=
  retT hret e.1 e.2.1 e.2.2 F NM hn hl
theorem unrEnd_one {h₀ : Heap} {L I : Addr} {it : Obj} {rest : (Str → Option Value) → List (Addr × Obj) → Prop} {s₁ : Shared} {h' : Heap} {tk : Nat} {m' : Str → Option Value} {news' : List (Addr × Obj)} (F : Fr h₀ L h' m') (N : News h₀ L h' ((I, it) :: news'))
    (off : ∀ p ∈ news', p.1 < I) (r : rest m' news') : UnrEnd h₀ L s₁ I it rest { s₁ with heap := h', toks := tk } :=
  UnrEnd.intro F N news' (fun p hp => hp) (fun p hp => Nat.ne_of_lt (off p hp)) r
theorem unrEndW_one {h₀ : Heap} {L I : Addr} {it : Obj} {rest : (Str → Option Value) → List (Addr × Obj) → Prop} {s₁ : Shared} {h' : Heap} {tk : Nat} {m' : Str → Option Value} {news' : List (Addr × Obj)} (F : Fr h₀ L h' m') (N : News h₀ L h' ((I, it) :: news'))
    (off : ∀ p ∈ news', p.1 < I) (r : rest m' news') : UnrEndW h₀ L s₁ [(I, it)] rest { s₁ with heap := h', toks := tk } :=
  ⟨h', tk, m', news', rfl, F, N, fun p hp q hq => by rw [List.mem_singleton.mp hq]; exact Nat.ne_of_lt (off p hp), r⟩
theorem in_tup_K {prog : Program} {w : World} {A : Around} {E : Value → Shared → Prop} {s : Shared} {K : Frag} {h₀ : Heap} {L a : Addr} {m : Str → Option Value} {x : Int} {u : Tok} {Q : Value → Shared → Prop} {o : Obj} {items : Array Value} {n : Nat} {ns : List Int} {b : Bool}
    (F : Fr h₀ L s.heap m) (X : K.In h₀) (hl : K.lookup a = some o) (hc : o.cls = .type "tuple") (hd : o.data = .seq items n) (hi : IntsAre items.toList ns) (hb : ns.any (· == x) = b) (h : Q (.bool b) s) :
    wpAny (model prog w) A (compareOp .In (.int x u) (.ref a)) Q E s := by
  subst hb
  exact in_tuple_ints ⟨o, (X.keeps F.keep) _ _ hl, hc, n, hd⟩ hi h
theorem in_tup_N {prog : Program} {w : World} {A : Around} {E : Value → Shared → Prop} {s : Shared} {h₀ : Heap} {L a : Addr} {x : Int} {u : Tok} {Q : Value → Shared → Prop} {o : Obj} {news : List (Addr × Obj)} {items : Array Value} {n : Nat} {ns : List Int} {b : Bool}
    (N : News h₀ L s.heap ((a, o) :: news)) (hc : o.cls = .type "tuple") (hd : o.data = .seq items n) (hi : IntsAre items.toList ns) (hb : ns.any (· == x) = b) (h : Q (.bool b) s) :
    wpAny (model prog w) A (compareOp .In (.int x u) (.ref a)) Q E s := by
  subst hb
  exact in_tuple_ints ⟨o, (N _ (List.Mem.head _)).1, hc, n, hd⟩ hi h
theorem any4 (x : Int) : ([4, 6, 9, 11] : List Int).any (· == x) = decide (x = 4 ∨ x = 6 ∨ x = 9 ∨ x = 11) := by
  rw [Bool.eq_iff_iff]
  simp only [List.any_cons, List.any_nil, Bool.or_false, beq_iff_eq, Bool.or_eq_true, decide_eq_true_eq]
  constructor <;> (intro h; omega)
end
/- part F1 -/
section
open PySem PySem.W PyProof.Rows
/-- the same as CL, at one ledger -/
def CN (w : World) (f : Addr) (sz : Nat) (pre : Prop) (vs : List Value) (news : List (Addr × Obj)) (R : Tok → Value) : Prop :=
  ∀ (mean : ExcName → Option Value) (mg mb : Str → Option Value) (dp un : Nat) (gd : Option (List Code)) (cn : Str) (cs : Scope) (a : Addr) (ccd : Value) (cl : List (Str × Addr)) (outer : List Env) (A₀ : Around) (base h₀ : Heap) (L : Addr) (m : Str → Option Value) (s : Shared) (Q E : Value → Shared → Prop),
    Below A₀ base outer h₀ → Fr h₀ L s.heap m → (hd.heap_39 w.params).In h₀ → News h₀ L s.heap news →
    Top hd.view_39 (looseW hd.view_39 [Str.ofString "legal_date_gregorian", Str.ofString "to_jd_gregorian", Str.ofString "leap_hebrew",
      Str.ofString "month_length_hebrew", Str.ofString "to_jd_hebrew", Str.ofString "leap_julian",
      Str.ofString "month_length_julian", Str.ofString "legal_date_julian", Str.ofString "to_jd_julian",
      Str.ofString "easter", Str.ofString "_easter_julian", Str.ofString "passover"]) mean mg mb h₀ → cs.kind = .function →
    pre → dp + sz + 1 < recursionLimit → un + 8 * (sz + 1) < cLine →
    (∀ (t : Tok) (h' : Heap) (tk' : Nat), Fr h₀ L h' m → News h₀ L h' news → Q (R t) { s with heap := h', toks := tk' }) →
      wpAny (model Challenge.rw_vp0007_01.row.prog w) (ktrTop dp un gd cn cs L a ccd cl outer) (call (.ref f) vs) Q E s
theorem CN.use {w : World} {f : Addr} {sz : Nat} {pre : Prop} {vs : List Value} {news : List (Addr × Obj)} {R : Tok → Value} (c : CN w f sz pre vs news R)
    {mean : ExcName → Option Value} {mg mb : Str → Option Value} {dp un : Nat} {gd : Option (List Code)} {cn : Str} {cs : Scope} {a : Addr} {ccd : Value} {cl : List (Str × Addr)} {outer : List Env} {A₀ : Around} {base h₀ : Heap} {L : Addr} {m : Str → Option Value} {s : Shared} {Q E : Value → Shared → Prop}
    (k1 : Below A₀ base outer h₀) (k2 : Fr h₀ L s.heap m) (k3 : (hd.heap_39 w.params).In h₀) (k4 : News h₀ L s.heap news)
    (k5 : Top hd.view_39 (looseW hd.view_39 [Str.ofString "legal_date_gregorian", Str.ofString "to_jd_gregorian", Str.ofString "leap_hebrew",
      Str.ofString "month_length_hebrew", Str.ofString "to_jd_hebrew", Str.ofString "leap_julian",
      Str.ofString "month_length_julian", Str.ofString "legal_date_julian", Str.ofString "to_jd_julian",
      Str.ofString "easter", Str.ofString "_easter_julian", Str.ofString "passover"]) mean mg mb h₀) (kK : cs.kind = .function)
    (kp : pre) (kd : dp + sz + 1 < recursionLimit) (ku : un + 8 * (sz + 1) < cLine)
    (kR : ∀ (t : Tok) (h' : Heap) (tk' : Nat), Fr h₀ L h' m → News h₀ L h' news → Q (R t) { s with heap := h', toks := tk' }) :
      wpAny (model Challenge.rw_vp0007_01.row.prog w) (ktrTop dp un gd cn cs L a ccd cl outer) (call (.ref f) vs) Q E s :=
  c _ _ _ _ _ _ _ _ _ _ _ _ _ _ _ _ _ _ _ _ k1 k2 k3 k4 k5 kK kp kd ku kR
abbrev tup3 (x y z : Int) (t1 t2 t3 : Tok) (c : Nat) : Obj := { cls := .type "tuple", data := .seq #[.int x t1, .int y t2, .int z t3] c }
end
/- part F2 -/
section
open PySem PySem.Spec PySem.Calls PySem.W PyProof.Rows PyProof.Rows.LCg PyProof.Rows.LCt
section
variable {prog : Program} {w : World} {A : Around} {E : Value → Shared → Prop} {s : Shared} {h₀ : Heap} {L : Addr} {m : Str → Option Value} {env : Env}
/-- a comprehension's source that is a tuple of the ledger -/
def SrcTup (prog : Program) (w : World) (A : Around) (h₀ : Heap) (L : Addr) (m : Str → Option Value) (env : Env) (ct elt : PySem.Expr) (x : Str) (scope : Scope) (cl : List (Str × Addr)) (Q : Value → Shared → Prop) (xv : Value) (s₁ : Shared) : Prop :=
  ∃ (ax : Addr) (its : Array Value) (k : Nat) (news : List (Addr × Obj)), xv = .ref ax ∧ A.handled = none ∧ Fr h₀ L s₁.heap m ∧ News h₀ L s₁.heap news ∧ (ax, ({ cls := .type "tuple", data := .seq its k } : Obj)) ∈ news ∧ its.size ≤ sizeLine ∧
    ∀ g : Heap, CompRestT prog w A h₀ L m env ct elt x scope cl { s₁ with heap := g } (fun nw => (ax, ({ cls := .type "tuple", data := .seq its k } : Obj)) ∈ nw) (fun i v => its[i]? = some v) (FinE h₀ L m { s₁ with heap := g } Q) its.size 0 [] news
theorem ListComp_tup {ct elt iter : PySem.Expr} {x : Str} {px : Pos} {scope : Scope} {cl : List (Str × Addr)} {pos : Pos} {Q : Value → Shared → Prop} (F₀ : Fr h₀ L s.heap m)
    (hclos : closureFor scope env = pure cl) (hcell : ∀ y ∈ scope.names, y.2 ≠ .cell) (hkind : scope.kind = .function)
    (hnames : ∀ y ∈ scope.names, y.2 = .local → scope.names.lookup y.1 = some .local) (hx : scope.names.lookup x = some .local)
    (h : wpAny (model prog w) A (eval iter env) (SrcTup prog w A h₀ L m env ct elt x scope cl Q) E s)
    (hs : ∀ x, foldedSetIterable iter env x = pure x := by intro _; rfl) :
    wpAny (model prog w) A (eval (.ListComp elt [⟨.Name x px, iter, [ct], 0⟩] scope pos) env) Q E s := by
  rw [eval_ListComp]
  refine wpAny_comprehension_free (use := none) rfl hs hclos hkind hnames (wpAny_mono h (fun xv s₁ h₁ => ?_) fun _ _ e => e)
  obtain ⟨ax, its, k, news, rfl, hh, F, N, hm, hsz, R⟩ := h₁
  have ht : s₁.heap.IsTuple ax its := ⟨_, (N _ hm).1, rfl, k, rfl⟩
  have hlt : ax < s₁.heap.objs.size := Heap.lt_size (N _ hm).1
  refine wpAny_pyIter_tuple ht ?_
  refine block_T (Walks.tuple hh s₁.heap.objs.size ax (Nat.ne_of_lt hlt) its) hsz (fun i h st => by obtain ⟨o, e, _⟩ := st.1; exact ⟨o, e⟩)
    (fun i h h' o nw st e e' _ N' S => ⟨by obtain ⟨o', q, r⟩ := st.1; rw [e] at q; cases q; exact ⟨o, e', r⟩, ⟨_, (N' _ S).1, rfl, k, rfl⟩⟩)
    hcell hkind hx ⟨⟨_, Heap.get?_push_size _ rfl, rfl, rfl⟩, ht.push _⟩ (fun b hb => ?_)
    (F.keeps fun _ _ e => Heap.get?_push_of_some _ e) (N.grown fun _ _ e => Heap.get?_push_of_some _ e) (Nat.ne_of_lt F.ns.lt) (next_is_new F) (fun p hp => Nat.ne_of_lt (Heap.lt_size (N p hp).1)) hm (R _) ?_
  · show b < (s₁.heap.push _).objs.size
    rw [Heap.size_push]
    rcases List.mem_cons.mp hb with rfl | hb
    · exact Nat.lt_succ_self _
    · rw [List.mem_singleton.mp hb]; exact Nat.lt_succ_of_lt hlt
  · intro D C h tk m' ys news' F' N' o1 hn hC₀ hD₀ hCL hDL hCD offC fin
    refine ⟨m', hn, fun h'' hs'' => fin D h'' tk (F'.change hs'' hCL hC₀) (fun p hp => ?_) o1⟩
    refine ⟨hs''.extBut _ _ ?_ (N' p hp).1, (N' p hp).2⟩
    rcases List.mem_cons.mp hp with rfl | hp
    · exact Ne.symm hCD
    · exact offC p hp
theorem SrcTup.head {ct elt : PySem.Expr} {x : Str} {scope : Scope} {cl : List (Str × Addr)} {Q : Value → Shared → Prop} {ax : Addr} {vs : List Value} {k : Nat} {news : List (Addr × Obj)} {s₁ : Shared}
    (hh : A.handled = none) (F : Fr h₀ L s₁.heap m) (N : News h₀ L s₁.heap ((ax, ({ cls := .type "tuple", data := .seq vs.toArray k } : Obj)) :: news)) (hsz : vs.length ≤ sizeLine)
    (h : ∀ g : Heap, CompRestT prog w A h₀ L m env ct elt x scope cl { s₁ with heap := g } (fun nw => (ax, ({ cls := .type "tuple", data := .seq vs.toArray k } : Obj)) ∈ nw) (fun i v => vs.toArray[i]? = some v) (FinE h₀ L m { s₁ with heap := g } Q) vs.length 0 [] ((ax, ({ cls := .type "tuple", data := .seq vs.toArray k } : Obj)) :: news)) :
    SrcTup prog w A h₀ L m env ct elt x scope cl Q (.ref ax) s₁ := by
  refine ⟨ax, vs.toArray, k, _, rfl, hh, F, N, List.mem_cons_self, by rw [List.size_toArray]; exact hsz, fun g => ?_⟩
  rw [List.size_toArray]
  exact h g
theorem compEnd_one {I C D : Addr} {s₁ : Shared} {oI oC oD : Obj} {S : List (Addr × Obj) → Prop} {rest : Value → List (Addr × Obj) → Prop} {y : Value} {h' : Heap} {tk : Nat} {news' : List (Addr × Obj)}
    (F : Fr h₀ L h' m) (N : News h₀ L h' ((I, oI) :: (C, oC) :: (D, oD) :: news')) (off : Off3 I C D news') (hS : S news') (r : rest y news') :
    CompEnd h₀ L m s₁ I oI C oC D oD S rest y { s₁ with heap := h', toks := tk } := CompEnd.intro F N news' (fun _ h => h) off hS r
end
end
section
open PySem PySem.W PyProof.Rows
local macro_rules | `(tactic| walk_at "my_in") => `(tactic| (refine wpAny_call ?_; k_dflt (refine' code_def ?k1 ?k2 ?k3 ?k4 ?k5 ?kA ?kF ?kK ?k6 ?k7 ?k8 ?k9 ?kB ?_ ?c2 ?c3 ?c4 ?c5; (case kA => exact rfl); (case kF => exact rfl); (case kK => first | exact rfl | assumption); (case k1 => k_asm); (case k2 => k_asm); (case k3 => k_asm); (case k4 => k_asm); (case k5 => k_asm); (case k6 => k_is); (case k7 => k_is); (case k8 => ktr_room); (case k9 => first | exact BindsTo.of_eq rfl | exact binds_K (by k_in) rfl (by k_is) rfl rfl rfl); (case c5 => decide); (case kB => exact locs rfl); (case c2 => exact rfl); (case c3 => exact rfl); (case c4 => exact rfl); k_whole; intro g' L' h' FG' F' N' B' X' T'; (try dsimp only); (try k_lift B'); (try k_fold))))
local macro_rules | `(tactic| walk_at "my_use") => `(tactic| (
  (case k1 => k_asm)
  (case k2 => k_asm)
  (case k3 => k_asm)
  (case k4 => k_asm)
  (case k5 => k_asm)
  (case kK => first | exact rfl | assumption)
  (case kd => ktr_room)
  (case ku => ktr_units)))
local macro_rules | `(tactic| walk_at "my_kp") => `(tactic| (case kp => first | trivial | ((try dsimp only); first | assumption | omega)))
local macro_rules | `(tactic| walk_at "eval Call") => `(tactic| (k_here; (with_reducible show wpAny _ _ (eval (Expr.Call (Expr.Name _ _) _ [] _) _) _ _ _); k_dflt (refine Call_ ?_)))
local macro_rules | `(tactic| walk_at "compareOp In int ref") => `(tactic| (k_here; k_dflt (refine' in_tup_K ?q1 ?q2 ?q3 ?q4 ?q5 ?q6 ?q7 ?_; (case q1 => k_asm); (case q2 => k_asm); (case q3 => k_is); (case q4 => exact rfl); (case q5 => exact rfl); (case q6 => (repeat constructor)); (case q7 => first | exact any4 _ | exact rfl)); walk_say "IN"))
local macro_rules | `(tactic| walk_at "my_ret") => `(tactic| (intro t9 h9 tk9 F9 N9; (try dsimp only); (try k_fold)))
local macro_rules | `(tactic| walk_at "my_retT") => `(tactic| (intro D9 t91 t92 t93 c9 h9 tk9 F9 N9 l9; (try dsimp only); (try simp only [AllLt, and_true] at l9); (try k_sweep)))
local macro_rules | `(tactic| walk_at "my_tup") => `(tactic| ((case e4 => k_asm); (case e5 => kcu_news); (case e6 => with_reducible (first | exact fun _ h => h | exact fun _ h => (List.mem_cons_of_mem _ h) | exact fun _ h => (List.mem_cons_of_mem _ (List.mem_cons_of_mem _ h)) | exact fun _ h => (List.mem_cons_of_mem _ (List.mem_cons_of_mem _ (List.mem_cons_of_mem _ h))) | exact fun _ h => (List.mem_cons_of_mem _ (List.mem_cons_of_mem _ (List.mem_cons_of_mem _ (List.mem_cons_of_mem _ h)))) | exact fun _ h => (List.mem_cons_of_mem _ (List.mem_cons_of_mem _ (List.mem_cons_of_mem _ (List.mem_cons_of_mem _ (List.mem_cons_of_mem _ h))))) | exact fun _ h => (List.mem_cons_of_mem _ (List.mem_cons_of_mem _ (List.mem_cons_of_mem _ (List.mem_cons_of_mem _ (List.mem_cons_of_mem _ (List.mem_cons_of_mem _ h)))))) | exact fun _ h => (List.mem_cons_of_mem _ (List.mem_cons_of_mem _ (List.mem_cons_of_mem _ (List.mem_cons_of_mem _ (List.mem_cons_of_mem _ (List.mem_cons_of_mem _ (List.mem_cons_of_mem _ h))))))))); (case e7 => first | exact allLt_of (by assumption) | assumption | ((rename (_ ∧ AllLt _ _) => h7); exact h7.2) | ((rename (_ ∧ _ ∧ AllLt _ _) => h7); exact h7.2.2) | kcu_lt)))
local macro_rules | `(tactic| walk_at "execs cons") => `(tactic| (k_here; dsimp only; walk_say "MY DS"))
local macro_rules | `(tactic| walk_at "ite") => `(tactic| (k_here; dsimp only; walk_say "MY DS"))
local macro_rules | `(tactic| walk_at "execs nil") => `(tactic| (k_here; dsimp only; walk_say "MY DS"))
local macro_rules | `(tactic| walk_at "UnrEnd") => `(tactic| (k_here; k_dflt (refine' unrEnd_one ?q1 ?q2 ?q3 ?_; (case q1 => assumption); (case q2 => assumption); (case q3 => assumption)); walk_say "UNR END"))
local macro_rules | `(tactic| walk_at "UnrEndW") => `(tactic| (k_here; k_dflt (refine' unrEndW_one ?q1 ?q2 ?q3 ⟨?q4, ?_⟩; (case q1 => assumption); (case q2 => assumption); (case q3 => assumption); (case q4 => k_subL)); walk_say "UNR END W"))
local macro_rules | `(tactic| walk_at "pyIter ref") => `(tactic| (k_here; (with_reducible show wpAny _ _ (pyIter (Value.ref _)) (fun it s₂ => TurnsAt _ _ _ _ _ _ _ _ _ it s₂) _ _); (rename Fr _ _ _ _ => lF'); (rename News _ _ _ _ => lN'); (with_unfolding_all (refine' iter_tupTurns ?q1 lF' lN' (List.Mem.head _) ?q5 ?q6 ?_; (case q1 => rfl); (case q5 => rfl); (case q6 => rfl))); intro i' l1; walk_say "TURNS"))
/- part FA -/
section
def isleapF (y : Int) : Bool := (y.fmod 4 == 0) && (!(y.fmod 100 == 0) || (y.fmod 400 == 0))
set_option maxHeartbeats 8000000 in
theorem c_isleap (w : World) (y : Int) (t : CbTok) : CL w 21 1 True [Value.int y t] (fun _ => Value.bool (isleapF y)) := by
  unfold CL
  k_fill
  intros; rename_i hret
  walk_at "my_in"
  k_steps
  all_goals (refine' retB hret ?e1 ?e2 ?e3; (case e2 => k_asm); (case e3 => k_asm); (case e1 => (clear hret; unfold isleapF; simp (config := {failIfUnchanged := false}) only [*]; first | rfl | (simp [*, bne]; done))))
local macro_rules | `(tactic| walk_at "call ref") => `(tactic| (k_here; (with_reducible show wpAny _ _ (call (Value.ref 21) _) _ _ _); k_dflt ((refine' CL.use (c_isleap _ _ _) ?k1 ?k2 ?k3 ?k4 ?k5 ?kK ?kp ?kd ?ku ?_); walk_at "my_use"; walk_at "my_kp"; walk_at "my_ret"); walk_say "c_isleap"))
abbrev LegG (y m d : Int) : Prop := 0 < d ∧ (d ≤ 28 ∨ (d ≤ 29 ∧ m = 2 ∧ isleapF y = true) ∨ (d ≤ 30 ∧ m ≠ 2) ∨ (d ≤ 31 ∧ m ≠ 2 ∧ m ≠ 4 ∧ m ≠ 6 ∧ m ≠ 9 ∧ m ≠ 11))
local macro_rules | `(tactic| walk_at "exec Raise some none") => `(tactic| (k_dflt ((rename (0 < _ ∧ _) => hp'); exfalso; first | omega | ((rename (isleapF _ = false) => hl'); simp only [hl', Bool.false_eq_true, and_false, false_or] at hp'; omega)); walk_say "NO RAISE"))
set_option maxHeartbeats 1000000 in
theorem c_legal_g (w : World) (y m d : Int) (t1 t2 t3 : CbTok) : CL w 43 3 (LegG y m d) [Value.int y t1, Value.int m t2, Value.int d t3] (fun _ => Value.bool true) := by
  unfold CL LegG
  k_fill
  intros; rename_i hret
  walk_at "my_in"
  k_steps
  all_goals first | (refine' retB hret ?e1 ?e2 ?e3; (case e2 => k_asm); (case e3 => k_asm); (case e1 => rfl)) | ((rename (0 < d ∧ _) => hp); (rename (isleapF y = false) => hl); exfalso; simp only [hl, Bool.false_eq_true, and_false, false_or] at hp; omega)
end
/- part FB -/
section
local macro_rules | `(tactic| walk_at "pad 1 0") => `(tactic| done)
local macro_rules | `(tactic| walk_at "call ref") => `(tactic| (k_here; (with_reducible show wpAny _ _ (call (Value.ref 21) _) _ _ _); k_dflt ((refine' CL.use (c_isleap _ _ _) ?k1 ?k2 ?k3 ?k4 ?k5 ?kK ?kp ?kd ?ku ?_); walk_at "my_use"; walk_at "my_kp"; walk_at "my_ret"); walk_say "c_isleap"))
local macro_rules | `(tactic| walk_at "call ref") => `(tactic| (k_here; (with_reducible show wpAny _ _ (call (Value.ref 43) _) _ _ _); k_dflt ((refine' CL.use (c_legal_g _ _ _ _ _ _ _) ?k1 ?k2 ?k3 ?k4 ?k5 ?kK ?kp ?kd ?ku ?_); walk_at "my_use"; (case kp => first | exact ⟨by decide, Or.inl (by decide)⟩ | assumption); walk_at "my_ret"); walk_say "c_legal_g"))
def gjd (y m d : Int) : Int := 1721426 - 1 + 365 * (y - 1) + (y - 1).fdiv 4 + -((y - 1).fdiv 100) + (y - 1).fdiv 400 + ((367 * m - 362).fdiv 12 + (if m ≤ 2 then 0 else if isleapF y then -1 else -2) + d)
set_option maxHeartbeats 2000000 in
theorem c_to_jd_g (w : World) (y m d : Int) (t1 t2 t3 : CbTok) : CL w 50 5 (LegG y m d) [Value.int y t1, Value.int m t2, Value.int d t3] (fun t => Value.int (gjd y m d) t) := by
  unfold CL LegG
  k_fill
  intros; rename_i hret
  walk_at "my_in"
  k_steps
  all_goals (refine' retI hret ?e1 ?e2 ?e3; (case e2 => k_asm); (case e3 => k_asm); (case e1 => (clear hret; unfold gjd; (try simp only [*, if_true, if_false]); first | rfl | omega | trace_state)))
local macro_rules | `(tactic| walk_at "call ref") => `(tactic| (k_here; (with_reducible show wpAny _ _ (call (Value.ref 50) _) _ _ _); k_dflt ((refine' CL.use (c_to_jd_g _ _ _ _ _ _ _) ?k1 ?k2 ?k3 ?k4 ?k5 ?kK ?kp ?kd ?ku ?_); walk_at "my_use"; (case kp => first | exact ⟨by decide, Or.inl (by decide)⟩ | assumption); walk_at "my_ret"); walk_say "c_to_jd_g"))

def fjA (jd : Int) : Int := ((jd - 1721426).fmod 146097).fdiv 36524
def fjB (jd : Int) : Int := ((((jd - 1721426).fmod 146097).fmod 36524).fmod 1461).fdiv 365
def fjY (jd : Int) : Int := if fjA jd = 4 ∨ fjB jd = 4 then (jd - 1721426).fdiv 146097 * 400 + ((jd - 1721426).fmod 146097).fdiv 36524 * 100 + (((jd - 1721426).fmod 146097).fmod 36524).fdiv 1461 * 4 + ((((jd - 1721426).fmod 146097).fmod 36524).fmod 1461).fdiv 365
  else (jd - 1721426).fdiv 146097 * 400 + ((jd - 1721426).fmod 146097).fdiv 36524 * 100 + (((jd - 1721426).fmod 146097).fmod 36524).fdiv 1461 * 4 + ((((jd - 1721426).fmod 146097).fmod 36524).fmod 1461).fdiv 365 + 1
def fjL (jd y : Int) : Int := if jd - gjd y 1 1 < 58 + (if isleapF y = true then 1 else 0) then 0 else if isleapF y = true then 1 else 2
def fjM (jd y : Int) : Int := ((jd - gjd y 1 1 + fjL jd y) * 12 + 373).fdiv 367
def fjD (jd y : Int) : Int := jd - gjd y (fjM jd y) 1 + 1
section
variable {jd y l : Int}
theorem fjY_1 (h : ((jd - 1721426).fmod 146097).fdiv 36524 = 4) : (jd - 1721426).fdiv 146097 * 400 + ((jd - 1721426).fmod 146097).fdiv 36524 * 100 + (((jd - 1721426).fmod 146097).fmod 36524).fdiv 1461 * 4 + ((((jd - 1721426).fmod 146097).fmod 36524).fmod 1461).fdiv 365 = fjY jd := by
  unfold fjY fjA fjB; rw [if_pos (Or.inl h)]
theorem fjY_2 (h : ((((jd - 1721426).fmod 146097).fmod 36524).fmod 1461).fdiv 365 = 4) : (jd - 1721426).fdiv 146097 * 400 + ((jd - 1721426).fmod 146097).fdiv 36524 * 100 + (((jd - 1721426).fmod 146097).fmod 36524).fdiv 1461 * 4 + ((((jd - 1721426).fmod 146097).fmod 36524).fmod 1461).fdiv 365 = fjY jd := by
  unfold fjY fjA fjB; rw [if_pos (Or.inr h)]
theorem fjY_3 (h1 : ((jd - 1721426).fmod 146097).fdiv 36524 ≠ 4) (h2 : ((((jd - 1721426).fmod 146097).fmod 36524).fmod 1461).fdiv 365 ≠ 4) : (jd - 1721426).fdiv 146097 * 400 + ((jd - 1721426).fmod 146097).fdiv 36524 * 100 + (((jd - 1721426).fmod 146097).fmod 36524).fdiv 1461 * 4 + ((((jd - 1721426).fmod 146097).fmod 36524).fmod 1461).fdiv 365 + 1 = fjY jd := by
  unfold fjY fjA fjB; rw [if_neg (fun h => h.elim h1 h2)]
theorem fjL_1 (h : jd - gjd y 1 1 < 58 + (if isleapF y = true then 1 else 0)) : fjL jd y = 0 := if_pos h
theorem fjL_2 (h : ¬ jd - gjd y 1 1 < 58 + (if isleapF y = true then 1 else 0)) (h2 : isleapF y = true) : fjL jd y = 1 := by
  unfold fjL; rw [if_neg h, if_pos h2]
theorem fjL_3 (h : ¬ jd - gjd y 1 1 < 58 + (if isleapF y = true then 1 else 0)) (h2 : isleapF y = false) : fjL jd y = 2 := by
  unfold fjL; rw [if_neg h, if_neg (by rw [h2]; decide)]
theorem fjM_end (e : y = fjY jd) (f : fjL jd y = l) : ((jd - gjd y 1 1 + l) * 12 + 373).fdiv 367 = fjM jd (fjY jd) := by
  subst e; subst f; rfl
theorem fjD_end (e : y = fjY jd) (f : fjL jd y = l) : jd - gjd y (((jd - gjd y 1 1 + l) * 12 + 373).fdiv 367) 1 + 1 = fjD jd (fjY jd) := by
  subst e; subst f; rfl
theorem fj_end (e : y = fjY jd) (f : fjL jd y = l) : y = fjY jd ∧ ((jd - gjd y 1 1 + l) * 12 + 373).fdiv 367 = fjM jd (fjY jd) ∧ jd - gjd y (((jd - gjd y 1 1 + l) * 12 + 373).fdiv 367) 1 + 1 = fjD jd (fjY jd) :=
  ⟨e, fjM_end e f, fjD_end e f⟩
end
local macro_rules | `(tactic| walk_at "my_Y") => `(tactic| with_reducible first | exact fjY_3 (by assumption) (by assumption) | exact fjY_2 (by assumption) | exact fjY_1 (by assumption))
local macro_rules | `(tactic| walk_at "my_L") => `(tactic| with_reducible first | exact fjL_1 (by assumption) | exact fjL_2 (by assumption) (by assumption) | exact fjL_3 (by assumption) (by assumption))
set_option maxHeartbeats 4000000 in
theorem c_from_jd (w : World) (jd : Int) (t1 : CbTok) : CT w 57 8 True [Value.int jd t1] (fjY jd) (fjM jd (fjY jd)) (fjD jd (fjY jd)) := by
  unfold CT
  k_fill
  intros; rename_i hret
  walk_at "my_in"
  k_steps
  all_goals (refine' retT3 hret ?e1 ?e4 ?e5 ?e6 ?e7; walk_at "my_tup"; (case e1 => with_reducible exact fj_end (by walk_at "my_Y") (by walk_at "my_L")))
end
/- part M1 -/
section
theorem fm_facts (x : Int) {k : Int} (hk : 0 < k) : x = k * x.fdiv k + x.fmod k ∧ 0 ≤ x.fmod k ∧ x.fmod k < k := by
  refine ⟨?_, ?_, ?_⟩
  · have := Int.fmod_add_mul_fdiv x k; omega
  · exact Int.fmod_nonneg_of_pos x hk
  · exact Int.fmod_lt_of_pos x hk
theorem gjd_first (y : Int) : gjd y 1 1 = 1721426 + 365 * (y - 1) + (y - 1).fdiv 4 - (y - 1).fdiv 100 + (y - 1).fdiv 400 := by
  unfold gjd
  have h : ((367 * 1 - 362 : Int)).fdiv 12 = 0 := by decide
  rw [h]
  simp only [show (1 : Int) ≤ 2 from by decide, if_true]
  omega
theorem isleap_iff (y : Int) : isleapF y = true ↔ (y % 4 = 0 ∧ (y % 100 ≠ 0 ∨ y % 400 = 0)) := by
  unfold isleapF
  simp only [Int.fmod_eq_emod_of_nonneg _ (show (0:Int) ≤ 4 by decide), Int.fmod_eq_emod_of_nonneg _ (show (0:Int) ≤ 100 by decide), Int.fmod_eq_emod_of_nonneg _ (show (0:Int) ≤ 400 by decide), Bool.and_eq_true, Bool.or_eq_true, beq_iff_eq, Bool.not_eq_true']
  simp
theorem leap_cases (y : Int) : (isleapF y = true ∧ y % 4 = 0 ∧ (y % 100 ≠ 0 ∨ y % 400 = 0)) ∨ (isleapF y = false ∧ ¬ (y % 4 = 0 ∧ (y % 100 ≠ 0 ∨ y % 400 = 0))) := by
  have h := isleap_iff y
  cases hb : isleapF y
  · right; refine ⟨rfl, fun e => ?_⟩; rw [h.mpr e] at hb; cases hb
  · left; exact ⟨rfl, h.mp hb⟩
/-- the day of the year that from_jd finds lies in the year -/
theorem fjY_range (jd : Int) : gjd (fjY jd) 1 1 ≤ jd ∧ jd ≤ gjd (fjY jd) 1 1 + 365 ∧ (jd = gjd (fjY jd) 1 1 + 365 → isleapF (fjY jd) = true) := by
  rw [gjd_first, isleap_iff]
  unfold fjY fjA fjB
  have h1 := fm_facts (jd - 1721426) (k := 146097) (by decide)
  generalize (jd - 1721426).fdiv 146097 = q at *
  generalize (jd - 1721426).fmod 146097 = a at *
  have h2 := fm_facts a (k := 36524) (by decide)
  generalize a.fdiv 36524 = c at *
  generalize a.fmod 36524 = b at *
  have h3 := fm_facts b (k := 1461) (by decide)
  generalize b.fdiv 1461 = u at *
  generalize b.fmod 1461 = e at *
  have h4 := fm_facts e (k := 365) (by decide)
  generalize e.fdiv 365 = v at *
  generalize e.fmod 365 = f at *
  simp only [Int.fdiv_eq_ediv_of_nonneg _ (show (0:Int) ≤ 4 by decide), Int.fdiv_eq_ediv_of_nonneg _ (show (0:Int) ≤ 100 by decide), Int.fdiv_eq_ediv_of_nonneg _ (show (0:Int) ≤ 400 by decide)]
  have hc : 0 ≤ c ∧ c ≤ 4 := by omega
  have hu : 0 ≤ u ∧ u ≤ 24 := by omega
  have hv : 0 ≤ v ∧ v ≤ 4 := by omega
  by_cases hA : c = 4 ∨ v = 4
  · rw [if_pos hA]
    rcases hA with hA | hA
    · subst hA
      have hb : b = 0 := by omega
      have hu0 : u = 0 := by omega
      have hv0 : v = 0 := by omega
      subst hu0; subst hv0
      have k1 : (q * 400 + 4 * 100 + 0 * 4 + 0 - 1) / 4 = 100 * q + 99 := by omega
      have k2 : (q * 400 + 4 * 100 + 0 * 4 + 0 - 1) / 100 = 4 * q + 3 := by omega
      have k3 : (q * 400 + 4 * 100 + 0 * 4 + 0 - 1) / 400 = q := by omega
      rw [k1, k2, k3]
      omega
    · subst hA
      have hf : f = 0 := by omega
      have hc' : c ≤ 3 := by omega
      have hu' : u ≤ 23 := by omega
      have k1 : (q * 400 + c * 100 + u * 4 + 4 - 1) / 4 = 100 * q + 25 * c + u := by omega
      have k2 : (q * 400 + c * 100 + u * 4 + 4 - 1) / 100 = 4 * q + c := by omega
      have k3 : (q * 400 + c * 100 + u * 4 + 4 - 1) / 400 = q := by omega
      rw [k1, k2, k3]
      refine ⟨by omega, by omega, fun _ => ⟨by omega, Or.inl (by omega)⟩⟩
  · rw [if_neg hA]
    have hc' : c ≤ 3 := by omega
    have hv' : v ≤ 3 := by omega
    have k1 : (q * 400 + c * 100 + u * 4 + v + 1 - 1) / 4 = 100 * q + 25 * c + u := by omega
    have k2 : (q * 400 + c * 100 + u * 4 + v + 1 - 1) / 100 = 4 * q + c := by omega
    have k3 : (q * 400 + c * 100 + u * 4 + v + 1 - 1) / 400 = q := by omega
    rw [k1, k2, k3]
    omega
theorem gjd_next (y : Int) : gjd (y + 1) 1 1 = gjd y 1 1 + 365 + (if isleapF y = true then 1 else 0) := by
  rw [gjd_first, gjd_first]
  simp only [Int.fdiv_eq_ediv_of_nonneg _ (show (0:Int) ≤ 4 by decide), Int.fdiv_eq_ediv_of_nonneg _ (show (0:Int) ≤ 100 by decide), Int.fdiv_eq_ediv_of_nonneg _ (show (0:Int) ≤ 400 by decide)]
  rcases leap_cases y with ⟨h, h1⟩ | ⟨h, h1⟩
  · rw [if_pos h]; omega
  · rw [if_neg (by rw [h]; decide)]; omega
theorem gjd_mono (y y' : Int) (h : y + 1 ≤ y') : gjd (y + 1) 1 1 ≤ gjd y' 1 1 := by
  rw [gjd_first, gjd_first]
  simp only [Int.fdiv_eq_ediv_of_nonneg _ (show (0:Int) ≤ 4 by decide), Int.fdiv_eq_ediv_of_nonneg _ (show (0:Int) ≤ 100 by decide), Int.fdiv_eq_ediv_of_nonneg _ (show (0:Int) ≤ 400 by decide)]
  omega
/-- the year is the only one that the day lies in -/
theorem fjY_unique (jd y : Int) (h1 : gjd y 1 1 ≤ jd) (h2 : jd < gjd (y + 1) 1 1) : fjY jd = y := by
  obtain ⟨a, b, c⟩ := fjY_range jd
  have n := gjd_next (fjY jd)
  have d : jd < gjd (fjY jd + 1) 1 1 := by
    rw [n]
    by_cases e : jd = gjd (fjY jd) 1 1 + 365
    · rw [if_pos (c e)]; omega
    · split <;> omega
  rcases Int.lt_trichotomy (fjY jd) y with h | h | h
  · have := gjd_mono (fjY jd) y (by omega); omega
  · exact h
  · have := gjd_mono y (fjY jd) (by omega); omega
theorem gjd_day (y m d : Int) : gjd y m d = gjd y m 1 + d - 1 := by unfold gjd; omega
theorem fj_inv (jd : Int) : gjd (fjY jd) (fjM jd (fjY jd)) (fjD jd (fjY jd)) = jd := by
  rw [gjd_day]; unfold fjD; omega
theorem gjd_month (y m d : Int) : gjd y m d = gjd y 1 1 + (367 * m - 362).fdiv 12 + (if m ≤ 2 then 0 else if isleapF y then -1 else -2) + d - 1 := by
  rw [gjd_first]; unfold gjd; omega
theorem mon_tab : ∀ k : Fin 366, ∀ b : Bool, (k.val = 365 → b = true) →
    let yd : Int := k.val
    let l : Int := if yd < 58 + (if b = true then 1 else 0) then 0 else if b = true then 1 else 2
    let m : Int := ((yd + l) * 12 + 373).fdiv 367
    let d : Int := yd - ((367 * m - 362).fdiv 12 + (if m ≤ 2 then 0 else if b then -1 else -2)) + 1
    1 ≤ m ∧ m ≤ 12 ∧ 0 < d ∧ (d ≤ 28 ∨ (d ≤ 29 ∧ m = 2 ∧ b = true) ∨ (d ≤ 30 ∧ m ≠ 2) ∨ (d ≤ 31 ∧ m ≠ 2 ∧ m ≠ 4 ∧ m ≠ 6 ∧ m ≠ 9 ∧ m ≠ 11)) := by decide +kernel
theorem fj_legal (jd : Int) : 1 ≤ fjM jd (fjY jd) ∧ fjM jd (fjY jd) ≤ 12 ∧ LegG (fjY jd) (fjM jd (fjY jd)) (fjD jd (fjY jd)) := by
  obtain ⟨h1, h2, h3⟩ := fjY_range jd
  have hk : (jd - gjd (fjY jd) 1 1).toNat < 366 := by omega
  have t := mon_tab ⟨(jd - gjd (fjY jd) 1 1).toNat, hk⟩ (isleapF (fjY jd)) (by intro e; exact h3 (by simp only at e; omega))
  have e : ((jd - gjd (fjY jd) 1 1).toNat : Int) = jd - gjd (fjY jd) 1 1 := by omega
  simp only [e] at t
  have em : fjM jd (fjY jd) = ((jd - gjd (fjY jd) 1 1 + fjL jd (fjY jd)) * 12 + 373).fdiv 367 := rfl
  have el : fjL jd (fjY jd) = if jd - gjd (fjY jd) 1 1 < 58 + (if isleapF (fjY jd) = true then 1 else 0) then 0 else if isleapF (fjY jd) = true then 1 else 2 := rfl
  rw [← el, ← em] at t
  have ed : fjD jd (fjY jd) = jd - gjd (fjY jd) 1 1 - ((367 * fjM jd (fjY jd) - 362).fdiv 12 + (if fjM jd (fjY jd) ≤ 2 then 0 else if isleapF (fjY jd) = true then -1 else -2)) + 1 := by
    have := gjd_month (fjY jd) (fjM jd (fjY jd)) 1
    unfold fjD; omega
  rw [← ed] at t
  exact ⟨t.1, t.2.1, t.2.2⟩
end
/- part M2 -/
section
/-- the only date of a day -/
theorem civ_unique (n Y m d : Int) (hg : gjd Y m d = n) (hm : 1 ≤ m ∧ m ≤ 12) (hl : LegG Y m d) : Y = fjY n ∧ m = fjM n (fjY n) ∧ d = fjD n (fjY n) := by
  have g := gjd_month Y m d
  have nx := gjd_next Y
  obtain ⟨hd, hl⟩ := hl
  have hY : fjY n = Y ∧ ((n - gjd Y 1 1 + (if n - gjd Y 1 1 < 58 + (if isleapF Y = true then 1 else 0) then 0 else if isleapF Y = true then 1 else 2)) * 12 + 373).fdiv 367 = m := by
    rw [hg] at g
    rw [Int.fdiv_eq_ediv_of_nonneg _ (show (0:Int) ≤ 12 by decide)] at g
    rw [Int.fdiv_eq_ediv_of_nonneg _ (show (0:Int) ≤ 367 by decide)]
    rcases leap_cases Y with ⟨e, _⟩ | ⟨e, _⟩
    · simp only [e, if_true, and_true] at *
      have hm' : m = 1 ∨ m = 2 ∨ m = 3 ∨ m = 4 ∨ m = 5 ∨ m = 6 ∨ m = 7 ∨ m = 8 ∨ m = 9 ∨ m = 10 ∨ m = 11 ∨ m = 12 := by omega
      refine ⟨fjY_unique n Y ?_ ?_, ?_⟩
      · split at g <;> omega
      · split at g <;> omega
      · rcases hm' with rfl | rfl | rfl | rfl | rfl | rfl | rfl | rfl | rfl | rfl | rfl | rfl <;> (split at g <;> (try split) <;> omega)
    · simp only [e, Bool.false_eq_true, if_false, and_false, false_or] at *
      have hm' : m = 1 ∨ m = 2 ∨ m = 3 ∨ m = 4 ∨ m = 5 ∨ m = 6 ∨ m = 7 ∨ m = 8 ∨ m = 9 ∨ m = 10 ∨ m = 11 ∨ m = 12 := by omega
      refine ⟨fjY_unique n Y ?_ ?_, ?_⟩
      · split at g <;> omega
      · split at g <;> omega
      · rcases hm' with rfl | rfl | rfl | rfl | rfl | rfl | rfl | rfl | rfl | rfl | rfl | rfl <;> (split at g <;> (try split) <;> omega)
  obtain ⟨h1, h2⟩ := hY
  have h3 : fjM n Y = m := h2
  rw [h1]
  refine ⟨rfl, h3.symm, ?_⟩
  unfold fjD
  rw [h3]
  have := gjd_day Y m d
  omega
theorem gjd_march (Y : Int) : gjd Y 3 1 = 1721120 + 365 * Y + Y / 4 - Y / 100 + Y / 400 := by
  rw [gjd_month, gjd_first]
  have h : ((367 * 3 - 362 : Int)).fdiv 12 = 61 := by decide
  rw [h, if_neg (by decide)]
  simp only [Int.fdiv_eq_ediv_of_nonneg _ (show (0:Int) ≤ 4 by decide), Int.fdiv_eq_ediv_of_nonneg _ (show (0:Int) ≤ 100 by decide), Int.fdiv_eq_ediv_of_nonneg _ (show (0:Int) ≤ 400 by decide)]
  rcases leap_cases Y with ⟨e, e2⟩ | ⟨e, e2⟩
  · rw [if_pos e]; omega
  · rw [if_neg (by rw [e]; decide)]; omega
def LcOk (n Y L : Int) : Prop := 0 ≤ L ∧ L ≤ 365 ∧ (L = 365 → isleapF (Y + 1) = true) ∧ gjd Y 3 1 + L = n
theorem lc_ok (n : Int) : LcOk n (400 * (n - 1721120).fdiv 146097 + 100 * (if 3 < ((n - 1721120).fmod 146097).fdiv 36524 then 3 else ((n - 1721120).fmod 146097).fdiv 36524) + 4 * ((n - 1721120).fmod 146097 - 36524 * (if 3 < ((n - 1721120).fmod 146097).fdiv 36524 then 3 else ((n - 1721120).fmod 146097).fdiv 36524)).fdiv 1461 + (if 3 < (((n - 1721120).fmod 146097 - 36524 * (if 3 < ((n - 1721120).fmod 146097).fdiv 36524 then 3 else ((n - 1721120).fmod 146097).fdiv 36524)) - 1461 * ((n - 1721120).fmod 146097 - 36524 * (if 3 < ((n - 1721120).fmod 146097).fdiv 36524 then 3 else ((n - 1721120).fmod 146097).fdiv 36524)).fdiv 1461).fdiv 365 then 3 else (((n - 1721120).fmod 146097 - 36524 * (if 3 < ((n - 1721120).fmod 146097).fdiv 36524 then 3 else ((n - 1721120).fmod 146097).fdiv 36524)) - 1461 * ((n - 1721120).fmod 146097 - 36524 * (if 3 < ((n - 1721120).fmod 146097).fdiv 36524 then 3 else ((n - 1721120).fmod 146097).fdiv 36524)).fdiv 1461).fdiv 365)) ((((n - 1721120).fmod 146097 - 36524 * (if 3 < ((n - 1721120).fmod 146097).fdiv 36524 then 3 else ((n - 1721120).fmod 146097).fdiv 36524)) - 1461 * ((n - 1721120).fmod 146097 - 36524 * (if 3 < ((n - 1721120).fmod 146097).fdiv 36524 then 3 else ((n - 1721120).fmod 146097).fdiv 36524)).fdiv 1461) - 365 * (if 3 < (((n - 1721120).fmod 146097 - 36524 * (if 3 < ((n - 1721120).fmod 146097).fdiv 36524 then 3 else ((n - 1721120).fmod 146097).fdiv 36524)) - 1461 * ((n - 1721120).fmod 146097 - 36524 * (if 3 < ((n - 1721120).fmod 146097).fdiv 36524 then 3 else ((n - 1721120).fmod 146097).fdiv 36524)).fdiv 1461).fdiv 365 then 3 else (((n - 1721120).fmod 146097 - 36524 * (if 3 < ((n - 1721120).fmod 146097).fdiv 36524 then 3 else ((n - 1721120).fmod 146097).fdiv 36524)) - 1461 * ((n - 1721120).fmod 146097 - 36524 * (if 3 < ((n - 1721120).fmod 146097).fdiv 36524 then 3 else ((n - 1721120).fmod 146097).fdiv 36524)).fdiv 1461).fdiv 365)) := by
  unfold LcOk
  rw [gjd_march, isleap_iff]
  have h1 := fm_facts (n - 1721120) (k := 146097) (by decide)
  generalize (n - 1721120).fdiv 146097 = q at *
  generalize (n - 1721120).fmod 146097 = a at *
  have h2 := fm_facts a (k := 36524) (by decide)
  generalize a.fdiv 36524 = c0 at *
  generalize a.fmod 36524 = b at *
  have hH : ∃ c, (if 3 < c0 then 3 else c0) = c ∧ 0 ≤ c ∧ c ≤ 3 ∧ 0 ≤ a - 36524 * c ∧ a - 36524 * c ≤ 36524 ∧ (c < 3 → a - 36524 * c < 36524) := by
    refine ⟨_, rfl, ?_⟩
    split <;> omega
  obtain ⟨c, hc, c1, c2, c3, c4, c5⟩ := hH
  rw [hc]
  generalize hb1 : a - 36524 * c = b1 at *
  have h3 := fm_facts b1 (k := 1461) (by decide)
  generalize b1.fdiv 1461 = u at *
  generalize b1.fmod 1461 = e at *
  have he : b1 - 1461 * u = e := by omega
  rw [he]
  have h4 := fm_facts e (k := 365) (by decide)
  generalize e.fdiv 365 = v0 at *
  generalize e.fmod 365 = f at *
  have hO : ∃ v, (if 3 < v0 then 3 else v0) = v ∧ 0 ≤ v ∧ v ≤ 3 ∧ 0 ≤ e - 365 * v ∧ e - 365 * v ≤ 365 ∧ (e - 365 * v = 365 → v = 3 ∧ e = 1460) := by
    refine ⟨_, rfl, ?_⟩
    split <;> omega
  obtain ⟨v, hv, v1, v2, v3, v4, v5⟩ := hO
  rw [hv]
  have hu : 0 ≤ u ∧ u ≤ 24 := by omega
  have k1 : (400 * q + 100 * c + 4 * u + v) / 4 = 100 * q + 25 * c + u := by omega
  have k2 : (400 * q + 100 * c + 4 * u + v) / 100 = 4 * q + c := by omega
  have k3 : (400 * q + 100 * c + 4 * u + v) / 400 = q := by omega
  rw [k1, k2, k3]
  refine ⟨v3, v4, fun h => ?_, by omega⟩
  obtain ⟨w1, w2⟩ := v5 h
  subst w1
  by_cases hu' : u = 24
  · have : c = 3 := by omega
    subst this
    omega
  · omega
section
variable {n Y L : Int}
theorem civ0 (hr : LcOk n Y L) (h : L < 31) : Y = fjY n ∧ (3 : Int) = fjM n (fjY n) ∧ L + 1 = fjD n (fjY n) := by
  obtain ⟨h0, h365, hleap, hg⟩ := hr
  refine civ_unique n Y (3) (L + 1) ?_ (by decide) ⟨by omega, by omega⟩
  have g3 := gjd_month Y 3 1
  have gm := gjd_month Y (3) (L + 1)
  rw [Int.fdiv_eq_ediv_of_nonneg _ (show (0:Int) ≤ 12 by decide)] at g3 gm
  rw [if_neg (by decide)] at g3 gm
  omega
theorem civ1 (hr : LcOk n Y L) (h0 : ¬ L < 31) (h : L - 31 < 30) : Y = fjY n ∧ (3 + 1 : Int) = fjM n (fjY n) ∧ L - 31 + 1 = fjD n (fjY n) := by
  obtain ⟨h0, h365, hleap, hg⟩ := hr
  refine civ_unique n Y (3 + 1) (L - 31 + 1) ?_ (by decide) ⟨by omega, by omega⟩
  have g3 := gjd_month Y 3 1
  have gm := gjd_month Y (3 + 1) (L - 31 + 1)
  rw [Int.fdiv_eq_ediv_of_nonneg _ (show (0:Int) ≤ 12 by decide)] at g3 gm
  rw [if_neg (by decide)] at g3 gm
  omega
theorem civ2 (hr : LcOk n Y L) (h0 : ¬ L < 31) (h1 : ¬ L - 31 < 30) (h : L - 31 - 30 < 31) : Y = fjY n ∧ (3 + 1 + 1 : Int) = fjM n (fjY n) ∧ L - 31 - 30 + 1 = fjD n (fjY n) := by
  obtain ⟨h0, h365, hleap, hg⟩ := hr
  refine civ_unique n Y (3 + 1 + 1) (L - 31 - 30 + 1) ?_ (by decide) ⟨by omega, by omega⟩
  have g3 := gjd_month Y 3 1
  have gm := gjd_month Y (3 + 1 + 1) (L - 31 - 30 + 1)
  rw [Int.fdiv_eq_ediv_of_nonneg _ (show (0:Int) ≤ 12 by decide)] at g3 gm
  rw [if_neg (by decide)] at g3 gm
  omega
theorem civ3 (hr : LcOk n Y L) (h0 : ¬ L < 31) (h1 : ¬ L - 31 < 30) (h2 : ¬ L - 31 - 30 < 31) (h : L - 31 - 30 - 31 < 30) : Y = fjY n ∧ (3 + 1 + 1 + 1 : Int) = fjM n (fjY n) ∧ L - 31 - 30 - 31 + 1 = fjD n (fjY n) := by
  obtain ⟨h0, h365, hleap, hg⟩ := hr
  refine civ_unique n Y (3 + 1 + 1 + 1) (L - 31 - 30 - 31 + 1) ?_ (by decide) ⟨by omega, by omega⟩
  have g3 := gjd_month Y 3 1
  have gm := gjd_month Y (3 + 1 + 1 + 1) (L - 31 - 30 - 31 + 1)
  rw [Int.fdiv_eq_ediv_of_nonneg _ (show (0:Int) ≤ 12 by decide)] at g3 gm
  rw [if_neg (by decide)] at g3 gm
  omega
theorem civ4 (hr : LcOk n Y L) (h0 : ¬ L < 31) (h1 : ¬ L - 31 < 30) (h2 : ¬ L - 31 - 30 < 31) (h3 : ¬ L - 31 - 30 - 31 < 30) (h : L - 31 - 30 - 31 - 30 < 31) : Y = fjY n ∧ (3 + 1 + 1 + 1 + 1 : Int) = fjM n (fjY n) ∧ L - 31 - 30 - 31 - 30 + 1 = fjD n (fjY n) := by
  obtain ⟨h0, h365, hleap, hg⟩ := hr
  refine civ_unique n Y (3 + 1 + 1 + 1 + 1) (L - 31 - 30 - 31 - 30 + 1) ?_ (by decide) ⟨by omega, by omega⟩
  have g3 := gjd_month Y 3 1
  have gm := gjd_month Y (3 + 1 + 1 + 1 + 1) (L - 31 - 30 - 31 - 30 + 1)
  rw [Int.fdiv_eq_ediv_of_nonneg _ (show (0:Int) ≤ 12 by decide)] at g3 gm
  rw [if_neg (by decide)] at g3 gm
  omega
theorem civ5 (hr : LcOk n Y L) (h0 : ¬ L < 31) (h1 : ¬ L - 31 < 30) (h2 : ¬ L - 31 - 30 < 31) (h3 : ¬ L - 31 - 30 - 31 < 30) (h4 : ¬ L - 31 - 30 - 31 - 30 < 31) (h : L - 31 - 30 - 31 - 30 - 31 < 31) : Y = fjY n ∧ (3 + 1 + 1 + 1 + 1 + 1 : Int) = fjM n (fjY n) ∧ L - 31 - 30 - 31 - 30 - 31 + 1 = fjD n (fjY n) := by
  obtain ⟨h0, h365, hleap, hg⟩ := hr
  refine civ_unique n Y (3 + 1 + 1 + 1 + 1 + 1) (L - 31 - 30 - 31 - 30 - 31 + 1) ?_ (by decide) ⟨by omega, by omega⟩
  have g3 := gjd_month Y 3 1
  have gm := gjd_month Y (3 + 1 + 1 + 1 + 1 + 1) (L - 31 - 30 - 31 - 30 - 31 + 1)
  rw [Int.fdiv_eq_ediv_of_nonneg _ (show (0:Int) ≤ 12 by decide)] at g3 gm
  rw [if_neg (by decide)] at g3 gm
  omega
theorem civ6 (hr : LcOk n Y L) (h0 : ¬ L < 31) (h1 : ¬ L - 31 < 30) (h2 : ¬ L - 31 - 30 < 31) (h3 : ¬ L - 31 - 30 - 31 < 30) (h4 : ¬ L - 31 - 30 - 31 - 30 < 31) (h5 : ¬ L - 31 - 30 - 31 - 30 - 31 < 31) (h : L - 31 - 30 - 31 - 30 - 31 - 31 < 30) : Y = fjY n ∧ (3 + 1 + 1 + 1 + 1 + 1 + 1 : Int) = fjM n (fjY n) ∧ L - 31 - 30 - 31 - 30 - 31 - 31 + 1 = fjD n (fjY n) := by
  obtain ⟨h0, h365, hleap, hg⟩ := hr
  refine civ_unique n Y (3 + 1 + 1 + 1 + 1 + 1 + 1) (L - 31 - 30 - 31 - 30 - 31 - 31 + 1) ?_ (by decide) ⟨by omega, by omega⟩
  have g3 := gjd_month Y 3 1
  have gm := gjd_month Y (3 + 1 + 1 + 1 + 1 + 1 + 1) (L - 31 - 30 - 31 - 30 - 31 - 31 + 1)
  rw [Int.fdiv_eq_ediv_of_nonneg _ (show (0:Int) ≤ 12 by decide)] at g3 gm
  rw [if_neg (by decide)] at g3 gm
  omega
theorem civ7 (hr : LcOk n Y L) (h0 : ¬ L < 31) (h1 : ¬ L - 31 < 30) (h2 : ¬ L - 31 - 30 < 31) (h3 : ¬ L - 31 - 30 - 31 < 30) (h4 : ¬ L - 31 - 30 - 31 - 30 < 31) (h5 : ¬ L - 31 - 30 - 31 - 30 - 31 < 31) (h6 : ¬ L - 31 - 30 - 31 - 30 - 31 - 31 < 30) (h : L - 31 - 30 - 31 - 30 - 31 - 31 - 30 < 31) : Y = fjY n ∧ (3 + 1 + 1 + 1 + 1 + 1 + 1 + 1 : Int) = fjM n (fjY n) ∧ L - 31 - 30 - 31 - 30 - 31 - 31 - 30 + 1 = fjD n (fjY n) := by
  obtain ⟨h0, h365, hleap, hg⟩ := hr
  refine civ_unique n Y (3 + 1 + 1 + 1 + 1 + 1 + 1 + 1) (L - 31 - 30 - 31 - 30 - 31 - 31 - 30 + 1) ?_ (by decide) ⟨by omega, by omega⟩
  have g3 := gjd_month Y 3 1
  have gm := gjd_month Y (3 + 1 + 1 + 1 + 1 + 1 + 1 + 1) (L - 31 - 30 - 31 - 30 - 31 - 31 - 30 + 1)
  rw [Int.fdiv_eq_ediv_of_nonneg _ (show (0:Int) ≤ 12 by decide)] at g3 gm
  rw [if_neg (by decide)] at g3 gm
  omega
theorem civ8 (hr : LcOk n Y L) (h0 : ¬ L < 31) (h1 : ¬ L - 31 < 30) (h2 : ¬ L - 31 - 30 < 31) (h3 : ¬ L - 31 - 30 - 31 < 30) (h4 : ¬ L - 31 - 30 - 31 - 30 < 31) (h5 : ¬ L - 31 - 30 - 31 - 30 - 31 < 31) (h6 : ¬ L - 31 - 30 - 31 - 30 - 31 - 31 < 30) (h7 : ¬ L - 31 - 30 - 31 - 30 - 31 - 31 - 30 < 31) (h : L - 31 - 30 - 31 - 30 - 31 - 31 - 30 - 31 < 30) : Y = fjY n ∧ (3 + 1 + 1 + 1 + 1 + 1 + 1 + 1 + 1 : Int) = fjM n (fjY n) ∧ L - 31 - 30 - 31 - 30 - 31 - 31 - 30 - 31 + 1 = fjD n (fjY n) := by
  obtain ⟨h0, h365, hleap, hg⟩ := hr
  refine civ_unique n Y (3 + 1 + 1 + 1 + 1 + 1 + 1 + 1 + 1) (L - 31 - 30 - 31 - 30 - 31 - 31 - 30 - 31 + 1) ?_ (by decide) ⟨by omega, by omega⟩
  have g3 := gjd_month Y 3 1
  have gm := gjd_month Y (3 + 1 + 1 + 1 + 1 + 1 + 1 + 1 + 1) (L - 31 - 30 - 31 - 30 - 31 - 31 - 30 - 31 + 1)
  rw [Int.fdiv_eq_ediv_of_nonneg _ (show (0:Int) ≤ 12 by decide)] at g3 gm
  rw [if_neg (by decide)] at g3 gm
  omega
theorem civ9 (hr : LcOk n Y L) (h0 : ¬ L < 31) (h1 : ¬ L - 31 < 30) (h2 : ¬ L - 31 - 30 < 31) (h3 : ¬ L - 31 - 30 - 31 < 30) (h4 : ¬ L - 31 - 30 - 31 - 30 < 31) (h5 : ¬ L - 31 - 30 - 31 - 30 - 31 < 31) (h6 : ¬ L - 31 - 30 - 31 - 30 - 31 - 31 < 30) (h7 : ¬ L - 31 - 30 - 31 - 30 - 31 - 31 - 30 < 31) (h8 : ¬ L - 31 - 30 - 31 - 30 - 31 - 31 - 30 - 31 < 30) (h : L - 31 - 30 - 31 - 30 - 31 - 31 - 30 - 31 - 30 < 31) : Y = fjY n ∧ (3 + 1 + 1 + 1 + 1 + 1 + 1 + 1 + 1 + 1 : Int) = fjM n (fjY n) ∧ L - 31 - 30 - 31 - 30 - 31 - 31 - 30 - 31 - 30 + 1 = fjD n (fjY n) := by
  obtain ⟨h0, h365, hleap, hg⟩ := hr
  refine civ_unique n Y (3 + 1 + 1 + 1 + 1 + 1 + 1 + 1 + 1 + 1) (L - 31 - 30 - 31 - 30 - 31 - 31 - 30 - 31 - 30 + 1) ?_ (by decide) ⟨by omega, by omega⟩
  have g3 := gjd_month Y 3 1
  have gm := gjd_month Y (3 + 1 + 1 + 1 + 1 + 1 + 1 + 1 + 1 + 1) (L - 31 - 30 - 31 - 30 - 31 - 31 - 30 - 31 - 30 + 1)
  rw [Int.fdiv_eq_ediv_of_nonneg _ (show (0:Int) ≤ 12 by decide)] at g3 gm
  rw [if_neg (by decide)] at g3 gm
  omega
theorem civ10 (hr : LcOk n Y L) (h0 : ¬ L < 31) (h1 : ¬ L - 31 < 30) (h2 : ¬ L - 31 - 30 < 31) (h3 : ¬ L - 31 - 30 - 31 < 30) (h4 : ¬ L - 31 - 30 - 31 - 30 < 31) (h5 : ¬ L - 31 - 30 - 31 - 30 - 31 < 31) (h6 : ¬ L - 31 - 30 - 31 - 30 - 31 - 31 < 30) (h7 : ¬ L - 31 - 30 - 31 - 30 - 31 - 31 - 30 < 31) (h8 : ¬ L - 31 - 30 - 31 - 30 - 31 - 31 - 30 - 31 < 30) (h9 : ¬ L - 31 - 30 - 31 - 30 - 31 - 31 - 30 - 31 - 30 < 31) (h : L - 31 - 30 - 31 - 30 - 31 - 31 - 30 - 31 - 30 - 31 < 31) : Y + 1 = fjY n ∧ (3 + 1 + 1 + 1 + 1 + 1 + 1 + 1 + 1 + 1 + 1 - 12 : Int) = fjM n (fjY n) ∧ L - 31 - 30 - 31 - 30 - 31 - 31 - 30 - 31 - 30 - 31 + 1 = fjD n (fjY n) := by
  obtain ⟨h0, h365, hleap, hg⟩ := hr
  have nx := gjd_next Y
  have g3 := gjd_month Y 3 1
  have gm := gjd_month (Y + 1) (3 + 1 + 1 + 1 + 1 + 1 + 1 + 1 + 1 + 1 + 1 - 12) (L - 31 - 30 - 31 - 30 - 31 - 31 - 30 - 31 - 30 - 31 + 1)
  rw [Int.fdiv_eq_ediv_of_nonneg _ (show (0:Int) ≤ 12 by decide)] at g3 gm
  rw [if_neg (by decide)] at g3
  rw [if_pos (by decide)] at gm
  have hl : L = 365 → (L - 31 - 30 - 31 - 30 - 31 - 31 - 30 - 31 - 30 - 31 + 1 : Int) = 29 := by intro e; omega
  refine civ_unique n (Y + 1) (3 + 1 + 1 + 1 + 1 + 1 + 1 + 1 + 1 + 1 + 1 - 12) (L - 31 - 30 - 31 - 30 - 31 - 31 - 30 - 31 - 30 - 31 + 1) ?_ (by decide) ⟨by omega, ?_⟩
  · rcases leap_cases Y with ⟨e, _⟩ | ⟨e, _⟩
    · rw [if_pos e] at nx g3; omega
    · rw [if_neg (by rw [e]; decide)] at nx g3; omega
  · omega
theorem civ11 (hr : LcOk n Y L) (h0 : ¬ L < 31) (h1 : ¬ L - 31 < 30) (h2 : ¬ L - 31 - 30 < 31) (h3 : ¬ L - 31 - 30 - 31 < 30) (h4 : ¬ L - 31 - 30 - 31 - 30 < 31) (h5 : ¬ L - 31 - 30 - 31 - 30 - 31 < 31) (h6 : ¬ L - 31 - 30 - 31 - 30 - 31 - 31 < 30) (h7 : ¬ L - 31 - 30 - 31 - 30 - 31 - 31 - 30 < 31) (h8 : ¬ L - 31 - 30 - 31 - 30 - 31 - 31 - 30 - 31 < 30) (h9 : ¬ L - 31 - 30 - 31 - 30 - 31 - 31 - 30 - 31 - 30 < 31) (h10 : ¬ L - 31 - 30 - 31 - 30 - 31 - 31 - 30 - 31 - 30 - 31 < 31) : Y + 1 = fjY n ∧ (3 + 1 + 1 + 1 + 1 + 1 + 1 + 1 + 1 + 1 + 1 + 1 - 12 : Int) = fjM n (fjY n) ∧ L - 31 - 30 - 31 - 30 - 31 - 31 - 30 - 31 - 30 - 31 - 31 + 1 = fjD n (fjY n) := by
  obtain ⟨h0, h365, hleap, hg⟩ := hr
  have nx := gjd_next Y
  have g3 := gjd_month Y 3 1
  have gm := gjd_month (Y + 1) (3 + 1 + 1 + 1 + 1 + 1 + 1 + 1 + 1 + 1 + 1 + 1 - 12) (L - 31 - 30 - 31 - 30 - 31 - 31 - 30 - 31 - 30 - 31 - 31 + 1)
  rw [Int.fdiv_eq_ediv_of_nonneg _ (show (0:Int) ≤ 12 by decide)] at g3 gm
  rw [if_neg (by decide)] at g3
  rw [if_pos (by decide)] at gm
  have hl : L = 365 → (L - 31 - 30 - 31 - 30 - 31 - 31 - 30 - 31 - 30 - 31 - 31 + 1 : Int) = 29 := by intro e; omega
  refine civ_unique n (Y + 1) (3 + 1 + 1 + 1 + 1 + 1 + 1 + 1 + 1 + 1 + 1 + 1 - 12) (L - 31 - 30 - 31 - 30 - 31 - 31 - 30 - 31 - 30 - 31 - 31 + 1) ?_ (by decide) ⟨by omega, ?_⟩
  · rcases leap_cases Y with ⟨e, _⟩ | ⟨e, _⟩
    · rw [if_pos e] at nx g3; omega
    · rw [if_neg (by rw [e]; decide)] at nx g3; omega
  · by_cases e : L = 365
    · exact Or.inr (Or.inl ⟨by omega, by omega, hleap e⟩)
    · exact Or.inl (by omega)
end
end
/- part FG3 -/
section
local macro_rules | `(tactic| walk_at "ite") => `(tactic| (k_here; (try dsimp only); first | (k_closed; k_dflt (first | refine ite_pos (by decide) ?_ | refine ite_neg (by decide) ?_)) | k_dflt (first | (refine split_dec ?_ ?_ <;> intro _) | (refine split_bool ?_ ?_ <;> intro _)); walk_say "PLAIN SPLIT"))
theorem forTurns {prog : Program} {w : World} {A : Around} {E : Value → Shared → Prop} {s : Shared} {env : Env} {h₀ : Heap} {target : Expr} {body : List Stmt} {Q : Flow → Shared → Prop} {iter : Expr} {pos : Pos} {m : Str → Option Value} (F : Fr h₀ env.locals s.heap m)
    (hs : ∀ x, foldedSetIterable iter env x = pure x) (hE : PassesOwn (model prog w) A env E)
    (h : wpAny (model prog w) A (eval iter env) (fun xv s₁ => wpAny (model prog w) A (pyIter xv) (fun it s₂ => TurnsAt prog w A h₀ env target body Q E it s₂) E s₁) E s) :
    wpAny (model prog w) A (exec (.For target iter body [] pos) env) Q E s := For_turns F h hs hE
local macro_rules | `(tactic| walk_at "exec For Name Tuple cons nil") => `(tactic| (k_here; (rename Fr _ _ _ _ => lF'); (with_reducible refine' forTurns ?fF ?fs ?fE ?_); (case fF => k_dflt (exact lF')); (case fs => k_dflt (intro _; rfl)); (case fE => k_dflt (passes_own)); walk_say "MY FOR"))
theorem allLt_mem {D : Addr} : ∀ {l : List (Addr × Obj)}, AllLt D l → ∀ p ∈ l, @LT.lt Nat _ p.1 D
  | [], _, _, h => nomatch h
  | _ :: _, x, p, h => by
    rcases List.mem_cons.mp h with rfl | h
    · exact x.1
    · exact allLt_mem x.2 p h
theorem allLt_app {D : Addr} {own news : List (Addr × Obj)} {a b : Addr × Obj} (h : AllLt D (own ++ a :: b :: news)) : AllLt D news :=
  allLt_of fun p hp => allLt_mem h p (List.mem_append_right _ (List.mem_cons_of_mem _ (List.mem_cons_of_mem _ hp)))
set_option maxHeartbeats 8000000 in
theorem c_lc (w : World) (n : Int) (t : CbTok) : CT w 218 2 (True) [Value.int n t] (fjY n) (fjM n (fjY n)) (fjD n (fjY n)) := by
  unfold CT
  k_fill
  intros; rename_i hret
  walk_at "my_in"
  k_steps
  all_goals (refine' retT3 hret ?e1 ?e4 ?e5 ?e6 ?e7; (case e4 => k_asm); (case e5 => kcu_news); (case e6 => with_reducible (first | exact fun _ h => List.mem_cons_of_mem _ (List.mem_append_right _ (List.mem_cons_of_mem _ (List.mem_cons_of_mem _ h))) | exact fun _ h => (List.mem_append_right _ (List.mem_cons_of_mem _ (List.mem_cons_of_mem _ h))) | exact fun _ h => List.mem_cons_of_mem _ (List.mem_cons_of_mem _ h) | exact fun _ h => List.mem_cons_of_mem _ (List.mem_cons_of_mem _ (List.mem_cons_of_mem _ h)) | exact fun _ h => List.mem_cons_of_mem _ (List.mem_cons_of_mem _ (List.mem_cons_of_mem _ (List.mem_cons_of_mem _ h))) | exact fun _ h => List.mem_cons_of_mem _ (List.mem_cons_of_mem _ (List.mem_cons_of_mem _ (List.mem_cons_of_mem _ (List.mem_cons_of_mem _ h)))))); (case e7 => first | with_reducible exact allLt_app (by assumption) | exact allLt_of (by assumption) | assumption | ((rename (_ ∧ AllLt _ _) => h7); exact h7.2) | ((rename (_ ∧ _ ∧ AllLt _ _) => h7); exact h7.2.2) | ((rename (_ ∧ _ ∧ _ ∧ AllLt _ _) => h7); exact h7.2.2.2) | ((rename (_ ∧ _ ∧ _ ∧ _ ∧ AllLt _ _) => h7); exact h7.2.2.2.2) | trace_state); (case e1 => with_reducible first | exact civ0 (lc_ok _) (by assumption) | exact civ1 (lc_ok _) (by assumption) (by assumption) | exact civ2 (lc_ok _) (by assumption) (by assumption) (by assumption) | exact civ3 (lc_ok _) (by assumption) (by assumption) (by assumption) (by assumption) | exact civ4 (lc_ok _) (by assumption) (by assumption) (by assumption) (by assumption) (by assumption) | exact civ5 (lc_ok _) (by assumption) (by assumption) (by assumption) (by assumption) (by assumption) (by assumption) | exact civ6 (lc_ok _) (by assumption) (by assumption) (by assumption) (by assumption) (by assumption) (by assumption) (by assumption) | exact civ7 (lc_ok _) (by assumption) (by assumption) (by assumption) (by assumption) (by assumption) (by assumption) (by assumption) (by assumption) | exact civ8 (lc_ok _) (by assumption) (by assumption) (by assumption) (by assumption) (by assumption) (by assumption) (by assumption) (by assumption) (by assumption) | exact civ9 (lc_ok _) (by assumption) (by assumption) (by assumption) (by assumption) (by assumption) (by assumption) (by assumption) (by assumption) (by assumption) (by assumption) | exact civ10 (lc_ok _) (by assumption) (by assumption) (by assumption) (by assumption) (by assumption) (by assumption) (by assumption) (by assumption) (by assumption) (by assumption) (by assumption) | exact civ11 (lc_ok _) (by assumption) (by assumption) (by assumption) (by assumption) (by assumption) (by assumption) (by assumption) (by assumption) (by assumption) (by assumption) (by assumption)))
end
/- part FC0 -/
section
def lhF (y : Int) : Bool := decide ((y * 7 + 1).fmod 19 < 7)
def d0 (y : Int) : Int := (235 * y - 234).fdiv 19 * 29 + (12084 + 13753 * (235 * y - 234).fdiv 19).fdiv 25920
def d1 (y : Int) : Int := if (3 * (d0 y + 1)).fmod 7 < 3 then d0 y + 1 else d0 y
def d2 (y : Int) : Int := if d1 (y + 1) - d1 y = 356 then 2 else if d1 y - d1 (y - 1) = 382 then 1 else 0
def nyF (y : Int) : Int := 347996 + d1 y + d2 y + 1 + 1
def ydF (y : Int) : Int := nyF (y + 1) - nyF y
def mlH (y m : Int) : Int := if ([2, 4, 6, 10, 13] : List Int).any (fun x => x == m) = true then 29 else if m = 12 ∧ lhF y = false then 29 else if m = 8 ∧ (ydF y).fmod 10 ≠ 5 then 29 else if m = 9 ∧ (ydF y).fmod 10 = 3 then 29 else 30
set_option maxHeartbeats 2000000 in
theorem c_leap_h (w : World) (y : Int) (t : CbTok) : CL w 64 1 (True) [Value.int y t] (fun _ => Value.bool (lhF y)) := by
  unfold CL
  k_fill
  intros; rename_i hret
  walk_at "my_in"
  k_steps
  all_goals (refine' retB hret ?e1 ?e2 ?e3; (case e2 => k_asm); (case e3 => k_asm); (case e1 => (unfold lhF; rfl)))
local macro_rules | `(tactic| walk_at "call ref") => `(tactic| (k_here; (with_reducible show wpAny _ _ (call (Value.ref 64) _) _ _ _); k_dflt ((refine' CL.use (c_leap_h _ _ _) ?k1 ?k2 ?k3 ?k4 ?k5 ?kK ?kp ?kd ?ku ?_); walk_at "my_use"; walk_at "my_kp"; walk_at "my_ret"); walk_say "c_leap_h"))
set_option maxHeartbeats 2000000 in
theorem c_delay_1 (w : World) (y : Int) (t : CbTok) : CL w 78 1 (True) [Value.int y t] (fun t => Value.int (d1 y) t) := by
  unfold CL
  k_fill
  intros; rename_i hret
  walk_at "my_in"
  k_steps
  all_goals (refine' retI hret ?e1 ?e2 ?e3; (case e2 => k_asm); (case e3 => k_asm); (case e1 => (clear hret; unfold d1 d0; first | exact (if_pos (by assumption)).symm | exact (if_neg (by assumption)).symm)))
local macro_rules | `(tactic| walk_at "call ref") => `(tactic| (k_here; (with_reducible show wpAny _ _ (call (Value.ref 78) _) _ _ _); k_dflt ((refine' CL.use (c_delay_1 _ _ _) ?k1 ?k2 ?k3 ?k4 ?k5 ?kK ?kp ?kd ?ku ?_); walk_at "my_use"; walk_at "my_kp"; walk_at "my_ret"); walk_say "c_delay_1"))
set_option maxHeartbeats 2000000 in
theorem c_delay_2 (w : World) (y : Int) (t : CbTok) : CL w 85 3 (True) [Value.int y t] (fun t => Value.int (d2 y) t) := by
  unfold CL
  k_fill
  intros; rename_i hret
  walk_at "my_in"
  k_steps
  all_goals (refine' retI hret ?e1 ?e2 ?e3; (case e2 => k_asm); (case e3 => k_asm); (case e1 => (clear hret; unfold d2; first | exact (if_pos (by assumption)).symm | (rw [if_neg (by assumption)]; first | exact (if_pos (by assumption)).symm | exact (if_neg (by assumption)).symm))))
local macro_rules | `(tactic| walk_at "call ref") => `(tactic| (k_here; (with_reducible show wpAny _ _ (call (Value.ref 85) _) _ _ _); k_dflt ((refine' CL.use (c_delay_2 _ _ _) ?k1 ?k2 ?k3 ?k4 ?k5 ?kK ?kp ?kd ?ku ?_); walk_at "my_use"; walk_at "my_kp"; walk_at "my_ret"); walk_say "c_delay_2"))
local macro_rules | `(tactic| walk_at "call ref") => `(tactic| (k_here; (with_reducible show wpAny _ _ (call (Value.ref 71) _) _ _ _); k_dflt (walk_at "my_in"); walk_say "IN 71"))
local macro_rules | `(tactic| walk_at "call ref") => `(tactic| (k_here; (with_reducible show wpAny _ _ (call (Value.ref 35) _) _ _ _); k_dflt (walk_at "my_in"); walk_say "IN 35"))
set_option maxHeartbeats 2000000 in
theorem c_ny (w : World) (y : Int) (t t2 t3 : CbTok) : CL w 113 6 (0 < nyF y) [Value.int y t, Value.int 7 t2, Value.int 1 t3] (fun t => Value.int (nyF y) t) := by
  unfold CL
  k_fill
  intros; rename_i hret
  walk_at "my_in"
  k_steps
  all_goals (refine' retI hret ?e1 ?e2 ?e3; (case e2 => k_asm); (case e3 => k_asm); (case e1 => (clear hret; first | rfl | (unfold nyF at *; omega))))
local macro_rules | `(tactic| walk_at "call ref") => `(tactic| (k_here; (with_reducible show wpAny _ _ (call (Value.ref 113) _) _ _ _); k_dflt ((refine' CL.use (c_ny _ _ _ _ _) ?k1 ?k2 ?k3 ?k4 ?k5 ?kK ?kp ?kd ?ku ?_); walk_at "my_use"; walk_at "my_kp"; walk_at "my_ret"); walk_say "c_ny"))
set_option maxHeartbeats 2000000 in
theorem c_yd (w : World) (y : Int) (t : CbTok) : CL w 92 8 (0 < nyF y ∧ 0 < nyF (y + 1)) [Value.int y t] (fun t => Value.int (ydF y) t) := by
  unfold CL
  k_fill
  intros; rename_i hret
  walk_at "my_in"
  k_steps
  all_goals (refine' retI hret ?e1 ?e2 ?e3; (case e2 => k_asm); (case e3 => k_asm); (case e1 => rfl))
local macro_rules | `(tactic| walk_at "call ref") => `(tactic| (k_here; (with_reducible show wpAny _ _ (call (Value.ref 92) _) _ _ _); k_dflt ((refine' CL.use (c_yd _ _ _) ?k1 ?k2 ?k3 ?k4 ?k5 ?kK ?kp ?kd ?ku ?_); walk_at "my_use"; walk_at "my_kp"; walk_at "my_ret"); walk_say "c_yd"))
section
variable {y m : Int}
theorem ml1 (h : ([2, 4, 6, 10, 13] : List Int).any (fun x => x == m) = true) : 29 = mlH y m := by
  unfold mlH; rw [if_pos h]
theorem ml2 (h : ([2, 4, 6, 10, 13] : List Int).any (fun x => x == m) = false) (h1 : m = 12) (h2 : lhF y = false) : 29 = mlH y m := by
  unfold mlH; rw [if_neg (by rw [h]; decide), if_pos ⟨h1, h2⟩]
theorem ml3 (h : ([2, 4, 6, 10, 13] : List Int).any (fun x => x == m) = false) (h1 : m = 12) (h2 : lhF y = true) : 30 = mlH y m := by
  unfold mlH; rw [if_neg (by rw [h]; decide), if_neg (by rw [h2]; simp), if_neg (by omega), if_neg (by omega)]
theorem ml4 (h : ([2, 4, 6, 10, 13] : List Int).any (fun x => x == m) = false) (h1 : m ≠ 12) (h2 : m = 8) (h3 : (ydF y).fmod 10 ≠ 5) : 29 = mlH y m := by
  unfold mlH; rw [if_neg (by rw [h]; decide), if_neg (by omega), if_pos ⟨h2, h3⟩]
theorem ml5 (h : ([2, 4, 6, 10, 13] : List Int).any (fun x => x == m) = false) (h1 : m ≠ 12) (h2 : m = 8) (h3 : (ydF y).fmod 10 = 5) : 30 = mlH y m := by
  unfold mlH; rw [if_neg (by rw [h]; decide), if_neg (by omega), if_neg (by rw [h3]; simp), if_neg (by omega)]
theorem ml6 (h : ([2, 4, 6, 10, 13] : List Int).any (fun x => x == m) = false) (h1 : m ≠ 12) (h2 : m ≠ 8) (h0 : m = 9) (h3 : (ydF y).fmod 10 = 3) : 29 = mlH y m := by
  unfold mlH; rw [if_neg (by rw [h]; decide), if_neg (by omega), if_neg (by omega), if_pos ⟨h0, h3⟩]
theorem ml7 (h : ([2, 4, 6, 10, 13] : List Int).any (fun x => x == m) = false) (h1 : m ≠ 12) (h2 : m ≠ 8) (h0 : m = 9) (h3 : (ydF y).fmod 10 ≠ 3) : 30 = mlH y m := by
  unfold mlH; rw [if_neg (by rw [h]; decide), if_neg (by omega), if_neg (by omega), if_neg (fun e => h3 e.2)]
theorem ml8 (h : ([2, 4, 6, 10, 13] : List Int).any (fun x => x == m) = false) (h1 : m ≠ 12) (h2 : m ≠ 8) (h0 : m ≠ 9) : 30 = mlH y m := by
  unfold mlH; rw [if_neg (by rw [h]; decide), if_neg (by omega), if_neg (by omega), if_neg (by omega)]
theorem ml_no {P : Prop} {a b : Int} (hab : a ≠ b) (h1 : m = a) (h2 : m = b) : P := absurd (h1.symm.trans h2) hab
end
set_option maxHeartbeats 2000000 in
theorem c_ml (w : World) (y m : Int) (t t2 : CbTok) : CL w 99 10 (m ≤ 13 ∧ 0 < nyF y ∧ 0 < nyF (y + 1)) [Value.int y t, Value.int m t2] (fun t => Value.int (mlH y m) t) := by
  unfold CL
  k_fill
  intros; rename_i hret
  walk_at "my_in"
  k_steps
  all_goals (refine' retI hret ?e1 ?e2 ?e3; (case e2 => k_asm); (case e3 => first | k_asm | exact (cb_drop (by assumption) (by with_reducible (first | exact fun _ h => List.mem_cons_of_mem _ h | exact fun _ h => List.mem_cons_of_mem _ (List.mem_cons_of_mem _ h) | exact fun _ h => List.mem_cons_of_mem _ (List.mem_cons_of_mem _ (List.mem_cons_of_mem _ h)))))); (case e1 => first | exact ml1 (by assumption) | exact ml2 (by assumption) (by assumption) (by assumption) | exact ml_no (m := m) (a := 12) (b := 8) (by decide) (by assumption) (by assumption) | exact ml_no (m := m) (a := 12) (b := 9) (by decide) (by assumption) (by assumption) | exact ml_no (m := m) (a := 8) (b := 9) (by decide) (by assumption) (by assumption) | exact ml3 (by assumption) (by assumption) (by assumption) | exact ml4 (by assumption) (by assumption) (by assumption) (by assumption) | exact ml5 (by assumption) (by assumption) (by assumption) (by assumption) | exact ml6 (by assumption) (by assumption) (by assumption) (by assumption) (by assumption) | exact ml7 (by assumption) (by assumption) (by assumption) (by assumption) (by assumption) | exact ml8 (by assumption) (by assumption) (by assumption) (by assumption)))
local macro_rules | `(tactic| walk_at "call ref") => `(tactic| (k_here; (with_reducible show wpAny _ _ (call (Value.ref 99) _) _ _ _); k_dflt ((refine' CL.use (c_ml _ _ _ _ _) ?k1 ?k2 ?k3 ?k4 ?k5 ?kK ?kp ?kd ?ku ?_); walk_at "my_use"; walk_at "my_kp"; walk_at "my_ret"); walk_say "c_ml"))
set_option maxHeartbeats 2000000 in
theorem c_md (w : World) (y m : Int) (t t2 : CbTok) : CL w 106 12 (m ≤ 13 ∧ 0 < nyF y ∧ 0 < nyF (y + 1)) [Value.int y t, Value.int m t2] (fun t => Value.int (mlH y m) t) := by
  unfold CL
  k_fill
  intros; rename_i hret
  walk_at "my_in"
  k_steps
  all_goals (refine' retI hret ?e1 ?e2 ?e3; (case e2 => k_asm); (case e3 => first | k_asm | exact (cb_drop (by assumption) (by with_reducible (first | exact fun _ h => List.mem_cons_of_mem _ h | exact fun _ h => List.mem_cons_of_mem _ (List.mem_cons_of_mem _ h) | exact fun _ h => List.mem_cons_of_mem _ (List.mem_cons_of_mem _ (List.mem_cons_of_mem _ h)))))); (case e1 => rfl))
local macro_rules | `(tactic| walk_at "call ref") => `(tactic| (k_here; (with_reducible show wpAny _ _ (call (Value.ref 106) _) _ _ _); k_dflt ((refine' CL.use (c_md _ _ _ _ _) ?k1 ?k2 ?k3 ?k4 ?k5 ?kK ?kp ?kd ?ku ?_); walk_at "my_use"; walk_at "my_kp"; walk_at "my_ret"); walk_say "c_md"))
end
/- part FC1 -/
section
local macro_rules | `(tactic| walk_at "call ref") => `(tactic| (k_here; (with_reducible show wpAny _ _ (call (Value.ref 64) _) _ _ _); k_dflt ((refine' CL.use (c_leap_h _ _ _) ?k1 ?k2 ?k3 ?k4 ?k5 ?kK ?kp ?kd ?ku ?_); walk_at "my_use"; walk_at "my_kp"; walk_at "my_ret"); walk_say "c_leap_h"))
local macro_rules | `(tactic| walk_at "call ref") => `(tactic| (k_here; (with_reducible show wpAny _ _ (call (Value.ref 78) _) _ _ _); k_dflt ((refine' CL.use (c_delay_1 _ _ _) ?k1 ?k2 ?k3 ?k4 ?k5 ?kK ?kp ?kd ?ku ?_); walk_at "my_use"; walk_at "my_kp"; walk_at "my_ret"); walk_say "c_delay_1"))
local macro_rules | `(tactic| walk_at "call ref") => `(tactic| (k_here; (with_reducible show wpAny _ _ (call (Value.ref 85) _) _ _ _); k_dflt ((refine' CL.use (c_delay_2 _ _ _) ?k1 ?k2 ?k3 ?k4 ?k5 ?kK ?kp ?kd ?ku ?_); walk_at "my_use"; walk_at "my_kp"; walk_at "my_ret"); walk_say "c_delay_2"))
local macro_rules | `(tactic| walk_at "call ref") => `(tactic| (k_here; (with_reducible show wpAny _ _ (call (Value.ref 71) _) _ _ _); k_dflt (walk_at "my_in"); walk_say "IN 71"))
local macro_rules | `(tactic| walk_at "call ref") => `(tactic| (k_here; (with_reducible show wpAny _ _ (call (Value.ref 35) _) _ _ _); k_dflt (walk_at "my_in"); walk_say "IN 35"))
local macro_rules | `(tactic| walk_at "call ref") => `(tactic| (k_here; (with_reducible show wpAny _ _ (call (Value.ref 113) _) _ _ _); k_dflt ((refine' CL.use (c_ny _ _ _ _ _) ?k1 ?k2 ?k3 ?k4 ?k5 ?kK ?kp ?kd ?ku ?_); walk_at "my_use"; walk_at "my_kp"; walk_at "my_ret"); walk_say "c_ny"))
local macro_rules | `(tactic| walk_at "call ref") => `(tactic| (k_here; (with_reducible show wpAny _ _ (call (Value.ref 92) _) _ _ _); k_dflt ((refine' CL.use (c_yd _ _ _) ?k1 ?k2 ?k3 ?k4 ?k5 ?kK ?kp ?kd ?ku ?_); walk_at "my_use"; walk_at "my_kp"; walk_at "my_ret"); walk_say "c_yd"))
local macro_rules | `(tactic| walk_at "call ref") => `(tactic| (k_here; (with_reducible show wpAny _ _ (call (Value.ref 99) _) _ _ _); k_dflt ((refine' CL.use (c_ml _ _ _ _ _) ?k1 ?k2 ?k3 ?k4 ?k5 ?kK ?kp ?kd ?ku ?_); walk_at "my_use"; walk_at "my_kp"; walk_at "my_ret"); walk_say "c_ml"))
local macro_rules | `(tactic| walk_at "call ref") => `(tactic| (k_here; (with_reducible show wpAny _ _ (call (Value.ref 106) _) _ _ _); k_dflt ((refine' CL.use (c_md _ _ _ _ _) ?k1 ?k2 ?k3 ?k4 ?k5 ?kK ?kp ?kd ?ku ?_); walk_at "my_use"; walk_at "my_kp"; walk_at "my_ret"); walk_say "c_md"))
def spF (y : Int) : Int := if lhF y = true then 347996 + d1 y + d2 y + 15 + 1 + mlH y 7 + mlH y 8 + mlH y 9 + mlH y 10 + mlH y 11 + mlH y 12 + mlH y 13
  else 347996 + d1 y + d2 y + 15 + 1 + mlH y 7 + mlH y 8 + mlH y 9 + mlH y 10 + mlH y 11 + mlH y 12
section
variable {y : Int}
theorem sp_a (h : lhF y = true) : 347996 + d1 y + d2 y + 15 + 1 + mlH y (7 + ((0 : Nat) : Int)) + mlH y (7 + ((0 + 1 : Nat) : Int)) + mlH y (7 + ((0 + 1 + 1 : Nat) : Int)) + mlH y (7 + ((0 + 1 + 1 + 1 : Nat) : Int)) + mlH y (7 + ((0 + 1 + 1 + 1 + 1 : Nat) : Int)) + mlH y (7 + ((0 + 1 + 1 + 1 + 1 + 1 : Nat) : Int)) + mlH y (7 + ((0 + 1 + 1 + 1 + 1 + 1 + 1 : Nat) : Int)) = spF y := by
  unfold spF; rw [if_pos h]; rfl
theorem sp_b (h : lhF y = false) : 347996 + d1 y + d2 y + 15 + 1 + mlH y (7 + ((0 : Nat) : Int)) + mlH y (7 + ((0 + 1 : Nat) : Int)) + mlH y (7 + ((0 + 1 + 1 : Nat) : Int)) + mlH y (7 + ((0 + 1 + 1 + 1 : Nat) : Int)) + mlH y (7 + ((0 + 1 + 1 + 1 + 1 : Nat) : Int)) + mlH y (7 + ((0 + 1 + 1 + 1 + 1 + 1 : Nat) : Int)) = spF y := by
  unfold spF; rw [if_neg (by rw [h]; decide)]; rfl
theorem sp_na {P : Prop} (h : lhF y = true) (hp : 0 < spF y) (hn : ¬ 0 < 347996 + d1 y + d2 y + 15 + 1 + mlH y (7 + ((0 : Nat) : Int)) + mlH y (7 + ((0 + 1 : Nat) : Int)) + mlH y (7 + ((0 + 1 + 1 : Nat) : Int)) + mlH y (7 + ((0 + 1 + 1 + 1 : Nat) : Int)) + mlH y (7 + ((0 + 1 + 1 + 1 + 1 : Nat) : Int)) + mlH y (7 + ((0 + 1 + 1 + 1 + 1 + 1 : Nat) : Int)) + mlH y (7 + ((0 + 1 + 1 + 1 + 1 + 1 + 1 : Nat) : Int))) : P := absurd (by rw [sp_a h]; exact hp) hn
theorem sp_nb {P : Prop} (h : lhF y = false) (hp : 0 < spF y) (hn : ¬ 0 < 347996 + d1 y + d2 y + 15 + 1 + mlH y (7 + ((0 : Nat) : Int)) + mlH y (7 + ((0 + 1 : Nat) : Int)) + mlH y (7 + ((0 + 1 + 1 : Nat) : Int)) + mlH y (7 + ((0 + 1 + 1 + 1 : Nat) : Int)) + mlH y (7 + ((0 + 1 + 1 + 1 + 1 : Nat) : Int)) + mlH y (7 + ((0 + 1 + 1 + 1 + 1 + 1 : Nat) : Int))) : P := absurd (by rw [sp_b h]; exact hp) hn
end
local macro_rules | `(tactic| walk_at "pyIter ref") => `(tactic| ((with_reducible show wpAny _ _ (pyIter (Value.ref _)) (fun it s₂ => LoopAtV _ _ _ _ _ _ _ _ _ it s₂) _ _); l_hasStore; k_rangeUnr; walk_say "UNROLLED"))
set_option maxHeartbeats 2000000 in
theorem c_sp (w : World) (y : Int) (t t2 t3 : CbTok) : CL w 113 14 (0 < nyF y ∧ 0 < nyF (y + 1) ∧ 0 < spF y) [Value.int y t, Value.int 1 t2, Value.int 15 t3] (fun t => Value.int (spF y) t) := by
  unfold CL
  k_fill
  intros; rename_i hret
  walk_at "my_in"
  k_steps
  all_goals (rename (_ ∧ _ ∧ 0 < spF _) => hp)
  all_goals first
    | with_reducible exact sp_na (by assumption) hp.2.2 (by assumption)
    | with_reducible exact sp_nb (by assumption) hp.2.2 (by assumption)
    | (refine' retI hret ?e1 ?e2 ?e3; (case e2 => k_asm); (case e3 => with_reducible first | assumption | exact (cb_drop (by assumption) (by with_reducible (first | exact fun _ h => List.mem_cons_of_mem _ h | exact fun _ h => List.mem_cons_of_mem _ (List.mem_cons_of_mem _ h) | exact fun _ h => List.mem_cons_of_mem _ (List.mem_cons_of_mem _ (List.mem_cons_of_mem _ h)))))); (case e1 => with_reducible first | exact sp_a (by assumption) | exact sp_b (by assumption)))
end
/- part FE1 -/
section
local macro_rules | `(tactic| walk_at "call ref") => `(tactic| (k_here; (with_reducible show wpAny _ _ (call (Value.ref 50) _) _ _ _); k_dflt ((refine' CL.use (c_to_jd_g _ _ _ _ _ _ _) ?k1 ?k2 ?k3 ?k4 ?k5 ?kK ?kp ?kd ?ku ?_); walk_at "my_use"; (case kp => exact (fj_legal _).2.2); walk_at "my_ret"); walk_say "c_to_jd_g"))
local macro_rules | `(tactic| walk_at "call ref") => `(tactic| (k_here; (with_reducible show wpAny _ _ (call (Value.ref 57) _) _ _ _); k_dflt ((refine' CT.use (c_from_jd _ _ _) ?k1 ?k2 ?k3 ?k4 ?k5 ?kK ?kp ?kd ?ku ?_); walk_at "my_use"; walk_at "my_kp"; walk_at "my_retT"); walk_say "c_from_jd"))
local macro_rules | `(tactic| walk_at "call ref") => `(tactic| (k_here; (with_reducible show wpAny _ _ (call (Value.ref 113) _) _ _ _); k_dflt ((refine' CL.use (c_sp _ _ _ _ _) ?k1 ?k2 ?k3 ?k4 ?k5 ?kK ?kp ?kd ?ku ?_); walk_at "my_use"; (case kp => (rename (_ ∧ _ ∧ _ ∧ fjY _ = _) => hgy; exact ⟨hgy.1, hgy.2.1, hgy.2.2.1⟩)); walk_at "my_ret"); walk_say "c_sp"))
def GyP (g : Int) : Prop := 0 < nyF (g + 3760) ∧ 0 < nyF (g + 3760 + 1) ∧ 0 < spF (g + 3760) ∧ fjY (spF (g + 3760)) = g
set_option maxHeartbeats 2000000 in
theorem c_gy (w : World) (g : Int) (t t2 t3 : CbTok) : CL w 120 18 (0 < nyF (g + 3760) ∧ 0 < nyF (g + 3760 + 1) ∧ 0 < spF (g + 3760) ∧ fjY (spF (g + 3760)) = g) [Value.int g t, Value.int 1 t2, Value.int 15 t3] (fun t => Value.int (spF (g + 3760)) t) := by
  unfold CL
  k_fill
  intros; rename_i hret
  walk_at "my_in"
  k_steps
  all_goals (rename (_ ∧ _ ∧ _ ∧ fjY _ = _) => hp)
  all_goals first | exact absurd hp.2.2.2 (by with_reducible assumption) | (refine' retI hret ?e1 ?e2 ?e3; (case e2 => k_asm); (case e3 => with_reducible first | assumption | exact (cb_drop (by assumption) (by with_reducible (first | exact fun _ h => List.mem_cons_of_mem _ h | exact fun _ h => List.mem_cons_of_mem _ (List.mem_cons_of_mem _ h) | exact fun _ h => List.mem_cons_of_mem _ (List.mem_cons_of_mem _ (List.mem_cons_of_mem _ h)))))); (case e1 => exact fj_inv _))
local macro_rules | `(tactic| walk_at "call ref") => `(tactic| (k_here; (with_reducible show wpAny _ _ (call (Value.ref 120) _) _ _ _); k_dflt ((refine' CL.use (c_gy _ _ _ _ _) ?k1 ?k2 ?k3 ?k4 ?k5 ?kK ?kp ?kd ?ku ?_); walk_at "my_use"; walk_at "my_kp"; walk_at "my_ret"); walk_say "c_gy"))
set_option maxHeartbeats 2000000 in
theorem c_pass (w : World) (g : Int) (t : CbTok) : CT w 187 22 (0 < nyF (g + 3760) ∧ 0 < nyF (g + 3760 + 1) ∧ 0 < spF (g + 3760) ∧ fjY (spF (g + 3760)) = g) [Value.int g t] (fjY (spF (g + 3760))) (fjM (spF (g + 3760)) (fjY (spF (g + 3760)))) (fjD (spF (g + 3760)) (fjY (spF (g + 3760)))) := by
  unfold CT
  k_fill
  intros; rename_i hret
  walk_at "my_in"
  k_steps
  all_goals (refine' retT hret ?e1 ?e2 ?e3 ?e4 ?e5 ?e6 ?e7; walk_at "my_tup"; (case e1 => rfl); (case e2 => rfl); (case e3 => rfl))
end
/- part FE2 -/
section
section
variable {a : Int}
theorem tr_1 (h : 0 ≤ a) : (if a < 0 then -a else a).fdiv (if (31 : Int) < 0 then -31 else 31) = a.fdiv 31 := by
  rw [if_neg (by omega), if_neg (by decide)]
theorem tr_2 {P : Prop} (h : 0 ≤ a) (e : (decide (a < 0) == decide ((31 : Int) < 0)) = false) : P := by
  rw [decide_eq_false (by omega : ¬ a < 0)] at e
  exact absurd e (by decide)
end
set_option maxHeartbeats 2000000 in
theorem c_trunc (w : World) (a : Int) (t t2 : CbTok) : CL w 28 1 (0 ≤ a) [Value.int a t, Value.int 31 t2] (fun t => Value.int (a.fdiv 31) t) := by
  unfold CL
  k_fill
  intros; rename_i hret
  walk_at "my_in"
  k_steps
  all_goals first | exact tr_2 (a := a) (by assumption) (by assumption) | (refine' retI hret ?e1 ?e2 ?e3; (case e2 => k_asm); (case e3 => with_reducible first | assumption | exact (cb_drop (by assumption) (by with_reducible (first | exact fun _ h => List.mem_cons_of_mem _ h | exact fun _ h => List.mem_cons_of_mem _ (List.mem_cons_of_mem _ h) | exact fun _ h => List.mem_cons_of_mem _ (List.mem_cons_of_mem _ (List.mem_cons_of_mem _ h)))))); (case e1 => exact tr_1 (by assumption)))
def ejd (y : Int) : Int := (19 * y.fmod 19 + 15).fmod 30
def eje (y : Int) : Int := (2 * y.fmod 4 + 4 * y.fmod 7 - ejd y + 6).fmod 7
def ejm (y : Int) : Int := 113 + ejd y + eje y + 1
theorem ej_pos (a b : Int) : 0 ≤ 113 + a.fmod 30 + b.fmod 7 + 1 := by
  have := Int.fmod_nonneg_of_pos a (show (0:Int) < 30 by decide)
  have := Int.fmod_nonneg_of_pos b (show (0:Int) < 7 by decide)
  omega
abbrev LegJ (m d : Int) : Prop := 2 < m ∧ 0 < d ∧ (d ≤ 30 ∨ (d ≤ 31 ∧ m ≠ 4 ∧ m ≠ 6 ∧ m ≠ 9 ∧ m ≠ 11))
theorem ej_legal (y : Int) : LegJ ((ejm y).fdiv 31) ((ejm y).fmod 31 + 1) := by
  have h1 : 0 ≤ ejd y ∧ ejd y < 30 := ⟨Int.fmod_nonneg_of_pos _ (by decide), Int.fmod_lt_of_pos _ (by decide)⟩
  have h2 : 0 ≤ eje y ∧ eje y < 7 := ⟨Int.fmod_nonneg_of_pos _ (by decide), Int.fmod_lt_of_pos _ (by decide)⟩
  unfold LegJ ejm
  rw [Int.fdiv_eq_ediv_of_nonneg _ (show (0:Int) ≤ 31 by decide), Int.fmod_eq_emod_of_nonneg _ (show (0:Int) ≤ 31 by decide)]
  omega
def jjd (y m d : Int) : Int := (1461 * (y + 4716)).fdiv 4 + (306001 * (m + 1)).fdiv 10000 + d - 1524
def EJ (y : Int) : Int := jjd y ((ejm y).fdiv 31) ((ejm y).fmod 31 + 1)
local macro_rules | `(tactic| walk_at "call ref") => `(tactic| (k_here; (with_reducible show wpAny _ _ (call (Value.ref 28) _) _ _ _); k_dflt ((refine' CL.use (c_trunc _ _ _ _) ?k1 ?k2 ?k3 ?k4 ?k5 ?kK ?kp ?kd ?ku ?_); walk_at "my_use"; (case kp => exact ej_pos _ _); walk_at "my_ret"); walk_say "c_trunc"))
set_option maxHeartbeats 2000000 in
theorem c_ej (w : World) (y : Int) (t : CbTok) : CT w 179 4 (True) [Value.int y t] y ((ejm y).fdiv 31) ((ejm y).fmod 31 + 1) := by
  unfold CT
  k_fill
  intros; rename_i hret
  walk_at "my_in"
  k_steps
  all_goals (refine' retT hret ?e1 ?e2 ?e3 ?e4 ?e5 ?e6 ?e7; walk_at "my_tup"; (case e1 => rfl); (case e2 => rfl); (case e3 => rfl))
local macro_rules | `(tactic| walk_at "call ref") => `(tactic| (k_here; (with_reducible show wpAny _ _ (call (Value.ref 135) _) _ _ _); k_dflt (walk_at "my_in"); walk_say "IN 135"))
set_option maxHeartbeats 2000000 in
theorem c_legal_j (w : World) (y m d : Int) (t t2 t3 : CbTok) : CL w 142 5 (2 < m ∧ 0 < d ∧ (d ≤ 30 ∨ (d ≤ 31 ∧ m ≠ 4 ∧ m ≠ 6 ∧ m ≠ 9 ∧ m ≠ 11))) [Value.int y t, Value.int m t2, Value.int d t3] (fun _ => Value.bool true) := by
  unfold CL
  k_fill
  intros; rename_i hret
  walk_at "my_in"
  k_steps
  all_goals first | (exfalso; omega) | (refine' retB hret ?e1 ?e2 ?e3; (case e2 => k_asm); (case e3 => with_reducible first | assumption | exact (cb_drop (by assumption) (by with_reducible (first | exact fun _ h => List.mem_cons_of_mem _ h | exact fun _ h => List.mem_cons_of_mem _ (List.mem_cons_of_mem _ h) | exact fun _ h => List.mem_cons_of_mem _ (List.mem_cons_of_mem _ (List.mem_cons_of_mem _ h)))))); (case e1 => rfl))
local macro_rules | `(tactic| walk_at "call ref") => `(tactic| (k_here; (with_reducible show wpAny _ _ (call (Value.ref 142) _) _ _ _); k_dflt ((refine' CL.use (c_legal_j _ _ _ _ _ _ _) ?k1 ?k2 ?k3 ?k4 ?k5 ?kK ?kp ?kd ?ku ?_); walk_at "my_use"; walk_at "my_kp"; walk_at "my_ret"); walk_say "c_legal_j"))
set_option maxHeartbeats 2000000 in
theorem c_to_jd_j (w : World) (y m d : Int) (t t2 t3 : CbTok) : CL w 149 7 (2 < m ∧ 0 < d ∧ (d ≤ 30 ∨ (d ≤ 31 ∧ m ≠ 4 ∧ m ≠ 6 ∧ m ≠ 9 ∧ m ≠ 11))) [Value.int y t, Value.int m t2, Value.int d t3] (fun t => Value.int (jjd y m d) t) := by
  unfold CL
  k_fill
  intros; rename_i hret
  walk_at "my_in"
  k_steps
  all_goals (refine' retI hret ?e1 ?e2 ?e3; (case e2 => k_asm); (case e3 => with_reducible first | assumption | exact (cb_drop (by assumption) (by with_reducible (first | exact fun _ h => List.mem_cons_of_mem _ h | exact fun _ h => List.mem_cons_of_mem _ (List.mem_cons_of_mem _ h) | exact fun _ h => List.mem_cons_of_mem _ (List.mem_cons_of_mem _ (List.mem_cons_of_mem _ h)))))); (case e1 => rfl))
local macro_rules | `(tactic| walk_at "call ref") => `(tactic| (k_here; (with_reducible show wpAny _ _ (call (Value.ref 149) _) _ _ _); k_dflt ((refine' CL.use (c_to_jd_j _ _ _ _ _ _ _) ?k1 ?k2 ?k3 ?k4 ?k5 ?kK ?kp ?kd ?ku ?_); walk_at "my_use"; walk_at "my_kp"; walk_at "my_ret"); walk_say "c_to_jd_j"))
local macro_rules | `(tactic| walk_at "call ref") => `(tactic| (k_here; (with_reducible show wpAny _ _ (call (Value.ref 57) _) _ _ _); k_dflt ((refine' CT.use (c_from_jd _ _ _) ?k1 ?k2 ?k3 ?k4 ?k5 ?kK ?kp ?kd ?ku ?_); walk_at "my_use"; walk_at "my_kp"; walk_at "my_retT"); walk_say "c_from_jd"))
set_option maxHeartbeats 2000000 in
theorem c_to_g (w : World) (y m d : Int) (t t2 t3 : CbTok) : CT w 156 10 (2 < m ∧ 0 < d ∧ (d ≤ 30 ∨ (d ≤ 31 ∧ m ≠ 4 ∧ m ≠ 6 ∧ m ≠ 9 ∧ m ≠ 11))) [Value.int y t, Value.int m t2, Value.int d t3] (fjY (jjd y m d)) (fjM (jjd y m d) (fjY (jjd y m d))) (fjD (jjd y m d) (fjY (jjd y m d))) := by
  unfold CT
  k_fill
  intros; rename_i hret
  walk_at "my_in"
  k_steps
  all_goals (refine' retT hret ?e1 ?e2 ?e3 ?e4 ?e5 ?e6 ?e7; walk_at "my_tup"; (case e1 => rfl); (case e2 => rfl); (case e3 => rfl))
local macro_rules | `(tactic| walk_at "call ref") => `(tactic| (k_here; (with_reducible show wpAny _ _ (call (Value.ref 156) _) _ _ _); k_dflt ((refine' CT.use (c_to_g _ _ _ _ _ _ _) ?k1 ?k2 ?k3 ?k4 ?k5 ?kK ?kp ?kd ?ku ?_); walk_at "my_use"; (case kp => exact ej_legal _); walk_at "my_retT"); walk_say "c_to_g"))
local macro_rules | `(tactic| walk_at "call ref") => `(tactic| (k_here; (with_reducible show wpAny _ _ (call (Value.ref 179) _) _ _ _); k_dflt ((refine' CT.use (c_ej _ _ _) ?k1 ?k2 ?k3 ?k4 ?k5 ?kK ?kp ?kd ?ku ?_); walk_at "my_use"; walk_at "my_kp"; walk_at "my_retT"); walk_say "c_ej"))
set_option maxHeartbeats 2000000 in
theorem c_easter (w : World) (y : Int) (t t2 : CbTok) : CT w 164 14 (True) [Value.int y t, Value.str (PySem.Str.ofString "orthodox") t2] (fjY (EJ y)) (fjM (EJ y) (fjY (EJ y))) (fjD (EJ y) (fjY (EJ y))) := by
  unfold CT
  k_fill
  intros; rename_i hret
  walk_at "my_in"
  k_steps
  all_goals (refine' retT hret ?e1 ?e2 ?e3 ?e4 ?e5 ?e6 ?e7; walk_at "my_tup"; (case e1 => rfl); (case e2 => rfl); (case e3 => rfl))
end
/- part FG1 -/
section
local macro_rules | `(tactic| walk_at "ite") => `(tactic| (k_here; (try dsimp only); first | (k_closed; k_dflt (first | refine ite_pos (by decide) ?_ | refine ite_neg (by decide) ?_)) | k_dflt (first | (refine split_dec ?_ ?_ <;> intro _) | (refine split_bool ?_ ?_ <;> intro _)); walk_say "PLAIN SPLIT"))
local macro_rules | `(tactic| walk_at "compareOp In int ref") => `(tactic| (k_here; (with_reducible refine' in_tup_N ?q1 ?q4 ?q5 ?q6 ?q7 ?_; (case q1 => assumption)); k_dflt ((case q4 => exact rfl); (case q5 => exact rfl); (case q6 => (repeat constructor)); (case q7 => exact rfl)); walk_say "IN NEW"))
def lmS (b : Bool) (w g p m : Int) : Int := if b = true then m + 1 else if w = 1 ∧ 6 < g ∧ 311676 ≤ p then m + 2 else if w = 0 ∧ 11 < g ∧ 442111 ≤ p then m + 1 else m
section
variable {b : Bool} {w g p m : Int}
theorem lm_a (h : b = true) : m + 1 = lmS b w g p m := by unfold lmS; rw [if_pos h]
theorem lm_b (h : b = false) (h1 : w = 1) (h2 : 6 < g) (h3 : 311676 ≤ p) : m + 2 = lmS b w g p m := by
  unfold lmS; rw [if_neg (by rw [h]; decide), if_pos ⟨h1, h2, h3⟩]
theorem lm_c (h : b = false) (n : ¬ (w = 1 ∧ 6 < g ∧ 311676 ≤ p)) (h1 : w = 0) (h2 : 11 < g) (h3 : 442111 ≤ p) : m + 1 = lmS b w g p m := by
  unfold lmS; rw [if_neg (by rw [h]; decide), if_neg n, if_pos ⟨h1, h2, h3⟩]
theorem lm_d (h : b = false) (n : ¬ (w = 1 ∧ 6 < g ∧ 311676 ≤ p)) (n2 : ¬ (w = 0 ∧ 11 < g ∧ 442111 ≤ p)) : m = lmS b w g p m := by
  unfold lmS; rw [if_neg (by rw [h]; decide), if_neg n, if_neg n2]
end
def lmR (y : Int) : Int := lmS (([2, 4, 6] : List Int).any (fun x => x == ((32 * 492480 + 21715 + 765433 * (12 * y + 17).fmod 19 + 123120 * y.fmod 4 - 1565 * y).fdiv 492480 + 3 * y + 5 * y.fmod 4 + 5).fmod 7)) (((32 * 492480 + 21715 + 765433 * (12 * y + 17).fmod 19 + 123120 * y.fmod 4 - 1565 * y).fdiv 492480 + 3 * y + 5 * y.fmod 4 + 5).fmod 7) ((12 * y + 17).fmod 19) ((32 * 492480 + 21715 + 765433 * (12 * y + 17).fmod 19 + 123120 * y.fmod 4 - 1565 * y).fmod 492480) ((32 * 492480 + 21715 + 765433 * (12 * y + 17).fmod 19 + 123120 * y.fmod 4 - 1565 * y).fdiv 492480)
set_option maxHeartbeats 2000000 in
theorem c_lm (w : World) (y : Int) (t : CbTok) : CL w 204 2 (True) [Value.int y t] (fun t => Value.int (lmR y) t) := by
  unfold CL
  k_fill
  intros; rename_i hret
  walk_at "my_in"
  k_steps
  all_goals (refine' retI hret ?e1 ?e2 ?e3; (case e2 => k_asm); (case e3 => with_reducible first | assumption | exact (cb_drop (by assumption) (by with_reducible (first | exact fun _ h => List.mem_cons_of_mem _ h | exact fun _ h => List.mem_cons_of_mem _ (List.mem_cons_of_mem _ h) | exact fun _ h => List.mem_cons_of_mem _ (List.mem_cons_of_mem _ (List.mem_cons_of_mem _ h)))))); (case e1 => (unfold lmR; with_reducible first | exact lm_a (by assumption) | exact lm_b (by assumption) (by assumption) (by assumption) (by assumption) | exact lm_c (by assumption) (fun e => by first | exact absurd e.1 (by assumption) | exact absurd e.2.1 (by assumption) | exact absurd e.2.2 (by assumption)) (by assumption) (by assumption) (by assumption) | exact lm_d (by assumption) (fun e => by first | exact absurd e.1 (by assumption) | exact absurd e.2.1 (by assumption) | exact absurd e.2.2 (by assumption)) (fun e => by first | exact absurd e.1 (by assumption) | exact absurd e.2.1 (by assumption) | exact absurd e.2.2 (by assumption)))))
end
/- part FG2 -/
section
theorem fm19_0 (y : Int) : 0 ≤ y.fmod 19 := Int.fmod_nonneg_of_pos _ (by decide)
theorem fm19_1 (y : Int) : y.fmod 19 < ([36, 25, 44, 33, 22, 41, 30, 49, 38, 27, 46, 35, 24, 43, 32, 21, 40, 29, 48] : List Int).length := Int.fmod_lt_of_pos _ (by decide)
theorem fm19_2 (y : Int) : y.fmod 19 < 2 ^ 63 := Int.lt_trans (fm19_1 y) (by decide)
local macro_rules | `(tactic| walk_at "subscriptTail") => `(tactic| (k_here; (with_reducible show wpAny _ _ (subscriptTail _ _ (Value.ref _) (Value.int _ _)) _ _ _); (with_reducible refine' topTupAny_K ?F ?X ?l ?i (fm19_0 _) ?k4 (fm19_2 _) ?_ ?hs); k_dflt ((case F => k_asm); (case X => k_asm); (case l => k_is); (case i => l_ints); (case k4 => exact fm19_1 _)); (case hs => with_unfolding_all rfl); (intro _); walk_say "ITEM"))
def mnF (y : Int) : Int := ([36, 25, 44, 33, 22, 41, 30, 49, 38, 27, 46, 35, 24, 43, 32, 21, 40, 29, 48] : List Int).getD (y.fmod 19).toNat 0
def lsF (y : Int) : Int := 1721117 + 365 * y + y.fdiv 4 + mnF y + 1 + (5 - (1721117 + 365 * y + y.fdiv 4 + mnF y)).fmod 7
set_option maxHeartbeats 2000000 in
theorem c_ls (w : World) (y : Int) (t : CbTok) : CL w 211 2 (True) [Value.int y t] (fun t => Value.int (lsF y) t) := by
  unfold CL
  k_fill
  intros; rename_i hret
  walk_at "my_in"
  k_steps
  all_goals (refine' retI hret ?e1 ?e2 ?e3; (case e2 => k_asm); (case e3 => with_reducible first | assumption | exact (cb_drop (by assumption) (by with_reducible (first | exact fun _ h => List.mem_cons_of_mem _ h | exact fun _ h => List.mem_cons_of_mem _ (List.mem_cons_of_mem _ h) | exact fun _ h => List.mem_cons_of_mem _ (List.mem_cons_of_mem _ (List.mem_cons_of_mem _ h)))))); (case e1 => rfl))
local macro_rules | `(tactic| walk_at "call ref") => `(tactic| (k_here; (with_reducible show wpAny _ _ (call (Value.ref 50) _) _ _ _); k_dflt ((refine' CL.use (c_to_jd_g _ _ _ _ _ _ _) ?k1 ?k2 ?k3 ?k4 ?k5 ?kK ?kp ?kd ?ku ?_); walk_at "my_use"; (case kp => first | exact ⟨by decide, Or.inl (by decide)⟩ | assumption); walk_at "my_ret"); walk_say "c_to_jd_g"))
set_option maxHeartbeats 2000000 in
theorem c_fg (w : World) (y m d : Int) (t1 t2 t3 : CbTok) : CL w 194 7 (LegG y m d) [Value.int y t1, Value.int m t2, Value.int d t3] (fun t => Value.int (gjd y m d) t) := by
  unfold CL LegG
  k_fill
  intros; rename_i hret
  walk_at "my_in"
  k_steps
  all_goals (refine' retI hret ?e1 ?e2 ?e3; (case e2 => k_asm); (case e3 => with_reducible first | assumption | exact (cb_drop (by assumption) (by with_reducible (first | exact fun _ h => List.mem_cons_of_mem _ h | exact fun _ h => List.mem_cons_of_mem _ (List.mem_cons_of_mem _ h) | exact fun _ h => List.mem_cons_of_mem _ (List.mem_cons_of_mem _ (List.mem_cons_of_mem _ h)))))); (case e1 => rfl))
end
/- part FG4 -/
section
local macro_rules | `(tactic| walk_at "eval ListComp") => `(tactic| (k_here; (rename Fr _ _ _ _ => lF'); k_dflt (refine ListComp_tup lF' (by with_unfolding_all rfl) (by decide) (by rfl) (by decide) (by rfl) ?_); walk_say "COMP"))
local macro_rules | `(tactic| walk_at "SrcTup") => `(tactic| (k_here; (rename Fr _ _ _ _ => lF'); (rename News _ _ _ _ => lN'); k_dflt (refine' SrcTup.head ?q1 lF' lN' ?q2 ?_; (case q1 => rfl); (case q2 => exact Nat.le_of_ble_eq_true rfl)); intro g'; walk_say "SRC"))
local macro_rules | `(tactic| walk_at "CompRestT") => `(tactic| (k_here; (with_unfolding_all first | (refine PyProof.Rows.LCt.CompRestT.succ ?_; intro v' I' oI' C' oC' D' m' h' tk' E' hv' hC' hx' F' N' off' ne'; lcg_open hv') | refine PyProof.Rows.LCt.CompRestT.zero ?_); walk_say "TURN"))
local macro_rules | `(tactic| walk_at "CompEnd") => `(tactic| (k_here; k_dflt (refine' compEnd_one ?q1 ?q2 ?q3 ?q4 ?_; (case q1 => assumption); (case q2 => assumption); (case q3 => assumption); (case q4 => exact List.mem_cons_self)); walk_say "TURN END"))
set_option maxHeartbeats 2000000 in
theorem c_plain (w : World) (D : Addr) (x y z : Int) (t1 t2 t3 : CbTok) (c : Nat) (rest : List (Addr × Obj)) : CN w 223 3 True [Value.ref D] ((D, ({ cls := .type "tuple", data := .seq #[.int x t1, .int y t2, .int z t3] c } : Obj)) :: rest) (fun _ => Value.bool true) := by
  unfold CN
  k_fill
  intros; rename_i hret
  walk_at "my_in"
  k_steps
  all_goals (refine' retB hret ?e1 ?e2 ?e3; (case e2 => k_asm); (case e3 => with_reducible first | assumption | exact (cb_drop (by assumption) (by with_reducible (first | exact fun _ h => List.mem_cons_of_mem _ h | exact fun _ h => List.mem_cons_of_mem _ (List.mem_cons_of_mem _ h) | exact fun _ h => List.mem_cons_of_mem _ (List.mem_cons_of_mem _ (List.mem_cons_of_mem _ h)))))); (case e1 => rfl))
end
/- part M3 -/
section
theorem d0_eq (y : Int) : d0 y = (235 * y - 234) / 19 * 29 + (12084 + 13753 * ((235 * y - 234) / 19)) / 25920 := by
  unfold d0
  rw [Int.fdiv_eq_ediv_of_nonneg _ (show (0:Int) ≤ 19 by decide), Int.fdiv_eq_ediv_of_nonneg _ (show (0:Int) ≤ 25920 by decide)]
/-- the molad: months, rest, day, parts -/
theorem mol (y : Int) : ∃ M r D R : Int, 235 * y - 234 = 19 * M + r ∧ 0 ≤ r ∧ r < 19 ∧ 12084 + 765433 * M = 25920 * D + R ∧ 0 ≤ R ∧ R < 25920 ∧ d0 y = D := by
  refine ⟨(235 * y - 234) / 19, (235 * y - 234) % 19, (12084 + 765433 * ((235 * y - 234) / 19)) / 25920, (12084 + 765433 * ((235 * y - 234) / 19)) % 25920, by omega, by omega, by omega, by omega, by omega, by omega, ?_⟩
  rw [d0_eq]; omega
def pst (D : Int) : Int := if D % 7 = 2 ∨ D % 7 = 4 ∨ D % 7 = 6 then 1 else 0
theorem d1_eq (y : Int) : d1 y = d0 y + pst (d0 y) := by
  unfold d1 pst
  rw [Int.fmod_eq_emod_of_nonneg _ (show (0:Int) ≤ 7 by decide)]
  generalize d0 y = D
  have h7 : D % 7 = 0 ∨ D % 7 = 1 ∨ D % 7 = 2 ∨ D % 7 = 3 ∨ D % 7 = 4 ∨ D % 7 = 5 ∨ D % 7 = 6 := by omega
  by_cases h : D % 7 = 2 ∨ D % 7 = 4 ∨ D % 7 = 6
  · rw [if_pos h, if_pos (by rcases h7 with e | e | e | e | e | e | e <;> omega)]
  · rw [if_neg h, if_neg (by rcases h7 with e | e | e | e | e | e | e <;> omega)]; omega
/-- one year on -/
theorem mol_next (y : Int) : ∃ r D R D' R' : Int, 235 * y - 234 = 19 * ((235 * y - 234) / 19) + r ∧ 0 ≤ r ∧ r < 19 ∧ 0 ≤ R ∧ R < 25920 ∧ d0 y = D ∧ d0 (y + 1) = D' ∧
    12084 + 765433 * ((235 * y - 234) / 19) = 25920 * D + R ∧
    (r < 12 ∧ ((R < 16404 ∧ D' = D + 354 ∧ R' = R + 9516) ∨ (16404 ≤ R ∧ D' = D + 355 ∧ R' = R - 16404)) ∨
     12 ≤ r ∧ ((R < 2651 ∧ D' = D + 383 ∧ R' = R + 23269) ∨ (2651 ≤ R ∧ D' = D + 384 ∧ R' = R - 2651))) ∧
    12084 + 765433 * ((235 * (y + 1) - 234) / 19) = 25920 * D' + R' := by
  obtain ⟨M, r, D, R, h1, h2, h3, h4, h5, h6, h7⟩ := mol y
  obtain ⟨M', r', D', R', k1, k2, k3, k4, k5, k6, k7⟩ := mol (y + 1)
  have hM : (235 * y - 234) / 19 = M := by omega
  have hM' : (235 * (y + 1) - 234) / 19 = M' := by omega
  refine ⟨r, D, R, D', R', by omega, h2, h3, h5, h6, h7, k7, by rw [hM]; omega, ?_, by rw [hM']; omega⟩
  by_cases hr : r < 12
  · left
    have : M' = M + 12 := by omega
    subst this
    refine ⟨hr, ?_⟩
    by_cases hR : R < 16404
    · left; omega
    · right; omega
  · right
    have : M' = M + 13 := by omega
    subst this
    refine ⟨by omega, ?_⟩
    by_cases hR : R < 2651
    · left; omega
    · right; omega
end
/- part M4 -/
section
theorem lhF_eq (y : Int) : lhF y = decide ((y * 7 + 1) % 19 < 7) := by
  unfold lhF; rw [Int.fmod_eq_emod_of_nonneg _ (show (0:Int) ≤ 19 by decide)]
theorem pst_01 (D : Int) : pst D = 0 ∧ ¬ (D % 7 = 2 ∨ D % 7 = 4 ∨ D % 7 = 6) ∨ pst D = 1 ∧ (D % 7 = 2 ∨ D % 7 = 4 ∨ D % 7 = 6) := by
  unfold pst
  by_cases h : D % 7 = 2 ∨ D % 7 = 4 ∨ D % 7 = 6
  · right; rw [if_pos h]; exact ⟨rfl, h⟩
  · left; rw [if_neg h]; exact ⟨rfl, h⟩
/-- the second delay, by the rest of the months, the parts and the day -/
theorem d2_core (r R D Rp Dp Rn Dn : Int) (hR : 0 ≤ R ∧ R < 25920)
    (hn : r < 12 ∧ ((R < 16404 ∧ Dn = D + 354) ∨ (16404 ≤ R ∧ Dn = D + 355)) ∨ 12 ≤ r ∧ ((R < 2651 ∧ Dn = D + 383) ∨ (2651 ≤ R ∧ Dn = D + 384)))
    (hp : 7 ≤ r ∧ ((R < 9516 ∧ D = Dp + 355) ∨ (9516 ≤ R ∧ D = Dp + 354)) ∨ r < 7 ∧ ((R < 23269 ∧ D = Dp + 384) ∨ (23269 ≤ R ∧ D = Dp + 383))) :
    (if Dn + pst Dn - (D + pst D) = 356 then (2 : Int) else if D + pst D - (Dp + pst Dp) = 382 then 1 else 0) =
      if D % 7 = 1 ∧ r < 12 ∧ 16404 ≤ R then 2 else if D % 7 = 0 ∧ r < 7 ∧ 23269 ≤ R then 1 else 0 := by
  have h7 : D % 7 = 0 ∨ D % 7 = 1 ∨ D % 7 = 2 ∨ D % 7 = 3 ∨ D % 7 = 4 ∨ D % 7 = 5 ∨ D % 7 = 6 := by omega
  have e1 : (Dn + pst Dn - (D + pst D) = 356) ↔ (D % 7 = 1 ∧ r < 12 ∧ 16404 ≤ R) := by
    rcases pst_01 Dn with ⟨a, a'⟩ | ⟨a, a'⟩ <;> rcases pst_01 D with ⟨b, b'⟩ | ⟨b, b'⟩ <;> rw [a, b] <;>
      (rcases hn with ⟨x, ⟨y, z⟩ | ⟨y, z⟩⟩ | ⟨x, ⟨y, z⟩ | ⟨y, z⟩⟩) <;> subst z <;> (constructor <;> intro h <;> omega)
  have e2 : (D + pst D - (Dp + pst Dp) = 382) ↔ (D % 7 = 0 ∧ r < 7 ∧ 23269 ≤ R) := by
    rcases pst_01 Dp with ⟨a, a'⟩ | ⟨a, a'⟩ <;> rcases pst_01 D with ⟨b, b'⟩ | ⟨b, b'⟩ <;> rw [a, b] <;>
      (rcases hp with ⟨x, ⟨y, z⟩ | ⟨y, z⟩⟩ | ⟨x, ⟨y, z⟩ | ⟨y, z⟩⟩) <;> (constructor <;> intro h <;> omega)
  by_cases c1 : D % 7 = 1 ∧ r < 12 ∧ 16404 ≤ R
  · rw [if_pos (e1.mpr c1), if_pos c1]
  · rw [if_neg (fun h => c1 (e1.mp h)), if_neg c1]
    by_cases c2 : D % 7 = 0 ∧ r < 7 ∧ 23269 ≤ R
    · rw [if_pos (e2.mpr c2), if_pos c2]
    · rw [if_neg (fun h => c2 (e2.mp h)), if_neg c2]
/-- all about a new year -/
def YrIs (y M r D R : Int) : Prop := 235 * y - 234 = 19 * M + r ∧ 0 ≤ r ∧ r < 19 ∧ 12084 + 765433 * M = 25920 * D + R ∧ 0 ≤ R ∧ R < 25920 ∧ d1 y = D + pst D ∧
  d2 y = (if D % 7 = 1 ∧ r < 12 ∧ 16404 ≤ R then 2 else if D % 7 = 0 ∧ r < 7 ∧ 23269 ≤ R then 1 else 0)
theorem yr_is (y : Int) : ∃ M r D R : Int, YrIs y M r D R := by
  obtain ⟨M, r, D, R, h1, h2, h3, h4, h5, h6, h7⟩ := mol y
  refine ⟨M, r, D, R, h1, h2, h3, h4, h5, h6, by rw [d1_eq, h7], ?_⟩
  obtain ⟨M', r', D', R', k1, k2, k3, k4, k5, k6, k7⟩ := mol (y + 1)
  obtain ⟨Mp, rp, Dp, Rp, p1, p2, p3, p4, p5, p6, p7⟩ := mol (y - 1)
  unfold d2
  rw [d1_eq y, d1_eq (y + 1), d1_eq (y - 1), h7, k7, p7]
  refine d2_core r R D Rp Dp R' D' ⟨h5, h6⟩ ?_ ?_
  · by_cases hr : r < 12
    · left
      have : M' = M + 12 := by omega
      subst this
      refine ⟨hr, ?_⟩
      by_cases hR : R < 16404
      · left; omega
      · right; omega
    · right
      have : M' = M + 13 := by omega
      subst this
      refine ⟨by omega, ?_⟩
      by_cases hR : R < 2651
      · left; omega
      · right; omega
  · by_cases hr : 7 ≤ r
    · left
      have : M = Mp + 12 := by omega
      subst this
      refine ⟨hr, ?_⟩
      by_cases hR : R < 9516
      · left; omega
      · right; omega
    · right
      have : M = Mp + 13 := by omega
      subst this
      refine ⟨by omega, ?_⟩
      by_cases hR : R < 23269
      · left; omega
      · right; omega
theorem yd_core (r R D r' R' D' : Int) (hr : 0 ≤ r ∧ r < 19) (hR : 0 ≤ R ∧ R < 25920) (hR' : 0 ≤ R' ∧ R' < 25920)
    (hn : r < 12 ∧ r' = r + 7 ∧ ((R < 16404 ∧ D' = D + 354 ∧ R' = R + 9516) ∨ (16404 ≤ R ∧ D' = D + 355 ∧ R' = R - 16404)) ∨
      12 ≤ r ∧ r' = r - 12 ∧ ((R < 2651 ∧ D' = D + 383 ∧ R' = R + 23269) ∨ (2651 ≤ R ∧ D' = D + 384 ∧ R' = R - 2651)))
    (x x' : Int) (hx : x = (if D % 7 = 1 ∧ r < 12 ∧ 16404 ≤ R then 2 else if D % 7 = 0 ∧ r < 7 ∧ 23269 ≤ R then 1 else 0))
    (hx' : x' = (if D' % 7 = 1 ∧ r' < 12 ∧ 16404 ≤ R' then 2 else if D' % 7 = 0 ∧ r' < 7 ∧ 23269 ≤ R' then 1 else 0)) :
    (r < 12 ∧ (D' + pst D' + x' - (D + pst D + x) = 353 ∨ D' + pst D' + x' - (D + pst D + x) = 354 ∨ D' + pst D' + x' - (D + pst D + x) = 355)) ∨
    (12 ≤ r ∧ (D' + pst D' + x' - (D + pst D + x) = 383 ∨ D' + pst D' + x' - (D + pst D + x) = 384 ∨ D' + pst D' + x' - (D + pst D + x) = 385)) := by
  have h7 : D % 7 = 0 ∨ D % 7 = 1 ∨ D % 7 = 2 ∨ D % 7 = 3 ∨ D % 7 = 4 ∨ D % 7 = 5 ∨ D % 7 = 6 := by omega
  rcases hn with ⟨a, b, ⟨c, d, e⟩ | ⟨c, d, e⟩⟩ | ⟨a, b, ⟨c, d, e⟩ | ⟨c, d, e⟩⟩
  · left
    refine ⟨a, ?_⟩
    subst d
    rcases h7 with h | h | h | h | h | h | h <;>
    (rcases pst_01 D with ⟨p, p'⟩ | ⟨p, p'⟩ <;> rcases pst_01 (D + 354) with ⟨q, q'⟩ | ⟨q, q'⟩ <;> rw [p, q] <;> (first | (exfalso; omega) | (split at hx <;> (try split at hx) <;> split at hx' <;> (try split at hx') <;> omega)))
  · left
    refine ⟨a, ?_⟩
    subst d
    rcases h7 with h | h | h | h | h | h | h <;>
    (rcases pst_01 D with ⟨p, p'⟩ | ⟨p, p'⟩ <;> rcases pst_01 (D + 355) with ⟨q, q'⟩ | ⟨q, q'⟩ <;> rw [p, q] <;> (first | (exfalso; omega) | (split at hx <;> (try split at hx) <;> split at hx' <;> (try split at hx') <;> omega)))
  · right
    refine ⟨a, ?_⟩
    subst d
    rcases h7 with h | h | h | h | h | h | h <;>
    (rcases pst_01 D with ⟨p, p'⟩ | ⟨p, p'⟩ <;> rcases pst_01 (D + 383) with ⟨q, q'⟩ | ⟨q, q'⟩ <;> rw [p, q] <;> (first | (exfalso; omega) | (split at hx <;> (try split at hx) <;> split at hx' <;> (try split at hx') <;> omega)))
  · right
    refine ⟨a, ?_⟩
    subst d
    rcases h7 with h | h | h | h | h | h | h <;>
    (rcases pst_01 D with ⟨p, p'⟩ | ⟨p, p'⟩ <;> rcases pst_01 (D + 384) with ⟨q, q'⟩ | ⟨q, q'⟩ <;> rw [p, q] <;> (first | (exfalso; omega) | (split at hx <;> (try split at hx) <;> split at hx' <;> (try split at hx') <;> omega)))
theorem lh_r (y M r : Int) (h : 235 * y - 234 = 19 * M + r) (h0 : 0 ≤ r ∧ r < 19) : ((y * 7 + 1) % 19 < 7) ↔ 12 ≤ r := by
  obtain ⟨q, hq⟩ : ∃ q, y * 7 + 1 = 19 * q + (r + 7) := ⟨M - 12 * y + 12, by omega⟩
  clear h
  rw [hq]
  clear hq
  omega
theorem yd_ok (y : Int) : (lhF y = false ∧ (ydF y = 353 ∨ ydF y = 354 ∨ ydF y = 355)) ∨ (lhF y = true ∧ (ydF y = 383 ∨ ydF y = 384 ∨ ydF y = 385)) := by
  obtain ⟨M, r, D, R, h1, h2, h3, h4, h5, h6, h7, h8⟩ := yr_is y
  obtain ⟨M', r', D', R', k1, k2, k3, k4, k5, k6, k7, k8⟩ := yr_is (y + 1)
  have key := yd_core r R D r' R' D' ⟨h2, h3⟩ ⟨h5, h6⟩ ⟨k5, k6⟩ (by
    by_cases hr : r < 12
    · left
      have : M' = M + 12 := by omega
      subst this
      refine ⟨hr, by omega, ?_⟩
      by_cases hR : R < 16404
      · left; omega
      · right; omega
    · right
      have : M' = M + 13 := by omega
      subst this
      refine ⟨by omega, by omega, ?_⟩
      by_cases hR : R < 2651
      · left; omega
      · right; omega) (d2 y) (d2 (y + 1)) h8 k8
  rw [← h7, ← k7] at key
  unfold ydF nyF
  rw [lhF_eq]
  rcases key with ⟨a, b⟩ | ⟨a, b⟩
  · left
    exact ⟨decide_eq_false (by have := lh_r y M r h1 ⟨h2, h3⟩; omega), by omega⟩
  · right
    exact ⟨decide_eq_true (by have := lh_r y M r h1 ⟨h2, h3⟩; omega), by omega⟩
theorem sp_eq (y : Int) : spF y = nyF (y + 1) - 163 := by
  have e : nyF (y + 1) = nyF y + ydF y := by unfold ydF; omega
  rw [e]
  unfold nyF spF mlH
  simp only [Int.fmod_eq_emod_of_nonneg _ (show (0:Int) ≤ 10 by decide)]
  have t7 : ([2, 4, 6, 10, 13] : List Int).any (fun x => x == (7 : Int)) = false := by decide
  have t8 : ([2, 4, 6, 10, 13] : List Int).any (fun x => x == (8 : Int)) = false := by decide
  have t9 : ([2, 4, 6, 10, 13] : List Int).any (fun x => x == (9 : Int)) = false := by decide
  have t10 : ([2, 4, 6, 10, 13] : List Int).any (fun x => x == (10 : Int)) = true := by decide
  have t11 : ([2, 4, 6, 10, 13] : List Int).any (fun x => x == (11 : Int)) = false := by decide
  have t12 : ([2, 4, 6, 10, 13] : List Int).any (fun x => x == (12 : Int)) = false := by decide
  have t13 : ([2, 4, 6, 10, 13] : List Int).any (fun x => x == (13 : Int)) = true := by decide
  rw [t7, t8, t9, t10, t11, t12, t13]
  rcases yd_ok y with ⟨l, h⟩ | ⟨l, h⟩
  · rw [l]
    simp only [Bool.false_eq_true, if_false, if_true, and_true, false_and, Int.reduceEq, and_false, ne_eq, not_true, true_and]
    rcases h with h | h | h <;> rw [h] <;> simp only [Int.reduceMod, Int.reduceEq, not_true, not_false_eq_true, if_true, if_false] <;> omega
  · rw [l]
    simp only [Bool.false_eq_true, if_false, if_true, and_true, false_and, Int.reduceEq, and_false, ne_eq, not_true, true_and, Bool.true_eq_false]
    rcases h with h | h | h <;> rw [h] <;> simp only [Int.reduceMod, Int.reduceEq, not_true, not_false_eq_true, if_true, if_false] <;> omega
end
/- part M5 -/
section
/-- Gauss's numbers are the molad's -/
theorem gauss (H M r D R : Int) (h : YrIs (H + 1) M r D R) :
    (12 * H + 17).fmod 19 = 18 - r ∧
    (32 * 492480 + 21715 + 765433 * (12 * H + 17).fmod 19 + 123120 * H.fmod 4 - 1565 * H).fdiv 492480 = D + 58 - 365 * H - H / 4 ∧
    (32 * 492480 + 21715 + 765433 * (12 * H + 17).fmod 19 + 123120 * H.fmod 4 - 1565 * H).fmod 492480 = 19 * R ∧
    (D + 58 - 365 * H - H / 4 + 3 * H + 5 * H.fmod 4 + 5).fmod 7 = D % 7 := by
  obtain ⟨h1, h2, h3, h4, h5, h6, -, -⟩ := h
  rw [Int.fmod_eq_emod_of_nonneg (12 * H + 17) (show (0:Int) ≤ 19 by decide), Int.fmod_eq_emod_of_nonneg H (show (0:Int) ≤ 4 by decide),
    Int.fmod_eq_emod_of_nonneg _ (show (0:Int) ≤ 7 by decide), Int.fmod_eq_emod_of_nonneg _ (show (0:Int) ≤ 492480 by decide), Int.fdiv_eq_ediv_of_nonneg _ (show (0:Int) ≤ 492480 by decide)]
  obtain ⟨k, p, hk, hp0, hp4⟩ : ∃ k p, H = 4 * k + p ∧ 0 ≤ p ∧ p < 4 := ⟨H / 4, H % 4, by omega, by omega, by omega⟩
  have q1 : H / 4 = k := by omega
  have q2 : H % 4 = p := by omega
  have g : (12 * H + 17) % 19 = 18 - r := by
    obtain ⟨q, hq⟩ : ∃ q, 12 * H + 17 = 19 * q + (18 - r) := ⟨13 * H - M + 0, by omega⟩
    rw [hq]
    clear hq h1 h4 hk q1 q2
    omega
  rw [g, q1, q2]
  have e : 32 * 492480 + 21715 + 765433 * (18 - r) + 123120 * p - 1565 * H = 492480 * (D + 58 - 365 * H - k) + 19 * R := by omega
  rw [e]
  refine ⟨rfl, by omega, by omega, ?_⟩
  have e2 : D + 58 - 365 * H - k + 3 * H + 5 * p + 5 = D + 7 * (9 - 207 * k - 51 * p) := by omega
  rw [e2]
  omega
def dlt (D r R : Int) : Int := if D % 7 = 2 ∨ D % 7 = 4 ∨ D % 7 = 6 then 1 else if D % 7 = 1 ∧ r < 12 ∧ 16404 ≤ R then 2 else if D % 7 = 0 ∧ r < 7 ∧ 23269 ≤ R then 1 else 0
theorem any3 (x : Int) : ([2, 4, 6] : List Int).any (fun v => v == x) = decide (x = 2 ∨ x = 4 ∨ x = 6) := by
  rw [Bool.eq_iff_iff]
  simp only [List.any_cons, List.any_nil, Bool.or_false, beq_iff_eq, Bool.or_eq_true, decide_eq_true_eq]
  constructor <;> (intro h; omega)
theorem lmR_eq (H M r D R : Int) (h : YrIs (H + 1) M r D R) : lmR H = D + 58 - 365 * H - H / 4 + dlt D r R := by
  obtain ⟨g1, g2, g3, g4⟩ := gauss H M r D R h
  unfold lmR
  rw [g2, g3, g1]
  rw [g4, any3]
  unfold lmS dlt
  by_cases c : D % 7 = 2 ∨ D % 7 = 4 ∨ D % 7 = 6
  · rw [decide_eq_true c, if_pos rfl, if_pos c]
  · rw [decide_eq_false c, if_neg (by decide), if_neg c]
    by_cases c1 : D % 7 = 1 ∧ r < 12 ∧ 16404 ≤ R
    · rw [if_pos (by omega), if_pos c1]
    · rw [if_neg (by omega), if_neg c1]
      by_cases c2 : D % 7 = 0 ∧ r < 7 ∧ 23269 ≤ R
      · rw [if_pos (by omega), if_pos c2]
      · rw [if_neg (by omega), if_neg c2]; omega
theorem ny_eq (H M r D R : Int) (h : YrIs (H + 1) M r D R) : nyF (H + 1) = 347998 + D + dlt D r R := by
  obtain ⟨-, h2, h3, -, h5, h6, h7, h8⟩ := h
  unfold nyF dlt
  rw [h7, h8]
  rcases pst_01 D with ⟨a, a'⟩ | ⟨a, a'⟩
  · rw [a, if_neg a']; split <;> (try split) <;> omega
  · rw [a, if_pos a', if_neg (by omega), if_neg (by omega)]; omega
/-- Passover stands where Gauss's rule puts it -/
theorem sp_gauss (y : Int) : spF (y + 3760) = 1721117 + 365 * y + y.fdiv 4 + lmR (y + 3760) := by
  obtain ⟨M, r, D, R, h⟩ := yr_is (y + 3760 + 1)
  rw [sp_eq, ny_eq _ _ _ _ _ h, lmR_eq _ _ _ _ _ h, Int.fdiv_eq_ediv_of_nonneg _ (show (0:Int) ≤ 4 by decide)]
  omega
theorem ny_pos (y : Int) (h : 1 ≤ y) : 0 < nyF y := by
  obtain ⟨M, r, D, R, h1, h2, h3, h4, h5, h6, h7, h8⟩ := yr_is y
  unfold nyF
  rw [h7, h8]
  have : 0 ≤ M := by omega
  have : 0 ≤ D := by omega
  rcases pst_01 D with ⟨a, a'⟩ | ⟨a, a'⟩ <;> rw [a] <;> split <;> (try split) <;> omega
theorem sp_pos (y : Int) (h : 1 ≤ y) : 0 < spF y := by
  rw [sp_eq]
  obtain ⟨M, r, D, R, h1, h2, h3, h4, h5, h6, h7, h8⟩ := yr_is (y + 1)
  unfold nyF
  rw [h7, h8]
  have : 0 ≤ M := by omega
  have : 0 ≤ D := by omega
  rcases pst_01 D with ⟨a, a'⟩ | ⟨a, a'⟩ <;> rw [a] <;> split <;> (try split) <;> omega
end
/- part M6 -/
section
theorem mn_tab : ∀ k : Fin 19, ([36, 25, 44, 33, 22, 41, 30, 49, 38, 27, 46, 35, 24, 43, 32, 21, 40, 29, 48] : List Int).getD k.val 0 = (19 * (k.val : Int) + 15).fmod 30 + 21 := by decide +kernel
theorem mn_eq (y : Int) : mnF y = ejd y + 21 := by
  unfold mnF ejd
  have h0 : 0 ≤ y.fmod 19 := Int.fmod_nonneg_of_pos _ (by decide)
  have h1 : y.fmod 19 < 19 := Int.fmod_lt_of_pos _ (by decide)
  have t := mn_tab ⟨(y.fmod 19).toNat, by omega⟩
  have e : ((y.fmod 19).toNat : Int) = y.fmod 19 := by omega
  simp only [e] at t
  exact t
theorem jjd_march (y d : Int) : jjd y 3 d = 365 * y + y / 4 + 1722519 + 122 + d - 1524 := by
  unfold jjd
  rw [Int.fdiv_eq_ediv_of_nonneg _ (show (0:Int) ≤ 4 by decide), show ((306001 * (3 + 1) : Int)).fdiv 10000 = 122 from by decide]
  omega
theorem jjd_april (y d : Int) : jjd y 4 d = 365 * y + y / 4 + 1722519 + 153 + d - 1524 := by
  unfold jjd
  rw [Int.fdiv_eq_ediv_of_nonneg _ (show (0:Int) ≤ 4 by decide), show ((306001 * (4 + 1) : Int)).fdiv 10000 = 153 from by decide]
  omega
theorem EJ_eq (y : Int) : EJ y = 365 * y + y / 4 + 1722519 + 30 + ejm y - 1524 := by
  have h1 : 0 ≤ ejd y ∧ ejd y < 30 := ⟨Int.fmod_nonneg_of_pos _ (by decide), Int.fmod_lt_of_pos _ (by decide)⟩
  have h2 : 0 ≤ eje y ∧ eje y < 7 := ⟨Int.fmod_nonneg_of_pos _ (by decide), Int.fmod_lt_of_pos _ (by decide)⟩
  have h3 : 114 ≤ ejm y ∧ ejm y ≤ 149 := by unfold ejm; omega
  unfold EJ
  rw [Int.fdiv_eq_ediv_of_nonneg _ (show (0:Int) ≤ 31 by decide), Int.fmod_eq_emod_of_nonneg _ (show (0:Int) ≤ 31 by decide)]
  by_cases h : ejm y < 124
  · have e : ejm y / 31 = 3 := by omega
    rw [e, jjd_march]; omega
  · have e : ejm y / 31 = 4 := by omega
    rw [e, jjd_april]; omega
theorem eje_eq (y : Int) : eje y = (5 - (1721117 + 365 * y + y / 4 + mnF y)) % 7 := by
  rw [mn_eq]
  unfold eje
  rw [Int.fmod_eq_emod_of_nonneg _ (show (0:Int) ≤ 7 by decide), Int.fmod_eq_emod_of_nonneg y (show (0:Int) ≤ 4 by decide), Int.fmod_eq_emod_of_nonneg y (show (0:Int) ≤ 7 by decide)]
  generalize ejd y = d
  obtain ⟨k, p, hk, hp0, hp4⟩ : ∃ k p, y = 4 * k + p ∧ 0 ≤ p ∧ p < 4 := ⟨y / 4, y % 4, by omega, by omega, by omega⟩
  have q1 : y / 4 = k := by omega
  have q2 : y % 4 = p := by omega
  rw [q1, q2]
  obtain ⟨j, hj⟩ : ∃ j, y = 7 * j + y % 7 := ⟨y / 7, by omega⟩
  have e : 2 * p + 4 * (y % 7) - d + 6 = 5 - (1721117 + 365 * y + k + (d + 21)) + 7 * (245877 + 211 * k + 53 * p - 4 * j) := by omega
  rw [e]
  omega
theorem easter_eq (y : Int) : EJ y = lsF y := by
  rw [EJ_eq]
  unfold lsF ejm
  rw [Int.fdiv_eq_ediv_of_nonneg y (show (0:Int) ≤ 4 by decide), Int.fmod_eq_emod_of_nonneg _ (show (0:Int) ≤ 7 by decide), ← eje_eq, mn_eq]
  omega
/-- in years up to 50000 Passover lies in the Gregorian year -/
theorem sp_year (y : Int) (h0 : -3759 ≤ y) (h1 : y ≤ 50000) : fjY (spF (y + 3760)) = y := by
  obtain ⟨M, r, D, R, h⟩ := yr_is (y + 3760 + 1)
  have e := sp_gauss y
  have l := lmR_eq _ _ _ _ _ h
  obtain ⟨k1, k2, k3, k4, k5, k6, -, -⟩ := h
  have hd : 0 ≤ dlt D r R ∧ dlt D r R ≤ 2 := by unfold dlt; split <;> (try split) <;> (try split) <;> omega
  rw [Int.fdiv_eq_ediv_of_nonneg _ (show (0:Int) ≤ 4 by decide)] at e
  rw [l] at e
  generalize dlt D r R = x at *
  refine fjY_unique _ _ ?_ ?_
  · rw [gjd_first, e]
    simp only [Int.fdiv_eq_ediv_of_nonneg _ (show (0:Int) ≤ 4 by decide), Int.fdiv_eq_ediv_of_nonneg _ (show (0:Int) ≤ 100 by decide), Int.fdiv_eq_ediv_of_nonneg _ (show (0:Int) ≤ 400 by decide)]
    omega
  · rw [gjd_first, e]
    simp only [Int.fdiv_eq_ediv_of_nonneg _ (show (0:Int) ≤ 4 by decide), Int.fdiv_eq_ediv_of_nonneg _ (show (0:Int) ≤ 100 by decide), Int.fdiv_eq_ediv_of_nonneg _ (show (0:Int) ≤ 400 by decide)]
    omega
end
/- part M7 -/
section
/-- the days from Passover to Easter -/
def btw (y : Int) : Int := EJ y - spF (y + 3760)
theorem btw_eq (y : Int) : btw y = mnF y + 1 + (5 - (1721117 + 365 * y + y / 4 + mnF y)) % 7 - lmR (y + 3760) := by
  unfold btw
  rw [easter_eq, sp_gauss]
  unfold lsF
  rw [Int.fdiv_eq_ediv_of_nonneg y (show (0:Int) ≤ 4 by decide), Int.fmod_eq_emod_of_nonneg _ (show (0:Int) ≤ 7 by decide)]
  omega
/-- every fact that the bounds need -/
theorem facts (y : Int) : ∃ g p mn e G N mc parts wk dl : Int, y % 19 = g ∧ y % 4 = p ∧ mn = (19 * g + 15) % 30 + 21 ∧ e = (5 - (1721117 + 365 * y + y / 4 + mn)) % 7 ∧
    G = (12 * g + 12) % 19 ∧ N = 15781075 + 765433 * G + 123120 * p - 1565 * (y + 3760) ∧ N = 492480 * mc + parts ∧ 0 ≤ parts ∧ parts < 492480 ∧
    wk = (mc + 3 * (y + 3760) + 5 * p + 5) % 7 ∧ btw y = mn + 1 + e - mc - dl ∧
    (dl = 0 ∨ (dl = 1 ∧ (wk = 2 ∨ wk = 4 ∨ wk = 6)) ∨ (dl = 2 ∧ wk = 1 ∧ 6 < G ∧ 311676 ≤ parts) ∨ (dl = 1 ∧ wk = 0 ∧ 11 < G ∧ 442111 ≤ parts)) ∧
    (dl = 0 → ¬ (wk = 2 ∨ wk = 4 ∨ wk = 6) ∧ ¬ (wk = 1 ∧ 6 < G ∧ 311676 ≤ parts) ∧ ¬ (wk = 0 ∧ 11 < G ∧ 442111 ≤ parts)) := by
  have hb := btw_eq y
  have hm := mn_eq y
  have h19 : (y + 3760) % 19 = (y + 17) % 19 := by omega
  unfold lmR at hb
  rw [any3] at hb
  rw [Int.fmod_eq_emod_of_nonneg (12 * (y + 3760) + 17) (show (0:Int) ≤ 19 by decide), Int.fmod_eq_emod_of_nonneg (y + 3760) (show (0:Int) ≤ 4 by decide),
    Int.fdiv_eq_ediv_of_nonneg _ (show (0:Int) ≤ 492480 by decide), Int.fmod_eq_emod_of_nonneg _ (show (0:Int) ≤ 492480 by decide), Int.fmod_eq_emod_of_nonneg _ (show (0:Int) ≤ 7 by decide)] at hb
  unfold ejd at hm
  rw [Int.fmod_eq_emod_of_nonneg y (show (0:Int) ≤ 19 by decide), Int.fmod_eq_emod_of_nonneg _ (show (0:Int) ≤ 30 by decide)] at hm
  have hG : (12 * (y + 3760) + 17) % 19 = (12 * (y % 19) + 12) % 19 := by
    have e : 12 * (y + 3760) + 17 = 12 * (y % 19) + 12 + 19 * (12 * (y / 19) + 2375) := by omega
    rw [e]; omega
  have hP : (y + 3760) % 4 = y % 4 := by omega
  rw [hG, hP] at hb
  refine ⟨y % 19, y % 4, mnF y, _, (12 * (y % 19) + 12) % 19, 15781075 + 765433 * ((12 * (y % 19) + 12) % 19) + 123120 * (y % 4) - 1565 * (y + 3760), (15781075 + 765433 * ((12 * (y % 19) + 12) % 19) + 123120 * (y % 4) - 1565 * (y + 3760)) / 492480, (15781075 + 765433 * ((12 * (y % 19) + 12) % 19) + 123120 * (y % 4) - 1565 * (y + 3760)) % 492480,
    ((15781075 + 765433 * ((12 * (y % 19) + 12) % 19) + 123120 * (y % 4) - 1565 * (y + 3760)) / 492480 + 3 * (y + 3760) + 5 * (y % 4) + 5) % 7, mnF y + 1 + (5 - (1721117 + 365 * y + y / 4 + mnF y)) % 7 - (15781075 + 765433 * ((12 * (y % 19) + 12) % 19) + 123120 * (y % 4) - 1565 * (y + 3760)) / 492480 - btw y,
    rfl, rfl, hm, rfl, rfl, rfl, by omega, by omega, by omega, rfl, by omega, ?_⟩
  have hN : (32 * 492480 + 21715 + 765433 * ((12 * (y % 19) + 12) % 19) + 123120 * (y % 4) - 1565 * (y + 3760)) = 15781075 + 765433 * ((12 * (y % 19) + 12) % 19) + 123120 * (y % 4) - 1565 * (y + 3760) := by omega
  rw [hN] at hb
  generalize 15781075 + 765433 * ((12 * (y % 19) + 12) % 19) + 123120 * (y % 4) - 1565 * (y + 3760) = N at *
  generalize (N / 492480 + 3 * (y + 3760) + 5 * (y % 4) + 5) % 7 = wk at *
  generalize (5 - (1721117 + 365 * y + y / 4 + mnF y)) % 7 = e at *
  generalize (12 * (y % 19) + 12) % 19 = G at *
  unfold lmS at hb
  by_cases c : wk = 2 ∨ wk = 4 ∨ wk = 6
  · rw [decide_eq_true c, if_pos rfl] at hb; omega
  · rw [decide_eq_false c, if_neg (by decide)] at hb
    by_cases c1 : wk = 1 ∧ 6 < G ∧ 311676 ≤ N % 492480
    · rw [if_pos c1] at hb; omega
    · rw [if_neg c1] at hb
      by_cases c2 : wk = 0 ∧ 11 < G ∧ 442111 ≤ N % 492480
      · rw [if_pos c2] at hb; omega
      · rw [if_neg c2] at hb
        refine ⟨Or.inl (by omega), fun _ => ⟨c, c1, c2⟩⟩
theorem cls1 (y : Int) (hg : y % 19 = 0) (hp : y % 4 = 3) (he : (0 : Int) = (5 - (1721117 + 365 * y + y / 4 + 36)) % 7) : ∃ k, y = 532 * k + 475 := by
  obtain ⟨t, ht⟩ : ∃ t, y = 76 * t + 19 := ⟨y / 76, by clear he; omega⟩
  have h4 : y / 4 = 19 * t + 4 := by clear he; omega
  rw [h4, ht] at he
  have e5 : 5 - (1721117 + 365 * (76 * t + 19) + (19 * t + 4) + 36) = 3 * t + 3 + 7 * ((-3966) * t + (-246870)) := by omega
  rw [e5] at he
  clear hg hp h4 e5
  have : t % 7 = 6 := by clear ht; omega
  exact ⟨t / 7, by omega⟩
theorem cls2 (y : Int) (hg : y % 19 = 18) (hp : y % 4 = 0) (he : (6 : Int) = (5 - (1721117 + 365 * y + y / 4 + 48)) % 7) : ∃ k, y = 532 * k + 208 := by
  obtain ⟨t, ht⟩ : ∃ t, y = 76 * t + 56 := ⟨y / 76, by clear he; omega⟩
  have h4 : y / 4 = 19 * t + 14 := by clear he; omega
  rw [h4, ht] at he
  have e5 : 5 - (1721117 + 365 * (76 * t + 56) + (19 * t + 14) + 48) = 3 * t + 0 + 7 * ((-3966) * t + (-248802)) := by omega
  rw [e5] at he
  clear hg hp h4 e5
  have : t % 7 = 2 := by clear ht; omega
  exact ⟨t / 7, by omega⟩
set_option maxHeartbeats 4000000 in
theorem bounds (y : Int) : -380247 ≤ 98496 * btw y - 313 * y ∧ 98496 * btw y - 313 * y ≤ 3536384 := by
  obtain ⟨g, p, mn, e, G, N, mc, parts, wk, dl, hg, hp, hmn, he, hG, hN, hN2, hp0, hp1, hwk, hb, hdl, -⟩ := facts y
  have he0 : 0 ≤ e ∧ e ≤ 6 := by omega
  have hp4 : 0 ≤ p ∧ p ≤ 3 := by omega
  -- five times the number
  have hV : 5 * (98496 * btw y - 313 * y) = 492480 * (mn + 1 + e - dl) + parts - 9896675 - 765433 * G - 123120 * p := by
    rw [hb]; omega
  have hg19 : g = 0 ∨ g = 1 ∨ g = 2 ∨ g = 3 ∨ g = 4 ∨ g = 5 ∨ g = 6 ∨ g = 7 ∨ g = 8 ∨ g = 9 ∨ g = 10 ∨ g = 11 ∨ g = 12 ∨ g = 13 ∨ g = 14 ∨ g = 15 ∨ g = 16 ∨ g = 17 ∨ g = 18 := by omega
  have key : -1901235 ≤ 492480 * (mn + 1 + e - dl) + parts - 9896675 - 765433 * G - 123120 * p ∧ 492480 * (mn + 1 + e - dl) + parts - 9896675 - 765433 * G - 123120 * p ≤ 17681920 := by
    clear hV hb
    rcases hg19 with rfl | rfl | rfl | rfl | rfl | rfl | rfl | rfl | rfl | rfl | rfl | rfl | rfl | rfl | rfl | rfl | rfl | rfl | rfl
    · have m1 : mn = 36 := by omega
      have m2 : G = 12 := by omega
      subst m1; subst m2
      refine ⟨?_, by omega⟩
      by_cases hc : dl = 2 ∧ p = 3 ∧ e = 0 ∧ parts < 313196
      · exfalso
        obtain ⟨c1, c2, c3, c4⟩ := hc
        subst c3
        obtain ⟨k, hk⟩ := cls1 y hg (hp.trans c2) he
        subst c2
        clear he hmn hG hg hp he0 hp4
        have hw : wk = 1 := by omega
        have hpp : 311676 ≤ parts := by omega
        obtain ⟨u, hu⟩ : ∃ u, u = 2191 * k + 1296 * mc := ⟨_, rfl⟩
        have e1 : parts = 18707856 - 380 * u := by omega
        have e2 : (u + 12725) % 7 = 1 := by
          have : mc + 3 * (y + 3760) + 5 * 3 + 5 = (u + 12725) + 7 * (- 185 * mc - 85 * k) := by omega
          omega
        omega
      · omega
    · have m1 : mn = 25 := by omega
      have m2 : G = 5 := by omega
      subst m1; subst m2
      clear hwk hN hN2 he
      omega
    · have m1 : mn = 44 := by omega
      have m2 : G = 17 := by omega
      subst m1; subst m2
      clear hwk hN hN2 he
      omega
    · have m1 : mn = 33 := by omega
      have m2 : G = 10 := by omega
      subst m1; subst m2
      clear hwk hN hN2 he
      omega
    · have m1 : mn = 22 := by omega
      have m2 : G = 3 := by omega
      subst m1; subst m2
      clear hwk hN hN2 he
      omega
    · have m1 : mn = 41 := by omega
      have m2 : G = 15 := by omega
      subst m1; subst m2
      clear hwk hN hN2 he
      omega
    · have m1 : mn = 30 := by omega
      have m2 : G = 8 := by omega
      subst m1; subst m2
      clear hwk hN hN2 he
      omega
    · have m1 : mn = 49 := by omega
      have m2 : G = 1 := by omega
      subst m1; subst m2
      clear hwk hN hN2 he
      omega
    · have m1 : mn = 38 := by omega
      have m2 : G = 13 := by omega
      subst m1; subst m2
      clear hwk hN hN2 he
      omega
    · have m1 : mn = 27 := by omega
      have m2 : G = 6 := by omega
      subst m1; subst m2
      clear hwk hN hN2 he
      omega
    · have m1 : mn = 46 := by omega
      have m2 : G = 18 := by omega
      subst m1; subst m2
      clear hwk hN hN2 he
      omega
    · have m1 : mn = 35 := by omega
      have m2 : G = 11 := by omega
      subst m1; subst m2
      clear hwk hN hN2 he
      omega
    · have m1 : mn = 24 := by omega
      have m2 : G = 4 := by omega
      subst m1; subst m2
      clear hwk hN hN2 he
      omega
    · have m1 : mn = 43 := by omega
      have m2 : G = 16 := by omega
      subst m1; subst m2
      clear hwk hN hN2 he
      omega
    · have m1 : mn = 32 := by omega
      have m2 : G = 9 := by omega
      subst m1; subst m2
      clear hwk hN hN2 he
      omega
    · have m1 : mn = 21 := by omega
      have m2 : G = 2 := by omega
      subst m1; subst m2
      clear hwk hN hN2 he
      omega
    · have m1 : mn = 40 := by omega
      have m2 : G = 14 := by omega
      subst m1; subst m2
      clear hwk hN hN2 he
      omega
    · have m1 : mn = 29 := by omega
      have m2 : G = 7 := by omega
      subst m1; subst m2
      clear hwk hN hN2 he
      omega
    · have m1 : mn = 48 := by omega
      have m2 : G = 0 := by omega
      subst m1; subst m2
      refine ⟨by clear hwk hN hN2 he; omega, ?_⟩
      by_cases hc : dl = 0 ∧ p = 0 ∧ e = 6 ∧ 492195 < parts
      · exfalso
        obtain ⟨c1, c2, c3, c4⟩ := hc
        subst c3
        obtain ⟨k, hk⟩ := cls2 y hg (hp.trans c2) he
        subst c2
        clear he hmn hG hg hp he0 hp4 hwk hdl
        obtain ⟨u, hu⟩ : ∃ u, u = 2191 * k + 1296 * mc := ⟨_, rfl⟩
        have e1 : parts = 9571155 - 380 * u := by omega
        omega
      · clear hwk hN hN2 he
        omega
  omega
theorem low_at (y : Int) (h : y % 689472 = 201039) : 98496 * btw y - 313 * y = -380247 := by
  obtain ⟨g, p, mn, e, G, N, mc, parts, wk, dl, hg, hp, hmn, he, hG, hN, hN2, hp0, hp1, hwk, hb, hdl, hdn⟩ := facts y
  obtain ⟨k, hk⟩ : ∃ k, y = 689472 * k + 201039 := ⟨y / 689472, by omega⟩
  have g0 : g = 0 := by omega
  have p3 : p = 3 := by omega
  subst g0; subst p3
  have m1 : mn = 36 := by omega
  have m2 : G = 12 := by omega
  subst m1; subst m2
  have e0 : e = 0 := by
    have : y / 4 = 172368 * k + 50259 := by omega
    rw [this, hk] at he
    omega
  have hmc : mc + 2191 * k = -600 ∧ parts = 313196 := by omega
  have hw : wk = 1 := by
    have : mc + 3 * (y + 3760) + 5 * 3 + 5 = (-600 + 3 * (201039 + 3760) + 20) + 7 * (295175 * k) := by omega
    omega
  have hd : dl = 2 := by
    by_cases d0 : dl = 0
    · have := hdn d0; omega
    · omega
  rw [hb]
  omega
theorem high_at (y : Int) (h : y % 689472 = 32128) : 98496 * btw y - 313 * y = 3536384 := by
  obtain ⟨g, p, mn, e, G, N, mc, parts, wk, dl, hg, hp, hmn, he, hG, hN, hN2, hp0, hp1, hwk, hb, hdl, hdn⟩ := facts y
  obtain ⟨k, hk⟩ : ∃ k, y = 689472 * k + 32128 := ⟨y / 689472, by omega⟩
  have g0 : g = 18 := by omega
  have p3 : p = 0 := by omega
  subst g0; subst p3
  have m1 : mn = 48 := by omega
  have m2 : G = 0 := by omega
  subst m1; subst m2
  have e0 : e = 6 := by
    have : y / 4 = 172368 * k + 8032 := by omega
    rw [this, hk] at he
    omega
  have hmc : mc + 2191 * k = (-83) ∧ parts = 492195 := by omega
  have hw : wk = 3 := by
    have : mc + 3 * (y + 3760) + 5 * 0 + 5 = ((-83) + 3 * (32128 + 3760) + 5) + 7 * (295175 * k) := by omega
    omega
  have hd : dl = 0 := by omega
  rw [hb]
  omega
end
/- part M8 -/
section
def bF (y : Int) : Int := mnF y + 1 + (5 - (1721117 + 365 * y + y / 4 + mnF y)) % 7 - lmR (y + 3760)
def dueF (y : Int) : Int := if ([326, 346, 350, 475, 495] : List Int).any (fun x => x == y) = true then -2 else if ([343, 347, 367, 370, 374, 394, 401, 414, 418, 421, 441, 445, 465, 496, 499, 519, 523, 536, 543, 563, 570, 590, 594, 614, 743, 783] : List Int).any (fun x => x == y) = true then 0 else 1
theorem yrs1 : ∀ k : Fin 458, (bF (326 + (k.val : Int)) = dueF (326 + (k.val : Int)) ∨ (dueF (326 + (k.val : Int)) = 1 ∧ 1 ≤ bF (326 + (k.val : Int)))) := by decide +kernel
theorem yrs2 : ∀ k : Fin 431, 1 ≤ bF (784 + (k.val : Int)) := by decide +kernel
theorem due_ok (y : Int) (h1 : 326 ≤ y) (h2 : y ≤ 783) : EJ y - spF (y + 3760) = dueF y ∨ (dueF y = 1 ∧ 1 ≤ EJ y - spF (y + 3760)) := by
  have e : EJ y - spF (y + 3760) = bF y := btw_eq y
  rw [e]
  have t := yrs1 ⟨(y - 326).toNat, by omega⟩
  have e2 : 326 + ((y - 326).toNat : Int) = y := by omega
  simp only [e2] at t
  exact t
theorem late_ok (y : Int) (h1 : 783 < y) : 1 ≤ EJ y - spF (y + 3760) := by
  by_cases h : y ≤ 1214
  · have e : EJ y - spF (y + 3760) = bF y := btw_eq y
    rw [e]
    have t := yrs2 ⟨(y - 784).toNat, by omega⟩
    have e2 : 784 + ((y - 784).toNat : Int) = y := by omega
    simp only [e2] at t
    exact t
  · have b := (bounds y).1
    have e : btw y = EJ y - spF (y + 3760) := rfl
    rw [e] at b
    omega
/-- what is known of the days between -/
theorem all_ok (y : Int) : (-380247 ≤ 98496 * (EJ y - spF (y + 3760)) - 313 * y ∧ 98496 * (EJ y - spF (y + 3760)) - 313 * y ≤ 3536384) ∧ (y ≤ 783 ∨ 1 ≤ EJ y - spF (y + 3760)) ∧
    (y.fmod 689472 ≠ 201039 ∨ 98496 * (EJ y - spF (y + 3760)) - 313 * y = -380247) ∧ (y.fmod 689472 ≠ 32128 ∨ 98496 * (EJ y - spF (y + 3760)) - 313 * y = 3536384) := by
  refine ⟨bounds y, ?_, ?_, ?_⟩
  · by_cases h : y ≤ 783
    · exact Or.inl h
    · exact Or.inr (late_ok y (by omega))
  · rw [Int.fmod_eq_emod_of_nonneg _ (show (0:Int) ≤ 689472 by decide)]
    by_cases h : y % 689472 = 201039
    · exact Or.inr (low_at y h)
    · exact Or.inl h
  · rw [Int.fmod_eq_emod_of_nonneg _ (show (0:Int) ≤ 689472 by decide)]
    by_cases h : y % 689472 = 32128
    · exact Or.inr (high_at y h)
    · exact Or.inl h
theorem sp_pre (y : Int) (h : -3759 ≤ y) : 0 < nyF (y + 3760) ∧ 0 < nyF (y + 3760 + 1) ∧ 0 < spF (y + 3760) := ⟨ny_pos _ (by omega), ny_pos _ (by omega), sp_pos _ (by omega)⟩
theorem pass_pre (y : Int) (h : -3759 ≤ y) (h2 : y ≤ 50000) : 0 < nyF (y + 3760) ∧ 0 < nyF (y + 3760 + 1) ∧ 0 < spF (y + 3760) ∧ fjY (spF (y + 3760)) = y :=
  ⟨ny_pos _ (by omega), ny_pos _ (by omega), sp_pos _ (by omega), sp_year y h h2⟩
end
/- part F3 -/
section
/-- a test that is false on all its ways: the ways meet -/
def JF (h₀ : Heap) (L : Addr) (m : Str → Option Value) (news : List (Addr × Obj)) (s : Shared) (b : Bool) (s₂ : Shared) : Prop :=
  b = false ∧ ∃ (h : Heap) (tk : Nat), s₂ = { s with heap := h, toks := tk } ∧ Fr h₀ L h m ∧ News h₀ L h news
theorem JF.intro {h₀ : Heap} {L : Addr} {m : Str → Option Value} {news news' : List (Addr × Obj)} {s s₂ : Shared} {b : Bool} {h : Heap} {tk : Nat} (e : s₂ = { s with heap := h, toks := tk }) (F : Fr h₀ L h m) (N : News h₀ L h news') (hn : ∀ p ∈ news, p ∈ news') (hb : b = false) : JF h₀ L m news s b s₂ :=
  ⟨hb, h, tk, e, F, fun p hp => N p (hn p hp)⟩
theorem cutF {M : Model} {A : Around} {E : Value → Shared → Prop} {s : Shared} {cm : Sem Bool} {Q : Bool → Shared → Prop} {h₀ : Heap} {L : Addr} {m : Str → Option Value} {news : List (Addr × Obj)} (F : Fr h₀ L s.heap m) (N : News h₀ L s.heap news)
    (hc : wpAny M A cm (fun b s₂ => JF h₀ L m news s b s₂) E s) (hk : ∀ (h : Heap) (tk : Nat), Fr h₀ L h m → News h₀ L h news → Q false { s with heap := h, toks := tk }) : wpAny M A cm Q E s := by
  refine wpAny_mono hc (fun b s₂ hq => ?_) (fun _ _ e => e)
  obtain ⟨hb, h, tk, e, F', N'⟩ := hq
  subst hb; subst e
  exact hk h tk F' N'
theorem CL.weaken {w : World} {f : Addr} {sz : Nat} {pre : Prop} {vs : List Value} {R R' : Tok → Value} (c : CL w f sz pre vs R) (hp : pre) (e : R = R') : CL w f sz True vs R' := by
  subst e
  unfold CL at *
  intro mean mg mb news dp un gd cn cs a ccd cl outer A₀ base h₀ L m s Q E k1 k2 k3 k4 k5 kK _ kd ku kR
  exact c _ _ _ _ _ _ _ _ _ _ _ _ _ _ _ _ _ _ _ _ _ k1 k2 k3 k4 k5 kK hp kd ku kR
theorem c_fgj (w : World) (n : Int) (t1 t2 t3 : Tok) : CL w 194 7 True [Value.int (fjY n) t1, Value.int (fjM n (fjY n)) t2, Value.int (fjD n (fjY n)) t3] (fun t => Value.int n t) :=
  (c_fg w _ _ _ t1 t2 t3).weaken (fj_legal n).2.2 (by rw [fj_inv])
theorem c_lsj (w : World) (y : Int) (t : Tok) : CL w 211 2 True [Value.int y t] (fun t => Value.int (EJ y) t) := (c_ls w y t).weaken trivial (by rw [easter_eq])
theorem due1 {y : Int} (h1 : 326 ≤ y) (h2 : y ≤ 783) (h : ([326, 346, 350, 475, 495] : List Int).any (fun x => x == y) = true) : EJ y - spF (y + 3760) = -2 := by
  have d := due_ok y h1 h2
  unfold dueF at d
  rw [if_pos h] at d
  omega
theorem due2 {y : Int} (h1 : 326 ≤ y) (h2 : y ≤ 783) (h : ([326, 346, 350, 475, 495] : List Int).any (fun x => x == y) = false) (h' : ([343, 347, 367, 370, 374, 394, 401, 414, 418, 421, 441, 445, 465, 496, 499, 519, 523, 536, 543, 563, 570, 590, 594, 614, 743, 783] : List Int).any (fun x => x == y) = true) : EJ y - spF (y + 3760) = 0 := by
  have d := due_ok y h1 h2
  unfold dueF at d
  rw [if_neg (by rw [h]; decide), if_pos h'] at d
  omega
theorem due3 {y : Int} (h1 : 326 ≤ y) (h2 : y ≤ 783) (h : ([326, 346, 350, 475, 495] : List Int).any (fun x => x == y) = false) (h' : ([343, 347, 367, 370, 374, 394, 401, 414, 418, 421, 441, 445, 465, 496, 499, 519, 523, 536, 543, 563, 570, 590, 594, 614, 743, 783] : List Int).any (fun x => x == y) = false) : 1 ≤ EJ y - spF (y + 3760) := by
  have d := due_ok y h1 h2
  unfold dueF at d
  rw [if_neg (by rw [h]; decide), if_neg (by rw [h']; decide)] at d
  omega
theorem end_ok (y : Int) : (spF (y + 3760) == 1721117 + 365 * y + y.fdiv 4 + lmR (y + 3760)) = true := by rw [sp_gauss]; exact beq_self_eq_true _
end
/- part FH -/
section
local macro_rules | `(tactic| walk_at "call ref") => `(tactic| (k_here; (with_reducible show wpAny _ _ (call (Value.ref 223) _) _ _ _); k_dflt ((refine' CN.use (c_plain _ _ _ _ _ _ _ _ _ _) ?k1 ?k2 ?k3 ?k4 ?k5 ?kK ?kp ?kd ?ku ?_); walk_at "my_use"; (case kp => trivial); walk_at "my_ret"); walk_say "c_plain"))
local macro_rules | `(tactic| walk_at "call ref") => `(tactic| (k_here; (with_reducible show wpAny _ _ (call (Value.ref 194) _) _ _ _); k_dflt ((refine' CL.use (c_fgj _ _ _ _ _) ?k1 ?k2 ?k3 ?k4 ?k5 ?kK ?kp ?kd ?ku ?_); walk_at "my_use"; walk_at "my_kp"; walk_at "my_ret"); walk_say "c_fgj"))
local macro_rules | `(tactic| walk_at "call ref") => `(tactic| (k_here; (with_reducible show wpAny _ _ (call (Value.ref 211) _) _ _ _); k_dflt ((refine' CL.use (c_lsj _ _ _) ?k1 ?k2 ?k3 ?k4 ?k5 ?kK ?kp ?kd ?ku ?_); walk_at "my_use"; walk_at "my_kp"; walk_at "my_ret"); walk_say "c_lsj"))
local macro_rules | `(tactic| walk_at "call ref") => `(tactic| (k_here; (with_reducible show wpAny _ _ (call (Value.ref 204) _) _ _ _); k_dflt ((refine' CL.use (c_lm _ _ _) ?k1 ?k2 ?k3 ?k4 ?k5 ?kK ?kp ?kd ?ku ?_); walk_at "my_use"; walk_at "my_kp"; walk_at "my_ret"); walk_say "c_lm"))
local macro_rules | `(tactic| walk_at "call ref") => `(tactic| (k_here; (with_reducible show wpAny _ _ (call (Value.ref 218) _) _ _ _); k_dflt ((refine' CT.use (c_lc _ _ _) ?k1 ?k2 ?k3 ?k4 ?k5 ?kK ?kp ?kd ?ku ?_); walk_at "my_use"; walk_at "my_kp"; walk_at "my_retT"); walk_say "c_lc"))
local macro_rules | `(tactic| walk_at "call ref") => `(tactic| (k_here; (with_reducible show wpAny _ _ (call (Value.ref 113) _) _ _ _); k_dflt ((refine' CL.use (c_sp _ _ _ _ _) ?k1 ?k2 ?k3 ?k4 ?k5 ?kK ?kp ?kd ?ku ?_); walk_at "my_use"; (case kp => exact sp_pre _ (by assumption)); walk_at "my_ret"); walk_say "c_sp"))
local macro_rules | `(tactic| walk_at "call ref") => `(tactic| (k_here; (with_reducible show wpAny _ _ (call (Value.ref 187) _) _ _ _); k_dflt ((refine' CT.use (c_pass _ _ _) ?k1 ?k2 ?k3 ?k4 ?k5 ?kK ?kp ?kd ?ku ?_); walk_at "my_use"; (case kp => exact pass_pre _ (by assumption) (by assumption)); walk_at "my_retT"); walk_say "c_pass"))
theorem fmod_no {y : Int} (h : y.fmod 689472 = 201039) (h1 : -3759 ≤ y) (h2 : y ≤ 50000) : False := by
  rw [Int.fmod_eq_emod_of_nonneg _ (show (0:Int) ≤ 689472 by decide)] at h
  omega
local macro_rules | `(tactic| walk_at "exec If") => `(tactic| (k_here; (with_reducible show wpAny _ _ (exec (PySem.Stmt.If (PySem.Expr.BoolOp _ _ _) [PySem.Stmt.Return (some (PySem.Expr.Constant (PySem.Const.bool false) _ _)) _] [] _) _) _ _ _); (rename Fr _ _ _ _ => cF'); (rename News _ _ _ _ => cN'); k_dflt (refine wpAny_If ?_; refine' cutF cF' cN' ?_ (fun h' tk' F' N' => ?_)); walk_say "CUT"))
local macro_rules | `(tactic| walk_at "my_false") => `(tactic| first
  | rfl
  | exact decide_eq_false (by omega)
  | exact decide_eq_false (fun h => by have := due3 (by assumption) (by assumption) (by assumption) (by assumption); omega)
  | (exfalso; first
    | exact absurd (due1 (by assumption) (by assumption) (by assumption)) (by assumption)
    | exact absurd (due2 (by assumption) (by assumption) (by assumption) (by assumption)) (by assumption)
    | exact absurd rfl (by assumption)
    | exact fmod_no (by assumption) (by assumption) (by assumption)
    | omega
    | (have h9 := due3 (by assumption) (by assumption) (by assumption) (by assumption); omega)))
local macro_rules | `(tactic| walk_at "JF") => `(tactic| (k_here; k_dflt (refine' JF.intro ?j0 ?j1 ?j2 ?j3 ?j4; (case j0 => rfl); (case j1 => k_asm); (case j2 => assumption); (case j3 => with_reducible (first | exact fun _ h => h | exact fun _ h => List.mem_cons_of_mem _ h | exact fun _ h => List.mem_cons_of_mem _ (List.mem_cons_of_mem _ h) | exact fun _ h => List.mem_cons_of_mem _ (List.mem_cons_of_mem _ (List.mem_cons_of_mem _ h)))); (case j4 => walk_at "my_false")); walk_say "JOINED"))
set_option maxHeartbeats 4000000 in
theorem c_year (w : World) (D : Addr) (y : Int) (t t1 t2 t3 : CbTok) (c : Nat) (rest : List (Addr × Obj)) : CN w 230 30 (-3759 ≤ y) [Value.int y t, Value.ref D] ((D, ({ cls := .type "tuple", data := .seq #[.int (fjY (EJ y)) t1, .int (fjM (EJ y) (fjY (EJ y))) t2, .int (fjD (EJ y) (fjY (EJ y))) t3] c } : Obj)) :: rest) (fun _ => Value.bool true) := by
  unfold CN
  k_fill
  intros; rename_i hret
  obtain ⟨⟨hb1, hb2⟩, hb3, hb4, hb5⟩ := all_ok y
  walk_at "my_in"
  k_steps
  all_goals (refine' retB hret ?e1 ?e2 ?e3; (case e2 => k_asm); (case e3 => with_reducible first | assumption | exact (cb_drop (by assumption) (by with_reducible (first | exact fun _ h => List.mem_cons_of_mem _ h | exact fun _ h => List.mem_cons_of_mem _ (List.mem_cons_of_mem _ h) | exact fun _ h => List.mem_cons_of_mem _ (List.mem_cons_of_mem _ (List.mem_cons_of_mem _ h)))))); (case e1 => exact end_ok _))
end
/- part FI -/
section
local macro_rules | `(tactic| walk_at "ite") => `(tactic| (k_here; (try dsimp only); first | (k_closed; k_dflt (first | refine ite_pos (by decide) ?_ | refine ite_neg (by decide) ?_)) | k_dflt (first | (refine split_dec ?_ ?_ <;> intro _) | (refine split_bool ?_ ?_ <;> intro _)); walk_say "PLAIN SPLIT"))
local macro_rules | `(tactic| walk_at "InvEndN") => `(tactic| (k_dflt ksr_close; walk_say "MY CLOSE"))
local macro_rules | `(tactic| walk_at "call ref") => `(tactic| (k_here; (with_reducible show wpAny _ _ (call (Value.ref 230) _) _ _ _); k_dflt ((refine' CN.use (c_year _ _ _ _ _ _ _ _ _) ?k1 ?k2 ?k3 ?k4 ?k5 ?kK ?kp ?kd ?ku ?_); walk_at "my_use"; (case kp => (try dsimp only); first | omega | (law_fm; omega)); walk_at "my_ret"); walk_say "c_year"))
local macro_rules | `(tactic| walk_at "call ref") => `(tactic| (k_here; (with_reducible show wpAny _ _ (call (Value.ref 164) _) _ _ _); k_dflt ((refine' CT.use (c_easter _ _ _ _) ?k1 ?k2 ?k3 ?k4 ?k5 ?kK ?kp ?kd ?ku ?_); walk_at "my_use"; walk_at "my_kp"; walk_at "my_retT"); walk_say "c_easter"))
set_option maxRecDepth 100000 in
set_option maxHeartbeats 8000000 in
theorem law_holds : PySem.Challenge.rw_vp0007_01.Holds := by
  refine hd ?_
  k_with "pyIter ref" => k_search (fun _ => True)
  k_go0; (all_goals try k_fold)
  k_steps
end
end
end Mine
theorem PySem.Challenge.cw_vp0007_01_holds : PySem.Challenge.rw_vp0007_01.Holds :=
  Mine.law_holds
