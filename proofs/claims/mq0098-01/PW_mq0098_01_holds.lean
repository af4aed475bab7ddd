import PyProof.Rows.All
import Wide.All
import OpenK.AllK
import Wide.FinOn
import PySem.Challenge.RW_mq0098_01
open PySem PySem.W PySem.Calls PyProof.Rows
set_option Elab.async false
namespace MQ
set_option maxRecDepth 100000 in
set_option maxHeartbeats 8000000 in
open_top hd for PySem.Challenge.rw_mq0098_01
end MQ

namespace MQ

/-- a call that leaves all that stood as it was, and hands back a value with objects of its own -/
def Ct (w : World) (mean : ExcName → Option Value) (mg mb : Str → Option Value) (d : Nat) (f : Addr) (vals : List Value) (P : Heap → Prop) (R : Value → List (Addr × Obj) → Prop) : Prop :=
  ∀ (A : Around) (s : Shared) (Q E : Value → Shared → Prop),
    A.handled = none → (hd.heap_39 w.params).In s.heap → Top hd.view_39 (looseW hd.view_39 [Str.ofString "_twin_re_1", Str.ofString "_find_unsafe"]) mean mg mb s.heap →
    P s.heap → A.depth + d < recursionLimit → A.units + 8 * d < cLine →
    (∀ v h' tk' tl, s.heap.StaysIn h' → (∀ p ∈ tl, h'.get? p.1 = some p.2 ∧ s.heap.get? p.1 = none) → R v tl → Q v { s with heap := h', toks := tk' }) →
    wpAny (model PySem.Challenge.rw_mq0098_01.row.prog w) A (call (.ref f) vals) Q E s

theorem fr_stays {h₀ h h' : Heap} {L : Addr} {m : Str → Option Value} (F : Fr h₀ L h m) (k : h.StaysIn h') : Fr h₀ L h' m :=
  ⟨F.ns.keeps k, fun b o e => k b o (F.keep b o e), F.above⟩

theorem news_stays {h₀ h h' : Heap} {L : Addr} {m : Str → Option Value} {news tl : List (Addr × Obj)} (F : Fr h₀ L h m) (N : News h₀ L h news) (k : h.StaysIn h')
    (ht : ∀ p ∈ tl, h'.get? p.1 = some p.2 ∧ h.get? p.1 = none) : News h₀ L h' (tl ++ news) := fun p hp => by
  rcases List.mem_append.mp hp with hp | hp
  · refine ⟨(ht p hp).1, fun e => ?_, ?_⟩
    · obtain ⟨o, _, _, hL, _⟩ := F.ns
      have := (ht p hp).2; rw [e, hL] at this; cases this
    · cases q : h₀.get? p.1 with
      | none => rfl
      | some o => have := (ht p hp).2; rw [F.keep _ _ q] at this; cases this
  · exact ⟨k _ _ (N p hp).1, (N p hp).2⟩

/-- a contract used in a frame -/
theorem use_ct {w : World} {mean : ExcName → Option Value} {mg mb : Str → Option Value} {d : Nat} {f : Addr} {vals : List Value} {P : Heap → Prop} {R : Value → List (Addr × Obj) → Prop}
    {A : Around} {s : Shared} {Q E : Value → Shared → Prop} {h₀ : Heap} {L : Addr} {m : Str → Option Value} {news : List (Addr × Obj)}
    (C : Ct w mean mg mb d f vals P R) (F : Fr h₀ L s.heap m) (N : News h₀ L s.heap news) (hh : A.handled = none) (X : (hd.heap_39 w.params).In h₀)
    (T : Top hd.view_39 (looseW hd.view_39 [Str.ofString "_twin_re_1", Str.ofString "_find_unsafe"]) mean mg mb h₀)
    (hp : P s.heap) (hd : A.depth + d < recursionLimit) (hu : A.units + 8 * d < cLine)
    (ret : ∀ v h' tk' tl, R v tl → Fr h₀ L h' m → News h₀ L h' (tl ++ news) → (∀ p ∈ tl, ∀ q ∈ news, p.1 ≠ q.1) → s.heap.StaysIn h' → Q v { s with heap := h', toks := tk' }) :
    wpAny (model PySem.Challenge.rw_mq0098_01.row.prog w) A (call (.ref f) vals) Q E s :=
  C A s Q E hh (X.keeps F.keep) (T.keeps F.keep) hp hd hu fun v h' tk' tl k ht hr =>
    ret v h' tk' tl hr (fr_stays F k) (news_stays F N k ht) (fun p hp q hq e => by have := (ht p hp).2; rw [e, (N q hq).1] at this; cases this) k

section
variable {prog : Program} {w : World} {A : Around} {s : Shared} {K : Frag} {p : Program} {loose : List Str} {mean : ExcName → Option Value} {mg mb : Str → Option Value}
  {E Q : Value → Shared → Prop} {name qual : Str} {params : Arguments} {body : List Stmt} {scope : Scope} {dV kV doc pm cdv ct oc : Value} {an od : Option Addr} {osl : Array (Option Value)} {f : Addr} {vals : List Value} {binds : List (Str × Value)}

theorem enter0 (X : K.In s.heap) (T : Top p loose mean mg mb s.heap)
    (ho : K.lookup f = some ⟨oc, od, .func (fnOf name qual params body scope dV kV doc pm an cdv ct), osl⟩) (hcd : codeIn K cdv qual = true) (hroom : A.depth < recursionLimit)
    (hbind : BindsTo s (fnOf name qual params body scope dV kV doc pm an cdv ct) ⟨vals, []⟩ binds) (hloc : ∀ y ∈ binds, scope.names.lookup y.1 = some .local)
    (h : ∀ L' h₁, L' = s.heap.objs.size → Fr s.heap L' h₁ (fun y => binds.reverse.lookup y) → News s.heap L' h₁ [] →
      wpAny (model prog w) (A.deeper (envOf qual scope L' f cdv)) (execs body (envOf qual scope L' f cdv))
        (fun fl s' => Q (match fl with | .ret v => v | _ => .none) s') (fun _ _ => False)
        { s with heap := h₁, toks := s.toks + binds.length })
    (hco : scope.isCoroutine = false) (hgen : scope.isGenerator = false) (hk : scope.kind = .function)
    (hcell : ∀ x ∈ scope.names, x.2 ≠ .cell) : wpAny (model prog w) A (call (.ref f) vals) Q E s := by
  refine wpAny_call ?_
  refine codeAny_call_def (fd := fnOf name qual params body scope dV kV doc pm an cdv ct) (body := body) (binds := binds) hroom (X _ _ ho) rfl T.nolimit (codeRec_of X hcd) rfl hbind hcell hloc (fun h₁ hns hk₁ => ?_) hco hgen hk
  exact wpAny_mono (h _ h₁ rfl ⟨hns, hk₁, Nat.le_refl _⟩ News.nil) (fun _ _ q => q) (fun _ _ q => q.elim)

theorem enterC (X : K.In s.heap) (T : Top p loose mean mg mb s.heap)
    (ho : K.lookup f = some ⟨oc, od, .func (fnOf name qual params body scope dV kV doc pm an cdv ct), osl⟩) (hcd : codeIn K cdv qual = true) (hroom : A.depth < recursionLimit)
    (hbind : BindsTo s (fnOf name qual params body scope dV kV doc pm an cdv ct) ⟨vals, []⟩ binds) (hkind : (binds.all fun y => scope.names.lookup y.1 == some .local || scope.names.lookup y.1 == some .cell) = true)
    (hnd : ((cellsFrom 0 scope.names []).map (·.1)).Nodup)
    (h : ∀ L' h₁ tk cells, L' = s.heap.objs.size → Fr s.heap L' h₁ (bindL (envOfC qual scope L' f cdv).kindOf binds fun _ => none) → News s.heap L' h₁ cells →
      CellsAre (bindC (envOfC qual scope L' f cdv).kindOf binds fun _ => none) (cellsFrom (L' + 1) scope.names []) cells →
      wpAny (model prog w) (A.deeper (envOfC qual scope L' f cdv)) (execs body (envOfC qual scope L' f cdv))
        (fun fl s' => Q (match fl with | .ret v => v | _ => .none) s') (fun _ _ => False)
        { s with heap := h₁, toks := tk })
    (hco : scope.isCoroutine = false) (hgen : scope.isGenerator = false) (hk : scope.kind = .function) : wpAny (model prog w) A (call (.ref f) vals) Q E s := by
  refine wpAny_call ?_
  refine codeAny_call_function hroom (X _ _ ho) rfl hco hgen rfl (codeRec_of X hcd) (hbind _ _ _ _ ?_)
  refine wpAny_newFunctionEnv_cells hk (kindsX hkind _) fun env' he s' x => ?_
  subst he
  refine ⟨T.nolimit.keeps x.toInCall.keep, codeAny_func ?_⟩
  obtain ⟨h₁, tk, rfl, _⟩ := x.done
  have hk₁ := x.toInCall.keep
  obtain ⟨cells, NC, Y⟩ := Cl.news (h₀ := s.heap) (Nat.le_refl _) fun n c hm => ⟨x.cell n c (lookup_of_mem_nodup (cellsFrom_names scope.names 0 (s.heap.objs.size + 1) [] [] rfl ▸ hnd) hm), x.above n c hm⟩
  exact wpAny_mono (h _ h₁ tk cells rfl ⟨x.toInCall.ns, hk₁, Nat.le_refl _⟩ NC Y) (fun _ _ q => q) (fun _ _ q => q.elim)
end

/-! ### comprehensions -/

/-- all of h that lies ahead of the address C -/
def trunc (C : Addr) (h : Heap) : Heap := ⟨h.objs.extract 0 C, h.life⟩
theorem trunc_get? (C : Nat) (h : Heap) (b : Nat) : (trunc C h).get? b = if b < C then h.get? b else none := by
  unfold trunc Heap.get?
  simp only [Array.getElem?_extract]
  by_cases hb : b < C
  · by_cases hs : b < h.objs.size
    · have h1 : b < min C h.objs.size - 0 := by omega
      rw [if_pos h1, if_pos hb, Nat.zero_add]
    · have h1 : ¬ b < min C h.objs.size - 0 := by omega
      have h2 : h.objs[b]? = none := Array.getElem?_eq_none (by omega)
      rw [if_neg h1, if_pos hb, h2]
  · have h1 : ¬ b < min C h.objs.size - 0 := by omega
    rw [if_neg h1, if_neg hb]
theorem trunc_stays {C : Addr} {h : Heap} {b : Addr} {o : Obj} (e : (trunc C h).get? b = some o) : h.get? b = some o := by
  rw [trunc_get?] at e; split at e
  · exact e
  · cases e
theorem fr_trunc {C : Addr} {h : Heap} {m : Str → Option Value} (hn : h.Ns C m) : Fr (trunc C h) C h m :=
  ⟨hn, fun _ _ e => trunc_stays e, by show (h.objs.extract 0 C).size ≤ C; rw [Array.size_extract]; exact Nat.le_trans (Nat.sub_le _ _) (Nat.min_le_left _ _)⟩
theorem get_trunc {C : Addr} {h : Heap} {b : Addr} {o : Obj} (hb : b < C) (e : h.get? b = some o) : (trunc C h).get? b = some o := by
  rw [trunc_get?, if_pos hb]; exact e

/-- the end of an element: its value, and the frame as it was -/
def EltEnd {α : Type} (F : α → Prop) (gB : Heap) (C : Addr) (m : Str → Option Value) (s₃ : Shared) (y : α) (s₄ : Shared) : Prop :=
  F y ∧ ∃ h' tk, s₄ = { s₃ with heap := h', toks := tk } ∧ Fr gB C h' m

theorem EltEnd.intro {α : Type} {F : α → Prop} {gB h' : Heap} {C : Addr} {m : Str → Option Value} {s₃ : Shared} {y : α} {tk : Nat} (hF : F y) (Fm : Fr gB C h' m) : EltEnd F gB C m s₃ y { s₃ with heap := h', toks := tk } :=
  ⟨hF, h', tk, rfl, Fm⟩

section
variable {prog : Program} {w : World} {A : Around} {E : Value → Shared → Prop} {R : Result → Shared → Prop} {s : Shared}

theorem compLoop {elt iter : Expr} {x : Str} {px : Pos} {ifs : List Expr} {scope : Scope} {pos : Pos} {I D : Addr} {fp wr : List Addr} {n : Nat} {P : Nat → Value → Prop} {St : Nat → Heap → Prop}
    {cenv : Env} {m : Str → Option Value} (W : Walks prog w A I fp wr n P St) (p : Value → Bool) (F : Value → Value → Prop)
    (hx : cenv.kindOf x = some .local) (hp : (cenv.scope.kind == .class || (cenv.scope.kind == .module && cenv.locals != cenv.globals)) = false)
    (hDC : D < cenv.locals) (hfp : ∀ b ∈ fp, b < D)
    (hst : St 0 s.heap) (hacc : s.heap.PlainList D #[]) (hn : s.heap.Ns cenv.locals m)
    (htests : ∀ i v s₂ m₂ gB, i < n → P i v → m₂ x = some v → Fr gB cenv.locals s₂.heap m₂ → (∀ b o, b < D → b ∉ wr → s.heap.get? b = some o → gB.get? b = some o) →
      ∀ E', wpAny (model prog w) A (forIn ifs true fun c r => if r = true then do let ok ← isTrue c cenv (eval c cenv); pure (ForInStep.yield ok) else pure (ForInStep.yield r))
        (EltEnd (fun ok => ok = p v) gB cenv.locals m₂ s₂) E' s₂)
    (helt : ∀ i v s₂ m₂ gB, i < n → P i v → p v = true → m₂ x = some v → Fr gB cenv.locals s₂.heap m₂ → (∀ b o, b < D → b ∉ wr → s.heap.get? b = some o → gB.get? b = some o) →
      ∀ E', wpAny (model prog w) A (eval elt cenv) (EltEnd (F v) gB cenv.locals m₂ s₂) E' s₂)
    (hR : ∀ h' tk ys (vs : List Value), (∃ m', h'.Ns cenv.locals m') → h'.PlainList D ys → vs.length = n → (∀ j v, vs[j]? = some v → P j v) → Paired F (vs.filter p) ys.toList →
      (∀ b o, b < D → b ∉ wr → s.heap.get? b = some o → h'.get? b = some o) → R (.ok .next) { s with heap := h', toks := tk })
    (hsz : n ≤ sizeLine) :
    codeAny (model prog w) A (.compLoop (.ListComp elt [⟨.Name x px, iter, ifs, 0⟩] scope pos) 0 (.ref I) (.ref D) cenv) R s := by
  have hDw : D ∉ wr := fun h => Nat.lt_irrefl _ (hfp _ (W.sub _ h))
  have hCw : cenv.locals ∉ wr := fun h => Nat.lt_irrefl _ (Nat.lt_trans hDC (hfp _ (W.sub _ h)))
  have hCf : cenv.locals ∉ fp := fun h => Nat.lt_irrefl _ (Nat.lt_trans hDC (hfp _ h))
  have hDf : D ∉ fp := fun h => Nat.lt_irrefl _ (hfp _ h)
  refine codeAny_compLoop_tests
    (fun k s' => ∃ h' tk m' ys, ∃ vs : List Value, s' = { s with heap := h', toks := tk } ∧ St vs.length h' ∧ h'.PlainList D ys ∧ h'.Ns cenv.locals m' ∧ (∀ j v, vs[j]? = some v → P j v) ∧
      Paired F (vs.filter p) ys.toList ∧ vs.length ≤ n ∧ k = n + 1 - vs.length ∧
      (∀ b o, b < D → b ∉ wr → s.heap.get? b = some o → h'.get? b = some o)) ?_ (n + 1)
    ⟨s.heap, s.toks, m, #[], [], rfl, hst, hacc, hn, by simp, by simpa using Paired.nil, Nat.zero_le _, rfl, fun _ _ _ _ e => e⟩
  rintro k s' ⟨H, tk, m', ys, vs, rfl, hst', hacc', hn', hP, hF, hi, rfl, hk⟩
  by_cases hlt : vs.length < n
  · refine W.item vs.length _ _ _ hlt hst' fun v h₁ tk₁ hPv hst₁ hk₁ => ?_
    refine wpAny_assign_Name (wpAny_storeName_local hx (hn'.at' fun o e => hk₁ _ o hCw e) (fun h₂ hn₂ hs₂ => ?_) hp)
    have up₂ : ∀ b o, b ≠ cenv.locals → b ∉ wr → H.get? b = some o → h₂.get? b = some o := fun b o hbC hbf e => hs₂.extBut b o hbC (hk₁ b o hbf e)
    have hst₂ : St (vs.length + 1) h₂ := W.frame _ _ _ hst₁ fun b hb o e => hs₂.extBut b o (fun h => hCf (h ▸ hb)) e
    have hacc₂ : h₂.PlainList D ys := hacc'.at fun o e => up₂ D o (Nat.ne_of_lt hDC) hDw e
    have base : ∀ b o, b < D → b ∉ wr → s.heap.get? b = some o → (trunc cenv.locals h₂).get? b = some o := fun b o hb hw e =>
      get_trunc (Nat.lt_trans hb hDC) (up₂ b o (Nat.ne_of_lt (Nat.lt_trans hb hDC)) hw (hk b o hb hw e))
    refine wpAny_mono (htests vs.length v _ _ (trunc cenv.locals h₂) hlt hPv (by simp) (fr_trunc hn₂) base _) (fun ok s₃ h₃ => ?_) fun _ _ e => e
    obtain ⟨rfl, h₃, tk₃, rfl, F₃⟩ := h₃
    have up₃ : ∀ b o, b < cenv.locals → h₂.get? b = some o → h₃.get? b = some o := fun b o hb e => F₃.keep b o (get_trunc hb e)
    have hst₃ : St (vs.length + 1) h₃ := W.frame _ _ _ hst₂ fun b hb o e => up₃ b o (Nat.lt_trans (hfp b hb) hDC) e
    have hacc₃ : h₃.PlainList D ys := hacc₂.at fun o e => up₃ _ o hDC e
    have hk₃ : ∀ b o, b < D → b ∉ wr → s.heap.get? b = some o → h₃.get? b = some o := fun b o hb hw e => F₃.keep b o (base b o hb hw e)
    have hP' : ∀ j u, (vs ++ [v])[j]? = some u → P j u := fun j u hj => by
      rcases Nat.lt_trichotomy j vs.length with h | h | h
      · exact hP j u (by rwa [List.getElem?_append_left h] at hj)
      · subst h; simp at hj; subst hj; exact hPv
      · have hnone : (vs ++ [v])[j]? = none := List.getElem?_eq_none (by rw [List.length_append, List.length_singleton]; omega)
        rw [hnone] at hj; cases hj
    cases hpv : p v with
    | false =>
      simp only [Bool.false_eq_true, if_false]
      refine ⟨n + 1 - (vs.length + 1), by omega, h₃, tk₃, _, ys, vs ++ [v], rfl, by simpa using hst₃, hacc₃, F₃.ns, hP', ?_, (by rw [List.length_append, List.length_singleton]; exact hlt), (by rw [List.length_append, List.length_singleton]), hk₃⟩
      rw [List.filter_append]; simpa [hpv] using hF
    | true =>
      simp only [if_true]
      have base₃ : ∀ b o, b < D → b ∉ wr → s.heap.get? b = some o → (trunc cenv.locals h₃).get? b = some o := fun b o hb hw e => get_trunc (Nat.lt_trans hb hDC) (hk₃ b o hb hw e)
      refine wpAny_mono (helt vs.length v _ _ (trunc cenv.locals h₃) hlt hPv hpv (by simp) (fr_trunc F₃.ns) base₃ _) (fun y s₄ h₄ => ?_) fun _ _ e => e
      obtain ⟨hFy, h₄, tk₄, rfl, F₄⟩ := h₄
      have up₄ : ∀ b o, b < cenv.locals → h₃.get? b = some o → h₄.get? b = some o := fun b o hb e => F₄.keep b o (get_trunc hb e)
      have hys : ys.size ≤ sizeLine := by
        have e1 := hF.length
        have e2 : (vs.filter p).length ≤ vs.length := List.length_filter_le _ _
        have e4 : ys.toList.length = ys.size := by simp
        omega
      refine wpAny_list_append_plain (hsz := hys) (hacc₃.at fun o e => up₄ _ o hDC e) fun h₅ hl₅ hs₅ => ?_
      refine ⟨n + 1 - (vs.length + 1), by omega, h₅, tk₄, _, ys.push y, vs ++ [v], rfl, ?_, hl₅, F₄.ns.sameBut hs₅ (Nat.ne_of_gt hDC), hP', ?_, (by rw [List.length_append, List.length_singleton]; exact hlt), (by rw [List.length_append, List.length_singleton]),
        fun b o hb hw e => hs₅.extBut b o (Nat.ne_of_lt hb) (F₄.keep b o (base₃ b o hb hw e))⟩
      · have := W.frame _ _ h₅ hst₃ fun b hb o e => hs₅.extBut b o (fun h => hDf (h ▸ hb)) (up₄ b o (Nat.lt_trans (hfp b hb) hDC) e)
        simpa using this
      · rw [List.filter_append]; simpa [hpv] using Paired.snoc hF hFy
  · have hin : vs.length = n := by omega
    refine W.done _ _ _ (hin ▸ hst') fun h₁ tk₁ hk₁ => ?_
    exact hR h₁ tk₁ ys vs ⟨m', hn'.at' fun o e => hk₁ _ o hCw e⟩ (hacc'.at fun o e => hk₁ _ o hDw e) hin hP hF fun b o hb hw e => hk₁ b o hw (hk b o hb hw e)
end
end MQ

namespace MQ
section
variable {prog : Program} {w : World} {A : Around} {E : Value → Shared → Prop} {env : Env}

theorem comp_block {elt iter : Expr} {x : Str} {px : Pos} {ifs : List Expr} {scope : Scope} {cl : List (Str × Addr)} {pos : Pos} {s₂ : Shared} {I : Addr} {fp wr : List Addr} {n : Nat} {P : Nat → Value → Prop}
    {St : Nat → Heap → Prop} (W : Walks prog w A I fp wr n P St) (hsz : n ≤ sizeLine) (p : Value → Bool) (F : Value → Value → Prop) {RR : Value → Addr → Result → Shared → Prop}
    (hcell : ∀ y ∈ scope.names, y.2 ≠ .cell) (hkind : scope.kind = .function) (hx : scope.names.lookup x = some .local) (hst : St 0 s₂.heap) (hfp : ∀ b ∈ fp, b < s₂.heap.objs.size)
    (htests : ∀ C i v s₃ m₃ gB E', i < n → P i v → m₃ x = some v → Fr gB C s₃.heap m₃ → (∀ b o, b ∉ wr → s₂.heap.get? b = some o → gB.get? b = some o) →
      wpAny (model prog w) A (forIn ifs true fun c r => if r = true then do let ok ← isTrue c (compEnvC scope cl C env) (eval c (compEnvC scope cl C env)); pure (ForInStep.yield ok) else pure (ForInStep.yield r))
        (EltEnd (fun ok => ok = p v) gB C m₃ s₃) E' s₃)
    (helt : ∀ C i v s₃ m₃ gB E', i < n → P i v → p v = true → m₃ x = some v → Fr gB C s₃.heap m₃ → (∀ b o, b ∉ wr → s₂.heap.get? b = some o → gB.get? b = some o) →
      wpAny (model prog w) A (eval elt (compEnvC scope cl C env)) (EltEnd (F v) gB C m₃ s₃) E' s₃)
    (hRR : ∀ D C h' tk ys (vs : List Value), s₂.heap.get? D = none → s₂.heap.get? C = none → D = s₂.heap.objs.size → D ≠ C → (∃ m', h'.Ns C m') → h'.PlainList D ys → vs.length = n → (∀ j v, vs[j]? = some v → P j v) → Paired F (vs.filter p) ys.toList →
      (∀ b o, b ∉ wr → s₂.heap.get? b = some o → h'.get? b = some o) → RR (.ref D) C (.ok .next) { s₂ with heap := h', toks := tk }) :
    wpAny (model prog w) A (newList []) (fun acc s₃ => wpAny (model prog w) A (newFunctionEnv scope env.globals cl [] env.qual none .none (some env)) (fun cenv s₄ =>
      codeAny (model prog w) A (.compStart (.ListComp elt [⟨.Name x px, iter, ifs, 0⟩] scope pos) 0 (.ref I) acc { cenv with scope := relabel scope env }) (RR acc cenv.locals) s₄) E s₃) E s₂ := by
  refine wpAny_newObj_type (wpAny_newFunctionEnv hcell (by intro y hy; simp at hy) (fun h₁ hns₁ hsb₁ => ?_) hkind)
  dsimp only at hns₁ hsb₁ ⊢
  generalize hH2 : s₂.heap.push { cls := .type "list", dict := none, data := .seq ([] : List Value).toArray } = H2 at hns₁ hsb₁ ⊢
  have hC : H2.objs.size = s₂.heap.objs.size + 1 := by rw [← hH2, Heap.size_push]
  have hDC : s₂.heap.objs.size < H2.objs.size := by rw [hC]; exact Nat.lt_succ_self _
  have old : ∀ b o, s₂.heap.get? b = some o → h₁.get? b = some o := fun b o e => hsb₁.extBut b o (Nat.ne_of_lt (Nat.lt_trans (Heap.lt_size e) hDC)) (Heap.get?_push_of_some _ (hH2 ▸ Heap.get?_push_of_some _ e))
  have hacc : h₁.PlainList s₂.heap.objs.size #[] := ⟨_, hsb₁.extBut _ _ (Nat.ne_of_lt hDC) (Heap.get?_push_of_some _ (hH2 ▸ Heap.get?_push_size _ rfl))⟩
  have hst₁ : St 0 h₁ := W.frame _ _ _ hst fun b _ o e => old b o e
  have fresh : ∀ a, s₂.heap.objs.size ≤ a → s₂.heap.get? a = none := fun a ha => by
    cases e : s₂.heap.get? a with
    | none => rfl
    | some o' => exact absurd (Heap.lt_size e) (Nat.not_lt.mpr ha)
  have loop : ∀ s₃ : Shared, s₃ = { s₂ with heap := h₁, toks := s₂.toks + ([] : List (Str × Value)).length } →
      codeAny (model prog w) A (.compLoop (.ListComp elt [⟨.Name x px, iter, ifs, 0⟩] scope pos) 0 (.ref I) (.ref s₂.heap.objs.size) (compEnvC scope cl H2.objs.size env))
        (RR (.ref s₂.heap.objs.size) H2.objs.size) s₃ := by
    rintro s₃ rfl
    refine compLoop (hsz := hsz) (cenv := compEnvC scope cl H2.objs.size env) W p F (lookup_relabel_local hx) (by simp [compEnvC, relabel, hkind]) hDC hfp hst₁ hacc hns₁
      (fun i v s₃ m₃ gB hi hv hm Fm hk E' => htests _ i v s₃ m₃ gB E' hi hv hm Fm fun b o hw e => hk b o (Heap.lt_size e) hw (old b o e))
      (fun i v s₃ m₃ gB hi hv hpv hm Fm hk E' => helt _ i v s₃ m₃ gB E' hi hv hpv hm Fm fun b o hw e => hk b o (Heap.lt_size e) hw (old b o e)) fun h' tk ys vs hn hpl hlen hP hF hk => ?_
    exact hRR _ _ h' tk ys vs (fresh _ (Nat.le_refl _)) (fresh _ (Nat.le_of_lt hDC)) rfl (Nat.ne_of_lt hDC) hn hpl hlen hP hF fun b o hbf e => hk b o (Heap.lt_size e) hbf (old b o e)
  exact codeAny_compStart_list (loop _ rfl) (W.self 0 _ _ _ hst₁ (loop _ rfl))

/-- what stands where a comprehension's iterator has been made: `fin` is what the made list is for -/
def CompAt (prog : Program) (w : World) (A : Around) (env : Env) (g₀ : Heap) (L : Addr) (scope : Scope) (cl : List (Str × Addr)) (x : Str) (ifs : List Expr) (elt : Expr)
    (fin : (Str → Option Value) → List (Addr × Obj) → Addr → Array Value → Nat → Heap → Shared → Prop) (it : Value) (s₂ : Shared) : Prop :=
  ∃ I fp wr n P St m news p F, it = .ref I ∧ Walks prog w A I fp wr n P St ∧ n ≤ sizeLine ∧ St 0 s₂.heap ∧ (∀ b ∈ fp, b < s₂.heap.objs.size) ∧
    (∀ b ∈ wr, g₀.get? b = none ∧ b ≠ L ∧ ∀ q ∈ news, q.1 ≠ b) ∧ Fr g₀ L s₂.heap m ∧ News g₀ L s₂.heap news ∧
    (∀ C i v s₃ m₃ gB E', i < n → P i v → m₃ x = some v → Fr gB C s₃.heap m₃ → g₀.StaysIn gB → (∀ q ∈ news, gB.get? q.1 = some q.2) →
      wpAny (model prog w) A (forIn ifs true fun c r => if r = true then do let ok ← isTrue c (compEnvC scope cl C env) (eval c (compEnvC scope cl C env)); pure (ForInStep.yield ok) else pure (ForInStep.yield r))
        (EltEnd (fun ok => ok = p v) gB C m₃ s₃) E' s₃) ∧
    (∀ C i v s₃ m₃ gB E', i < n → P i v → p v = true → m₃ x = some v → Fr gB C s₃.heap m₃ → g₀.StaysIn gB → (∀ q ∈ news, gB.get? q.1 = some q.2) →
      wpAny (model prog w) A (eval elt (compEnvC scope cl C env)) (EltEnd (F v) gB C m₃ s₃) E' s₃) ∧
    (∀ D h' tk ys (vs : List Value) k, vs.length = n → (∀ j v, vs[j]? = some v → P j v) → Paired F (vs.filter p) ys.toList → (∀ q ∈ news, q.1 < D) →
      fin m news D ys k h' { s₂ with heap := h', toks := tk })

/-- the made list as a value -/
def FinV (g₀ : Heap) (L : Addr) (Q : Value → Shared → Prop) (m : Str → Option Value) (news : List (Addr × Obj)) (D : Addr) (ys : Array Value) (k : Nat) (h' : Heap) (s' : Shared) : Prop :=
  Fr g₀ L h' m → News g₀ L h' ((D, PySem.W.listOf ys k) :: news) → Q (.ref D) s'
/-- the made list stored under a name -/
def FinS (g₀ : Heap) (L : Addr) (y : Str) (Q : Flow → Shared → Prop) (m : Str → Option Value) (news : List (Addr × Obj)) (D : Addr) (ys : Array Value) (k : Nat) (h' : Heap) (s' : Shared) : Prop :=
  Fr g₀ L h' (fun z => if z = y then some (.ref D) else m z) → News g₀ L h' ((D, PySem.W.listOf ys k) :: news) → Q .next s'

theorem comp_frame {g₀ h h' : Heap} {L D : Addr} {m : Str → Option Value} {news : List (Addr × Obj)} {wr : List Addr} {ys : Array Value} {k : Nat} (F₂ : Fr g₀ L h m) (N₂ : News g₀ L h news)
    (hwr : ∀ b ∈ wr, g₀.get? b = none ∧ b ≠ L ∧ ∀ q ∈ news, q.1 ≠ b) (hk : ∀ b o, b ∉ wr → h.get? b = some o → h'.get? b = some o) (hD : h.get? D = none) (ho : h'.get? D = some (PySem.W.listOf ys k)) :
    Fr g₀ L h' m ∧ News g₀ L h' ((D, PySem.W.listOf ys k) :: news) := by
  have hg : ∀ b o, g₀.get? b = some o → b ∉ wr := fun b o e hb => by rw [(hwr b hb).1] at e; cases e
  refine ⟨⟨F₂.ns.at' fun o e => hk _ o (fun hb => (hwr _ hb).2.1 rfl) e, fun b o e => hk b o (hg b o e) (F₂.keep b o e), F₂.above⟩, fun q hq => ?_⟩
  rcases List.mem_cons.mp hq with rfl | hq
  · refine ⟨ho, fun e => ?_, ?_⟩
    · obtain ⟨o, _, _, hL, _⟩ := F₂.ns
      dsimp only at e
      rw [← e, hD] at hL; cases hL
    · cases e : g₀.get? D with
      | none => rfl
      | some o => have := F₂.keep _ _ e; rw [hD] at this; cases this
  · exact ⟨hk _ _ (fun hb => (hwr _ hb).2.2 q hq rfl) (N₂ q hq).1, (N₂ q hq).2⟩

theorem comp_base {g₀ h gB : Heap} {L : Addr} {m : Str → Option Value} {news : List (Addr × Obj)} {wr : List Addr} (F₂ : Fr g₀ L h m) (N₂ : News g₀ L h news)
    (hwr : ∀ b ∈ wr, g₀.get? b = none ∧ b ≠ L ∧ ∀ q ∈ news, q.1 ≠ b) (hk : ∀ b o, b ∉ wr → h.get? b = some o → gB.get? b = some o) :
    g₀.StaysIn gB ∧ ∀ q ∈ news, gB.get? q.1 = some q.2 :=
  ⟨fun b o e => hk b o (fun hb => by rw [(hwr b hb).1] at e; cases e) (F₂.keep b o e), fun q hq => hk _ _ (fun hb => (hwr _ hb).2.2 q hq rfl) (N₂ q hq).1⟩

theorem comp_eval {g₀ : Heap} {L : Addr} {m₀ : Str → Option Value} {s : Shared} {elt iter : Expr} {x : Str} {px : Pos} {ifs : List Expr} {scope : Scope} {cl : List (Str × Addr)} {pos : Pos} {Q : Value → Shared → Prop} (_F : Fr g₀ L s.heap m₀)
    (hclos : closureFor scope env = pure cl) (hcell : ∀ y ∈ scope.names, y.2 ≠ .cell) (hkind : scope.kind = .function)
    (hnames : ∀ y ∈ scope.names, y.2 = .local → scope.names.lookup y.1 = some .local) (hx : scope.names.lookup x = some .local)
    (hs : ∀ x, foldedSetIterable iter env x = pure x)
    (h : wpAny (model prog w) A (eval iter env) (fun xv s₁ => wpAny (model prog w) A (pyIter xv) (CompAt prog w A env g₀ L scope cl x ifs elt (FinV g₀ L Q)) E s₁) E s) :
    wpAny (model prog w) A (eval (.ListComp elt [⟨.Name x px, iter, ifs, 0⟩] scope pos) env) Q E s := by
  rw [eval_ListComp]
  refine wpAny_comprehension_free (use := none) rfl hs hclos hkind hnames (wpAny_mono h (fun xv s₁ h₁ => wpAny_mono h₁ (fun it s₂ h₂ => ?_) fun _ _ e => e) fun _ _ e => e)
  obtain ⟨I, fp, wr, n, P, St, m, news, p, F, rfl, W, hsz, hst, hfp, hwr, F₂, N₂, ht, he, hQ⟩ := h₂
  refine comp_block (RR := fun acc C => compPost (model prog w) A E none Q acc C) W hsz p F hcell hkind hx hst hfp
    (fun C i v s₃ m₃ gB E' hi hP hm Fm hk => let ⟨b1, b2⟩ := comp_base F₂ N₂ hwr hk; ht C i v s₃ m₃ gB E' hi hP hm Fm b1 b2)
    (fun C i v s₃ m₃ gB E' hi hP hp hm Fm hk => let ⟨b1, b2⟩ := comp_base F₂ N₂ hwr hk; he C i v s₃ m₃ gB E' hi hP hp hm Fm b1 b2) ?_
  intro D C h' tk ys vs hD hC hDs hDC hn hpl hlen hP hF hk
  obtain ⟨m', hn⟩ := hn
  refine ⟨m', hn, fun h'' hs'' => ?_⟩
  obtain ⟨k, hpl⟩ := hpl.extBut hs''.extBut hDC
  have hk'' : ∀ b o, b ∉ wr → s₂.heap.get? b = some o → h''.get? b = some o := fun b o hbf e => hs''.extBut b o (by rintro rfl; rw [hC] at e; cases e) (hk b o hbf e)
  obtain ⟨F₃, N₃⟩ := comp_frame (ys := ys) (k := k) F₂ N₂ hwr hk'' hD hpl
  exact hQ D h'' tk ys vs k hlen hP hF (fun q hq => hDs ▸ Heap.lt_size (N₂ q hq).1) F₃ N₃

theorem comp_assign {g₀ : Heap} {L : Addr} {m₀ : Str → Option Value} {s : Shared} {elt iter : Expr} {x y : Str} {px py : Pos} {ifs : List Expr} {scope : Scope} {cl : List (Str × Addr)} {pos spos : Pos} {Q : Flow → Shared → Prop} (_F : Fr g₀ L s.heap m₀)
    (hsw : swapsWith (.ListComp elt [⟨.Name x px, iter, ifs, 0⟩] scope pos) (some (.Name y py)) spos.line env = pure true)
    (hL : env.locals = L)
    (hclos : closureFor scope env = pure cl) (hcell : ∀ z ∈ scope.names, z.2 ≠ .cell) (hkind : scope.kind = .function)
    (hnames : ∀ z ∈ scope.names, z.2 = .local → scope.names.lookup z.1 = some .local) (hx : scope.names.lookup x = some .local)
    (hy : env.kindOf y = some .local) (hp : (env.scope.kind == .class || (env.scope.kind == .module && env.locals != env.globals)) = false)
    (hs : ∀ x, foldedSetIterable iter env x = pure x)
    (h : wpAny (model prog w) A (eval iter env) (fun xv s₁ => wpAny (model prog w) A (pyIter xv) (CompAt prog w A env g₀ L scope cl x ifs elt (FinS g₀ L y Q)) E s₁) E s) :
    wpAny (model prog w) A (exec (.Assign [.Name y py] (.ListComp elt [⟨.Name x px, iter, ifs, 0⟩] scope pos) spos) env) Q E s := by
  subst hL
  rw [exec_Assign_Name_used _ _ _ _ hsw]
  refine wpAny_bind (wpAny_standAt (wpAny_bind ?_))
  show wpAny _ A (do let _ ← comprehension (.ListComp elt [⟨.Name x px, iter, ifs, 0⟩] scope pos) scope env _ (newList []) false (eval iter env) (some (assign (.Name y py) env))) _ _ s
  refine wpAny_bind (wpAny_mono (wpAny_comprehension_free (use := some (assign (.Name y py) env)) (Q := fun _ s' => Q .next s') rfl hs hclos hkind hnames
    (wpAny_mono h (fun xv s₁ h₁ => wpAny_mono h₁ (fun it s₂ h₂ => ?_) fun _ _ e => e) fun _ _ e => e)) (fun _ s' hq => wpAny_pure (wpAny_pure hq)) fun _ _ e => e)
  obtain ⟨I, fp, wr, n, P, St, m, news, p, F, rfl, W, hsz, hst, hfp, hwr, F₂, N₂, ht, he, hQ⟩ := h₂
  refine comp_block (RR := fun acc C => compPost (model prog w) A E (some (assign (.Name y py) env)) (fun _ s' => Q .next s') acc C) W hsz p F hcell hkind hx hst hfp
    (fun C i v s₃ m₃ gB E' hi hP hm Fm hk => let ⟨b1, b2⟩ := comp_base F₂ N₂ hwr hk; ht C i v s₃ m₃ gB E' hi hP hm Fm b1 b2)
    (fun C i v s₃ m₃ gB E' hi hP hp hm Fm hk => let ⟨b1, b2⟩ := comp_base F₂ N₂ hwr hk; he C i v s₃ m₃ gB E' hi hP hp hm Fm b1 b2) ?_
  intro D C h' tk ys vs hD hC hDs hDC hn hpl hlen hP hF hk
  obtain ⟨m', hnC⟩ := hn
  have hnL := F₂.ns
  have hLw : env.locals ∉ wr := fun hb => (hwr _ hb).2.1 rfl
  have hLC : env.locals ≠ C := by rintro rfl; obtain ⟨o, _, _, ho, _⟩ := hnL; rw [hC] at ho; cases ho
  have hLD : env.locals ≠ D := by rintro rfl; obtain ⟨o, _, _, ho, _⟩ := hnL; rw [hD] at ho; cases ho
  show wpAny _ A (assign (.Name y py) env (.ref D)) _ _ _
  refine wpAny_assign_Name (wpAny_storeName_local hy (hnL.at' fun o e => hk _ o hLw e) (fun h₂ hn₂ hs₂ => ?_) hp)
  refine ⟨m', hnC.sameBut hs₂ (Ne.symm hLC), fun h₃ hs₃ => ?_⟩
  obtain ⟨k, hpl'⟩ := hpl
  obtain ⟨F₃, N₃⟩ := comp_frame (ys := ys) (k := k) F₂ N₂ hwr hk hD hpl'
  have F₄ : Fr g₀ env.locals h₂ _ := F₃.set hn₂ hs₂
  have N₄ : News g₀ env.locals h₂ ((D, PySem.W.listOf ys k) :: news) := N₃.set hs₂
  have hCn : ∀ q ∈ ((D, PySem.W.listOf ys k) :: news), q.1 ≠ C := fun q hq => by
    rcases List.mem_cons.mp hq with rfl | hq
    · exact hDC
    · intro e; have := (N₂ q hq).1; rw [e, hC] at this; cases this
  have F₅ : Fr g₀ env.locals h₃ (fun z => if z = y then some (.ref D) else m z) := ⟨F₄.ns.sameBut hs₃ hLC, fun b o e => hs₃.extBut b o (by rintro rfl; have := F₂.keep _ _ e; rw [hC] at this; cases this) (F₄.keep b o e), F₄.above⟩
  have N₅ : News g₀ env.locals h₃ ((D, PySem.W.listOf ys k) :: news) := fun q hq => ⟨hs₃.extBut _ _ (hCn q hq) (N₄ q hq).1, (N₄ q hq).2⟩
  exact hQ D h₃ _ ys vs k hlen hP hF (fun q hq => hDs ▸ Heap.lt_size (N₂ q hq).1) F₅ N₅
end
end MQ

namespace MQ

theorem paired_of_get {α β : Type} {R : α → β → Prop} : ∀ {vs : List α} {cs : List β}, vs.length = cs.length → (∀ (j : Nat) v, vs[j]? = some v → ∃ c, cs[j]? = some c ∧ R v c) → Paired R vs cs
  | [], [], _, _ => .nil
  | [], _ :: _, h, _ => by cases h
  | _ :: _, [], h, _ => by cases h
  | v :: vs, c :: cs, h, hg => by
    obtain ⟨c', e, hr⟩ := hg 0 v rfl
    cases e
    exact .cons hr (paired_of_get (Nat.succ.inj h) fun j v hj => hg (j + 1) v hj)

theorem Paired.get {α β : Type} {R : α → β → Prop} : ∀ {vs : List α} {cs : List β}, Paired R vs cs → ∀ (j : Nat) v, vs[j]? = some v → ∃ c, cs[j]? = some c ∧ R v c
  | _, _, .nil, _, _, h => by simp at h
  | _, _, .cons hr ht, 0, v, h => by cases h; exact ⟨_, rfl, hr⟩
  | _, _, .cons hr ht, j + 1, v, h => Paired.get ht j v h

theorem Paired.get' {α β : Type} {R : α → β → Prop} : ∀ {vs : List α} {cs : List β}, Paired R vs cs → ∀ (j : Nat) c, cs[j]? = some c → ∃ v, vs[j]? = some v ∧ R v c
  | _, _, .nil, _, _, h => by simp at h
  | _, _, .cons hr ht, 0, v, h => by cases h; exact ⟨_, rfl, hr⟩
  | _, _, .cons hr ht, j + 1, v, h => Paired.get' ht j v h

theorem Paired.mono {α β : Type} {R R' : α → β → Prop} (k : ∀ a b, R a b → R' a b) : ∀ {vs : List α} {cs : List β}, Paired R vs cs → Paired R' vs cs
  | _, _, .nil => .nil
  | _, _, .cons hr ht => .cons (k _ _ hr) (Paired.mono k ht)

/-- the one sign of a text of one sign -/
def oneCode : Value → Nat
  | .str z _ => z.cps.getD 0 0
  | _ => 0

theorem paired_signs {p : Nat → Bool} {F : Nat → Value → Prop} : ∀ {vs : List Value} {cs : List Nat}, Paired (fun v c => ∃ u, v = Value.str ⟨#[c]⟩ u) vs cs → ∀ {ys : List Value},
    Paired (fun v r => ∃ c u, v = Value.str ⟨#[c]⟩ u ∧ F c r) (vs.filter fun v => p (oneCode v)) ys → Paired F (cs.filter p) ys
  | _, _, .nil, ys, h => by cases h; exact .nil
  | _, _, .cons (a := v) (b := c) ⟨u, e⟩ ht, ys, h => by
    subst e
    have hc : oneCode (Value.str ⟨#[c]⟩ u) = c := rfl
    rw [List.filter_cons, hc] at h
    rw [List.filter_cons]
    cases hp : p c with
    | false => rw [hp] at h; exact paired_signs ht h
    | true =>
      rw [hp] at h
      simp only [if_true] at h ⊢
      cases h with
      | cons hr hs =>
        obtain ⟨c', u', e, hF⟩ := hr
        cases e
        exact .cons hF (paired_signs ht hs)

section
variable {prog : Program} {w : World} {A : Around} {E : Value → Shared → Prop} {env : Env} {g₀ : Heap} {L : Addr} {s : Shared} {scope : Scope} {cl : List (Str × Addr)} {x : Str} {ifs : List Expr} {elt : Expr}
  {fin : (Str → Option Value) → List (Addr × Obj) → Addr → Array Value → Nat → Heap → Shared → Prop} {m : Str → Option Value} {news : List (Addr × Obj)}

theorem fresh_size {h : Heap} (F₂ : Fr g₀ L h m) (N₂ : News g₀ L h news) : ∀ b ∈ [h.objs.size], g₀.get? b = none ∧ b ≠ L ∧ ∀ q ∈ news, q.1 ≠ b := fun b hb => by
  rcases List.mem_singleton.mp hb with rfl
  refine ⟨?_, Nat.ne_of_gt F₂.ns.lt, fun q hq => Nat.ne_of_lt (Heap.lt_size (N₂ q hq).1)⟩
  cases e : g₀.get? h.objs.size with
  | none => rfl
  | some o => exact absurd (Heap.lt_size (F₂.keep _ _ e)) (Nat.lt_irrefl _)

theorem news_push {h : Heap} (N₂ : News g₀ L h news) (o : Obj) : News g₀ L (h.push o) news := fun q hq => ⟨Heap.get?_push_of_some _ (N₂ q hq).1, (N₂ q hq).2⟩

/-- a comprehension over a text -/
theorem iter_str {y : Str} {t : Tok} (p : Nat → Bool) (F : Nat → Value → Prop) (F₂ : Fr g₀ L s.heap m) (N₂ : News g₀ L s.heap news) (hh : A.handled = none) (hy : y.length ≤ sizeLine)
    (ht : ∀ C c u s₃ m₃ gB E', c ∈ y.cps.toList → m₃ x = some (.str ⟨#[c]⟩ u) → Fr gB C s₃.heap m₃ → g₀.StaysIn gB → (∀ q ∈ news, gB.get? q.1 = some q.2) →
      wpAny (model prog w) A (forIn ifs true fun c r => if r = true then do let ok ← isTrue c (compEnvC scope cl C env) (eval c (compEnvC scope cl C env)); pure (ForInStep.yield ok) else pure (ForInStep.yield r))
        (EltEnd (fun ok => ok = p c) gB C m₃ s₃) E' s₃)
    (he : ∀ C c u s₃ m₃ gB E', c ∈ y.cps.toList → p c = true → m₃ x = some (.str ⟨#[c]⟩ u) → Fr gB C s₃.heap m₃ → g₀.StaysIn gB → (∀ q ∈ news, gB.get? q.1 = some q.2) →
      wpAny (model prog w) A (eval elt (compEnvC scope cl C env)) (EltEnd (F c) gB C m₃ s₃) E' s₃)
    (hQ : ∀ D h' tk ys k, Paired F (y.cps.toList.filter p) ys.toList → (∀ q ∈ news, q.1 < D) → fin m news D ys k h' { s with heap := h', toks := tk }) :
    wpAny (model prog w) A (pyIter (.str y t)) (CompAt prog w A env g₀ L scope cl x ifs elt fin) E s := by
  refine wpAny_pyIter_str fun o St W hst => ?_
  have sg : ∀ {i v}, SignAt y i v → ∃ c u, c ∈ y.cps.toList ∧ v = .str ⟨#[c]⟩ u := fun ⟨c, u, e, ev⟩ => ⟨c, u, by rw [← Array.getElem?_toList] at e; exact List.mem_of_getElem? e, ev⟩
  refine ⟨_, _, _, _, _, St, m, news, (fun v => p (oneCode v)), (fun v r => ∃ c u, v = Value.str ⟨#[c]⟩ u ∧ F c r), rfl, W A hh, hy, hst, fun b hb => ?_, fresh_size F₂ N₂, F₂.push o, news_push N₂ o, ?_, ?_, ?_⟩
  · rcases List.mem_singleton.mp hb with rfl
    show s.heap.objs.size < (s.heap.push o).objs.size
    rw [Heap.size_push]; exact Nat.lt_succ_self _
  · intro C i v s₃ m₃ gB E' hi hv hm Fm b1 b2
    obtain ⟨c, u, hc, rfl⟩ := sg hv
    exact ht C c u s₃ m₃ gB E' hc hm Fm b1 b2
  · intro C i v s₃ m₃ gB E' hi hv hp hm Fm b1 b2
    obtain ⟨c, u, hc, rfl⟩ := sg hv
    refine wpAny_mono (he C c u s₃ m₃ gB E' hc hp hm Fm b1 b2) (fun r s₄ h₄ => ?_) fun _ _ e => e
    exact ⟨⟨c, u, rfl, h₄.1⟩, h₄.2⟩
  · intro D h' tk ys vs k hlen hP hF hD
    refine hQ D h' tk ys k (paired_signs (paired_of_get (by rw [hlen]; rfl) fun j v hj => ?_) hF) hD
    obtain ⟨c, u, e, rfl⟩ := hP j v hj
    exact ⟨c, by rw [← Array.getElem?_toList] at e; exact e, u, rfl⟩

/-- a comprehension over range(n) -/
theorem iter_range {r : Addr} {b : Int} {t u v : Tok} (n : Nat) (F : Nat → Value → Prop) (F₂ : Fr g₀ L s.heap m) (N₂ : News g₀ L s.heap news) (hh : A.handled = none)
    (hr : IsRange s.heap r 0 b 1 t u v) (hb : b = (n : Int)) (hn : n ≤ sizeLine)
    (he : ∀ C i u s₃ m₃ gB E', i < n → m₃ x = some (.int (i : Nat) u) → Fr gB C s₃.heap m₃ → g₀.StaysIn gB → (∀ q ∈ news, gB.get? q.1 = some q.2) →
      wpAny (model prog w) A (eval elt (compEnvC scope cl C env)) (EltEnd (F i) gB C m₃ s₃) E' s₃)
    (hQ : ∀ D h' tk ys k, Paired F (List.range n) ys.toList → (∀ q ∈ news, q.1 < D) → fin m news D ys k h' { s with heap := h', toks := tk }) :
    wpAny (model prog w) A (pyIter (.ref r)) (CompAt prog w A env g₀ L scope cl x [] elt fin) E s := by
  subst hb
  have hlt : ((n : Nat) : Int) < 2 ^ 62 := by have h1 : sizeLine < 2 ^ 30 := by rw [sizeLine_eq]; decide
                                              omega
  refine wpAny_pyIter_range hr (small_one (by decide) (by decide) (by omega) hlt) ?_
  have hsz : Builtin.Range.rangeSize 0 (n : Int) 1 = (n : Int) := by rw [rangeSize_one]; split <;> omega
  refine ⟨_, _, _, n, _, _, m, news, (fun _ => true), (fun v r => ∃ (i : Nat) (u : Tok), v = Value.int (i : Int) u ∧ F i r), rfl, Walks.range hh _ 0 1 n, hn, ?_, fun b hb => ?_, fresh_size F₂ N₂, F₂.push _, news_push N₂ _, ?_, ?_, ?_⟩
  · have e1 : (0 + ((0 : Nat) : Int) * 1) = 0 := by simp
    have e2 : ((n : Int) - ((0 : Nat) : Int)) = Builtin.Range.rangeSize 0 (n : Int) 1 := by rw [hsz]; simp
    rw [e1, e2]
    exact Heap.get?_push_size _ rfl
  · rcases List.mem_singleton.mp hb with rfl
    show s.heap.objs.size < (s.heap.push _).objs.size
    rw [Heap.size_push]; exact Nat.lt_succ_self _
  · intro C i v s₃ m₃ gB E' hi hv hm Fm b1 b2
    exact wpAny_tests_nil ⟨rfl, _, _, rfl, Fm⟩
  · intro C i v s₃ m₃ gB E' hi hv hp hm Fm b1 b2
    obtain ⟨u, rfl⟩ := hv
    have e1 : (0 + (i : Int) * 1) = (i : Int) := by omega
    rw [e1] at hm ⊢
    refine wpAny_mono (he C i u s₃ m₃ gB E' hi hm Fm b1 b2) (fun r s₄ h₄ => ?_) fun _ _ e => e
    exact ⟨⟨i, u, rfl, h₄.1⟩, h₄.2⟩
  · intro D h' tk ys vs k hlen hP hF hD
    refine hQ D h' tk ys k ?_ hD
    rw [List.filter_eq_self.mpr (fun _ _ => rfl)] at hF
    refine paired_of_get ?_ fun j i hj => ?_
    · rw [← hF.length, hlen, List.length_range]
    · have hjn : j < n := by
        have := (List.getElem?_eq_some_iff.mp hj).1
        simpa using this
      have e : j = i := by rw [List.getElem?_eq_getElem (by simpa using hjn)] at hj; simpa using hj
      subst e
      have hv : vs[j]? = some (vs[j]'(by omega)) := List.getElem?_eq_getElem (by omega)
      obtain ⟨c, hc, i', u', e', hFc⟩ := Paired.get hF j _ hv
      obtain ⟨t', e''⟩ := hP j _ hv
      rw [e''] at e'
      have e3 : i' = j := by
        have := (Value.int.inj e').1
        omega
      exact ⟨c, hc, e3 ▸ hFc⟩

/-- a comprehension over a list of the ledger -/
theorem iter_list {r : Addr} {items : Array Value} {k₀ : Nat} (F : Value → Value → Prop) (F₂ : Fr g₀ L s.heap m) (N₂ : News g₀ L s.heap news) (hh : A.handled = none)
    (hr : (r, PySem.W.listOf items k₀) ∈ news) (hn : items.size ≤ sizeLine)
    (he : ∀ C v s₃ m₃ gB E', v ∈ items.toList → m₃ x = some v → Fr gB C s₃.heap m₃ → g₀.StaysIn gB → (∀ q ∈ news, gB.get? q.1 = some q.2) →
      wpAny (model prog w) A (eval elt (compEnvC scope cl C env)) (EltEnd (F v) gB C m₃ s₃) E' s₃)
    (hQ : ∀ D h' tk ys k, Paired F items.toList ys.toList → (∀ q ∈ news, q.1 < D) → fin m news D ys k h' { s with heap := h', toks := tk }) :
    wpAny (model prog w) A (pyIter (.ref r)) (CompAt prog w A env g₀ L scope cl x [] elt fin) E s := by
  have hl : s.heap.IsList r items := ⟨_, (N₂ _ hr).1, rfl, k₀, rfl⟩
  have hlt : r < s.heap.objs.size := Heap.lt_size (N₂ _ hr).1
  refine wpAny_pyIter_list hl ?_
  refine ⟨_, _, _, _, _, _, m, news, (fun _ => true), F, rfl, Walks.list hh _ r (Nat.ne_of_lt hlt) items, hn, ⟨⟨_, Heap.get?_push_size _ rfl, rfl, rfl⟩, hl.push _⟩, fun b hb => ?_, fresh_size F₂ N₂, F₂.push _, news_push N₂ _, ?_, ?_, ?_⟩
  · show b < (s.heap.push _).objs.size
    rw [Heap.size_push]
    rcases List.mem_cons.mp hb with rfl | hb
    · exact Nat.lt_succ_self _
    · rcases List.mem_singleton.mp hb with rfl; exact Nat.lt_succ_of_lt hlt
  · intro C i v s₃ m₃ gB E' hi hv hm Fm b1 b2
    exact wpAny_tests_nil ⟨rfl, _, _, rfl, Fm⟩
  · intro C i v s₃ m₃ gB E' hi hv hp hm Fm b1 b2
    exact he C v s₃ m₃ gB E' (by rw [← Array.getElem?_toList] at hv; exact List.mem_of_getElem? hv) hm Fm b1 b2
  · intro D h' tk ys vs k hlen hP hF hD
    rw [List.filter_eq_self.mpr (fun _ _ => rfl)] at hF
    have : vs = items.toList := by
      refine List.ext_getElem? fun j => ?_
      cases hj : vs[j]? with
      | some v => have := hP j v hj; rw [← Array.getElem?_toList] at this; exact this.symm
      | none =>
        have h1 : vs.length ≤ j := by simpa using hj
        exact (List.getElem?_eq_none (by rw [Array.length_toList]; omega)).symm
    subst this
    exact hQ D h' tk ys k hF hD
end

/-! ### loops -/

/-- the end of a turn -/
def TurnEnd (g₀ : Heap) (L I : Addr) (oI : Obj) (J : (Str → Option Value) → List (Addr × Obj) → Prop) (Q : Flow → Shared → Prop) (s₁ : Shared) (f : Flow) (s₂ : Shared) : Prop := match f with
  | .ret v => Q (.ret v) s₂
  | .brk => Q .next s₂
  | _ => ∃ h' tk m₂ news₂, s₂ = { s₁ with heap := h', toks := tk } ∧ Fr g₀ L h' m₂ ∧ News g₀ L h' ((I, oI) :: news₂) ∧ (∀ p ∈ news₂, p.1 ≠ I) ∧ J m₂ news₂

theorem TurnEnd.next {g₀ h' : Heap} {L I : Addr} {oI : Obj} {J : (Str → Option Value) → List (Addr × Obj) → Prop} {Q : Flow → Shared → Prop} {s₁ : Shared} {tk : Nat} {m₂ : Str → Option Value} {news₁ : List (Addr × Obj)} (news₂ : List (Addr × Obj))
    (F₂ : Fr g₀ L h' m₂) (N₂ : News g₀ L h' news₁) (hs : ∀ p ∈ (I, oI) :: news₂, p ∈ news₁) (ha : ∀ p ∈ news₂, p.1 ≠ I) (hJ : J m₂ news₂) : TurnEnd g₀ L I oI J Q s₁ .next { s₁ with heap := h', toks := tk } :=
  ⟨h', tk, m₂, news₂, rfl, F₂, fun p hp => N₂ p (hs p hp), ha, hJ⟩

section
variable {prog : Program} {w : World} {A : Around} {E : Value → Shared → Prop} {s : Shared} {env : Env} {g₀ : Heap}

/-- what stands where a loop's iterator has been made -/
def ForAt (prog : Program) (w : World) (A : Around) (env : Env) (g₀ : Heap) (L : Addr) (x : Str) (body : List Stmt) (Q : Flow → Shared → Prop) (it : Value) (s₂ : Shared) : Prop :=
  ∃ (I : Addr) (fp : List Addr) (n : Nat) (P : Nat → Value → Prop) (St : Nat → Heap → Prop) (m : Str → Option Value) (news kept : List (Addr × Obj)) (J : Nat → (Str → Option Value) → List (Addr × Obj) → Prop),
    it = .ref I ∧ Walks prog w A I fp [I] n P St ∧ L ∉ fp ∧ g₀.get? I = none ∧ (∀ p ∈ news, p.1 ≠ I) ∧ (∀ i h, St i h → ∃ o, h.get? I = some o) ∧ St 0 s₂.heap ∧ Fr g₀ L s₂.heap m ∧ News g₀ L s₂.heap news ∧
    (∀ b ∈ fp, b = I ∨ ∃ o, (b, o) ∈ kept) ∧ (∀ i m' news', J i m' news' → ∀ p ∈ kept, p ∈ news') ∧ J 0 m news ∧
    (∀ i v m₁ news₁ h₁ tk₁ oI, i < n → P i v → J i m₁ news₁ → (∀ p ∈ news₁, p.1 ≠ I) → Fr g₀ L h₁ (fun y => if y = x then some v else m₁ y) → News g₀ L h₁ ((I, oI) :: news₁) →
      wpAny (model prog w) A (execs body env) (TurnEnd g₀ L I oI (J (i + 1)) Q { s₂ with heap := h₁, toks := tk₁ }) (fun _ _ => False) { s₂ with heap := h₁, toks := tk₁ }) ∧
    ∀ h' tk m' news', Fr g₀ L h' m' → News g₀ L h' news' → J n m' news' → Q .next { s₂ with heap := h', toks := tk }

theorem for_rule {L : Addr} {m₀ : Str → Option Value} {Q : Flow → Shared → Prop} {x : Str} {px pos : Pos} {iter : Expr} {body : List Stmt} (_F : Fr g₀ L s.heap m₀) (hL : env.locals = L) (hx : env.kindOf x = some .local)
    (hp : (env.scope.kind == .class || (env.scope.kind == .module && env.locals != env.globals)) = false) (hs : ∀ x, foldedSetIterable iter env x = pure x)
    (h : wpAny (model prog w) A (eval iter env) (fun xv s₁ => wpAny (model prog w) A (pyIter xv) (ForAt prog w A env g₀ L x body Q) E s₁) E s) :
    wpAny (model prog w) A (exec (.For (.Name x px) iter body [] pos) env) Q E s := by
  subst hL
  refine wpAny_For (wpAny_mono h (fun xv s₁ h₁ => wpAny_mono h₁ (fun it s₂ h₂ => ?_) fun _ _ e => e) fun _ _ e => e) hs
  obtain ⟨I, fp, n, P, St, m, news, kept, J, rfl, W, hLf, hI, hnw, hIo, hst, F, N, hfp, hkept, h0, step, hQ⟩ := h₂
  have hLI : env.locals ≠ I := by
    rintro e
    exact hLf (e ▸ W.sub I (List.mem_singleton.mpr rfl))
  have hLw : env.locals ∉ [I] := fun hb => hLI (List.mem_singleton.mp hb)
  have old : ∀ b o, g₀.get? b = some o → b ∉ [I] := fun b o e hb => by rw [List.mem_singleton.mp hb, hI] at e; cases e
  refine codeAny_forLoop
    (fun k s' => ∃ h' tk m' news' i, s' = { s₂ with heap := h', toks := tk } ∧ St i h' ∧ Fr g₀ env.locals h' m' ∧ News g₀ env.locals h' news' ∧ (∀ p ∈ news', p.1 ≠ I) ∧ J i m' news' ∧ i ≤ n ∧ k = n + 1 - i) ?_ (n + 1)
    ⟨s₂.heap, s₂.toks, m, news, 0, rfl, hst, F, N, hnw, h0, Nat.zero_le _, rfl⟩
  rintro k s' ⟨h', tk, m', news', i, rfl, hst', F', N', hnw', hJ, hi, rfl⟩
  have next : ∀ h₁ : Heap, (∀ b o, b ∉ [I] → h'.get? b = some o → h₁.get? b = some o) → Fr g₀ env.locals h₁ m' ∧ News g₀ env.locals h₁ news' := fun h₁ hk₁ =>
    ⟨⟨F'.ns.at' fun o e => hk₁ _ o hLw e, fun b o e => hk₁ b o (old b o e) (F'.keep b o e), F'.above⟩, fun p hp => ⟨hk₁ _ _ (fun hb => hnw' p hp (List.mem_singleton.mp hb)) (N' p hp).1, (N' p hp).2⟩⟩
  by_cases hlt : i < n
  · refine W.item i _ _ _ hlt hst' fun v h₁ tk₁ hP hst₁ hk₁ => ?_
    obtain ⟨F₁, N₁⟩ := next h₁ hk₁
    refine wpAny_assign_Name (wpAny_storeName_local hx F₁.ns (fun h₂ hn₂ hs₂ => ?_) hp)
    have F₂ := F₁.set hn₂ hs₂
    have N₂ := N₁.set hs₂
    have hst₂ : St (i + 1) h₂ := W.frame _ _ _ hst₁ fun b hb o e => (hs₂.2 b fun q => hLf (q ▸ hb)).trans e
    obtain ⟨oI, hoI⟩ := hIo _ _ hst₂
    have N₃ : News g₀ env.locals h₂ ((I, oI) :: news') := fun p hp => by
      rcases List.mem_cons.mp hp with rfl | hp
      · exact ⟨hoI, Ne.symm hLI, hI⟩
      · exact N₂ p hp
    refine wpAny_mono (step i v m' news' _ _ oI hlt hP hJ hnw' F₂ N₃) (fun f s₃ h₃ => ?_) fun _ _ e => e.elim
    have go : (∃ h' tk m₂ news₂, s₃ = { ({ s₂ with heap := h₂, toks := tk₁ + 1 } : Shared) with heap := h', toks := tk } ∧ Fr g₀ env.locals h' m₂ ∧ News g₀ env.locals h' ((I, oI) :: news₂) ∧ (∀ p ∈ news₂, p.1 ≠ I) ∧ J (i + 1) m₂ news₂) →
        ∃ m, m < n + 1 - i ∧ ∃ h' tk m' news' i, s₃ = { s₂ with heap := h', toks := tk } ∧ St i h' ∧ Fr g₀ env.locals h' m' ∧ News g₀ env.locals h' news' ∧ (∀ p ∈ news', p.1 ≠ I) ∧ J i m' news' ∧ i ≤ n ∧ m = n + 1 - i := by
      rintro ⟨h₄, tk₄, m₂, news₂, rfl, F₄, N₄, ha₄, hJ₄⟩
      refine ⟨n + 1 - (i + 1), by omega, h₄, tk₄, m₂, news₂, i + 1, rfl, ?_, F₄, fun p hp => N₄ p (List.mem_cons_of_mem _ hp), ha₄, hJ₄, hlt, rfl⟩
      refine W.frame _ _ _ hst₂ fun b hb o e => ?_
      rcases hfp b hb with rfl | ⟨o', hk'⟩
      · rw [hoI] at e; cases e
        exact (N₄ _ (List.mem_cons_self ..)).1
      · have h1 := (N₂ _ (hkept _ _ _ hJ _ hk')).1
        rw [e] at h1; cases h1
        exact (N₄ _ (List.mem_cons_of_mem _ (hkept _ _ _ hJ₄ _ hk'))).1
    cases f with
    | next => exact go h₃
    | cont => exact go h₃
    | brk => exact h₃
    | ret v => exact h₃
  · have hin : i = n := by omega
    subst hin
    refine W.done _ _ _ hst' fun h₁ tk₁ hk₁ => wpAny_execs_nil ?_
    obtain ⟨F₁, N₁⟩ := next h₁ hk₁
    exact hQ h₁ tk₁ m' news' F₁ N₁ hJ

theorem for_str {L : Addr} {Q : Flow → Shared → Prop} {x : Str} {body : List Stmt} {y : Str} {t : Tok} {m : Str → Option Value} {news : List (Addr × Obj)} (J : Nat → (Str → Option Value) → List (Addr × Obj) → Prop)
    (F₂ : Fr g₀ L s.heap m) (N₂ : News g₀ L s.heap news) (hh : A.handled = none) (h0 : J 0 m news)
    (step : ∀ i c u m₁ news₁ h₁ tk₁ I oI, y.cps.toList[i]? = some c → J i m₁ news₁ → (∀ p ∈ news₁, p.1 ≠ I) → (∀ p ∈ news, p.1 < I) → Fr g₀ L h₁ (fun z => if z = x then some (.str ⟨#[c]⟩ u) else m₁ z) → News g₀ L h₁ ((I, oI) :: news₁) →
      wpAny (model prog w) A (execs body env) (TurnEnd g₀ L I oI (J (i + 1)) Q { s with heap := h₁, toks := tk₁ }) (fun _ _ => False) { s with heap := h₁, toks := tk₁ })
    (hQ : ∀ h' tk m' news', Fr g₀ L h' m' → News g₀ L h' news' → J y.cps.toList.length m' news' → Q .next { s with heap := h', toks := tk }) :
    wpAny (model prog w) A (pyIter (.str y t)) (ForAt prog w A env g₀ L x body Q) E s := by
  have fs := fresh_size F₂ N₂ _ (List.mem_singleton.mpr rfl)
  have go : ∀ (o : Obj) (St : Nat → Heap → Prop), Walks prog w A s.heap.objs.size [s.heap.objs.size] [s.heap.objs.size] y.cps.size (SignAt y) St → St 0 (s.heap.push o) → (∀ i h, St i h → ∃ o, h.get? s.heap.objs.size = some o) →
      ForAt prog w A env g₀ L x body Q (.ref s.heap.objs.size) { s with heap := s.heap.push o } := fun o St W hst hI => by
    refine ⟨_, _, y.cps.size, _, St, m, news, [], J, rfl, W, fun hb => fs.2.1 (List.mem_singleton.mp hb).symm, fs.1, fs.2.2, hI, hst, F₂.push _, news_push N₂ _,
      fun b hb => .inl (List.mem_singleton.mp hb), (fun _ _ _ _ p hp => by cases hp), h0, ?_, fun h' tk m' news' F' N' hJ => hQ h' tk m' news' F' N' hJ⟩
    intro i v m₁ news₁ h₁ tk₁ oI hi hP hJ ha F₁ N₁
    obtain ⟨c, u, e, rfl⟩ := hP
    exact step i c u m₁ news₁ h₁ tk₁ _ oI (by rw [Array.getElem?_toList]; exact e) hJ ha (fun p hp => Heap.lt_size (N₂ p hp).1) F₁ N₁
  cases ha : y.cps.all (· < 128)
  · exact wpAny_pyIter_wide ha (go _ _ (Walks.strWide hh _ y t) ⟨_, Heap.get?_push_size _ rfl, rfl, rfl⟩ fun i h st => let ⟨o, ho, _⟩ := st; ⟨o, ho⟩)
  · exact wpAny_pyIter_ascii ha (go _ _ (Walks.strAscii hh _ y t) ⟨_, Heap.get?_push_size _ rfl, rfl, rfl⟩ fun i h st => let ⟨o, ho, _⟩ := st; ⟨o, ho⟩)

theorem for_range {L : Addr} {Q : Flow → Shared → Prop} {x : Str} {body : List Stmt} {r : Addr} {b : Int} {t u v : Tok} {m : Str → Option Value} {news : List (Addr × Obj)} (n : Nat) (J : Nat → (Str → Option Value) → List (Addr × Obj) → Prop)
    (F₂ : Fr g₀ L s.heap m) (N₂ : News g₀ L s.heap news) (hh : A.handled = none) (hr : IsRange s.heap r 0 b 1 t u v) (hb : b = (n : Int)) (hn : n ≤ sizeLine) (h0 : J 0 m news)
    (step : ∀ i u m₁ news₁ h₁ tk₁ I oI, i < n → J i m₁ news₁ → (∀ p ∈ news₁, p.1 ≠ I) → (∀ p ∈ news, p.1 < I) → Fr g₀ L h₁ (fun z => if z = x then some (.int (i : Nat) u) else m₁ z) → News g₀ L h₁ ((I, oI) :: news₁) →
      wpAny (model prog w) A (execs body env) (TurnEnd g₀ L I oI (J (i + 1)) Q { s with heap := h₁, toks := tk₁ }) (fun _ _ => False) { s with heap := h₁, toks := tk₁ })
    (hQ : ∀ h' tk m' news', Fr g₀ L h' m' → News g₀ L h' news' → J n m' news' → Q .next { s with heap := h', toks := tk }) :
    wpAny (model prog w) A (pyIter (.ref r)) (ForAt prog w A env g₀ L x body Q) E s := by
  subst hb
  have hlt : ((n : Nat) : Int) < 2 ^ 62 := by have h1 : sizeLine < 2 ^ 30 := by rw [sizeLine_eq]; decide
                                              omega
  refine wpAny_pyIter_range hr (small_one (by decide) (by decide) (by omega) hlt) ?_
  have hsz : Builtin.Range.rangeSize 0 (n : Int) 1 = (n : Int) := by rw [rangeSize_one]; split <;> omega
  have fs := fresh_size F₂ N₂ _ (List.mem_singleton.mpr rfl)
  refine ⟨_, _, n, _, _, m, news, [], J, rfl, Walks.range hh _ 0 1 n, fun hb => fs.2.1 (List.mem_singleton.mp hb).symm, fs.1, fs.2.2, fun i h st => ⟨_, st⟩, ?_, F₂.push _, news_push N₂ _,
    fun b hb => .inl (List.mem_singleton.mp hb), (fun _ _ _ _ p hp => by cases hp), h0, ?_, fun h' tk m' news' F' N' hJ => hQ h' tk m' news' F' N' hJ⟩
  · have e1 : (0 + ((0 : Nat) : Int) * 1) = 0 := by simp
    have e2 : ((n : Int) - ((0 : Nat) : Int)) = Builtin.Range.rangeSize 0 (n : Int) 1 := by rw [hsz]; simp
    rw [e1, e2]
    exact Heap.get?_push_size _ rfl
  · intro i v m₁ news₁ h₁ tk₁ oI hi hP hJ ha F₁ N₁
    obtain ⟨u, rfl⟩ := hP
    have e1 : (0 + (i : Int) * 1) = (i : Int) := by omega
    rw [e1] at F₁
    exact step i u m₁ news₁ h₁ tk₁ _ oI hi hJ ha (fun p hp => Heap.lt_size (N₂ p hp).1) F₁ N₁

theorem for_list {L : Addr} {Q : Flow → Shared → Prop} {x : Str} {body : List Stmt} {r : Addr} {items : Array Value} {k₀ : Nat} {m : Str → Option Value} {news : List (Addr × Obj)} (J : Nat → (Str → Option Value) → List (Addr × Obj) → Prop)
    (F₂ : Fr g₀ L s.heap m) (N₂ : News g₀ L s.heap news) (hh : A.handled = none) (hr : (r, PySem.W.listOf items k₀) ∈ news) (h0 : J 0 m news) (hJr : ∀ i m' news', J i m' news' → (r, PySem.W.listOf items k₀) ∈ news')
    (step : ∀ i v m₁ news₁ h₁ tk₁ I oI, items.toList[i]? = some v → J i m₁ news₁ → (∀ p ∈ news₁, p.1 ≠ I) → (∀ p ∈ news, p.1 < I) → Fr g₀ L h₁ (fun z => if z = x then some v else m₁ z) → News g₀ L h₁ ((I, oI) :: news₁) →
      wpAny (model prog w) A (execs body env) (TurnEnd g₀ L I oI (J (i + 1)) Q { s with heap := h₁, toks := tk₁ }) (fun _ _ => False) { s with heap := h₁, toks := tk₁ })
    (hQ : ∀ h' tk m' news', Fr g₀ L h' m' → News g₀ L h' news' → J items.toList.length m' news' → Q .next { s with heap := h', toks := tk }) :
    wpAny (model prog w) A (pyIter (.ref r)) (ForAt prog w A env g₀ L x body Q) E s := by
  have hl : s.heap.IsList r items := ⟨_, (N₂ _ hr).1, rfl, k₀, rfl⟩
  have hlt : r < s.heap.objs.size := Heap.lt_size (N₂ _ hr).1
  refine wpAny_pyIter_list hl ?_
  have fs := fresh_size F₂ N₂ _ (List.mem_singleton.mpr rfl)
  have hrL : r ≠ L := (N₂ _ hr).2.1
  refine ⟨_, _, items.size, _, _, m, news, [(r, PySem.W.listOf items k₀)], J, rfl, Walks.list hh _ r (Nat.ne_of_lt hlt) items, fun hb => ?_, fs.1, fs.2.2, fun i h st => let ⟨o, ho, _⟩ := st.1; ⟨o, ho⟩, ⟨⟨_, Heap.get?_push_size _ rfl, rfl, rfl⟩, hl.push _⟩, F₂.push _, news_push N₂ _,
    fun b hb => ?_, fun i m' news' hJ p hp => List.mem_singleton.mp hp ▸ hJr i m' news' hJ, h0, ?_, fun h' tk m' news' F' N' hJ => hQ h' tk m' news' F' N' (by rw [Array.length_toList]; exact hJ)⟩
  · rcases List.mem_cons.mp hb with e | hb
    · exact fs.2.1 e.symm
    · exact hrL (List.mem_singleton.mp hb).symm
  · rcases List.mem_cons.mp hb with e | hb
    · exact .inl e
    · exact .inr ⟨_, by rw [List.mem_singleton.mp hb]; exact List.mem_singleton.mpr rfl⟩
  · intro i v m₁ news₁ h₁ tk₁ oI hi hP hJ ha F₁ N₁
    exact step i v m₁ news₁ h₁ tk₁ _ oI (by rw [Array.getElem?_toList]; exact hP) hJ ha (fun p hp => Heap.lt_size (N₂ p hp).1) F₁ N₁
end
end MQ

namespace MQ
section
variable {M : Model} {A : Around} {E : Value → Shared → Prop} {s : Shared} {K : Frag} {h₀ : Heap} {L : Addr} {m mg mb : Str → Option Value} {p : Program} {loose : List Str} {env : Env}
  {x : Str} {pos : Pos} {v : Value} {Q : Value → Shared → Prop} {c : Addr} {o : Obj}
theorem nameC_L (F : Fr h₀ L s.heap m) (hv : m x = some v) (h : Q v s) (hl : env.locals = L) (hk : env.scope.kind = .function) (hx : env.kindOf x = some .local) (hd : (x == ("__debug__" : Str)) = false) :
    wpAny M A (eval (.Name x pos) env) Q E s := by
  subst hl
  exact wpAny_Name (wpAny_loadName_local hk hx F.ns hv h) hd
theorem nameC_C (F : Fr h₀ L s.heap m) (hc : env.cells.lookup x = some c) (ho : h₀.get? c = some o) (hd : o.data = .cell (some v)) (h : Q v s) (hk : env.scope.kind = .function) (hx : env.kindOf x = some .cell) (hb : (x == ("__debug__" : Str)) = false) :
    wpAny M A (eval (.Name x pos) env) Q E s := wpAny_Name (wpAny_loadName_cell hk hx hc ⟨o, F.keep _ _ ho, hd⟩ h) hb
theorem nameC_B (F : Fr h₀ L s.heap m) (X : K.In h₀) (T : TopRead p loose mg mb h₀) (e : nsIn K mainGlobals x = some none) (hv : bootBuiltins x = some v) (hn : x ≠ "__name__") (h : Q v s)
    (hg : env.globals = mainGlobals) (hbn : env.builtins = builtinsNs) (hk : env.scope.kind = .function) (hx : env.kindOf x = some .globalImplicit) (hd : (x == ("__debug__" : Str)) = false) :
    wpAny M A (eval (.Name x pos) env) Q E s :=
  Name_function_global hk hx (loadGlobal_builtin (env := env) (by rw [hg]; exact T.g.keeps F.keep) (mg_none_of X T.g e) (by rw [hbn]; exact T.b.keeps F.keep) ((T.builtins x hn).trans hv) h) hd
end
end MQ
namespace MQ
theorem loadC_L {M : Model} {A : Around} {E : Value → Shared → Prop} {s : Shared} {h₀ : Heap} {L : Addr} {m : Str → Option Value} {env : Env} {x : Str} {v : Value} {Q : Value → Shared → Prop}
    (F : Fr h₀ L s.heap m) (hv : m x = some v) (h : Q v s) (hl : env.locals = L) (hk : env.scope.kind = .function) (hx : env.kindOf x = some .local) : wpAny M A (loadName env x) Q E s := by
  subst hl
  exact wpAny_loadName_local hk hx F.ns hv h
end MQ

namespace MQ
/-- an apostrophe as shlex.quote spells it; any other sign as itself -/
def spellC (c : Nat) : List Nat := if c = 39 then [39, 34, 39, 34, 39] else [c]
def spell (x : List Nat) : List Nat := x.flatMap spellC
def ofL (l : List Nat) : Str := ⟨l.toArray⟩
def lst (x : Str) : List Nat := x.cps.toList
theorem lst_ofL (l : List Nat) : lst (ofL l) = l := rfl
theorem ofL_lst (x : Str) : ofL (lst x) = x := by cases x; rfl
theorem ofL_append (a b : List Nat) : ofL a ++ ofL b = ofL (a ++ b) := str_eq_of_lists (by show (a.toArray ++ b.toArray).toList = _; simp [ofL])
theorem ofL_length (a : List Nat) : (ofL a).length = a.length := by show a.toArray.size = _; simp
theorem lst_length (x : Str) : (lst x).length = x.length := by show x.cps.toList.length = x.cps.size; simp
theorem ofL_inj {a b : List Nat} (h : ofL a = ofL b) : a = b := congrArg lst h

theorem join_ofL : ∀ ls : List (List Nat), Txt.join (Str.ofString "") (ls.map ofL) = ofL ls.flatten := by
  intro ls
  show Builtin.Str.glued _ _ = _
  rw [StrLaws.glued_eq_join]
  have e : Str.ofString "" = ofL [] := by decide
  rw [e]
  induction ls with
  | nil => rfl
  | cons a r ih =>
    cases r with
    | nil => show ofL a = _; simp
    | cons b r =>
      show ofL a ++ ofL [] ++ Str.join (ofL []) ((b :: r).map ofL) = _
      rw [ih, ofL_append, ofL_append]; simp

theorem strsAre_of_paired {f : Nat → List Nat} : ∀ {cs : List Nat} {ys : List Value}, Paired (fun c y => ∃ t, y = Value.str (ofL (f c)) t) cs ys → StrsAre ys ((cs.map f).map ofL)
  | _, _, .nil => .nil
  | _, _, .cons ⟨t, e⟩ h => by subst e; exact .cons _ t (strsAre_of_paired h)
theorem spell_le (x : List Nat) : (spell x).length ≤ 5 * x.length := by
  induction x with
  | nil => exact Nat.le_refl _
  | cons c r ih =>
    show (spellC c ++ spell r).length ≤ _
    rw [List.length_append, List.length_cons]
    have : (spellC c).length ≤ 5 := by unfold spellC; split <;> simp
    omega
theorem sum_ofL (ls : List (List Nat)) : ((ls.map ofL).map (·.length)).sum = ls.flatten.length := by
  induction ls with
  | nil => rfl
  | cons a r ih => simp only [List.map_cons, List.sum_cons, List.flatten_cons, List.length_append, ih, ofL_length]
end MQ
namespace MQ
open PySem.Spec
theorem canLayAll0_strs : ∀ ss : List Str, (∀ x ∈ ss, PyData.strOk x = true) → PyData.canLayAll0 (ss.map PyData.str) = true
  | [], _ => by simp [PyData.canLayAll0]
  | x :: r, h => by
    have h1 := h x (List.mem_cons_self ..)
    have h2 := canLayAll0_strs r fun y hy => h y (List.mem_cons_of_mem _ hy)
    simp [PyData.canLayAll0, PyData.canLay0, h1, h2]
theorem depthAll_strs : ∀ ss : List Str, PyData.depthAll (ss.map PyData.str) ≤ 1
  | [] => by simp [PyData.depthAll]
  | _ :: r => by
    have := depthAll_strs r
    simp only [List.map_cons, PyData.depthAll, PyData.depth]
    omega
theorem shaped_strs (ss : List Str) (hok : ∀ x ∈ ss, PyData.strOk x = true) : SeqAt.shaped (.list (ss.map PyData.str)) = true := by
  have h1 := depthAll_strs ss
  have h2 : PyData.depth (.list (ss.map PyData.str)) ≤ 64 := by simp only [PyData.depth]; omega
  show (PyData.canLay0 (.list (ss.map PyData.str)) && decide (PyData.depth (.list (ss.map PyData.str)) ≤ 64)) = true
  rw [Bool.and_eq_true]
  exact ⟨by simp only [PyData.canLay0]; exact canLayAll0_strs ss hok, decide_eq_true h2⟩
theorem reads_strs {h : Heap} {a : Addr} {items : Array Value} {ss : List Str} (hl : h.IsList a items) (hi : StrsAre items.toList ss) : Reads h (.ref a) (.list (ss.map PyData.str)) [a] := by
  obtain ⟨o, ho, hc, n, hd⟩ := hl
  exact Reads.list ho hc hd (StrsAre.reads _ hi)
/-- a list of texts against the empty list -/
theorem eq_strs_nil {prog : Program} {w : World} {A : Around} {E : Value → Shared → Prop} {s : Shared} {a b : Addr} {items : Array Value} {ss : List Str} {Q : Value → Shared → Prop} (hl : s.heap.IsList a items) (hi : StrsAre items.toList ss)
    (hok : ∀ x ∈ ss, PyData.strOk x = true) (hl' : s.heap.IsList b #[]) (hu : A.units + 64 < cLine) (h : Q (.bool ss.isEmpty) s) : wpAny (model prog w) A (compareOp .Eq (.ref a) (.ref b)) Q E s := by
  refine eq_dataH_same (reads_strs hl hi) (reads_strs (ss := []) hl' .nil) (shaped_strs ss hok) (shaped_strs [] (fun _ h => by cases h)) hu ?_ ?_
  · cases ss <;> simp [SeqAt.noMix, SeqAt.noMixAll]
  · cases ss <;> simpa [PySem.Spec.same, PySem.Spec.sameAll] using h
end MQ
namespace MQ
theorem spell_append (a b : List Nat) : spell (a ++ b) = spell a ++ spell b := by unfold spell; rw [List.flatMap_append]
theorem spell_free : ∀ l : List Nat, 39 ∉ l → spell l = l
  | [], _ => rfl
  | k :: r, h => by
    have h1 : k ≠ 39 := fun e => h (e ▸ List.mem_cons_self ..)
    have h2 : 39 ∉ r := fun m => h (List.mem_cons_of_mem _ m)
    show spellC k ++ spell r = _
    rw [spell_free r h2]
    unfold spellC
    rw [if_neg h1]; rfl
theorem spell_join : ∀ parts : List Str, (∀ p ∈ parts, 39 ∉ p.cps.toList) → spell (Str.join ⟨#[39]⟩ parts).cps.toList = (Str.join ⟨#[39, 34, 39, 34, 39]⟩ parts).cps.toList
  | [], _ => rfl
  | [p], h => spell_free _ (h p (List.mem_singleton.mpr rfl))
  | p :: q :: r, h => by
    have ih := spell_join (q :: r) fun a ha => h a (List.mem_cons_of_mem _ ha)
    show spell (p ++ ⟨#[39]⟩ ++ Str.join ⟨#[39]⟩ (q :: r)).cps.toList = (p ++ ⟨#[39, 34, 39, 34, 39]⟩ ++ Str.join ⟨#[39, 34, 39, 34, 39]⟩ (q :: r)).cps.toList
    simp only [Str.cps_append, Array.toList_append]
    rw [spell_append, spell_append, ih, spell_free _ (h p (List.mem_cons_self ..))]
    rfl
theorem replace_spell (x : Str) : Txt.replace x (Str.ofString "'") (Str.ofString "'\"'\"'") = ofL (spell x.cps.toList) := by
  have e1 : Str.ofString "'" = ⟨#[39]⟩ := by decide
  have e2 : Str.ofString "'\"'\"'" = ⟨#[39, 34, 39, 34, 39]⟩ := by decide
  rw [e1, e2]
  refine str_eq_of_lists ?_
  rw [StrLaws.replace_one, ← spell_join _ (StrLaws.split_free x 39), StrLaws.join_split]
  rfl
end MQ

namespace MQ
section
local macro_rules | `(tactic| walk_at "eval ListComp") => `(tactic| (k_here; k_dflt (refine' comp_eval ?kF ?k1 ?k2 ?k3 ?k4 ?k5 ?k6 ?_; (case kF => k_asm); (case k1 => with_unfolding_all rfl); (case k2 => decide); (case k3 => with_unfolding_all rfl); (case k4 => decide); (case k5 => with_unfolding_all rfl); (case k6 => intro _; with_unfolding_all rfl); k_whole)))
local macro_rules | `(tactic| walk_at "eval Name") => `(tactic| (k_here; k_dflt (refine' nameC_L ?k1 ?k2 ?_ ?k3 ?k4 ?k5 ?k6; (case k3 => rfl); (case k1 => k_asm); (case k2 => first | assumption | exact rfl); (case k4 => rfl); (case k5 => rfl); (case k6 => decide); k_whole)))
set_option maxRecDepth 100000 in
set_option maxHeartbeats 8000000 in
theorem spelled_ct (w : World) (mean : ExcName → Option Value) (mg mb : Str → Option Value) (x : Str) (t : Tok) :
   Ct w mean mg mb 3 80 [Value.str x t] (fun _ => x.length ≤ 1000) (fun v tl => tl = [] ∧ ∃ t, v = Value.str (ofL (spell x.cps.toList)) t) := by
  w_on
  have hfill : (PySem.Challenge.rw_mq0098_01 = PySem.Challenge.rw_mq0098_01) ∧ (hd.heap_39 = hd.heap_39) := by (k_fill; exact ⟨rfl, rfl⟩)
  clear hfill
  intro A s Q E hh X T hP hd hu hret
  refine' enter0 X T ?ho ?hcd ?hroom ?hbind ?hloc ?_ ?c1 ?c2 ?c3 ?hcell
  (case ho => k_is)
  (case hcd => k_is)
  (case hroom => omega)
  (case c1 => exact rfl)
  (case c2 => exact rfl)
  (case c3 => exact rfl)
  (case hbind => exact BindsTo.of_eq rfl)
  (case hloc => exact locs rfl)
  (case hcell => decide)
  intro L' h' hL F' N'
  try dsimp only
  try k_fold
  k_steps
  refine' iter_str (fun _ => true) (fun c y => ∃ t, y = .str (ofL (spellC c)) t) ?F ?N ?hh ?hy ?ht ?he ?hQ
  (case F => k_asm)
  (case N => k_asm)
  (case hh => exact hh)
  (case hy => rw [sizeLine_eq]; omega)
  (case ht => intro C c u s₃ m₃ gB E' hc hm Fm st hn; exact wpAny_tests_nil ⟨rfl, _, _, rfl, Fm⟩)
  case he =>
    intro C c u s₃ m₃ gB E' hc hp hm Fm st hn
    have X' := X.keeps st
    have T' := T.keeps st
    k_steps
    · rename_i hq
      have hc39 : c = 39 := by
        have := beq_iff_eq.mp hq
        have h1 : ofL [c] = ofL [39] := this
        exact List.head_eq_of_cons_eq (ofL_inj h1)
      subst hc39
      exact EltEnd.intro ⟨_, rfl⟩ Fm
    · rename_i hq
      have hc39 : c ≠ 39 := fun e => by subst e; exact absurd hq (by decide)
      have e : spellC c = [c] := if_neg hc39
      exact EltEnd.intro ⟨u, by rw [e]; rfl⟩ Fm
  case hQ =>
    intro D h₄ tk ys k hP hD F₄ N₄
    k_steps
    rw [List.filter_eq_self.mpr (fun _ _ => rfl)] at hP
    have hle := spell_le x.cps.toList
    have hfl : (x.cps.toList.map spellC).flatten = spell x.cps.toList := rfl
    have hxl : x.cps.toList.length = x.length := lst_length x
    refine join_listW (News.isList N₄ (List.Mem.head _)) (strsAre_of_paired hP) (by decide) ?_ ?_
    · rw [sum_ofL, hfl, List.length_map, List.length_map]; omega
    · intro t' k'
      rw [join_ofL]
      exact hret _ _ _ [] F₄.keep (fun _ h => by cases h) ⟨rfl, _, rfl⟩
end
end MQ

namespace MQ
/-- what _law_loose reckons -/
def looseS (x : Str) : Bool := (Txt.slice x none (some 3) == Str.ofString "...") && decide (0 < (x.length : Int) - ((Txt.rstripChars x (Str.ofString ".")).length : Int)) && (((x.length : Int) - ((Txt.rstripChars x (Str.ofString ".")).length : Int)).fmod 3 == 0)
theorem loose_3 {a b c : Bool} (ha : a = true) (hb : b = true) : c = (a && b && c) := by subst ha hb; rfl
theorem loose_2 {a b c : Bool} (ha : a = true) (hb : b = false) : b = (a && b && c) := by subst ha hb; rfl
theorem loose_1 {a b c : Bool} (ha : a = false) : a = (a && b && c) := by subst ha; rfl

section

set_option maxRecDepth 100000 in
set_option maxHeartbeats 8000000 in
theorem loose_ct (w : World) (mean : ExcName → Option Value) (mg mb : Str → Option Value) (x : Str) (t : Tok) :
   Ct w mean mg mb 3 75 [Value.str x t] (fun h => x.length ≤ 1000) (fun v tl => tl = [] ∧ v = Value.bool (looseS x)) := by
  w_on
  have hfill : (PySem.Challenge.rw_mq0098_01 = PySem.Challenge.rw_mq0098_01) ∧ (hd.heap_39 = hd.heap_39) := by (k_fill; exact ⟨rfl, rfl⟩)
  clear hfill
  intro A s Q E hh X T hP hd hu hret
  refine' enter0 X T ?ho ?hcd ?hroom ?hbind ?hloc ?_ ?c1 ?c2 ?c3 ?hcell
  (case ho => k_is)
  (case hcd => k_is)
  (case hroom => omega)
  (case c1 => exact rfl)
  (case c2 => exact rfl)
  (case c3 => exact rfl)
  (case hbind => exact BindsTo.of_eq rfl)
  (case hloc => exact locs rfl)
  (case hcell => decide)
  intro L' h' hL F' N'
  try dsimp only
  try k_fold
  k_steps
  all_goals (refine' hret _ _ _ [] ?_ (fun _ h => by cases h) ⟨rfl, congrArg Value.bool ?_⟩)
  all_goals try exact fun b o e => Fr.keep (by k_asm) b o e
  · exact loose_3 (by assumption) (decide_eq_true (by assumption))
  · exact loose_2 (by assumption) (decide_eq_false (by assumption))
  · exact loose_1 (by assumption)
end
end MQ

namespace MQ
theorem ok_one {k : Int} (h : k.toNat < 1114112) : PyData.strOk ⟨#[k.toNat]⟩ = true := by
  unfold PyData.strOk
  rw [← Array.all_toList, List.all_eq_true]
  intro c hc
  have e : c = k.toNat := by simpa using hc
  rw [e]; exact decide_eq_true h
theorem ok_item {x : Str} {i : Int} (h : PyData.strOk x = true) : PyData.strOk (Txt.item x i) = true := by
  have h0 := h
  unfold PyData.strOk at h ⊢
  rw [← Array.all_toList, List.all_eq_true] at h ⊢
  intro c hc
  have e : c = (Txt.charAt x i).getD 0 := by simpa [Txt.item] using hc
  cases hq : Txt.charAt x i with
  | none => rw [e, hq]; decide
  | some d =>
    rw [e, hq]
    refine h d ?_
    unfold Txt.charAt at hq
    obtain ⟨j, _, hj⟩ := Option.bind_eq_some_iff.mp hq
    exact List.mem_of_getElem? (by rw [Array.getElem?_toList]; exact hj)

section

set_option maxRecDepth 100000 in
set_option maxHeartbeats 8000000 in
theorem sign_ct (w : World) (mean : ExcName → Option Value) (mg mb : Str → Option Value) (n : Int) (t : Tok) :
   Ct w mean mg mb 3 58 [Value.int n t] (fun h => True) (fun v tl => tl = [] ∧ ∃ x t, v = Value.str x t ∧ x.length = 1 ∧ PyData.strOk x = true) := by
  w_on
  have hfill : (PySem.Challenge.rw_mq0098_01 = PySem.Challenge.rw_mq0098_01) ∧ (hd.heap_39 = hd.heap_39) := by (k_fill; exact ⟨rfl, rfl⟩)
  clear hfill
  intro A s Q E hh X T hP hd hu hret
  refine' enter0 X T ?ho ?hcd ?hroom ?hbind ?hloc ?_ ?c1 ?c2 ?c3 ?hcell
  (case ho => k_is)
  (case hcd => k_is)
  (case hroom => omega)
  (case c1 => exact rfl)
  (case c2 => exact rfl)
  (case c3 => exact rfl)
  (case hbind => exact BindsTo.of_eq rfl)
  (case hloc => exact locs rfl)
  (case hcell => decide)
  intro L' h' hL F' N'
  try dsimp only
  try k_fold
  k_steps
  all_goals (refine' hret _ _ _ [] ?_ (fun _ h => by cases h) ⟨rfl, _, _, rfl, rfl, ?_⟩)
  all_goals try exact fun b o e => Fr.keep (by k_asm) b o e
  · exact ok_item (by decide +kernel)
  all_goals (have h1 := Int.fmod_lt_of_pos (n.fdiv 12) (by decide : (0 : Int) < 128); have h2 := Int.fmod_lt_of_pos (n.fdiv 12) (by decide : (0 : Int) < 1112064); refine ok_one ?_; omega)
end
end MQ

namespace MQ
def bareText : Str := Str.ofString "abcdefghijklmnopqrstuvwxyzABCDEFGHIJKLMNOPQRSTUVWXYZ0123456789_@%+=:,./-"
def bareC (c : Nat) : Bool := decide (c ∈ bareText.cps.toList)
/-- a bare word -/
def bareL (x : List Nat) : Bool := !x.isEmpty && x.all bareC
theorem filter_not_empty (x : List Nat) (f : Nat → List Nat) : (((x.filter fun c => !bareC c).map f).map ofL).isEmpty = x.all bareC := by
  rw [Bool.eq_iff_iff, List.isEmpty_iff, List.map_eq_nil_iff, List.map_eq_nil_iff, List.filter_eq_nil_iff, List.all_eq_true]
  constructor
  · intro h c hc; have := h c hc; simpa using this
  · intro h c hc; have := h c hc; simp [this]
theorem ok_sign {x : Str} (h : PyData.strOk x = true) {c : Nat} (hc : c ∈ x.cps.toList) : PyData.strOk (ofL [c]) = true := by
  unfold PyData.strOk at h ⊢
  rw [← Array.all_toList, List.all_eq_true] at h
  have := h c hc
  simpa [ofL] using this
theorem bne_nil (x : Str) : (x != Str.ofString "") = !x.cps.toList.isEmpty := by
  have e : Str.ofString "" = ofL [] := by decide
  rw [e]
  cases x with
  | mk cs =>
    cases hc : cs.toList with
    | nil =>
      have : cs = #[] := by rw [← Array.toList_inj, hc]
      subst this; rfl
    | cons a r =>
      have : (⟨cs⟩ : Str) ≠ ofL [] := fun e => by
        have := congrArg lst e
        unfold lst at this
        rw [hc] at this; cases this
      simp [this]

section
local macro_rules | `(tactic| walk_at "eval ListComp") => `(tactic| (k_here; k_dflt (refine' comp_eval ?kF ?k1 ?k2 ?k3 ?k4 ?k5 ?k6 ?_; (case kF => k_asm); (case k1 => with_unfolding_all rfl); (case k2 => decide); (case k3 => with_unfolding_all rfl); (case k4 => decide); (case k5 => with_unfolding_all rfl); (case k6 => intro _; with_unfolding_all rfl); k_whole)))
local macro_rules | `(tactic| walk_at "eval Name") => `(tactic| (k_here; k_dflt (refine' nameC_L ?k1 ?k2 ?_ ?k3 ?k4 ?k5 ?k6; (case k3 => rfl); (case k1 => k_asm); (case k2 => first | assumption | exact rfl); (case k4 => rfl); (case k5 => rfl); (case k6 => decide); k_whole)))
local macro_rules | `(tactic| walk_at "eval Name") => `(tactic| (k_here; k_dflt (refine' nameC_C ?k1 ?k2 ?k3 ?k4 ?_ ?k5 ?k6 ?k7; (case k2 => rfl); (case k1 => k_asm); (case k3 => assumption); (case k4 => assumption); (case k5 => rfl); (case k6 => rfl); (case k7 => decide); k_whole)))
set_option maxRecDepth 100000 in
set_option maxHeartbeats 8000000 in
theorem bare_ct (w : World) (mean : ExcName → Option Value) (mg mb : Str → Option Value) (x : Str) (t : Tok) :
   Ct w mean mg mb 20 68 [Value.str x t] (fun h => x.length ≤ 1000 ∧ PyData.strOk x = true) (fun v tl => tl = [] ∧ v = Value.bool (bareL x.cps.toList)) := by
  w_on
  have hfill : (PySem.Challenge.rw_mq0098_01 = PySem.Challenge.rw_mq0098_01) ∧ (hd.heap_39 = hd.heap_39) := by (k_fill; exact ⟨rfl, rfl⟩)
  clear hfill
  intro A s Q E hh X T hP hd hu hret
  refine' enterC X T ?ho ?hcd ?hroom ?hbind ?hkind ?hnd ?_ ?c1 ?c2 ?c3
  (case ho => k_is)
  (case hcd => k_is)
  (case hroom => omega)
  (case c1 => exact rfl)
  (case c2 => exact rfl)
  (case c3 => exact rfl)
  (case hbind => exact BindsTo.of_eq rfl)
  (case hkind => exact rfl)
  (case hnd => decide +kernel)
  intro L' h' tk' cells' hL F' N' Y'
  k_cells Y'
  try dsimp only
  try k_fold
  k_steps
  · rename_i hne
    refine' iter_str (fun c => !bareC c) (fun c y => ∃ t, y = .str (ofL [c]) t) ?F ?N ?hh ?hy ?ht ?he ?hQ
    (case F => k_asm)
    (case N => k_asm)
    (case hh => exact hh)
    (case hy => rw [sizeLine_eq]; omega)
    case ht =>
      intro C c u s₃ m₃ gB E' hc hm Fm st hn
      have X' := X.keeps st
      have T' := T.keeps st
      have hcell := hn _ (List.Mem.head _)
      refine wpAny_tests_one ?_
      k_steps
      refine EltEnd.intro ?_ Fm
      show (!!(Builtin.Str.occurrences bareText ⟨#[c]⟩ 0 bareText.length 1).isEmpty) = _
      rw [StrLaws.found_one]; rfl
    case he =>
      intro C c u s₃ m₃ gB E' hc hp hm Fm st hn
      k_steps
      exact EltEnd.intro ⟨u, rfl⟩ Fm
    case hQ =>
      intro D h₄ tk ys k hP' hD F₄ N₄
      k_steps
      have sa := strsAre_of_paired (f := fun c => [c]) hP'
      refine' eq_strs_nil (News.isList (by k_asm) (List.Mem.tail _ (List.Mem.head _))) sa ?hok (News.isList (by k_asm) (List.Mem.head _)) ?hu ?_
      case hok =>
        intro y hy
        simp only [List.mem_map, List.mem_filter] at hy
        obtain ⟨_, ⟨c, ⟨hc, _⟩, rfl⟩, rfl⟩ := hy
        exact ok_sign hP.2 hc
      case hu =>
        rw [units_deeper]; omega
      refine' hret _ _ _ [] ?_ (fun _ h => by cases h) ⟨rfl, congrArg Value.bool ?_⟩
      · exact fun b o e => Fr.keep (by k_asm) b o e
      · rw [filter_not_empty]
        rw [bne_nil] at hne
        unfold bareL
        rw [hne]; rfl
  · refine' hret _ _ _ [] ?_ (fun _ h => by cases h) ⟨rfl, congrArg Value.bool ?_⟩
    · exact fun b o e => Fr.keep (by k_asm) b o e
    · rename_i hne
      rw [hne]
      rw [bne_nil] at hne
      unfold bareL
      rw [hne]; rfl
end
end MQ

namespace MQ
open PySem.Sre
/-- the words of the compiled pattern -/
def cd : Array Nat := #[14, 17, 4, 1, 1, 21, 9, 0, 604043296, 1, 0, 0, 0, 0, 0, 8, 4, 0, 13, 14, 21, 9, 0, 604043296, 1, 0, 0, 0, 0, 0, 8, 4, 0, 1]

def inCharset (c : Nat) : Bool := c < 256 && (cd.getD (6 + (1 + c / 32)) 0).testBit (c % 32)

theorem bareC_small : ∀ c < 128, (inCharset c || isWord c) = bareC c := by decide +kernel
theorem bare_lt : ∀ c ∈ bareText.cps.toList, c < 128 := by decide +kernel

theorem getD_0 {i : Nat} (h : i = 11 ∨ i = 12 ∨ i = 13 ∨ i = 14) : cd.getD i 0 = 0 := by
  rcases h with rfl | rfl | rfl | rfl <;> rfl

theorem bareC_eq (c : Nat) : (inCharset c || isWord c) = bareC c := by
  by_cases h : c < 128
  · exact bareC_small c h
  · have h1 : bareC c = false := by
      unfold bareC
      exact decide_eq_false fun hc => h (bare_lt c hc)
    have h2 : isWord c = false := by
      unfold isWord isDigit
      simp only [Bool.or_eq_false_iff, Bool.and_eq_false_iff, decide_eq_false_iff_not, beq_eq_false_iff_ne]
      omega
    have h3 : inCharset c = false := by
      unfold inCharset
      by_cases h4 : c < 256
      · have h5 : 6 + (1 + c / 32) = 11 ∨ 6 + (1 + c / 32) = 12 ∨ 6 + (1 + c / 32) = 13 ∨ 6 + (1 + c / 32) = 14 := by omega
        rw [getD_0 h5]
        simp
      · simp [h4]
    rw [h1, h2, h3]; rfl

theorem ex_of_map {e : Except String (Bool × Sre.Seen)} {b : Bool} (h : e.map (·.1) = .ok b) : ∃ seen', e = .ok (b, seen') := by
  cases e with
  | error x => cases h
  | ok r => obtain ⟨b', s'⟩ := r; cases h; exact ⟨s', rfl⟩

theorem words_same : ∀ k < 8, cd.getD (22 + k) 0 = cd.getD (7 + k) 0 := by decide
theorem charset_20 (c : Nat) : (c < 256 && (cd.getD (21 + (1 + c / 32)) 0).testBit (c % 32) : Bool) = inCharset c := by
  unfold inCharset
  by_cases h : c < 256
  · have h1 : c / 32 < 8 := by omega
    have h2 := words_same (c / 32) h1
    have e1 : 21 + (1 + c / 32) = 22 + c / 32 := by omega
    have e2 : 6 + (1 + c / 32) = 7 + c / 32 := by omega
    rw [e1, e2, h2]
  · simp [h]
theorem inSet_5' (c : Nat) (seen : Sre.Seen) : (inSet cd c 34 5 true seen).map (·.1) = .ok (!bareC c) := by
  rw [← bareC_eq]
  by_cases h1 : inCharset c = true
  · unfold inSet
    show (inSet cd c 33 6 false _).map (·.1) = _
    unfold inSet
    show (if inCharset c = true then Except.ok (false, _) else _ : Except String (Bool × Sre.Seen)).map (·.1) = _
    rw [if_pos h1, h1]
    rfl
  · have h1' : inCharset c = false := by simpa using h1
    cases h2 : isWord c with
    | true =>
      unfold inSet
      show (inSet cd c 33 6 false _).map (·.1) = _
      unfold inSet
      show (if inCharset c = true then _ else inSet cd c 32 15 false _ : Except String (Bool × Sre.Seen)).map (·.1) = _
      rw [if_neg h1, h1']
      unfold inSet
      show (if (isWord c != false) = true then _ else _ : Except String (Bool × Sre.Seen)).map (·.1) = _
      rw [h2]
      rfl
    | false =>
      unfold inSet
      show (inSet cd c 33 6 false _).map (·.1) = _
      unfold inSet
      show (if inCharset c = true then _ else inSet cd c 32 15 false _ : Except String (Bool × Sre.Seen)).map (·.1) = _
      rw [if_neg h1, h1']
      unfold inSet
      show (if (isWord c != false) = true then _ else inSet cd c 31 17 false _ : Except String (Bool × Sre.Seen)).map (·.1) = _
      rw [h2]
      show (inSet cd c 31 17 false _).map (·.1) = _
      unfold inSet
      rfl
theorem inSet_20' (c : Nat) (seen : Sre.Seen) : (inSet cd c 34 20 true seen).map (·.1) = .ok (!bareC c) := by
  rw [← bareC_eq, ← charset_20]
  by_cases h1 : (decide (c < 256) && (cd.getD (21 + (1 + c / 32)) 0).testBit (c % 32)) = true
  · unfold inSet
    show (inSet cd c 33 21 false _).map (·.1) = _
    unfold inSet
    show (if (decide (c < 256) && (cd.getD (21 + (1 + c / 32)) 0).testBit (c % 32)) = true then Except.ok (false, _) else _ : Except String (Bool × Sre.Seen)).map (·.1) = _
    rw [if_pos h1, h1]
    rfl
  · have h1' : (decide (c < 256) && (cd.getD (21 + (1 + c / 32)) 0).testBit (c % 32)) = false := by simpa using h1
    cases h2 : isWord c with
    | true =>
      unfold inSet
      show (inSet cd c 33 21 false _).map (·.1) = _
      unfold inSet
      show (if (decide (c < 256) && (cd.getD (21 + (1 + c / 32)) 0).testBit (c % 32)) = true then _ else inSet cd c 32 30 false _ : Except String (Bool × Sre.Seen)).map (·.1) = _
      rw [if_neg h1, h1']
      unfold inSet
      show (if (isWord c != false) = true then _ else _ : Except String (Bool × Sre.Seen)).map (·.1) = _
      rw [h2]
      rfl
    | false =>
      unfold inSet
      show (inSet cd c 33 21 false _).map (·.1) = _
      unfold inSet
      show (if (decide (c < 256) && (cd.getD (21 + (1 + c / 32)) 0).testBit (c % 32)) = true then _ else inSet cd c 32 30 false _ : Except String (Bool × Sre.Seen)).map (·.1) = _
      rw [if_neg h1, h1']
      unfold inSet
      show (if (isWord c != false) = true then _ else inSet cd c 31 32 false _ : Except String (Bool × Sre.Seen)).map (·.1) = _
      rw [h2]
      show (inSet cd c 31 32 false _).map (·.1) = _
      unfold inSet
      rfl

theorem inSet_5 (c : Nat) (seen : Sre.Seen) : ∃ seen', inSet cd c cd.size 5 true seen = .ok (!bareC c, seen') := ex_of_map (inSet_5' c seen)
theorem accepts_18 (c : Nat) (seen : Sre.Seen) : ∃ seen', accepts cd 18 c seen = .ok (!bareC c, seen') := ex_of_map (inSet_20' c seen)

/-- the first sign from place s that is no bare one -/
def firstOdd (text : Array Nat) : (fuel s : Nat) → Option Nat
  | 0, _ => none
  | fuel + 1, s => if s ≥ text.size then none else if bareC (text.getD s 0) then firstOdd text fuel (s + 1) else some s

theorem admitted_is (m : Sre.M) (hc : m.code = cd) : ∀ (fuel s : Nat) (seen : Sre.Seen), m.lim = m.text.size → ∃ seen', M.admitted m fuel s seen = .ok (firstOdd m.text fuel s, seen')
  | 0, s, seen, _ => ⟨seen, rfl⟩
  | fuel + 1, s, seen, hl => by
    unfold M.admitted firstOdd
    rw [hl]
    by_cases h : s ≥ m.text.size
    · rw [if_pos h, if_pos h]; exact ⟨_, rfl⟩
    · rw [if_neg h, if_neg h]
      obtain ⟨seen₁, e⟩ := inSet_5 (m.text.getD s 0) seen
      rw [hc, e]
      cases hb : bareC (m.text.getD s 0) with
      | true =>
        obtain ⟨s₂, e₂⟩ := admitted_is m hc fuel (s + 1) seen₁ hl
        exact ⟨s₂, e₂⟩
      | false => exact ⟨_, rfl⟩

theorem firstOdd_none (text : Array Nat) : ∀ fuel s, text.size < fuel + s → firstOdd text fuel s = none → ∀ j, s ≤ j → j < text.size → bareC (text.getD j 0) = true
  | 0, s, hf, _, j, h1, h2 => by omega
  | fuel + 1, s, hf, h, j, h1, h2 => by
    unfold firstOdd at h
    have hs : ¬ s ≥ text.size := by omega
    rw [if_neg hs] at h
    cases hb : bareC (text.getD s 0) with
    | false => rw [hb] at h; cases h
    | true =>
      rw [hb] at h
      rcases Nat.eq_or_lt_of_le h1 with e | e
      · exact e ▸ hb
      · exact firstOdd_none text fuel (s + 1) (by omega) h j e h2
theorem firstOdd_some (text : Array Nat) : ∀ fuel s j, firstOdd text fuel s = some j → s ≤ j ∧ j < text.size ∧ bareC (text.getD j 0) = false
  | 0, s, j, h => by cases h
  | fuel + 1, s, j, h => by
    unfold firstOdd at h
    by_cases hs : s ≥ text.size
    · rw [if_pos hs] at h; cases h
    · rw [if_neg hs] at h
      cases hb : bareC (text.getD s 0) with
      | false => rw [hb] at h; cases h; exact ⟨Nat.le_refl _, by omega, hb⟩
      | true =>
        rw [hb] at h
        obtain ⟨h1, h2, h3⟩ := firstOdd_some text fuel (s + 1) j h
        exact ⟨by omega, h2, h3⟩
end MQ

namespace MQ
open PySem.Sre

def m0 (text : Array Nat) : Sre.M := { code := cd, text := text, lim := text.size, start := 0, lastStart := text.size, pc := 18, pos := 0, handed := 0, marks := Array.replicate 0 none, seen := ({} : Sre.Seen).add 14 }

theorem forSearch_is (text : Array Nat) (hne : 0 < text.size) : forSearch cd text 0 0 text.size false = M.attemptFrom (m0 text) 0 true := by
  show (if (decide (0 > text.size) || decide (text.size - 0 < 1)) = true then _ else M.attemptFrom (m0 text) 0 true) = _
  rw [if_neg]
  intro h
  simp only [Bool.or_eq_true, decide_eq_true_eq] at h
  omega

theorem run_failed (text : Array Nat) (hne : 0 < text.size) (h : firstOdd text (text.size + 1) 0 = none) : (M.runFor 4 (forSearch cd text 0 0 text.size false)).outcome = some .failed := by
  rw [forSearch_is text hne]
  unfold M.attemptFrom
  show (M.runFor 4 (match M.admitted (m0 text) (text.size + 1) 0 (m0 text).seen with
    | .ok (some s, seen) => M.attemptAt { m0 text with mustAdvance := false, seen } s true
    | .ok (none, seen) => M.say { m0 text with seen } false
    | .error why => M.stick (m0 text) why)).outcome = _
  obtain ⟨seen', e⟩ := admitted_is (m0 text) rfl (text.size + 1) 0 (m0 text).seen rfl
  have h' : firstOdd (m0 text).text (text.size + 1) 0 = none := h
  rw [e, h']
  rfl

theorem run_matched (text : Array Nat) (hne : 0 < text.size) (j : Nat) (h : firstOdd text (text.size + 1) 0 = some j) : (M.runFor 4 (forSearch cd text 0 0 text.size false)).outcome = some .matched := by
  obtain ⟨_, hj, hb⟩ := firstOdd_some text _ _ _ h
  rw [forSearch_is text hne]
  unfold M.attemptFrom
  show (M.runFor 4 (match M.admitted (m0 text) (text.size + 1) 0 (m0 text).seen with
    | .ok (some s, seen) => M.attemptAt { m0 text with mustAdvance := false, seen } s true
    | .ok (none, seen) => M.say { m0 text with seen } false
    | .error why => M.stick (m0 text) why)).outcome = _
  obtain ⟨seen', e⟩ := admitted_is (m0 text) rfl (text.size + 1) 0 (m0 text).seen rfl
  have h' : firstOdd (m0 text).text (text.size + 1) 0 = some j := h
  rw [e, h']
  -- the four steps
  let m1 : Sre.M := { m0 text with seen := seen', start := j, pos := j, handed := j, frames := [{ wait := .nextStart, pc := 18, pos := j, outermost := true }], weight := 1 }
  show (M.runFor 4 m1).outcome = _
  obtain ⟨seen₂, e₂⟩ := accepts_18 (text.getD j 0) (seen'.add 13)
  have s1 : m1.step = { m1 with seen := seen₂, pc := 33, pos := j + 1 } := by
    show (if j ≥ text.size then _ else match accepts cd 18 (text.getD j 0) (seen'.add 13) with
      | .error why => _
      | .ok (false, seen) => _
      | .ok (true, seen) => ({ m1 with seen := seen, pc := 33, pos := j + 1 } : Sre.M)) = _
    rw [if_neg (by omega), e₂, hb]
    rfl
  show (M.runFor 3 m1.step).outcome = _
  rw [s1]
  rfl

section
variable {prog : Program} {w : World} {A : Around} {E : Value → Shared → Prop} {s : Shared}

theorem wpAny_reRunToEnd {m : Sre.M} {Q : Option Sre.M → Shared → Prop} (ho : (M.runFor 4 m).outcome.isSome = true) (h1 : (M.runFor 4 m).outcome = some .matched → ∀ m', Q (some m') s) (h2 : (M.runFor 4 m).outcome = some .failed → Q none s)
    (h3 : (M.runFor 4 m).outcome = some .matched ∨ (M.runFor 4 m).outcome = some .failed) :
    wpAny (model prog w) A (Builtin.Re.reRunToEnd m) Q E s := by
  have hd : Builtin.Re.reDrive (2 ^ 64) m = pure (M.runFor 4 m) := by
    show Builtin.Re.reDrive (18446744073709551615 + 1) m = _
    unfold Builtin.Re.reDrive
    show (if (M.runFor 4 m).outcome.isSome = true then _ else _) = _
    rw [if_pos ho]
    rfl
  unfold Builtin.Re.reRunToEnd
  rw [hd]
  refine wpAny_bind (wpAny_pure (wpAny_bind ?_))
  refine wpAny_forIn_list _ (fun _ _ s' => s' = s) _ ?_ ?_ _ _ rfl
  · rintro i rest b s' rfl
    split
    · exact wpAny_bind (wpAny_rule (wpAny_pure rfl))
    · exact wpAny_pure rfl
  · rintro b s' rfl
    rcases h3 with h | h
    · rw [h]; exact wpAny_pure (h1 h _)
    · rw [h]; exact wpAny_pure (h2 h)

theorem all_iff (x : Str) : (firstOdd x.cps (x.cps.size + 1) 0 = none) ↔ x.cps.toList.all bareC = true := by
  constructor
  · intro h
    rw [List.all_eq_true]
    intro c hc
    obtain ⟨j, hj, e⟩ := List.getElem_of_mem hc
    have hj' : j < x.cps.size := by simpa using hj
    have := firstOdd_none x.cps _ 0 (by omega) h j (Nat.zero_le _) hj'
    rw [Array.getD_eq_getD_getElem?, Array.getElem?_eq_getElem hj'] at this
    rw [← e]; simpa using this
  · intro h
    cases hq : firstOdd x.cps (x.cps.size + 1) 0 with
    | none => rfl
    | some j =>
      obtain ⟨_, hj, hb⟩ := firstOdd_some x.cps _ _ _ hq
      rw [List.all_eq_true] at h
      have := h (x.cps[j]) (by simp)
      rw [Array.getD_eq_getD_getElem?, Array.getElem?_eq_getElem hj] at hb
      have hb' : bareC x.cps[j] = false := hb
      rw [this] at hb'; cases hb'

theorem named_is (x : Str) (t : Tok) : Builtin.Re.reNamed "re.Pattern.search" "search" ["string", "pos", "endpos"] 1 [Value.str x t] [] = pure [some (.str x t), none, none] := rfl

theorem search_tree {p T : Addr} {oP oT : Obj} {fs ws : Array Value} {n : Nat} {x : Str} {t : Tok} {Q : Value → Shared → Prop}
    (ho : s.heap.get? p = some oP) (hd : oP.data = .fields fs) (h5 : fs.getD 5 .none = .ref T) (h2 : Builtin.Re.reRawNat (fs.getD 2 .none) = 0) (h6 : Builtin.Re.reRawNat (fs.getD 6 .none) = 0)
    (hT : s.heap.get? T = some oT) (hTd : oT.data = .seq ws n) (hw : (ws.map Builtin.Re.reRawOf).map (·.toNat) = cd) (hx : 0 < x.length) (hx2 : x.length ≤ 100000)
    (h0 : x.cps.toList.all bareC = true → Q .none s) (h1 : x.cps.toList.all bareC = false → ∀ a h' tk, s.heap.StaysIn h' → Q (.ref a) { s with heap := h', toks := tk }) :
    wpAny (model prog w) A (Builtin.«re.Pattern.search» ⟨[.ref p, .str x t], []⟩) (fun fin s' => ∃ v, fin = .done (.ret v) ∧ Q v s') E s := by
  unfold Builtin.«re.Pattern.search»
  refine wpAny_bind ?_
  unfold Builtin.Re.reTarget
  show wpAny _ A (Builtin.Re.reNamed "re.Pattern.search" "search" ["string", "pos", "endpos"] 1 [Value.str x t] [] >>= _) _ _ s
  rw [named_is]
  refine wpAny_bind (wpAny_pure ?_)
  refine wpAny_bind (wpAny_pure (wpAny_bind (wpAny_pure ?_)))
  refine wpAny_bind (wpAny_fieldsOf ho hd ?_)
  refine wpAny_bind (Q := _) (m := Builtin.Re.reTextOf (.str x t)) ?_
  show wpAny _ A (pure (x.cps, 0)) _ _ s
  refine wpAny_pure ?_
  dsimp only
  rw [h6]
  refine wpAny_bind (wpAny_pure ?_)
  unfold Builtin.Re.reRawItems
  rw [h5]
  refine wpAny_bind (wpAny_bind (wpAny_seqItems hT hTd (wpAny_pure ?_)))
  refine wpAny_pure ?_
  dsimp only
  rw [h2]
  have e1 : Array.map (fun x => x.toNat) (Array.map Builtin.Re.reRawOf ((some ws).getD #[])) = cd := hw
  rw [e1]
  have e2 : min (Int.toNat 0) x.cps.size = 0 := by simp
  have e3 : min (2 ^ 63 - 1 : Int).toNat x.cps.size = x.cps.size := by
    have : x.cps.size ≤ 100000 := hx2
    omega
  rw [e2, e3]
  unfold Builtin.Re.reAnswer
  refine wpAny_bind ?_
  have hpos : 0 < x.cps.size := hx
  cases hq : firstOdd x.cps (x.cps.size + 1) 0 with
  | none =>
    have hf := run_failed x.cps hpos hq
    refine wpAny_reRunToEnd (by rw [hf]; rfl) (fun hm => by rw [hf] at hm; cases hm) (fun _ => ?_) (.inr hf)
    exact wpAny_pure ⟨_, rfl, h0 ((all_iff x).mp hq)⟩
  | some j =>
    have hm := run_matched x.cps hpos j hq
    have hno : x.cps.toList.all bareC = false := by
      cases ha : x.cps.toList.all bareC with
      | false => rfl
      | true => rw [(all_iff x).mpr ha] at hq; cases hq
    refine wpAny_reRunToEnd (by rw [hm]; rfl) (fun _ m' => ?_) (fun hf => by rw [hm] at hf; cases hf) (.inl hm)
    refine wpAny_bind ?_
    unfold Builtin.Re.reNewMatch
    show wpAny _ A (newTuple (rawInt m'.start :: rawInt m'.handed :: []) >>= fun tp => newFields "re.Match" [Value.str x t, .ref p, rawInt 0, rawInt x.cps.size, rawInt m'.lastindex, tp]) _ _ s
    refine wpAny_bind (wpAny_newObj_type (wpAny_newObj_type ?_ ?_) ?_)
    · exact wpAny_pure ⟨_, rfl, h1 hno _ _ _ fun b o e => Heap.get?_push_of_some _ (Heap.get?_push_of_some _ e)⟩
    · size_fits
    · size_fits
end
end MQ

namespace MQ
set_option maxRecDepth 100000
theorem search_kind : builtinKind "re.Pattern.search" = some .method := by kernel_rfl
theorem search_var : Manifest.varargsMethods.contains "re.Pattern.search" = false := by kernel_rfl
theorem search_sig : Manifest.signature? "re.Pattern.search" = some ⟨.keywords, "Pattern.search", "search", .self, [⟨"string", .posOrKw, true⟩, ⟨"pos", .posOrKw, false⟩, ⟨"endpos", .posOrKw, false⟩]⟩ := by kernel_rfl
theorem search_entry : entryFor table "re.Pattern.search" = some Builtin.«re.Pattern.search» := entryFor_of_fast (by kernel_rfl)
theorem search_last : Bind.lastOf "re.Pattern.search" = "search" := by kernel_rfl
theorem search_args (p : Addr) (x : Str) (t : Tok) : Bind.checkArgs "re.Pattern.search" ⟨.keywords, s!"{Bind.lastOf "re.Pattern"}.{Bind.lastOf "re.Pattern.search"}", "search", .self, [⟨"string", .posOrKw, true⟩, ⟨"pos", .posOrKw, false⟩, ⟨"endpos", .posOrKw, false⟩]⟩ ⟨[.ref p, .str x t], []⟩ = pure () := by kernel_rfl
theorem search_sub : isSubtype (.type "re.Pattern") (.type "module") = pure false := by rw [isSubtype_type]; kernel_rfl

section
variable {prog : Program} {w : World} {A : Around} {E : Value → Shared → Prop} {s : Shared}
theorem search_check {p : Addr} {oP : Obj} {fs : Array Value} {x : Str} {t : Tok} {Q : Unit → Shared → Prop} (ho : s.heap.get? p = some oP) (hc : oP.cls = .type "re.Pattern") (hd : oP.data = .fields fs) (h : Q () s) :
    wpAny (model prog w) A (checkBoundCall "re.Pattern.search" ⟨[.ref p, .str x t], []⟩) Q E s := by
  have hT : s.TypeIs (.ref p) "re.Pattern" := ⟨oP, ho, hc⟩
  unfold checkBoundCall
  rw [search_sig, search_kind]
  dsimp only
  show wpAny _ A (isInstance (.ref p) (.type "module") >>= _) _ _ s
  refine wpAny_bind (wpAny_isInstance hT search_sub ?_)
  rw [search_var]
  rw [if_neg (by decide)]
  refine wpAny_bind (wpAny_bind (wpAny_loadPart ho ?_))
  rw [hd]
  refine wpAny_pure ?_
  dsimp only
  rw [if_neg Bool.false_ne_true]
  refine wpAny_bind (wpAny_typeOf hT ?_)
  exact wpAny_of_eq (search_args p x t) h

theorem call_search {f p T : Addr} {oF oP oT : Obj} {fs ws : Array Value} {n : Nat} {x : Str} {t : Tok} {Q : Value → Shared → Prop}
    (hf : s.heap.get? f = some oF) (hfc : oF.cls = .type "builtin_function_or_method") (hfd : oF.data = .fields #[.builtin "re.Pattern.search", .ref p])
    (ho : s.heap.get? p = some oP) (hc : oP.cls = .type "re.Pattern") (hd : oP.data = .fields fs) (h5 : fs.getD 5 .none = .ref T) (h2 : Builtin.Re.reRawNat (fs.getD 2 .none) = 0) (h6 : Builtin.Re.reRawNat (fs.getD 6 .none) = 0)
    (hT : s.heap.get? T = some oT) (hTd : oT.data = .seq ws n) (hw : (ws.map Builtin.Re.reRawOf).map (·.toNat) = cd) (hx : 0 < x.length) (hx2 : x.length ≤ 100000)
    (h0 : x.cps.toList.all bareC = true → Q .none s) (h1 : x.cps.toList.all bareC = false → ∀ a h' tk, s.heap.StaysIn h' → Q (.ref a) { s with heap := h', toks := tk }) :
    wpAny (model prog w) A (call (.ref f) [.str x t]) Q E s := by
  refine wpAny_call (codeAny_of_tree ?_)
  show wpAny _ _ (callAny (.ref f) ⟨[.str x t], []⟩) _ _ s
  unfold callAny
  refine wpAny_bind (wpAny_load hf ?_)
  rw [hfd, hfc]
  refine wpAny_bind (search_check ho hc hd ?_)
  refine wpAny_pure ⟨plainId_quiet (by decide +kernel) _, codeAny_builtin search_entry ?_⟩
  refine wpAny_mono (search_tree ho hd h5 h2 h6 hT hTd hw hx hx2 h0 h1) (fun fin s' h => ?_) fun _ _ e => e
  obtain ⟨v, rfl, hv⟩ := h
  exact hv
end
end MQ

namespace MQ
/-- what shlex.quote writes -/
def quoteL (x : List Nat) : List Nat := if x.isEmpty then [39, 39] else if x.all bareC then x else 39 :: (spell x ++ [39])

theorem len_pos_list {x : Str} (h : 0 < x.length) : x.cps.toList.isEmpty = false := by
  have h2 : x.cps.toList.length = x.length := lst_length x
  cases hx : x.cps.toList with
  | nil => rw [hx] at h2; simp at h2; omega
  | cons _ _ => rfl
theorem quote_bare {x : Str} (h : 0 < x.length) (hb : x.cps.toList.all bareC = true) : ofL (quoteL x.cps.toList) = x := by
  unfold quoteL
  rw [len_pos_list h, hb]
  exact ofL_lst x
theorem quote_odd {x : Str} (h : 0 < x.length) (hb : x.cps.toList.all bareC = false) : ofL (quoteL x.cps.toList) = ofL [39] ++ ofL (spell x.cps.toList) ++ ofL [39] := by
  unfold quoteL
  rw [len_pos_list h, hb, ofL_append, ofL_append]
  rfl
theorem quote_nil {x : Str} (h : x.length = 0) : ofL (quoteL x.cps.toList) = ofL [39, 39] := by
  have h2 : x.cps.toList.length = x.length := lst_length x
  have h3 : x.cps.toList = [] := List.eq_nil_of_length_eq_zero (by omega)
  rw [h3]; rfl
theorem keeps_fn {M : Model} {f : Addr} {oF : Obj} {fs : Array Value} (hc : oF.cls = .type "builtin_function_or_method") (hd : oF.data = .fields fs) (h : Heap) (X : h.get? f = some oF) : ∃ k, (k = Keeper.frame ∨ k = Keeper.machine ∨ k = Keeper.boundFrame) ∧ Looks M h (keeperOf (.ref f)) k := by
  refine ⟨.machine, .inr (.inl rfl), ?_⟩
  intro A Q E s k q
  unfold keeperOf
  refine wpAny_bind (wpAny_load (k _ _ X) ?_)
  rw [hd, hc]
  exact wpAny_pure q
theorem callWith_fn {M : Model} {A : Around} {E : Value → Shared → Prop} {s : Shared} {env : Env} {pos : Pos} {first : List Value} {Q : Value → Shared → Prop} {f : Addr} {oF : Obj} {fs : Array Value} {e : Expr} {rest : List Expr} {g : Heap} (_hf : g.get? f = some oF)
    (hc : oF.cls = .type "builtin_function_or_method") (hd : oF.data = .fields fs)
    (h : wpAny M A (spliced (backTo pos (starEach (e :: rest) env))) (fun vs s₁ => s₁.heap.get? f = some oF ∧ wpAny M A (call (.ref f) (first ++ vs)) Q E s₁) E s)
    (he : starEach (e :: rest) env = (false, eval e env) :: starEach rest env) (hplain : (backTo pos (starEach rest env)).any (·.1) = false) :
    wpAny M A (callWith pos (.ref f) first (backTo pos (starEach (e :: rest) env)) []) Q E s := by
  rw [he] at h ⊢
  exact callWith_of (by show ((false || (backTo pos (starEach rest env)).any (·.1)) || false) = false; rw [hplain]; rfl) (keeps_fn hc hd) (evalArgs_plain h)

section

set_option maxRecDepth 100000 in
set_option maxHeartbeats 8000000 in
theorem quote_ct (w : World) (mean : ExcName → Option Value) (mg mb : Str → Option Value) (x : Str) (t : Tok) :
   Ct w mean mg mb 5 51 [Value.str x t] (fun h => x.length ≤ 1000) (fun v tl => tl = [] ∧ ∃ t, v = Value.str (ofL (quoteL x.cps.toList)) t) := by
  w_on
  have hfill : (PySem.Challenge.rw_mq0098_01 = PySem.Challenge.rw_mq0098_01) ∧ (hd.heap_39 = hd.heap_39) := by (k_fill; exact ⟨rfl, rfl⟩)
  clear hfill
  intro A s Q E hh X T hP hd hu hret
  refine' enter0 X T ?ho ?hcd ?hroom ?hbind ?hloc ?_ ?c1 ?c2 ?c3 ?hcell
  (case ho => k_is)
  (case hcd => k_is)
  (case hroom => omega)
  (case c1 => exact rfl)
  (case c2 => exact rfl)
  (case c3 => exact rfl)
  (case hbind => exact BindsTo.of_eq rfl)
  (case hloc => exact locs rfl)
  (case hcell => decide)
  intro L' h' hL F' N'
  try dsimp only
  try k_fold
  k_steps
  · have h44 := X 44 _ (by k_is)
    have h43 := X 43 _ (by k_is)
    have h42 := X 42 _ (by k_is)
    refine' callWith_fn h44 ?hc ?hd ?_ ?he ?hp
    (case hc => rfl)
    (case hd => rfl)
    (case he => rfl)
    (case hp => rfl)
    k_steps
    have hlen : 0 < x.length := by omega
    refine' call_search (F'.keep _ _ h44) ?a1 ?a2 (F'.keep _ _ h43) ?a3 ?a4 ?a5 ?a6 ?a7 (F'.keep _ _ h42) ?a8 ?a9 hlen (by omega) ?b0 ?b1
    (case a1 => rfl)
    (case a2 => rfl)
    (case a3 => rfl)
    (case a4 => rfl)
    (case a8 => rfl)
    (case a5 => rfl)
    (case a6 => rfl)
    (case a7 => rfl)
    (case a9 => kernel_rfl)
    case b0 =>
      intro hb
      k_steps
      refine' hret _ _ _ [] ?_ (fun _ h => by cases h) ⟨rfl, t, ?_⟩
      · exact fun b o e => Fr.keep (by k_asm) b o e
      · rw [quote_bare hlen hb]
    case b1 =>
      intro hb a h₄ tk₄ st
      have F₄ := fr_stays F' st
      have N₄ : News s.heap L' h₄ [] := News.nil
      clear N'
      have hrl : (Txt.replace x (Str.ofString "'") (Str.ofString "'\"'\"'")).length ≤ 5000 := by
        rw [replace_spell, ofL_length]
        have h1 := spell_le x.cps.toList
        have h2 : x.cps.toList.length = x.length := lst_length x
        omega
      k_steps
      refine' hret _ _ _ [] ?_ (fun _ h => by cases h) ⟨rfl, _, congrArg (Value.str · _) ?_⟩
      · exact fun b o e => Fr.keep (by k_asm) b o e
      · rw [quote_odd hlen hb, replace_spell]
        rfl
  · refine' hret _ _ _ [] ?_ (fun _ h => by cases h) ⟨rfl, _, congrArg (Value.str · _) ?_⟩
    · exact fun b o e => Fr.keep (by k_asm) b o e
    · rw [quote_nil (by omega)]
      rfl
end
end MQ

namespace MQ
open Builtin Builtin.Str
def find4 (x y : Str) (i j : Int) : Int := match occurrences x y (fromIndex x.length i) (min (fromIndex x.length j) x.length) 1 with | k :: _ => (k : Int) | [] => -1
theorem gives_find4 (x y : Str) (i j : Int) (t u v v' : Tok) : Gives («str.find» ⟨[.str x t, .str y u, .int i v, .int j v'], []⟩) (.int (find4 x y i j)) := by
  unfold find4
  show Gives (match occurrences x y (fromIndex x.length i) (min (fromIndex x.length j) x.length) 1 with | k :: _ => retInt k | [] => (do rule "str.find.not-found"; retInt (-1))) _
  cases occurrences x y (fromIndex x.length i) (min (fromIndex x.length j) x.length) 1 with
  | nil => exact .rule (.of_eq rfl)
  | cons k _ => exact .of_eq rfl
theorem call_find4 {prog : Program} {w : World} {A : Around} {E : Value → Shared → Prop} {s : Shared} {x y : Str} {t u v v' : Tok} {i j : Int} {Q : Value → Shared → Prop}
    (hq : Q (.int (find4 x y i j) s.toks) { s with toks := s.toks + 1 }) : wpAny (model prog w) A (call (.builtin "str.find") [.str x t, .str y u, .int i v, .int j v']) Q E s :=
  call_gives F.slot_str_find (typeIs_str _ _ _) F.entry_str_find (F.args_str_find_4 _ _ _ _) (gives_find4 x y i j t u v v') hq

/-- the loop of _ellipsis_match -/
def findLoop (y : Str) : List Str → Int → Int → Bool
  | [], _, _ => true
  | w :: r, st, en => if find4 y w st en < 0 then false else findLoop y r (find4 y w st en + w.length) en
def ellTail (y : Str) (ws : List Str) (st en : Int) : Bool := if en < st then false else findLoop y ws st en
def ellEnd (y : Str) (ws : List Str) (st : Int) : Bool :=
  if (ws.getLastD Str.empty).length = 0 then ellTail y ws st y.length
  else if Txt.endswith y (ws.getLastD Str.empty) then ellTail y ws.dropLast st ((y.length : Int) - (ws.getLastD Str.empty).length) else false
def ellMark : Str := Str.ofString "..."
def ellS (x y : Str) : Bool :=
  if (occurrences x ellMark 0 x.length 1).isEmpty then x == y
  else if ((Txt.split x ellMark).headD Str.empty).length = 0 then ellEnd y (Txt.split x ellMark) 0
  else if Txt.startswith y ((Txt.split x ellMark).headD Str.empty) then ellEnd y (Txt.split x ellMark).tail ((Txt.split x ellMark).headD Str.empty).length else false

/-- a statement, and what holds behind it -/
theorem execs_cut {M : Model} {A : Around} {E : Value → Shared → Prop} {s : Shared} {env : Env} {st : Stmt} {rest : List Stmt} {Q : Flow → Shared → Prop} (I : Shared → Prop)
    (h1 : wpAny M A (exec st env) (fun f s' => match f with | .next => I s' | f => Q f s') E s)
    (h2 : ∀ s', I s' → wpAny M A (execs rest env) Q E s') : wpAny M A (execs (st :: rest) env) Q E s := by
  refine wpAny_execs_cons (wpAny_mono h1 (fun f s' h => ?_) fun _ _ e => e)
  cases f with
  | next => exact h2 s' h
  | brk => exact h
  | cont => exact h
  | ret v => exact h

theorem item_at {prog : Program} {w : World} {A : Around} {E : Value → Shared → Prop} {s : Shared} {value slice : PySem.Expr} {l : Addr} {items : Array Value} {k : Int} {u : Tok} {v : Value} {Q : Value → Shared → Prop}
    (hl : s.heap.IsList l items) (h0 : 0 ≤ k) (hhi : k < 2 ^ 63) (hx : items[k.toNat]? = some v) (h : Q v s)
    (hs : subscripted slice false (.ref l) (.int k u) = operate [.ref l, .int k u] (getItem (.ref l) (.int k u))) :
    wpAny (model prog w) A (subscriptTail value slice (.ref l) (.int k u)) Q E s :=
  tail_any hl.typeIs slot_list_getitem.lookup (wpAny_getItem_list hl h0 hhi hx h) hs
theorem item_neg {prog : Program} {w : World} {A : Around} {E : Value → Shared → Prop} {s : Shared} {value slice : PySem.Expr} {l : Addr} {items : Array Value} {k : Int} {u : Tok} {v : Value} {Q : Value → Shared → Prop}
    (hl : s.heap.IsList l items) (h0 : k < 0) (h1 : -(items.size : Int) ≤ k) (hlo : -(2 ^ 63) ≤ k) (hx : items[(k + items.size).toNat]? = some v) (h : Q v s)
    (hs : subscripted slice false (.ref l) (.int k u) = operate [.ref l, .int k u] (getItem (.ref l) (.int k u))) :
    wpAny (model prog w) A (subscriptTail value slice (.ref l) (.int k u)) Q E s :=
  tail_any hl.typeIs slot_list_getitem.lookup (wpAny_getItem_list_neg hl h0 h1 hlo hx h) hs
end MQ
namespace MQ
theorem del_K {prog : Program} {w : World} {A : Around} {E : Value → Shared → Prop} {s : Shared} {g₀ : Heap} {L l : Addr} {m : Str → Option Value} {news : List (Addr × Obj)} {items : Array Value} {n k : Nat} {i : Int} {u : Tok} {Q : Unit → Shared → Prop}
    (F₂ : Fr g₀ L s.heap m) (N₂ : News g₀ L s.heap news) (hm : (l, PySem.W.listOf items n) ∈ news) (hfit : Builtin.List.listFitsIndex i = true) (hk : seqIndex? i items.size = some k) (hsz : items.size ≤ sizeLine)
    (hQ : ∀ h' n', Fr g₀ L h' m → News g₀ L h' [(l, PySem.W.listOf (items.eraseIdxIfInBounds k) n')] → Q () { s with heap := h' }) :
    wpAny (model prog w) A (delItem (.ref l) (.int i u)) Q E s := by
  have hl := N₂ _ hm
  refine wpAny_delItem_plain ⟨n, hl.1⟩ hfit hk (fun h' hp hs => ?_) hsz
  obtain ⟨n', hp⟩ := hp
  refine hQ h' n' ⟨F₂.ns.sameBut hs (Ne.symm hl.2.1), fun b o e => (hs.2 b fun q => ?_).trans (F₂.keep b o e), F₂.above⟩ fun p hp' => ?_
  · rw [q, hl.2.2] at e; cases e
  · rw [List.mem_singleton.mp hp']; exact ⟨hp, hl.2⟩
theorem strsAre_toList {vs : List Value} {ws : List Str} (h : StrsAre vs ws) : vs.length = ws.length := h.len_eq
end MQ

namespace MQ
open Builtin Builtin.Str StrLaws
theorem partsFrom_length (x : Str) (w : Nat) : ∀ (cuts : List Nat) (a : Nat), (partsFrom x w a cuts).length = cuts.length + 1
  | [], _ => rfl
  | c :: r, a => by show (_ :: partsFrom x w (c + w) r).length = _; rw [List.length_cons, partsFrom_length x w r]; rfl
theorem kind_mark (x : Str) : ¬ Builtin.Str.strKind x < Builtin.Str.strKind ellMark := by
  have : Builtin.Str.strKind ellMark = 1 := by decide +kernel
  rw [this]
  unfold Builtin.Str.strKind
  split
  · omega
  · split <;> omega
theorem split_two {x : Str} (h : (occurrences x ellMark 0 x.length 1).isEmpty = false) : 2 ≤ (Txt.split x ellMark).length := by
  have h1 := (found_iff x ellMark).mp (by rw [h]; rfl)
  obtain ⟨i, hi, hs⟩ := h1
  have hm : ellMark.length = 3 := by decide
  have hocc := occ_head x ellMark (x.length + 1) (by omega)
  unfold Txt.split
  rw [if_neg]
  · cases ho : occurrences x ellMark 0 x.length (x.length + 1) with
    | nil =>
      rcases hocc with ⟨_, hn⟩ | ⟨c, r, e, _⟩
      · exact absurd ⟨hi, hs⟩ (hn i)
      · rw [ho] at e; cases e
    | cons c r =>
      rw [if_neg (by simp), partsBetween_eq, partsFrom_length]
      simp
  · simp only [Bool.or_eq_true, decide_eq_true_eq, not_or]
    exact ⟨by omega, kind_mark x⟩
theorem split_le (x : Str) : (Txt.split x ellMark).length ≤ x.length + 1 := by
  have := split_weight x ellMark (by decide)
  omega
end MQ
namespace MQ
theorem seqIndex_first {a : Value} {l : List Value} : seqIndex? 0 (a :: l).toArray.size = some 0 := by
  simp [seqIndex?]
theorem erase_first {a : Value} {l : List Value} : (a :: l).toArray.eraseIdxIfInBounds 0 = l.toArray := by simp
theorem seqIndex_last {a : Value} {l : List Value} : seqIndex? (-1) (l ++ [a]).toArray.size = some l.length := by
  rw [seqIndex_neg (by decide) (by simp; omega)]
  simp; omega
theorem erase_last {a : Value} {l : List Value} : (l ++ [a]).toArray.eraseIdxIfInBounds l.length = l.toArray := by
  simp [List.eraseIdx_append_of_length_le]
theorem item_last {a : Value} {l : List Value} : (l ++ [a]).toArray[((-1 : Int) + (l ++ [a]).toArray.size).toNat]? = some a := by
  have : ((-1 : Int) + (l ++ [a]).toArray.size).toNat = l.length := by simp; omega
  rw [this]; simp
theorem strs_snoc {vals : List Value} {ws : List Str} (h : StrsAre vals ws) (hne : ws ≠ []) : ∃ vi pl tl wi, vals = vi ++ [Value.str pl tl] ∧ ws = wi ++ [pl] ∧ StrsAre vi wi := by
  induction h with
  | nil => exact absurd rfl hne
  | cons y t hr ih =>
    rename_i vs ys
    cases ys with
    | nil => cases hr; exact ⟨[], y, t, [], rfl, rfl, .nil⟩
    | cons z zs =>
      obtain ⟨vi, pl, tl, wi, e1, e2, hs⟩ := ih (by simp)
      exact ⟨Value.str y t :: vi, pl, tl, y :: wi, by rw [e1]; rfl, by rw [e2]; rfl, .cons y t hs⟩
theorem ellEnd_snoc (y : Str) (wi : List Str) (pl : Str) (st : Int) : ellEnd y (wi ++ [pl]) st = if pl.length = 0 then ellTail y (wi ++ [pl]) st y.length else if Txt.endswith y pl then ellTail y wi st ((y.length : Int) - pl.length) else false := by
  unfold ellEnd
  rw [List.getLastD_concat, List.dropLast_concat]
end MQ

namespace MQ
theorem ellS_0 {x y p0 : Str} {pr : List Str} (h : (Builtin.Str.occurrences x ellMark 0 x.length 1).isEmpty = false) (hps : Txt.split x ellMark = p0 :: pr) (h0 : p0.length = 0) : ellS x y = ellEnd y (p0 :: pr) 0 := by
  unfold ellS
  rw [h, hps]
  simp [h0]
theorem ellS_1 {x y p0 : Str} {pr : List Str} (h : (Builtin.Str.occurrences x ellMark 0 x.length 1).isEmpty = false) (hps : Txt.split x ellMark = p0 :: pr) (h0 : p0.length ≠ 0) (hs : Txt.startswith y p0 = true) : ellS x y = ellEnd y pr p0.length := by
  unfold ellS
  rw [h, hps]
  simp [h0, hs]
theorem ellS_2 {x y p0 : Str} {pr : List Str} (h : (Builtin.Str.occurrences x ellMark 0 x.length 1).isEmpty = false) (hps : Txt.split x ellMark = p0 :: pr) (h0 : p0.length ≠ 0) (hs : Txt.startswith y p0 = false) : ellS x y = false := by
  unfold ellS
  rw [h, hps]
  simp [h0, hs]
/-- what holds between the loop's turns -/
def EllJ (y : Str) (u : Tok) (W : Addr) (vals : List Value) (n : Nat) (ws : List Str) (en : Int) (r : Bool) (i : Nat) (m : Str → Option Value) (news : List (Addr × Obj)) : Prop :=
  ∃ (st : Int) (t1 t2 : Tok), (W, PySem.W.listOf vals.toArray n) ∈ news ∧ m (Str.ofString "got") = some (.str y u) ∧ m (Str.ofString "startpos") = some (.int st t1) ∧ m (Str.ofString "endpos") = some (.int en t2) ∧ r = findLoop y (ws.drop i) st en
theorem strs_at {vals : List Value} {ws : List Str} (h : StrsAre vals ws) : ∀ {i : Nat} {v : Value}, vals[i]? = some v → ∃ wp tw, v = Value.str wp tw ∧ ws[i]? = some wp := by
  induction h with
  | nil => intro i v h; simp at h
  | cons y t hr ih =>
    intro i v h
    cases i with
    | zero => simp at h; exact ⟨y, t, h.symm, rfl⟩
    | succ i => exact ih (by simpa using h)
theorem drop_at {ws : List Str} {i : Nat} {wp : Str} (h : ws[i]? = some wp) : ws.drop i = wp :: ws.drop (i + 1) := by
  obtain ⟨hi, e⟩ := List.getElem?_eq_some_iff.mp h
  rw [List.drop_eq_getElem_cons hi, e]
theorem strs_cons {vals : List Value} {ps : List Str} (h : StrsAre vals ps) (h2 : 2 ≤ ps.length) : ∃ p0 t0 vr pr, vals = Value.str p0 t0 :: vr ∧ ps = p0 :: pr ∧ StrsAre vr pr ∧ pr ≠ [] := by
  cases h with
  | nil => simp at h2
  | cons p0 t0 hr =>
    refine ⟨_, _, _, _, rfl, rfl, hr, fun e => ?_⟩
    subst e; simp at h2
/-- behind ws = want.split(..) -/
def EllA (s : Shared) (L' : Addr) (x y : Str) (u : Tok) (s' : Shared) : Prop := ∃ (h₁ : Heap) (tk₁ : Nat) (m₁ : Str → Option Value) (W : Addr) (vals : List Value), s' = { s with heap := h₁, toks := tk₁ } ∧ Fr s.heap L' h₁ m₁ ∧ News s.heap L' h₁ [(W, PySem.W.listOf vals.toArray 0)] ∧
    m₁ (Str.ofString "got") = some (.str y u) ∧ m₁ (Str.ofString "ws") = some (.ref W) ∧ StrsAre vals (Txt.split x ellMark)
/-- behind the look at the want's beginning -/
def EllB (s : Shared) (L' : Addr) (x y : Str) (u : Tok) (s' : Shared) : Prop := ∃ (h₁ : Heap) (tk₁ : Nat) (m₁ : Str → Option Value) (W : Addr) (vals : List Value) (n : Nat) (ws : List Str) (st : Int) (t1 t2 : Tok), s' = { s with heap := h₁, toks := tk₁ } ∧ Fr s.heap L' h₁ m₁ ∧ News s.heap L' h₁ [(W, PySem.W.listOf vals.toArray n)] ∧
    m₁ (Str.ofString "got") = some (.str y u) ∧ m₁ (Str.ofString "ws") = some (.ref W) ∧ m₁ (Str.ofString "startpos") = some (.int st t1) ∧ m₁ (Str.ofString "endpos") = some (.int (y.length : Nat) t2) ∧ StrsAre vals ws ∧ ellS x y = ellEnd y ws st ∧ ws ≠ [] ∧ (ws.length ≤ 20000 ∧ ∀ a ∈ ws, a.length ≤ 10000)
/-- behind the look at the want's end -/
def EllC (s : Shared) (L' : Addr) (x y : Str) (u : Tok) (s' : Shared) : Prop := ∃ (h₁ : Heap) (tk₁ : Nat) (m₁ : Str → Option Value) (W : Addr) (vals : List Value) (n : Nat) (ws : List Str) (st en : Int) (t1 t2 : Tok), s' = { s with heap := h₁, toks := tk₁ } ∧ Fr s.heap L' h₁ m₁ ∧ News s.heap L' h₁ [(W, PySem.W.listOf vals.toArray n)] ∧
    m₁ (Str.ofString "got") = some (.str y u) ∧ m₁ (Str.ofString "ws") = some (.ref W) ∧ m₁ (Str.ofString "startpos") = some (.int st t1) ∧ m₁ (Str.ofString "endpos") = some (.int en t2) ∧ StrsAre vals ws ∧ ellS x y = ellTail y ws st en ∧ (ws.length ≤ 20000 ∧ ∀ a ∈ ws, a.length ≤ 10000)

section
local macro_rules | `(tactic| walk_at "eval Name") => `(tactic| (k_here; k_dflt (refine' nameC_L ?k1 ?k2 ?_ ?k3 ?k4 ?k5 ?k6; (case k3 => rfl); (case k1 => k_asm); (case k2 => first | assumption | exact rfl); (case k4 => rfl); (case k5 => rfl); (case k6 => decide); k_whole)))
local macro_rules | `(tactic| walk_at "loadName") => `(tactic| (k_here; k_dflt (refine' loadC_L ?k1 ?k2 ?_ ?k3 ?k4 ?k5; (case k3 => rfl); (case k1 => k_asm); (case k2 => first | assumption | exact rfl); (case k4 => rfl); (case k5 => rfl); k_whole)))
local macro_rules | `(tactic| walk_at "subscriptTail Name Constant ref int") => `(tactic| (k_here; k_dflt (refine' item_at ?k1 ?k2 ?k3 ?k4 ?_ ?k6; (case k1 => exact News.isList (by k_asm) (by k_mem)); (case k2 => decide); (case k3 => decide); (case k4 => first | assumption | rfl); (case k6 => with_unfolding_all rfl); k_whole)))
local macro_rules | `(tactic| walk_at "call builtin:str.find") => `(tactic| (k_here; with_unfolding_all refine call_find4 ?_))
local macro_rules | `(tactic| walk_at "call builtin:len") => `(tactic| (k_here; (with_reducible show wpAny _ _ (call (Value.builtin "len") [Value.ref _]) _ _ _); k_dflt (refine' len_list ?k1 ?k2 ?_; (case k1 => exact News.isList (by k_asm) (by k_mem)); (case k2 => (simp only [List.size_toArray, List.length_cons]; omega)); k_whole)))
local macro_rules | `(tactic| walk_at "delItem ref int") => `(tactic| (k_here; k_dflt (refine' del_K ?k1 ?k2 ?k3 ?k4 ?k5 ?k6 ?_; (case k1 => k_asm); (case k2 => k_asm); (case k3 => k_mem); (case k4 => decide); (case k5 => first | rfl | assumption); (case k6 => (simp only [List.size_toArray, List.length_cons, List.length_append, List.length_nil]; rw [sizeLine_eq]; omega)); k_whole); intro h' n' F' N'))
local macro_rules | `(tactic| walk_at "subscriptTail Name UnaryOp ref int") => `(tactic| (k_here; k_dflt (refine' item_neg ?k1 ?k2 ?k3 ?k4 ?k5 ?_ ?k6; (case k1 => exact News.isList (by k_asm) (by k_mem)); (case k2 => decide); (case k3 => (simp only [List.size_toArray, List.length_append, List.length_cons, List.length_nil]; omega)); (case k4 => decide); (case k5 => first | assumption | rfl); (case k6 => with_unfolding_all rfl); k_whole)))
local macro_rules | `(tactic| walk_at "exec For") => `(tactic| (k_here; k_dflt (refine' for_rule ?kF ?k1 ?k2 ?k3 ?k4 ?_; (case kF => k_asm); (case k1 => with_unfolding_all rfl); (case k2 => with_unfolding_all rfl); (case k3 => with_unfolding_all rfl); (case k4 => intro _; with_unfolding_all rfl); k_whole)))
set_option maxRecDepth 100000 in
set_option maxHeartbeats 8000000 in
theorem ell_ct (w : World) (mean : ExcName → Option Value) (mg mb : Str → Option Value) (x y : Str) (t u : Tok) :
   Ct w mean mg mb 5 38 [Value.str x t, Value.str y u] (fun h => x.length ≤ 10000 ∧ y.length ≤ 10000) (fun v tl => tl = [] ∧ v = Value.bool (ellS x y)) := by
  w_on
  have hfill : (PySem.Challenge.rw_mq0098_01 = PySem.Challenge.rw_mq0098_01) ∧ (hd.heap_39 = hd.heap_39) := by (k_fill; exact ⟨rfl, rfl⟩)
  clear hfill
  intro A s Q E hh X T hP hd hu hret
  obtain ⟨hA, dp, fr, gd, un⟩ := A
  dsimp only at hh hd hu
  subst hh
  refine' enter0 X T ?ho ?hcd ?hroom ?hbind ?hloc ?_ ?c1 ?c2 ?c3 ?hcell
  (case ho => k_is)
  (case hcd => k_is)
  (case hroom => show dp < _; omega)
  (case c1 => exact rfl)
  (case c2 => exact rfl)
  (case c3 => exact rfl)
  (case hbind => exact BindsTo.of_eq rfl)
  (case hloc => exact locs rfl)
  (case hcell => decide)
  intro L' h' hL F' N'
  try dsimp only
  try k_fold
  have hfin : ∀ (b : Bool) (h₁ : Heap) (tk₁ : Nat) (m₁ : Str → Option Value), Fr s.heap L' h₁ m₁ → b = ellS x y → Q (Value.bool b) { s with heap := h₁, toks := tk₁ } :=
    fun b h₁ tk₁ m₁ F₁ e => hret _ _ _ [] F₁.keep (fun _ h => by cases h) ⟨rfl, by rw [e]⟩
  repeat' ((fail_if_success (with_reducible show wpAny _ _ (execs (Stmt.Assign [_] (Expr.Call (Expr.Attribute _ _ _) _ _ _) _ :: _) _) _ _ _));  first | (k_unfold; (try dsimp only)) | walk1 | (dsimp only; walk1))
  · rename_i hno
    refine hfin _ _ _ _ F' ?_
    unfold ellS
    rw [show (Builtin.Str.occurrences x ellMark 0 x.length 1).isEmpty = true from hno, if_pos rfl]
  rename_i hyes
  have hyes' : (Builtin.Str.occurrences x ellMark 0 x.length 1).isEmpty = false := hyes
  have h2le := split_two hyes'
  refine execs_cut (EllA s L' x y u) ?_ ?_
  · k_steps
    rename_i l _ _ hlook hsa _ _ _ F₁ N₁
    exact ⟨_, _, _, _, _, rfl, F₁, N₁, rfl, rfl, hlook ▸ hsa⟩
  rintro s' ⟨h₁, tk₁, m₁, W, vals, rfl, F₁, N₁, hg, hw, hsa⟩
  clear F' N'
  generalize hps : Txt.split x ellMark = ps at hsa h2le
  obtain ⟨p0, t0, vr, pr, rfl, rfl, hsr, hpr⟩ := strs_cons hsa (by omega)
  have hx0 : (Value.str p0 t0 :: vr).toArray[(0 : Int).toNat]? = some (Value.str p0 t0) := rfl
  have hp0 : p0.length ≤ 10000 := Nat.le_trans (part_short (by rw [hps]; exact List.mem_cons_self ..)) hP.1
  have hvl : vr.length = pr.length := hsr.len_eq
  have hpl : pr.length + 1 ≤ x.length + 1 := by have := split_le x; rw [hps] at this; simpa using this
  have hvl2 : 2 ≤ ((Value.str p0 t0 :: vr).toArray.size : Int) := by simp only [List.size_toArray, List.length_cons] at h2le ⊢; omega
  repeat' ((fail_if_success (with_reducible show wpAny _ _ (execs (Stmt.If (Expr.Name _ _) _ _ _ :: _) _) _ _ _));  first | (k_unfold; (try dsimp only)) | walk1 | (dsimp only; walk1))
  clear hvl2
  have hlim0 : (p0 :: pr).length ≤ 20000 ∧ ∀ a ∈ p0 :: pr, a.length ≤ 10000 := ⟨by rw [List.length_cons]; omega, fun a ha => Nat.le_trans (part_short (by rw [hps]; exact ha)) hP.1⟩
  have hlim1 : pr.length ≤ 20000 ∧ ∀ a ∈ pr, a.length ≤ 10000 := ⟨by omega, fun a ha => hlim0.2 a (List.mem_cons_of_mem _ ha)⟩
  have hd0 := seqIndex_first (a := Value.str p0 t0) (l := vr)
  refine execs_cut (EllB s L' x y u) ?_ ?_
  · k_steps
    · rename_i F₃ N₃
      rw [erase_first] at N₃
      exact ⟨_, _, _, _, _, _, _, _, _, _, rfl, F₃, N₃, hg, hw, rfl, rfl, hsr, ellS_1 hyes' hps (by omega) (by assumption), hpr, hlim1⟩
    · exact hfin _ _ _ _ (by assumption) (ellS_2 hyes' hps (by omega) (by assumption)).symm
    · rename_i N₃ F₃ _
      exact ⟨_, _, _, _, _, _, _, _, _, _, rfl, F₃, (fun q hq => N₃ q (List.Mem.tail _ hq)), hg, hw, rfl, rfl, .cons _ _ hsr, ellS_0 hyes' hps (by omega), by simp, hlim0⟩
  rintro s' ⟨h₂, tk₂, m₂, W₂, vals₂, n₂, ws, st, t1, t2, rfl, F₂, N₂, hg₂, hw₂, hst₂, hen₂, hsa₂, hval₂, hne₂, hlim₂⟩
  clear hg hw
  have hwsl : ws.length ≤ 20000 ∧ ∀ a ∈ ws, a.length ≤ 10000 := hlim₂
  obtain ⟨vi, pl, tl, wi, rfl, rfl, hsi⟩ := strs_snoc hsa₂ hne₂
  have hpl2 : pl.length ≤ 10000 := hwsl.2 pl (by simp)
  have hvi : vi.length = wi.length := hsi.len_eq
  have hwl : wi.length + 1 ≤ 20000 := by have := hwsl.1; simpa using this
  have hxl := item_last (a := Value.str pl tl) (l := vi)
  have hdl := seqIndex_last (a := Value.str pl tl) (l := vi)
  rw [ellEnd_snoc] at hval₂
  repeat' ((fail_if_success (with_reducible show wpAny _ _ (execs (Stmt.If (Expr.Name _ _) _ _ _ :: _) _) _ _ _));  first | (k_unfold; (try dsimp only)) | walk1 | (dsimp only; walk1))
  refine execs_cut (EllC s L' x y u) ?_ ?_
  · k_steps
    · rename_i F₃ N₃
      rw [erase_last] at N₃
      rw [if_neg (by omega), if_pos (by assumption)] at hval₂
      exact ⟨_, _, _, _, _, _, _, _, _, _, _, rfl, F₃, N₃, hg₂, hw₂, hst₂, rfl, hsi, hval₂, ⟨by omega, fun a ha => hwsl.2 a (List.mem_append_left _ ha)⟩⟩
    · rw [if_neg (by omega), if_neg (by simp_all)] at hval₂
      exact hfin _ _ _ _ (by assumption) hval₂.symm
    · rename_i F₃ N₃ _
      rw [if_pos (by omega)] at hval₂
      exact ⟨_, _, _, _, _, _, _, _, _, _, _, rfl, F₃, N₃, hg₂, hw₂, hst₂, hen₂, hsa₂, hval₂, hwsl⟩
  clear hxl hdl hg₂ hw₂ hst₂ hen₂ hsa₂ hval₂ hsi
  rintro s' ⟨h₃, tk₃, m₃, W₃, vals₃, n₃, ws, st, en, t1, t2, rfl, F₃, N₃, hg₃, hw₃, hst₃, hen₃, hsa₃, hval₃, hlim₃⟩
  k_steps
  · rename_i hgt
    refine hfin _ _ _ _ F₃ ?_
    rw [hval₃]
    unfold ellTail
    rw [if_pos hgt]
  rename_i hle
  have hval₄ : ellS x y = findLoop y ws st en := by rw [hval₃]; unfold ellTail; rw [if_neg hle]
  refine' for_list (EllJ y u W₃ vals₃ n₃ ws en (ellS x y)) ?F ?N ?hh ?hr ?h0 ?hJr ?step ?hQ
  (case F => k_asm)
  (case N => k_asm)
  (case hh => rfl)
  (case hr => exact List.Mem.head _)
  (case h0 => exact ⟨st, t1, t2, List.Mem.head _, hg₃, hst₃, hen₃, hval₄⟩)
  (case hJr => rintro i m' news' ⟨_, _, _, hm, _⟩; exact hm)
  case hQ =>
    rintro h' tk m' news' F' N' ⟨st', t1', t2', hm, hg', hst', hen', hv'⟩
    k_steps
    refine hfin _ _ _ _ F' ?_
    have hl : vals₃.toArray.toList.length = ws.length := by rw [List.toList_toArray]; exact hsa₃.len_eq
    rw [hv', hl, List.drop_length]
    rfl
  case step =>
    rintro i v m₁ news₁ h₄ tk₄ I oI hi ⟨st', t1', t2', hm, hg', hst', hen', hv'⟩ hne hlt F' N'
    obtain ⟨wp, tw, rfl, hwp⟩ := strs_at hsa₃ (by simpa using hi)
    have hdrop : ws.drop i = wp :: ws.drop (i + 1) := drop_at hwp
    rw [hdrop] at hv'
    have hwpl : wp.length ≤ 10000 := hlim₃.2 wp (List.mem_of_getElem? hwp)
    k_steps
    · rename_i F₅ N₅ hneg
      refine hfin _ _ _ _ F₅ ?_
      rw [hv']
      unfold findLoop
      rw [if_pos hneg]
    · rename_i hnn _ F₅ N₅
      refine TurnEnd.next news₁ F₅ N₅ (fun p hp => hp) hne ⟨_, _, t2', hm, hg', rfl, hen', ?_⟩
      rw [hv']
      show (if find4 y wp st' en < 0 then false else _) = _
      rw [if_neg hnn]
end
end MQ

namespace MQ
theorem sum_ones {ss : List Str} (h : ∀ x ∈ ss, x.length = 1 ∧ PyData.strOk x = true) : (ss.map (·.length)).sum = ss.length := by
  induction ss with
  | nil => rfl
  | cons a r ih => simp only [List.map_cons, List.sum_cons, List.length_cons, ih fun x hx => h x (List.mem_cons_of_mem _ hx), (h a (List.mem_cons_self ..)).1]; omega
theorem ok_ofL {l : List Nat} : PyData.strOk (ofL l) = l.all (· < 0x110000) := by unfold PyData.strOk ofL; simp
theorem join_ones {ss : List Str} (h : ∀ x ∈ ss, x.length = 1 ∧ PyData.strOk x = true) : (Txt.join (Str.ofString "") ss).length = ss.length ∧ PyData.strOk (Txt.join (Str.ofString "") ss) = true := by
  have e : ss = (ss.map lst).map ofL := by rw [List.map_map]; exact (List.map_id'' (fun x => ofL_lst x) ss).symm
  constructor
  · rw [e, join_ofL, ofL_length, ← sum_ofL, ← e, sum_ones h]
  · rw [e, join_ofL, ok_ofL, List.all_eq_true]
    intro c hc
    obtain ⟨l, hl, hc⟩ := List.mem_flatten.mp hc
    obtain ⟨x, hx, rfl⟩ := List.mem_map.mp hl
    have := (h x hx).2
    unfold PyData.strOk at this
    rw [← Array.all_toList, List.all_eq_true] at this
    exact this c hc
theorem texts_ret {s : Shared} {Q : Value → Shared → Prop} {L D : Addr} {h : Heap} {m : Str → Option Value} {W G : Str} {t1 t2 : Tok} {rest : List (Addr × Obj)} {tk : Nat}
    (hret : ∀ v h' tk' tl, s.heap.StaysIn h' → (∀ p ∈ tl, h'.get? p.1 = some p.2 ∧ s.heap.get? p.1 = none) → (fun (v : Value) (tl : List (Addr × Obj)) => ∃ D W G t1 t2, v = Value.ref D ∧ tl = [(D, { cls := .type "tuple", data := .seq #[Value.str W t1, Value.str G t2] })] ∧ W.length ≤ 100 ∧ G.length ≤ 100 ∧ PyData.strOk W = true ∧ PyData.strOk G = true) v tl → Q v { s with heap := h', toks := tk' })
    (F : Fr s.heap L h m) (N : News s.heap L h ((D, { cls := .type "tuple", data := .seq #[Value.str W t1, Value.str G t2] }) :: rest)) (hW : W.length ≤ 100) (hG : G.length ≤ 100) (kW : PyData.strOk W = true) (kG : PyData.strOk G = true) :
    Q (.ref D) { s with heap := h, toks := tk } := by
  refine hret _ _ _ _ F.keep (fun p hp => ?_) ⟨D, W, G, t1, t2, rfl, rfl, hW, hG, kW, kG⟩
  rw [List.mem_singleton.mp hp]
  exact ⟨(N _ (List.Mem.head _)).1, (N _ (List.Mem.head _)).2.2⟩
theorem strs_of_paired {ii : List Nat} {ys : List Value} (h : Paired (fun _ y => ∃ x t, y = Value.str x t ∧ x.length = 1 ∧ PyData.strOk x = true) ii ys) : ∃ ss : List Str, StrsAre ys ss ∧ ss.length = ii.length ∧ ∀ x ∈ ss, x.length = 1 ∧ PyData.strOk x = true := by
  induction h with
  | nil => exact ⟨[], .nil, rfl, fun _ h => by cases h⟩
  | cons h1 _ ih =>
    obtain ⟨x, t, rfl, h2, h3⟩ := h1
    obtain ⟨ss, a, b, c⟩ := ih
    refine ⟨x :: ss, .cons x t a, by simp [b], fun y hy => ?_⟩
    rcases List.mem_cons.mp hy with rfl | hy
    · exact ⟨h2, h3⟩
    · exact c y hy
theorem ok_append {x y : Str} (hx : PyData.strOk x = true) (hy : PyData.strOk y = true) : PyData.strOk (x ++ y) = true := by
  unfold PyData.strOk at *
  rw [Str.cps_append, Array.all_append, hx, hy]; rfl
theorem ints_at {vs : List Value} {ns : List Int} (h : IntsAre vs ns) : ∀ {i : Nat} {v : Value}, vs[i]? = some v → ∃ n t, v = Value.int n t := by
  induction h with
  | nil => intro i v h; simp at h
  | cons k t hr ih =>
    intro i v h
    cases i with
    | zero => simp at h; exact ⟨_, _, h.symm⟩
    | succ i => exact ih (by simpa using h)
/-- what holds between the turns of _law_texts -/
def TxJ (D : Addr) (ws : List Value) (C : Addr) (i : Nat) (m : Str → Option Value) (news : List (Addr × Obj)) : Prop :=
  ∃ (oN : Obj) (vN : Option Value) (W G : Str) (t1 t2 : Tok), news = [(D, PySem.W.listOf ws.toArray 0), (C, oN)] ∧ oN.data = .cell vN ∧ m (Str.ofString "want") = some (.str W t1) ∧ m (Str.ofString "got") = some (.str G t2) ∧
    W.length ≤ 3 * i ∧ G.length ≤ 2 * i ∧ PyData.strOk W = true ∧ PyData.strOk G = true

section
local macro_rules | `(tactic| walk_at "eval ListComp") => `(tactic| (k_here; k_dflt (refine' comp_eval ?kF ?k1 ?k2 ?k3 ?k4 ?k5 ?k6 ?_; (case kF => k_asm); (case k1 => with_unfolding_all rfl); (case k2 => decide); (case k3 => with_unfolding_all rfl); (case k4 => decide); (case k5 => with_unfolding_all rfl); (case k6 => intro _; with_unfolding_all rfl); k_whole)))
local macro_rules | `(tactic| walk_at "eval Name") => `(tactic| (k_here; k_dflt (refine' nameC_L ?k1 ?k2 ?_ ?k3 ?k4 ?k5 ?k6; (case k3 => rfl); (case k1 => k_asm); (case k2 => first | assumption | exact rfl); (case k4 => rfl); (case k5 => rfl); (case k6 => decide); k_whole)))
local macro_rules | `(tactic| walk_at "eval Name") => `(tactic| (k_here; k_dflt (refine' nameC_C ?k1 ?k2 ?k3 ?k4 ?_ ?k5 ?k6 ?k7; (case k2 => rfl); (case k1 => k_asm); (case k3 => assumption); (case k4 => assumption); (case k5 => rfl); (case k6 => rfl); (case k7 => decide); k_whole)))
local macro_rules | `(tactic| walk_at "loadName") => `(tactic| (k_here; k_dflt (refine' loadC_L ?k1 ?k2 ?_ ?k3 ?k4 ?k5; (case k3 => rfl); (case k1 => k_asm); (case k2 => first | assumption | exact rfl); (case k4 => rfl); (case k5 => rfl); k_whole)))
local macro_rules | `(tactic| walk_at "exec For") => `(tactic| (k_here; k_dflt (refine' for_rule ?kF ?k1 ?k2 ?k3 ?k4 ?_; (case kF => k_asm); (case k1 => with_unfolding_all rfl); (case k2 => with_unfolding_all rfl); (case k3 => with_unfolding_all rfl); (case k4 => intro _; with_unfolding_all rfl); k_whole)))
local macro_rules | `(tactic| walk_at "call ref") => `(tactic| (k_here; k_dflt (refine' use_ct (sign_ct _ _ _ _ _ _) ?kF ?kN ?kh ?kX ?kT ?kp ?kd ?ku ?_; (case kF => k_asm); (case kN => k_asm); (case kh => rfl); (case kX => k_asm); (case kT => k_asm); (case kp => trivial); (case kd => (simp only [depth_deeper]; omega)); (case ku => (simp only [units_deeper]; omega)); k_whole); intro v9 h9 tk9 tl9 hR9 F9 N9 hn9 st9; obtain ⟨e9, x9, t9, e8, hl9, hk9⟩ := hR9; subst e9; subst e8; (simp only [List.nil_append] at N9); (try k_sweep)))
local macro_rules | `(tactic| walk_at "binaryOp FloorDiv int int") => `(tactic| (k_here; refine floordiv_int (by assumption) ?_))
set_option maxRecDepth 100000 in
set_option maxHeartbeats 8000000 in
theorem texts_ct (w : World) (mean : ExcName → Option Value) (mg mb : Str → Option Value) (l : Addr) (vs : List Value) (ns : List Int) :
   Ct w mean mg mb 40 63 [Value.ref l] (fun h => h.IsList l vs.toArray ∧ IntsAre vs ns ∧ ns.length ≤ 63) (fun v tl => ∃ D W G t1 t2, v = Value.ref D ∧ tl = [(D, { cls := .type "tuple", data := .seq #[Value.str W t1, Value.str G t2] })] ∧ W.length ≤ 100 ∧ G.length ≤ 100 ∧ PyData.strOk W = true ∧ PyData.strOk G = true) := by
  w_on
  have hfill : (PySem.Challenge.rw_mq0098_01 = PySem.Challenge.rw_mq0098_01) ∧ (hd.heap_39 = hd.heap_39) := by (k_fill; exact ⟨rfl, rfl⟩)
  clear hfill
  intro A s Q E hh X T hP hd hu hret
  obtain ⟨hA, dp, fr, gd, un⟩ := A
  dsimp only at hh hd hu
  subst hh
  refine' enterC X T ?ho ?hcd ?hroom ?hbind ?hkind ?hnd ?_ ?c1 ?c2 ?c3
  (case ho => k_is)
  (case hcd => k_is)
  (case hroom => show dp < _; omega)
  (case c1 => exact rfl)
  (case c2 => exact rfl)
  (case c3 => exact rfl)
  (case hbind => exact BindsTo.of_eq rfl)
  (case hkind => exact rfl)
  (case hnd => decide +kernel)
  intro L' h' tk' cells' hL F' N' Y'
  k_cells Y'
  rename_i oN hoN
  try dsimp only
  try k_fold
  obtain ⟨hlist, hints, hnl⟩ := hP
  k_steps
  rename_i D ws h₁ F₁ N₁ hI₁ hC₁ hL₁ hlt₁
  have hwl : ws.toArray.size ≤ 5 := by rw [List.size_toArray, hI₁.length]; omega
  refine' for_list (TxJ D ws (L' + 1)) ?F ?N ?hh ?hr ?h0 ?hJr ?step ?hQ
  (case F => k_asm)
  (case N => k_asm)
  (case hh => rfl)
  (case hr => exact List.Mem.head _)
  (case h0 => exact ⟨_, _, _, _, _, _, rfl, hoN, rfl, rfl, by decide, by decide, by decide +kernel, by decide +kernel⟩)
  (case hJr => rintro i m' news' ⟨_, _, _, _, _, _, rfl, _⟩; exact List.Mem.head _)
  case hQ =>
    rintro h₂ tk₂ m₂ news₂ F₂ N₂ ⟨oN₂, vN₂, W, G, t1, t2, rfl, hoN₂, hw₂, hg₂, hWl, hGl, hWk, hGk⟩
    clear N₁ F₁
    have hWl' : W.length ≤ 50 := by rw [Array.length_toList] at hWl; omega
    have hGl' : G.length ≤ 50 := by rw [Array.length_toList] at hGl; omega
    k_steps
    rename_i F₃ N₃ _
    refine' texts_ret (s := s) (Q := Q) hret F₃ N₃ ?_ ?_ ?_ ?_
    rotate_left 2
    · exact ok_append hWk (by decide +kernel)
    · exact ok_append hGk (by decide +kernel)
    · rw [Str.length_append]; have : (Str.ofString "...'\"").length = 5 := (by decide); omega
    · rw [Str.length_append]; have : (Str.ofString "a'\"").length = 3 := (by decide); omega
  case step =>
    rintro i v m₂ news₂ h₂ tk₂ I oI hi ⟨oN₂, vN₂, W, G, t1, t2, rfl, hoN₂, hw₂, hg₂, hWl, hGl, hWk, hGk⟩ hne hlt F₂ N₂
    clear N₁ F₁
    obtain ⟨n, tn, rfl⟩ := ints_at hI₁ (by simpa using hi)
    have hDI : @LT.lt Nat _ D I := hlt _ (List.Mem.head _)
    have hCI : @LT.lt Nat _ (L' + 1) I := hlt _ (List.Mem.tail _ (List.Mem.head _))
    have hi5 : i < 5 := by have := (List.getElem?_eq_some_iff.mp hi).1; rw [Array.length_toList] at this; omega
    have hWl' : W.length ≤ 15 := by omega
    have hGl' : G.length ≤ 10 := by omega
    have e3 : (Str.ofString "...").length = 3 := by decide
    have e2 : (Str.ofString "..").length = 2 := by decide
    have e1 : (Str.ofString ".").length = 1 := by decide
    have e0 : (Str.ofString "").length = 0 := by decide
    have hne' : ∀ o : Obj, ∀ p ∈ [(D, PySem.W.listOf ws.toArray 0), (L' + 1, o)], p.1 ≠ I := fun o p hp => by
      rcases List.mem_cons.mp hp with rfl | hp
      · exact Nat.ne_of_lt hDI
      · rw [List.mem_singleton.mp hp]; exact Nat.ne_of_lt hCI
    have hm0 := Int.fmod_nonneg_of_pos (n.fdiv 8) (by decide : (0 : Int) < 3)
    have hm1 := Int.fmod_lt_of_pos (n.fdiv 8) (by decide : (0 : Int) < 3)
    k_steps
    · rename_i F₃ N₃ _
      refine' iter_range ((n.fdiv 8).fmod 3).toNat (fun _ y => ∃ x t, y = Value.str x t ∧ x.length = 1 ∧ PyData.strOk x = true) ?F ?N ?hh ?hr ?hb ?hn ?he ?hQ
      (case F => k_asm)
      (case N => k_asm)
      (case hh => rfl)
      (case hr => assumption)
      (case hb => omega)
      (case hn => rw [sizeLine_eq]; omega)
      case he =>
        intro C i' u s₃ m₃ gB E' hi' hm Fm st hn
        have X' := X.keeps st
        have T' := T.keeps st
        have hcell := hn _ (List.Mem.tail _ (List.Mem.tail _ (List.Mem.tail _ (List.Mem.head _))))
        have Nm : News gB C s₃.heap [] := News.nil
        have hpow : (144 : Int) ^ ((i' : Int)).toNat ≠ 0 := Int.ne_of_gt (Int.pow_pos (by decide))
        obtain rfl | rfl : i' = 0 ∨ i' = 1 := by omega
        all_goals k_steps
        all_goals exact EltEnd.intro ⟨_, _, rfl, by assumption, by assumption⟩ (by k_asm)
      case hQ =>
        intro Dc h₄ tk ys k hP hDc F₄ N₄
        obtain ⟨ss, hss, hsl, hsa⟩ := strs_of_paired hP
        k_steps
        rw [List.length_range] at hsl
        obtain ⟨hj1, hj2⟩ := join_ones hsa
        refine join_listW (News.isList N₄ (List.Mem.head _)) hss (by decide) ?_ ?_
        · rw [sum_ones hsa]; omega
        intro t' k'
        have hjl : (Txt.join (Str.ofString "") ss).length ≤ 2 := by omega
        k_steps
        refine' TurnEnd.next [(D, PySem.W.listOf ws.toArray 0), (L' + 1, _)] (by k_asm) (by k_asm) ?_ (hne' _) ⟨_, _, _, _, _, _, rfl, (by assumption), rfl, rfl, ?_, ?_, ?_, ?_⟩
        · exact fun p hp => List.Mem.tail _ (List.Mem.tail _ hp)
        · rw [Str.length_append]; omega
        · rw [Str.length_append]; omega
        · exact ok_append hWk (by decide +kernel)
        · exact ok_append hGk hj2
    all_goals (refine' TurnEnd.next [(D, PySem.W.listOf ws.toArray 0), (L' + 1, _)] (by k_asm) (by k_asm) ?_ (hne' _) ⟨_, _, _, _, _, _, rfl, (by assumption), rfl, rfl, ?_, ?_, ?_, ?_⟩)
    all_goals first
      | exact fun p hp => List.Mem.tail _ hp
      | (rw [Str.length_append]; omega)
      | exact ok_append hWk (by first | assumption | decide +kernel)
      | exact ok_append hGk (by first | assumption | decide +kernel)
end
end MQ

namespace MQ
def litRow (g : List Nat) (above : List Bool) (part : List Nat) : List Bool := (List.range (g.length + 1)).map fun k => decide (part.length ≤ k) && above.getD (k - part.length) false && ((g.drop (k - part.length)).take part.length == part)
def starRow (g : List Nat) (above : List Bool) : List Bool := (List.range (g.length + 1)).map fun k => (above.take (k + 1)).any id
def dotsOf (d c : Nat) : Nat := if c = 46 then d + 1 else 0
/-- one more sign of the want -/
def tabStep (g : List Nat) (sp : Bool) (st : List (List Bool) × Nat) (c : Nat) : List (List Bool) × Nat :=
  (st.1 ++ [if 0 < dotsOf st.2 c ∧ dotsOf st.2 c % 3 = 0 then starRow g (st.1.getD (st.1.length - 3) []) else litRow g (st.1.getD (st.1.length - 1) []) (if sp then spellC c else [c])], dotsOf st.2 c)
def tab (g : List Nat) (sp : Bool) (want : List Nat) : List (List Bool) × Nat := want.foldl (tabStep g sp) ([(List.range (g.length + 1)).map (· == 0)], 0)
theorem tab_snoc (g : List Nat) (sp : Bool) (want : List Nat) (c : Nat) : tab g sp (want ++ [c]) = tabStep g sp (tab g sp want) c := by unfold tab; rw [List.foldl_append]; rfl
theorem snoc_ind {P : List Nat → Prop} (h0 : P []) (h1 : ∀ w c, P w → P (w ++ [c])) (l : List Nat) : P l := by
  have : ∀ n (l : List Nat), l.length = n → P l := by
    intro n
    induction n with
    | zero => intro l hl; rw [List.eq_nil_of_length_eq_zero hl]; exact h0
    | succ n ih =>
      intro l hl
      have hne : l ≠ [] := fun e => by rw [e] at hl; simp at hl
      rw [← List.dropLast_concat_getLast hne]
      exact h1 _ _ (ih _ (by simp [hl]))
  exact this _ l rfl
theorem tab_len (g : List Nat) (sp : Bool) (want : List Nat) : (tab g sp want).1.length = want.length + 1 ∧ (tab g sp want).2 ≤ want.length ∧ ∀ row ∈ (tab g sp want).1, row.length = g.length + 1 := by
  revert want
  refine snoc_ind ⟨rfl, Nat.le_refl _, fun row h => by rw [List.mem_singleton.mp h]; simp⟩ ?_
  intro w c ⟨h1, h2, h3⟩
  rw [tab_snoc]
  unfold tabStep
  refine ⟨by simp [h1], ?_, fun row hr => ?_⟩
  · unfold dotsOf; simp only [List.length_append, List.length_singleton]; split <;> omega
  · rcases List.mem_append.mp hr with hr | hr
    · exact h3 row hr
    · rw [List.mem_singleton.mp hr]
      split
      · simp [starRow]
      · simp [litRow]
/-- the objects of a table's rows -/
def RowObjs (ro : List (Addr × Obj)) (rows : List (List Bool)) : Prop := Paired (fun (p : Addr × Obj) row => ∃ n, p.2 = PySem.W.listOf (row.map Value.bool).toArray n) ro rows
theorem in_bools {prog : Program} {w : World} {A : Around} {E : Value → Shared → Prop} {s : Shared} {l : Addr} {bs : List Bool} {Q : Value → Shared → Prop} (hl : s.heap.IsList l (bs.map Value.bool).toArray)
    (h : Q (.bool (bs.any id)) s) : wpAny (model prog w) A (compareOp .In (.bool true) (.ref l)) Q E s := by
  refine SeqAt.in_listAt (fun v => match v with | .bool b => b | _ => false) hl (fun y hy => ?_) ?_
  · obtain ⟨b, hb, rfl⟩ := List.mem_map.mp (by simpa using hy : y ∈ bs.map Value.bool)
    have := SeqAt.EqAt.bool_bool (A := A.in1) (s := s) b true
    simpa using this
  · have e : ((bs.map Value.bool).toArray.any fun v => match v with | .bool b => b | _ => false) = bs.any id := by
      rw [← Array.any_toList]
      simp only [List.any_map, Function.comp_def]
      rfl
    rw [e]; exact h
end MQ

namespace MQ
theorem bools_of_paired {f : Nat → Bool} : ∀ {ii : List Nat} {ys : List Value}, Paired (fun k v => v = Value.bool (f k)) ii ys → ys = (ii.map f).map Value.bool
  | _, _, .nil => rfl
  | _, _, .cons e h => by subst e; rw [bools_of_paired h]; rfl
theorem News.perm {h₀ h : Heap} {L : Addr} {n₁ n₂ : List (Addr × Obj)} (N : News h₀ L h n₁) (hs : ∀ p ∈ n₂, p ∈ n₁) : News h₀ L h n₂ := fun p hp => N p (hs p hp)
theorem tb_perm {a b c d e f : Addr × Obj} : ∀ p ∈ [a, b, c, d, e, f], p ∈ [a, f, b, c, d, e] := fun p hp => by
  simp only [List.mem_cons, List.not_mem_nil, or_false] at hp ⊢
  rcases hp with h | h | h | h | h | h <;> simp [h]
theorem row_at {ro : List (Addr × Obj)} {rows : List (List Bool)} (h : RowObjs ro rows) {j : Nat} {k : Int} (hj : j < ro.length) (e : k + (ro.length : Int) = j) :
    ∃ p, (p ∈ ro ∧ ∃ n, p.2 = PySem.W.listOf ((rows.getD j []).map Value.bool).toArray n) ∧ ((ro.map fun p => Value.ref p.1).toArray)[(k + ((ro.map fun p => Value.ref p.1).toArray.size : Int)).toNat]? = some (Value.ref p.1) := by
  obtain ⟨row, hr, hp⟩ := Paired.get h j _ (List.getElem?_eq_getElem hj)
  refine ⟨_, ⟨List.getElem_mem hj, ?_⟩, ?_⟩
  · rw [List.getD_eq_getElem?_getD, hr]; exact hp
  · rw [List.size_toArray, List.length_map, e, Int.toNat_natCast, List.getElem?_toArray, List.getElem?_map, List.getElem?_eq_getElem hj]; rfl
theorem bool_item {row : List Bool} {k : Nat} (h : k < row.length) : ((row.map Value.bool).toArray)[k]? = some (Value.bool (row.getD k false)) := by
  rw [List.getElem?_toArray, List.getElem?_map, List.getD_eq_getElem?_getD, List.getElem?_eq_getElem h]; rfl
theorem ofL_beq (a b : List Nat) : (ofL a == ofL b) = (a == b) := by
  rw [Bool.eq_iff_iff, beq_iff_eq, beq_iff_eq]
  exact ⟨ofL_inj, fun e => by rw [e]⟩
/-- the three ends of an element of a plain row -/
theorem lit_end {y P : Str} {row : List Bool} {part : List Nat} {k n : Nat} (hP : P = ofL part) (hn : n = part.length) (hk : k < y.length + 1) (h1 : (n : Int) ≤ (k : Int)) (h2 : row.getD ((k : Int) - (n : Int)).toNat false = true) :
    (Txt.slice y (some ((k : Int) - (n : Int))) (some (k : Int)) == P) = (decide (part.length ≤ k) && row.getD (k - part.length) false && ((y.cps.toList.drop (k - part.length)).take part.length == part)) := by
  have hyl : y.cps.toList.length = y.length := lst_length y
  have e1 : ((k : Int) - (n : Int)).toNat = k - part.length := by omega
  have e2 : (k : Int) - ((k : Int) - (n : Int)) = (part.length : Int) := by omega
  have e3 : Txt.slice y (some ((k : Int) - (n : Int))) (some (k : Int)) = ofL ((y.cps.toList.drop (k - part.length)).take part.length) := by
    have := StrLaws.sliceText_plain (x := y) (i := (k : Int) - (n : Int)) (j := (k : Int)) ⟨by omega, by omega, by omega⟩
    rw [e1, e2, Int.toNat_natCast] at this
    exact this
  rw [e1] at h2
  rw [e3, hP, ofL_beq, h2, decide_eq_true (by omega : part.length ≤ k)]
  simp
theorem lit_end2 {y : Str} {row : List Bool} {part : List Nat} {k n : Nat} (hn : n = part.length) (h1 : (n : Int) ≤ (k : Int)) (h2 : row.getD ((k : Int) - (n : Int)).toNat false = false) :
    row.getD ((k : Int) - (n : Int)).toNat false = (decide (part.length ≤ k) && row.getD (k - part.length) false && ((y.cps.toList.drop (k - part.length)).take part.length == part)) := by
  have e1 : ((k : Int) - (n : Int)).toNat = k - part.length := by omega
  rw [e1] at h2 ⊢
  rw [h2]; simp
theorem lit_end3 {y : Str} {row : List Bool} {part : List Nat} {k n : Nat} (hn : n = part.length) (h1 : ¬ (n : Int) ≤ (k : Int)) :
    decide ((n : Int) ≤ (k : Int)) = (decide (part.length ≤ k) && row.getD (k - part.length) false && ((y.cps.toList.drop (k - part.length)).take part.length == part)) := by
  rw [decide_eq_false h1, decide_eq_false (by omega : ¬ part.length ≤ k)]; simp
theorem dot_ne {c : Nat} (hc : ¬ c = 46) (h : ((⟨#[c]⟩ : Str) == Str.ofString ".") = true) : False := by
  have := congrArg Str.cps (beq_iff_eq.mp h)
  have h2 : (Str.ofString ".").cps = #[46] := by decide +kernel
  rw [h2] at this
  simp at this
  exact hc this
theorem getD_mem {rows : List (List Bool)} {j : Nat} (h : j < rows.length) : rows.getD j [] ∈ rows := by
  rw [List.getD_eq_getElem?_getD, List.getElem?_eq_getElem h]; exact List.getElem_mem h
theorem paired_snoc {α β : Type} {R : α → β → Prop} {a : α} {b : β} (r : R a b) : ∀ {xs : List α} {ys : List β}, Paired R xs ys → Paired R (xs ++ [a]) (ys ++ [b])
  | _, _, .nil => .cons r .nil
  | _, _, .cons h t => .cons h (paired_snoc r t)
/-- what holds between the turns of _law_table -/
def TbJ (x y : Str) (sp : Bool) (T cS cP cA cG : Addr) (oG : Obj) (i : Nat) (m : Str → Option Value) (news : List (Addr × Obj)) : Prop :=
  ∃ (kT : Nat) (oS oP oA : Obj) (vS vP vA : Option Value) (ro : List (Addr × Obj)) (rows : List (List Bool)) (dots : Nat) (td : Tok),
    news = (T, PySem.W.listOf (ro.map fun p => Value.ref p.1).toArray kT) :: (cS, oS) :: (cP, oP) :: (cA, oA) :: (cG, oG) :: ro ∧ oS.data = .cell vS ∧ oP.data = .cell vP ∧ oA.data = .cell vA ∧
    RowObjs ro rows ∧ (rows, dots) = tab y.cps.toList sp (x.cps.toList.take i) ∧ m (Str.ofString "dots") = some (.int (dots : Nat) td) ∧ m (Str.ofString "table") = some (.ref T) ∧ m (Str.ofString "spelled") = some (.bool sp) ∧ ∀ p ∈ ro, cS < p.1 ∧ p.1 ≠ T
theorem tb_turn {x y : Str} {sp : Bool} {T cS cP cA cG I D L : Addr} {oG oI oS oP oA : Obj} {vS vP vA : Option Value} {g₀ h : Heap} {m : Str → Option Value} {ro : List (Addr × Obj)} {rows : List (List Bool)} {row : List Bool} {dots dots' i c k kT : Nat} {td : Tok} {Q : Flow → Shared → Prop} {s₁ : Shared} {tk : Nat}
    (F : Fr g₀ L h m) (N : News g₀ L h ((D, PySem.W.listOf (row.map Value.bool).toArray k) :: (I, oI) :: (T, PySem.W.listOf ((ro.map fun p => Value.ref p.1).toArray.push (.ref D)) (kT + 1)) :: (cS, oS) :: (cP, oP) :: (cA, oA) :: (cG, oG) :: ro))
    (hS : oS.data = .cell vS) (hP : oP.data = .cell vP) (hA : oA.data = .cell vA) (hro : RowObjs ro rows) (ht : (rows, dots) = tab y.cps.toList sp (x.cps.toList.take i)) (hi : x.cps.toList[i]? = some c) (hst : tabStep y.cps.toList sp (rows, dots) c = (rows ++ [row], dots'))
    (hmd : m (Str.ofString "dots") = some (.int (dots' : Nat) td)) (hmt : m (Str.ofString "table") = some (.ref T)) (hms : m (Str.ofString "spelled") = some (.bool sp)) (hadr : ∀ p ∈ ro, cS < p.1 ∧ p.1 ≠ T)
    (hTI : T < I) (hSI : cS < I) (hPI : cP < I) (hAI : cA < I) (hGI : cG < I) (hID : I < D) (hne : ∀ p ∈ ro, p.1 ≠ I) :
    TurnEnd g₀ L I oI (TbJ x y sp T cS cP cA cG oG (i + 1)) Q s₁ .next { s₁ with heap := h, toks := tk } := by
  have e0 : ((ro ++ [(D, PySem.W.listOf (row.map Value.bool).toArray k)]).map fun p => Value.ref p.1).toArray = (ro.map fun p => Value.ref p.1).toArray.push (.ref D) := by simp
  refine TurnEnd.next ((T, PySem.W.listOf ((ro ++ [(D, PySem.W.listOf (row.map Value.bool).toArray k)]).map fun p => Value.ref p.1).toArray (kT + 1)) :: (cS, oS) :: (cP, oP) :: (cA, oA) :: (cG, oG) :: (ro ++ [(D, PySem.W.listOf (row.map Value.bool).toArray k)])) F N ?_ ?_
    ⟨kT + 1, oS, oP, oA, vS, vP, vA, _, rows ++ [row], dots', td, rfl, hS, hP, hA, paired_snoc ⟨k, rfl⟩ hro, ?_, hmd, hmt, hms, ?_⟩
  · rw [e0]
    intro p hp
    simp only [List.mem_cons, List.mem_append, List.not_mem_nil, or_false] at hp ⊢
    rcases hp with h | h | h | h | h | h | h | h <;> simp [h]
  · intro p hp
    simp only [List.mem_cons, List.mem_append, List.not_mem_nil, or_false] at hp
    rcases hp with h | h | h | h | h | h | h
    · rw [h]; exact Nat.ne_of_lt hTI
    · rw [h]; exact Nat.ne_of_lt hSI
    · rw [h]; exact Nat.ne_of_lt hPI
    · rw [h]; exact Nat.ne_of_lt hAI
    · rw [h]; exact Nat.ne_of_lt hGI
    · exact hne p h
    · rw [h]; exact Nat.ne_of_gt hID
  · rw [← hst, ht, ← tab_snoc]
    congr 1
    rw [List.take_add_one, hi]; rfl
  · intro p hp
    rcases List.mem_append.mp hp with hp | hp
    · exact hadr p hp
    · rw [List.mem_singleton.mp hp]; exact ⟨Nat.lt_trans hSI hID, Nat.ne_of_gt (Nat.lt_trans hTI hID)⟩

section
local macro_rules | `(tactic| walk_at "eval ListComp") => `(tactic| (k_here; k_dflt (refine' comp_eval ?kF ?k1 ?k2 ?k3 ?k4 ?k5 ?k6 ?_; (case kF => k_asm); (case k1 => with_unfolding_all rfl); (case k2 => decide); (case k3 => with_unfolding_all rfl); (case k4 => decide); (case k5 => with_unfolding_all rfl); (case k6 => intro _; with_unfolding_all rfl); k_whole)))
local macro_rules | `(tactic| walk_at "eval Name") => `(tactic| (k_here; k_dflt (refine' nameC_L ?k1 ?k2 ?_ ?k3 ?k4 ?k5 ?k6; (case k3 => rfl); (case k1 => k_asm); (case k2 => first | assumption | exact rfl); (case k4 => rfl); (case k5 => rfl); (case k6 => decide); k_whole)))
local macro_rules | `(tactic| walk_at "eval Name") => `(tactic| (k_here; k_dflt (refine' nameC_C ?k1 ?k2 ?k3 ?k4 ?_ ?k5 ?k6 ?k7; (case k2 => rfl); (case k1 => k_asm); (case k3 => assumption); (case k4 => assumption); (case k5 => rfl); (case k6 => rfl); (case k7 => decide); k_whole)))
local macro_rules | `(tactic| walk_at "loadName") => `(tactic| (k_here; k_dflt (refine' loadC_L ?k1 ?k2 ?_ ?k3 ?k4 ?k5; (case k3 => rfl); (case k1 => k_asm); (case k2 => first | assumption | exact rfl); (case k4 => rfl); (case k5 => rfl); k_whole)))
local macro_rules | `(tactic| walk_at "exec For") => `(tactic| (k_here; k_dflt (refine' for_rule ?kF ?k1 ?k2 ?k3 ?k4 ?_; (case kF => k_asm); (case k1 => with_unfolding_all rfl); (case k2 => with_unfolding_all rfl); (case k3 => with_unfolding_all rfl); (case k4 => intro _; with_unfolding_all rfl); k_whole)))
local macro_rules | `(tactic| walk_at "call builtin:list.append") => `(tactic| (k_here; (try dsimp only [List.cons_append, List.nil_append]); k_dflt (refine' append_K ?k1 ?k2 ?k3 ?_ ?z; (case k1 => k_asm); (case k2 => k_asm); (case k3 => k_upd); (case z => (simp only [List.size_toArray, List.length_map, sizeLine_eq]; omega)); k_whole); intro h' F' N'; (try k_sweep)))
local macro_rules | `(tactic| k_all) => `(tactic| assumption)
local macro_rules | `(tactic| walk_at "subscriptTail Name UnaryOp ref int") => `(tactic| (k_here; k_dflt (refine' item_neg ?k1 ?k2 ?k3 ?k4 ?k5 ?_ ?k6; (case k1 => exact News.isList (by k_asm) (by k_mem)); (case k2 => decide); (case k3 => (simp only [List.size_toArray, List.length_map]; omega)); (case k4 => decide); (case k5 => first | assumption | rfl); (case k6 => with_unfolding_all rfl); k_whole)))
local macro_rules | `(tactic| walk_at "subscriptTail Name BinOp ref int") => `(tactic| (k_here; k_dflt (refine' item_at ?k1 ?k2 ?k3 ?k4 ?_ ?k6; (case k1 => assumption); (case k2 => omega); (case k3 => omega); (case k4 => exact bool_item (by omega)); (case k6 => with_unfolding_all rfl); k_whole)))
local macro_rules | `(tactic| walk_at "call ref") => `(tactic| (k_here; k_dflt (refine' use_ct (spelled_ct _ _ _ _ _ _) ?kF ?kN ?kh ?kX ?kT ?kp ?kd ?ku ?_; (case kF => k_asm); (case kN => k_asm); (case kh => rfl); (case kX => k_asm); (case kT => k_asm); (case kp => first | exact Nat.le_of_ble_eq_true rfl | omega); (case kd => (simp only [depth_deeper]; omega)); (case ku => (simp only [units_deeper]; omega)); k_whole); intro v9 h9 tk9 tl9 hR9 F9 N9 hn9 st9; obtain ⟨e9, t9, e8⟩ := hR9; subst e9; subst e8; (simp only [List.nil_append] at N9); (try k_sweep)))
set_option maxRecDepth 100000 in
set_option maxHeartbeats 8000000 in
theorem table_ct (w : World) (mean : ExcName → Option Value) (mg mb : Str → Option Value) (x y : Str) (t u : Tok) (sp : Bool) :
   Ct w mean mg mb 40 85 [Value.str x t, Value.str y u, Value.bool sp] (fun h => x.length ≤ 1000 ∧ y.length ≤ 1000) (fun v tl => ∃ T kT ro, v = Value.ref T ∧ tl = (T, PySem.W.listOf (ro.map fun p => Value.ref p.1).toArray kT) :: ro ∧ RowObjs ro (tab y.cps.toList sp x.cps.toList).1) := by
  w_on
  have hfill : (PySem.Challenge.rw_mq0098_01 = PySem.Challenge.rw_mq0098_01) ∧ (hd.heap_39 = hd.heap_39) := by (k_fill; exact ⟨rfl, rfl⟩)
  clear hfill
  intro A s Q E hh X T hP hd hu hret
  obtain ⟨hA, dp, fr, gd, un⟩ := A
  dsimp only at hh hd hu
  subst hh
  refine' enterC X T ?ho ?hcd ?hroom ?hbind ?hkind ?hnd ?_ ?c1 ?c2 ?c3
  (case ho => k_is)
  (case hcd => k_is)
  (case hroom => show dp < _; omega)
  (case c1 => exact rfl)
  (case c2 => exact rfl)
  (case c3 => exact rfl)
  (case hbind => exact BindsTo.of_eq rfl)
  (case hkind => exact rfl)
  (case hnd => decide +kernel)
  intro L' h' tk' cells' hL F' N' Y'
  k_cells Y'
  rename_i oS oP oA oG hoS hoP hoA hoG
  try dsimp only
  try k_fold
  obtain ⟨hxl, hyl⟩ := hP
  have hyl2 : y.cps.toList.length = y.length := lst_length y
  have hxl2 : x.cps.toList.length = x.length := lst_length x
  k_steps
  refine' iter_range (y.length + 1) (fun k v => v = Value.bool (k == 0)) ?F ?N ?hh ?hr ?hb ?hn ?he ?hQ
  (case F => k_asm)
  (case N => k_asm)
  (case hh => rfl)
  (case hr => assumption)
  (case hb => rfl)
  (case hn => rw [sizeLine_eq]; omega)
  case he =>
    intro C i u s₃ m₃ gB E' hi hm Fm st hn
    have X' := X.keeps st
    have T' := T.keeps st
    k_steps
    refine EltEnd.intro (congrArg Value.bool ?_) Fm
    rw [Bool.eq_iff_iff, beq_iff_eq, beq_iff_eq]; omega
  case hQ =>
    intro D h₁ tk₁ ys k₁ hP₁ hD₁ F₁ N₁
    have hys := bools_of_paired hP₁
    obtain ⟨ys⟩ := ys
    dsimp only at hys
    subst hys
    have hD4 : @LT.lt Nat _ (L' + 1 + 1 + 1 + 1) D := hD₁ _ (List.Mem.head _)
    k_steps
    rename_i Tb _ hTb _ _ F₂ N₂
    have hTb4 : @LT.lt Nat _ (L' + 1 + 1 + 1 + 1) Tb := by omega
    have hTD : @LT.lt Nat _ D Tb := by omega
    refine' for_str (TbJ x y sp Tb (L' + 1 + 1 + 1 + 1) (L' + 1 + 1 + 1) (L' + 1 + 1) (L' + 1) oG) ?F ?N ?hh ?h0 ?step ?hQ
    (case F => k_asm)
    (case N => exact N₂.perm tb_perm)
    (case hh => rfl)
    (case h0 => exact ⟨_, oS, oP, oA, _, _, _, [(D, _)], _, _, _, rfl, hoS, hoP, hoA, .cons ⟨_, rfl⟩ .nil, rfl, rfl, rfl, rfl, fun p hp => by rw [List.mem_singleton.mp hp]; exact ⟨hD4, Nat.ne_of_lt hTD⟩⟩)
    case hQ =>
      rintro h₂ tk₂ m₂ news₂ F₃ N₃ ⟨kT, oS₂, oP₂, oA₂, vS, vP, vA, ro, rows, dots, td, rfl, hoS₂, hoP₂, hoA₂, hro, htab, hmd, hmt, hms, hadr⟩
      clear N₂ F₂
      rw [List.take_length] at htab
      have hsub : ∀ p ∈ (Tb, PySem.W.listOf (ro.map fun p => Value.ref p.1).toArray kT) :: ro, p ∈ (Tb, PySem.W.listOf (ro.map fun p => Value.ref p.1).toArray kT) :: (L' + 1 + 1 + 1 + 1, oS₂) :: (L' + 1 + 1 + 1, oP₂) :: (L' + 1 + 1, oA₂) :: (L' + 1, oG) :: ro := fun p hp => by
        rcases List.mem_cons.mp hp with hp | hp
        · exact List.mem_cons.mpr (.inl hp)
        · exact List.Mem.tail _ (List.Mem.tail _ (List.Mem.tail _ (List.Mem.tail _ (List.Mem.tail _ hp))))
      have hend := hret (Value.ref Tb) h₂ tk₂ _ F₃.keep (fun p hp => ⟨(N₃ p (hsub p hp)).1, (N₃ p (hsub p hp)).2.2⟩) ⟨Tb, kT, ro, rfl, rfl, by rw [← htab]; exact hro⟩
      k_steps
      exact hend
    case step =>
      rintro i c u₂ m₂ news₂ h₂ tk₂ I oI hi ⟨kT, oS₂, oP₂, oA₂, vS, vP, vA, ro, rows, dots, td, rfl, hoS₂, hoP₂, hoA₂, hro, htab, hmd, hmt, hms, hadr⟩ hne hlt F₃ N₃
      clear N₂ F₂
      have hTI : @LT.lt Nat _ Tb I := hlt _ (List.Mem.head _)
      have hSI : @LT.lt Nat _ (L' + 1 + 1 + 1 + 1) I := hlt _ (List.Mem.tail _ (List.Mem.head _))
      have hPI : @LT.lt Nat _ (L' + 1 + 1 + 1) I := Nat.lt_trans (Nat.lt_succ_self _) hSI
      have hAI : @LT.lt Nat _ (L' + 1 + 1) I := Nat.lt_trans (Nat.lt_succ_self _) hPI
      have hGI : @LT.lt Nat _ (L' + 1) I := Nat.lt_trans (Nat.lt_succ_self _) hAI
      have hrI : ∀ p ∈ ro, p.1 ≠ I := fun p hp => hne p (List.Mem.tail _ (List.Mem.tail _ (List.Mem.tail _ (List.Mem.tail _ (List.Mem.tail _ hp)))))
      obtain ⟨htl, htd, htr⟩ := tab_len y.cps.toList sp (x.cps.toList.take i)
      rw [← htab] at htl htd htr
      dsimp only at htl htd htr
      have hix : i < x.cps.toList.length := (List.getElem?_eq_some_iff.mp hi).1
      rw [List.length_take, Nat.min_eq_left (Nat.le_of_lt hix)] at htl htd
      have hrl : ro.length = i + 1 := by rw [Paired.length hro, htl]
      have hfm : ((dots : Int) + 1).fmod 3 = (((dots + 1) % 3 : Nat) : Int) := by rw [Int.fmod_eq_emod_of_nonneg _ (by decide)]; omega
      obtain ⟨p1, hp1, hx1⟩ := row_at hro (j := i) (k := -1) (by omega) (by omega)
      have haS : ∀ p ∈ ro, p.1 ≠ L' + 1 + 1 + 1 + 1 := fun p hp => Nat.ne_of_gt (hadr p hp).1
      have haP : ∀ p ∈ ro, p.1 ≠ L' + 1 + 1 + 1 := fun p hp => Nat.ne_of_gt (Nat.lt_trans (Nat.lt_succ_self _) (hadr p hp).1)
      have haA : ∀ p ∈ ro, p.1 ≠ L' + 1 + 1 := fun p hp => Nat.ne_of_gt (Nat.lt_trans (Nat.lt_succ_self _) (Nat.lt_trans (Nat.lt_succ_self _) (hadr p hp).1))
      have haT : ∀ p ∈ ro, p.1 ≠ Tb := fun p hp => (hadr p hp).2
      by_cases hs : c = 46 ∧ (dots + 1) % 3 = 0
      · obtain ⟨hc, hs⟩ := hs
        subst hc
        obtain ⟨p3, hp3, hx3⟩ := row_at hro (j := i - 2) (k := -3) (by omega) (by omega)
        obtain ⟨hp3, n3, hp3'⟩ := hp3
        k_steps
        · rename_i oA₃ _ _ hoA₃ _ _ _ _ _ _ _ _ _
          refine' iter_range (y.length + 1) (fun k v => v = Value.bool (((rows.getD (i - 2) []).take (k + 1)).any id)) ?F ?N ?hh ?hr ?hb ?hn ?he ?hQ
          (case F => k_asm)
          (case N => k_asm)
          (case hh => rfl)
          (case hr => assumption)
          (case hb => rfl)
          (case hn => rw [sizeLine_eq]; omega)
          case he =>
            intro C i' u s₃ m₃ gB E' hi' hm Fm st hn
            have X' := X.keeps st
            have T' := T.keeps st
            have hcell := hn _ (List.Mem.tail _ (List.Mem.tail _ (List.Mem.tail _ (List.Mem.tail _ (List.Mem.head _)))))
            have hrow := hn _ (List.Mem.tail _ (List.Mem.tail _ (List.Mem.tail _ (List.Mem.tail _ (List.Mem.tail _ (List.Mem.tail _ hp3))))))
            rw [hp3'] at hrow
            have hlist : s₃.heap.IsList p3.1 ((rows.getD (i - 2) []).map Value.bool).toArray := ⟨_, Fm.keep _ _ hrow, rfl, n3, rfl⟩
            have Nm : News gB C s₃.heap [] := News.nil
            k_steps
            refine kmk_slice_lit Fm Nm hlist IsPart.none (IsPart.int _ _) (zs := ((rows.getD (i - 2) []).take (i' + 1)).map Value.bool) ?_ ?_ (by with_unfolding_all rfl) (by kmk_pure) ?_
            · have hl3 := htr _ (getD_mem (show i - 2 < rows.length by omega))
              show (slicePick _ none (some ((i' + 1 : Nat) : Int)) none).toList = _
              rw [slicePick_upto _ _ (by rw [List.size_toArray, List.length_map, hl3]; omega)]
              simp only [List.map_take]
            · intro D5 h5 F5 N5 l5
              exact in_bools (News.isList N5 (List.Mem.head _)) (EltEnd.intro rfl F5)
            · have hl3 := htr _ (getD_mem (show i - 2 < rows.length by omega))
              rw [List.size_toArray, List.length_map, hl3, sizeLine_eq]; omega
          case hQ =>
            intro Dc h₄ tk ys k hP hDc F₄ N₄
            have hys := bools_of_paired hP
            obtain ⟨ys⟩ := ys
            dsimp only at hys
            subst hys
            have hDI : @LT.lt Nat _ I Dc := hDc _ (List.Mem.head _)
            have hDr : ∀ p ∈ ro, p.1 < Dc := fun p hp => hDc p (List.Mem.tail _ (List.Mem.tail _ (List.Mem.tail _ (List.Mem.tail _ (List.Mem.tail _ (List.Mem.tail _ hp))))))
            k_steps
            rename_i h₅ F₅ N₅
            have hst : tabStep y.cps.toList sp (rows, dots) 46 = (rows ++ [(List.range (y.length + 1)).map fun k => ((rows.getD (i - 2) []).take (k + 1)).any id], dots + 1) := by
              unfold tabStep
              have e0 : dotsOf dots 46 = dots + 1 := rfl
              rw [if_pos (by rw [e0]; omega), e0]
              dsimp only [starRow]
              rw [hyl2, htl]; rfl
            refine tb_turn F₅ N₅ hoS₂ hoP₂ hoA₃ hro htab hi hst rfl (by exact hmt) (by exact hms) hadr hTI hSI hPI hAI hGI hDI hrI
        · omega
      · have hs' : ¬ (0 < dotsOf dots c ∧ dotsOf dots c % 3 = 0) := by
          unfold dotsOf; split <;> omega
        obtain ⟨hp1, n1, hp1'⟩ := hp1
        have hcs : spellC c = spell [c] := (List.append_nil _).symm
        have hl1 := htr _ (getD_mem (show i < rows.length by omega))
        have hpl : (ofL (spell [c])).length ≤ 5 := by rw [ofL_length]; have := spell_le [c]; simp only [List.length_singleton] at this; omega
        by_cases hc : c = 46
        · subst hc
          have hrl' : dots + 1 = dotsOf dots 46 := rfl
          cases sp
          · k_steps
            refine' iter_range (y.length + 1) (fun k v => v = Value.bool (decide ([46].length ≤ k) && (rows.getD i []).getD (k - [46].length) false && ((y.cps.toList.drop (k - [46].length)).take [46].length == [46]))) ?F ?N ?hh ?hr ?hb ?hn ?he ?hQ
            (case F => k_asm)
            (case N => k_asm)
            (case hh => rfl)
            (case hr => assumption)
            (case hb => rfl)
            (case hn => rw [sizeLine_eq]; omega)
            case he =>
              intro C i' u s₃ m₃ gB E' hi' hm Fm st hn
              have X' := X.keeps st
              have T' := T.keeps st
              have hcS := hn _ (List.Mem.tail _ (List.Mem.tail _ (List.Mem.head _)))
              have hcP := hn _ (List.Mem.tail _ (List.Mem.tail _ (List.Mem.tail _ (List.Mem.head _))))
              have hcA := hn _ (List.Mem.tail _ (List.Mem.tail _ (List.Mem.tail _ (List.Mem.tail _ (List.Mem.head _)))))
              have hcG := hn _ (List.Mem.tail _ (List.Mem.tail _ (List.Mem.tail _ (List.Mem.tail _ (List.Mem.tail _ (List.Mem.head _))))))
              have hrow := hn _ (List.Mem.tail _ (List.Mem.tail _ (List.Mem.tail _ (List.Mem.tail _ (List.Mem.tail _ (List.Mem.tail _ hp1))))))
              rw [hp1'] at hrow
              have hlist : s₃.heap.IsList p1.1 ((rows.getD i []).map Value.bool).toArray := ⟨_, Fm.keep _ _ hrow, rfl, n1, rfl⟩
              have Nm : News gB C s₃.heap [] := News.nil
              clear hn
              k_steps
              · exact EltEnd.intro (congrArg Value.bool (lit_end rfl rfl hi' (by assumption) (by assumption))) (by k_asm)
              · exact EltEnd.intro (congrArg Value.bool (lit_end2 rfl (by assumption) (by assumption))) (by k_asm)
              · exact EltEnd.intro (congrArg Value.bool (lit_end3 rfl (by assumption))) (by k_asm)
            case hQ =>
              intro Dc h₄ tk ys k hP hDc F₄ N₄
              have hys := bools_of_paired hP
              obtain ⟨ys⟩ := ys
              dsimp only at hys
              subst hys
              have hDI : @LT.lt Nat _ I Dc := hDc _ (List.Mem.head _)
              k_steps
              rename_i h₅ F₅ N₅
              have hst : tabStep y.cps.toList false (rows, dots) 46 = (rows ++ [(List.range (y.length + 1)).map fun k => decide ([46].length ≤ k) && (rows.getD i []).getD (k - [46].length) false && ((y.cps.toList.drop (k - [46].length)).take [46].length == [46])], dots + 1) := by
                unfold tabStep
                dsimp only
                rw [if_neg hs', htl, Nat.add_sub_cancel]
                dsimp only [litRow]
                rw [hyl2]
                rfl
              refine tb_turn F₅ N₅ (by assumption) (by assumption) (by assumption) hro htab hi hst rfl (by exact hmt) (by exact hms) hadr hTI hSI hPI hAI hGI hDI hrI
          · k_steps
            refine' iter_range (y.length + 1) (fun k v => v = Value.bool (decide ((spell [46]).length ≤ k) && (rows.getD i []).getD (k - (spell [46]).length) false && ((y.cps.toList.drop (k - (spell [46]).length)).take (spell [46]).length == (spell [46])))) ?F ?N ?hh ?hr ?hb ?hn ?he ?hQ
            (case F => k_asm)
            (case N => k_asm)
            (case hh => rfl)
            (case hr => assumption)
            (case hb => rfl)
            (case hn => rw [sizeLine_eq]; omega)
            case he =>
              intro C i' u s₃ m₃ gB E' hi' hm Fm st hn
              have X' := X.keeps st
              have T' := T.keeps st
              have hcS := hn _ (List.Mem.tail _ (List.Mem.tail _ (List.Mem.head _)))
              have hcP := hn _ (List.Mem.tail _ (List.Mem.tail _ (List.Mem.tail _ (List.Mem.head _))))
              have hcA := hn _ (List.Mem.tail _ (List.Mem.tail _ (List.Mem.tail _ (List.Mem.tail _ (List.Mem.head _)))))
              have hcG := hn _ (List.Mem.tail _ (List.Mem.tail _ (List.Mem.tail _ (List.Mem.tail _ (List.Mem.tail _ (List.Mem.head _))))))
              have hrow := hn _ (List.Mem.tail _ (List.Mem.tail _ (List.Mem.tail _ (List.Mem.tail _ (List.Mem.tail _ (List.Mem.tail _ hp1))))))
              rw [hp1'] at hrow
              have hlist : s₃.heap.IsList p1.1 ((rows.getD i []).map Value.bool).toArray := ⟨_, Fm.keep _ _ hrow, rfl, n1, rfl⟩
              have Nm : News gB C s₃.heap [] := News.nil
              clear hn
              k_steps
              · exact EltEnd.intro (congrArg Value.bool (lit_end rfl (ofL_length _) hi' (by assumption) (by assumption))) (by k_asm)
              · exact EltEnd.intro (congrArg Value.bool (lit_end2 (ofL_length _) (by assumption) (by assumption))) (by k_asm)
              · exact EltEnd.intro (congrArg Value.bool (lit_end3 (ofL_length _) (by assumption))) (by k_asm)
            case hQ =>
              intro Dc h₄ tk ys k hP hDc F₄ N₄
              have hys := bools_of_paired hP
              obtain ⟨ys⟩ := ys
              dsimp only at hys
              subst hys
              have hDI : @LT.lt Nat _ I Dc := hDc _ (List.Mem.head _)
              k_steps
              rename_i h₅ F₅ N₅
              have hst : tabStep y.cps.toList true (rows, dots) 46 = (rows ++ [(List.range (y.length + 1)).map fun k => decide ((spell [46]).length ≤ k) && (rows.getD i []).getD (k - (spell [46]).length) false && ((y.cps.toList.drop (k - (spell [46]).length)).take (spell [46]).length == (spell [46]))], dots + 1) := by
                unfold tabStep
                dsimp only
                rw [if_neg hs', htl, Nat.add_sub_cancel]
                dsimp only [litRow]
                rw [hyl2]
                rw [hcs]; rfl
              refine tb_turn F₅ N₅ (by assumption) (by assumption) (by assumption) hro htab hi hst rfl (by exact hmt) (by exact hms) hadr hTI hSI hPI hAI hGI hDI hrI
        · have hd0 : dotsOf dots c = 0 := if_neg hc
          cases sp
          · k_steps
            · exact (dot_ne hc (by assumption)).elim
            · exact (dot_ne hc (by assumption)).elim
            refine' iter_range (y.length + 1) (fun k v => v = Value.bool (decide ([c].length ≤ k) && (rows.getD i []).getD (k - [c].length) false && ((y.cps.toList.drop (k - [c].length)).take [c].length == [c]))) ?F ?N ?hh ?hr ?hb ?hn ?he ?hQ
            (case F => k_asm)
            (case N => k_asm)
            (case hh => rfl)
            (case hr => assumption)
            (case hb => rfl)
            (case hn => rw [sizeLine_eq]; omega)
            case he =>
              intro C i' u s₃ m₃ gB E' hi' hm Fm st hn
              have X' := X.keeps st
              have T' := T.keeps st
              have hcS := hn _ (List.Mem.tail _ (List.Mem.tail _ (List.Mem.head _)))
              have hcP := hn _ (List.Mem.tail _ (List.Mem.tail _ (List.Mem.tail _ (List.Mem.head _))))
              have hcA := hn _ (List.Mem.tail _ (List.Mem.tail _ (List.Mem.tail _ (List.Mem.tail _ (List.Mem.head _)))))
              have hcG := hn _ (List.Mem.tail _ (List.Mem.tail _ (List.Mem.tail _ (List.Mem.tail _ (List.Mem.tail _ (List.Mem.head _))))))
              have hrow := hn _ (List.Mem.tail _ (List.Mem.tail _ (List.Mem.tail _ (List.Mem.tail _ (List.Mem.tail _ (List.Mem.tail _ hp1))))))
              rw [hp1'] at hrow
              have hlist : s₃.heap.IsList p1.1 ((rows.getD i []).map Value.bool).toArray := ⟨_, Fm.keep _ _ hrow, rfl, n1, rfl⟩
              have Nm : News gB C s₃.heap [] := News.nil
              clear hn
              k_steps
              · exact EltEnd.intro (congrArg Value.bool (lit_end rfl rfl hi' (by assumption) (by assumption))) (by k_asm)
              · exact EltEnd.intro (congrArg Value.bool (lit_end2 rfl (by assumption) (by assumption))) (by k_asm)
              · exact EltEnd.intro (congrArg Value.bool (lit_end3 rfl (by assumption))) (by k_asm)
            case hQ =>
              intro Dc h₄ tk ys k hP hDc F₄ N₄
              have hys := bools_of_paired hP
              obtain ⟨ys⟩ := ys
              dsimp only at hys
              subst hys
              have hDI : @LT.lt Nat _ I Dc := hDc _ (List.Mem.head _)
              k_steps
              rename_i h₅ F₅ N₅
              have hst : tabStep y.cps.toList false (rows, dots) c = (rows ++ [(List.range (y.length + 1)).map fun k => decide ([c].length ≤ k) && (rows.getD i []).getD (k - [c].length) false && ((y.cps.toList.drop (k - [c].length)).take [c].length == [c])], 0) := by
                unfold tabStep
                dsimp only
                rw [if_neg hs', htl, Nat.add_sub_cancel]
                dsimp only [litRow]
                rw [hyl2]
                rw [hd0]; rfl
              refine tb_turn F₅ N₅ (by assumption) (by assumption) (by assumption) hro htab hi hst rfl (by exact hmt) (by exact hms) hadr hTI hSI hPI hAI hGI hDI hrI
          · k_steps
            · exact (dot_ne hc (by assumption)).elim
            · exact (dot_ne hc (by assumption)).elim
            refine' iter_range (y.length + 1) (fun k v => v = Value.bool (decide ((spell [c]).length ≤ k) && (rows.getD i []).getD (k - (spell [c]).length) false && ((y.cps.toList.drop (k - (spell [c]).length)).take (spell [c]).length == (spell [c])))) ?F ?N ?hh ?hr ?hb ?hn ?he ?hQ
            (case F => k_asm)
            (case N => k_asm)
            (case hh => rfl)
            (case hr => assumption)
            (case hb => rfl)
            (case hn => rw [sizeLine_eq]; omega)
            case he =>
              intro C i' u s₃ m₃ gB E' hi' hm Fm st hn
              have X' := X.keeps st
              have T' := T.keeps st
              have hcS := hn _ (List.Mem.tail _ (List.Mem.tail _ (List.Mem.head _)))
              have hcP := hn _ (List.Mem.tail _ (List.Mem.tail _ (List.Mem.tail _ (List.Mem.head _))))
              have hcA := hn _ (List.Mem.tail _ (List.Mem.tail _ (List.Mem.tail _ (List.Mem.tail _ (List.Mem.head _)))))
              have hcG := hn _ (List.Mem.tail _ (List.Mem.tail _ (List.Mem.tail _ (List.Mem.tail _ (List.Mem.tail _ (List.Mem.head _))))))
              have hrow := hn _ (List.Mem.tail _ (List.Mem.tail _ (List.Mem.tail _ (List.Mem.tail _ (List.Mem.tail _ (List.Mem.tail _ hp1))))))
              rw [hp1'] at hrow
              have hlist : s₃.heap.IsList p1.1 ((rows.getD i []).map Value.bool).toArray := ⟨_, Fm.keep _ _ hrow, rfl, n1, rfl⟩
              have Nm : News gB C s₃.heap [] := News.nil
              clear hn
              k_steps
              · exact EltEnd.intro (congrArg Value.bool (lit_end rfl (ofL_length _) hi' (by assumption) (by assumption))) (by k_asm)
              · exact EltEnd.intro (congrArg Value.bool (lit_end2 (ofL_length _) (by assumption) (by assumption))) (by k_asm)
              · exact EltEnd.intro (congrArg Value.bool (lit_end3 (ofL_length _) (by assumption))) (by k_asm)
            case hQ =>
              intro Dc h₄ tk ys k hP hDc F₄ N₄
              have hys := bools_of_paired hP
              obtain ⟨ys⟩ := ys
              dsimp only at hys
              subst hys
              have hDI : @LT.lt Nat _ I Dc := hDc _ (List.Mem.head _)
              k_steps
              rename_i h₅ F₅ N₅
              have hst : tabStep y.cps.toList true (rows, dots) c = (rows ++ [(List.range (y.length + 1)).map fun k => decide ((spell [c]).length ≤ k) && (rows.getD i []).getD (k - (spell [c]).length) false && ((y.cps.toList.drop (k - (spell [c]).length)).take (spell [c]).length == (spell [c]))], 0) := by
                unfold tabStep
                dsimp only
                rw [if_neg hs', htl, Nat.add_sub_cancel]
                dsimp only [litRow]
                rw [hyl2]
                rw [hcs]; rw [hd0]; rfl
              refine tb_turn F₅ N₅ (by assumption) (by assumption) (by assumption) hro htab hi hst rfl (by exact hmt) (by exact hms) hadr hTI hSI hPI hAI hGI hDI hrI
end
end MQ

namespace MQ
theorem spell_len {G : Str} (h : G.length ≤ 100) : (ofL (spell G.cps.toList)).length ≤ 1000 := by
  rw [ofL_length]
  have h1 := spell_le G.cps.toList
  have h2 : G.cps.toList.length = G.length := lst_length G
  omega
theorem tab_perm {a : Addr × Obj} {r n : List (Addr × Obj)} {p : Addr × Obj} (h : p ∈ a :: (n ++ r)) : p ∈ (a :: r) ++ n := by
  simp only [List.mem_cons, List.mem_append] at h ⊢
  rcases h with h | h | h
  · exact .inl (.inl h)
  · exact .inr h
  · exact .inl (.inr h)
theorem lw_perm {a b c d p : Addr × Obj} {r1 r2 : List (Addr × Obj)} (h : p ∈ a :: b :: c :: (r1 ++ r2)) : p ∈ a :: (b :: ([d] ++ [c] ++ r1) ++ r2) := by
  simp only [List.mem_cons, List.mem_append, List.not_mem_nil, or_false] at h ⊢
  rcases h with h | h | h | h | h <;> simp [h]
theorem slice_upto {x : Str} {k : Nat} (h : k ≤ x.length) : Txt.slice x none (some (k : Int)) = ofL (x.cps.toList.take k) := by
  have hl : x.cps.toList.length = x.length := lst_length x
  have := StrLaws.sliceText_to (x := x) (j := (k : Int)) ⟨by omega, by omega⟩
  have e : ((k : Int) - 0).toNat = k := by omega
  rw [e, List.drop_zero] at this
  exact this
theorem take_ok {x : Str} (h : PyData.strOk x = true) (k : Nat) : PyData.strOk (ofL (x.cps.toList.take k)) = true := by
  rw [ok_ofL, List.all_eq_true]
  intro c hc
  unfold PyData.strOk at h
  rw [← Array.all_toList, List.all_eq_true] at h
  exact h c (List.mem_of_mem_take hc)
theorem take_le {x : Str} (h : x.length ≤ 100) (k : Nat) : (ofL (x.cps.toList.take k)).length ≤ 100 := by
  rw [ofL_length, List.length_take]
  have hl : x.cps.toList.length = x.length := lst_length x
  omega
theorem paired_trans {α β γ : Type} {R : α → β → Prop} {S : β → γ → Prop} {U : α → γ → Prop} (k : ∀ a b c, R a b → S b c → U a c) : ∀ {xs : List α} {ys : List β} {zs : List γ}, Paired R xs ys → Paired S ys zs → Paired U xs zs
  | _, _, _, .nil, .nil => .nil
  | _, _, _, .cons h t, .cons h' t' => .cons (k _ _ _ h h') (paired_trans k t t')
/-- the relation of a made list to the list of beginnings -/
def FE (f : List Nat → Value → Prop) (v y : Value) : Prop := ∃ (l : List Nat) (t : Tok), v = .str (ofL l) t ∧ f l y
theorem fe_trans {f : List Nat → Value → Prop} {g : Nat → List Nat} {xs : List Nat} {ys zs : List Value} (h : Paired (fun k v => ∃ t, v = Value.str (ofL (g k)) t) xs ys) (h' : Paired (FE f) ys zs) : Paired (fun k y => f (g k) y) xs zs :=
  paired_trans (fun a b c ⟨t, e⟩ ⟨l, t', e', hf⟩ => by
    subst e
    have := (Value.str.inj e').1
    rw [ofL_inj this]; exact hf) h h'
theorem paired_range {f : Nat → Value → Prop} {n j : Nat} {ys : List Value} (h : Paired f (List.range n) ys) (hj : j < n) : ∃ v, ys.toArray[((j : Nat) : Int).toNat]? = some v ∧ f j v := by
  obtain ⟨v, hv, hf⟩ := Paired.get h j j (by rw [List.getElem?_range hj])
  exact ⟨v, by rw [Int.toNat_natCast, List.getElem?_toArray]; exact hv, hf⟩
theorem row_at_nat {ro : List (Addr × Obj)} {rows : List (List Bool)} (h : RowObjs ro rows) {i : Nat} (hi : i < rows.length) :
    ∃ p n, p ∈ ro ∧ p.2 = PySem.W.listOf ((rows.getD i []).map Value.bool).toArray n ∧ ((ro.map fun p => Value.ref p.1).toArray)[((i : Nat) : Int).toNat]? = some (Value.ref p.1) := by
  have hj : i < ro.length := by rw [Paired.length h]; exact hi
  obtain ⟨row, hr, n, hp⟩ := Paired.get h i _ (List.getElem?_eq_getElem hj)
  refine ⟨_, n, List.getElem_mem hj, ?_, ?_⟩
  · rw [List.getD_eq_getElem?_getD, hr]; exact hp
  · rw [Int.toNat_natCast, List.getElem?_toArray, List.getElem?_map, List.getElem?_eq_getElem hj]; rfl
end MQ
namespace MQ
/-- what holds between the turns of the outer loop -/
def LwO (W : Str) (tW : Tok) (T1 T2 D3 D4 D5 : Addr) (base : List (Addr × Obj)) (_ : Nat) (m : Str → Option Value) (news : List (Addr × Obj)) : Prop :=
  news = base ∧ m (Str.ofString "want") = some (.str W tW) ∧ m (Str.ofString "plain") = some (.ref T1) ∧ m (Str.ofString "spelled") = some (.ref T2) ∧
    m (Str.ofString "gots") = some (.ref D3) ∧ m (Str.ofString "bares") = some (.ref D4) ∧ m (Str.ofString "sizes") = some (.ref D5)
/-- and of the inner loop -/
def LwI (W : Str) (tW : Tok) (T1 T2 D3 D4 D5 : Addr) (base : List (Addr × Obj)) (H V : Str) (i : Nat) (b l : Bool) (_ : Nat) (m : Str → Option Value) (news : List (Addr × Obj)) : Prop :=
  ∃ tH tV tI : Tok, news = base ∧ m (Str.ofString "want") = some (.str W tW) ∧ m (Str.ofString "plain") = some (.ref T1) ∧ m (Str.ofString "spelled") = some (.ref T2) ∧
    m (Str.ofString "gots") = some (.ref D3) ∧ m (Str.ofString "bares") = some (.ref D4) ∧ m (Str.ofString "sizes") = some (.ref D5) ∧ m (Str.ofString "head") = some (.str H tH) ∧ m (Str.ofString "written") = some (.str V tV) ∧
    m (Str.ofString "bare") = some (.bool b) ∧ m (Str.ofString "loose") = some (.bool l) ∧ m (Str.ofString "i") = some (.int (i : Nat) tI)
theorem quote_le {l : List Nat} (h : l.length ≤ 100) : (ofL (quoteL l)).length ≤ 10000 := by
  rw [ofL_length]
  have := spell_le l
  unfold quoteL
  split
  · simp
  · split
    · omega
    · simp only [List.length_cons, List.length_append, List.length_nil]; omega
theorem lw_drop {a b c d e f g p : Addr × Obj} {r : List (Addr × Obj)} (h : p ∈ a :: b :: c :: e :: f :: r) : p ∈ a :: b :: c :: d :: e :: f :: g :: r := by
  simp only [List.mem_cons] at h ⊢
  rcases h with h | h | h | h | h | h <;> simp [h]
theorem lw_rows {p1 p2 I : Addr × Obj} {a b c d e p : Addr × Obj} {r1 r2 : List (Addr × Obj)} (h1 : p1 ∈ r1) (h2 : p2 ∈ r2) (h : p ∈ p1 :: p2 :: I :: a :: b :: c :: d :: e :: (r1 ++ r2)) :
    p ∈ I :: a :: b :: c :: d :: e :: (r1 ++ r2) := by
  simp only [List.mem_cons, List.mem_append] at h ⊢
  rcases h with h | h | h
  · simp [h, h1]
  · simp [h, h2]
  · exact h
end MQ
namespace MQ
/-- an item's place, kept shut -/
structure AtIx (items : Array Value) (k : Int) (v : Value) : Prop where
  h : items[k.toNat]? = some v
theorem item_ax {prog : Program} {w : World} {A : Around} {E : Value → Shared → Prop} {s : Shared} {value slice : PySem.Expr} {l : Addr} {items : Array Value} {k : Int} {u : Tok} {v : Value} {Q : Value → Shared → Prop}
    (hl : s.heap.IsList l items) (hx : AtIx items k v) (h0 : 0 ≤ k) (hhi : k < 2 ^ 63) (h : Q v s)
    (hs : subscripted slice false (.ref l) (.int k u) = operate [.ref l, .int k u] (getItem (.ref l) (.int k u))) :
    wpAny (model prog w) A (subscriptTail value slice (.ref l) (.int k u)) Q E s := item_at hl h0 hhi hx.h h hs
end MQ
namespace MQ
/-- the answer that the law asks for -/
def lawDue (b c1 bj l q c2 : Bool) : Bool := if b then (c1 && (bj || l)) else if bj then false else if q then c1 else c2
theorem lw0 {b c1 bj l q c2 : Bool} (h1 : b = true) (h2 : c1 = true) (h3 : bj = true) : bj = lawDue b c1 bj l q c2 := by subst h1 h2 h3; rfl
theorem lw1 {b c1 bj l q c2 : Bool} (h1 : b = true) (h2 : c1 = true) (h3 : bj = false) : l = lawDue b c1 bj l q c2 := by subst h1 h2 h3; rfl
theorem lw2 {b c1 bj l q c2 : Bool} (h1 : b = true) (h2 : c1 = false) : c1 = lawDue b c1 bj l q c2 := by subst h1 h2; rfl
theorem lw3 {b c1 bj l q c2 : Bool} (h1 : b = false) (h2 : bj = true) : false = lawDue b c1 bj l q c2 := by subst h1 h2; rfl
theorem lw4 {b c1 bj l q c2 : Bool} (h1 : b = false) (h2 : bj = false) (h3 : q = true) : c1 = lawDue b c1 bj l q c2 := by subst h1 h2 h3; rfl
theorem lw5 {b c1 bj l q c2 : Bool} (h1 : b = false) (h2 : bj = false) (h3 : q = false) : c2 = lawDue b c1 bj l q c2 := by subst h1 h2 h3; rfl
theorem lw_no {e d x : Bool} (h : e = x) (hn : (e != d) = true) (hd : d = x) : False := by
  rw [hd, h] at hn; simp at hn
end MQ

namespace MQ
/-- a text against marks: none is a run of any signs, some c the sign c -/
def Mt : List (Option Nat) → List Nat → Prop
  | [], y => y = []
  | some c :: T, y => ∃ r, y = c :: r ∧ Mt T r
  | none :: T, y => ∃ u v, y = u ++ v ∧ Mt T v
def lits (u : List Nat) : List (Option Nat) := u.map some
theorem mt_append : ∀ (S T : List (Option Nat)) (y : List Nat), Mt (S ++ T) y ↔ ∃ u v, y = u ++ v ∧ Mt S u ∧ Mt T v
  | [], T, y => ⟨fun h => ⟨[], y, rfl, rfl, h⟩, fun ⟨u, v, e, h, k⟩ => by have h : u = [] := h; subst h; subst e; exact k⟩
  | some c :: S, T, y => by
    show (∃ r, y = c :: r ∧ Mt (S ++ T) r) ↔ _
    constructor
    · rintro ⟨r, rfl, h⟩
      obtain ⟨u, v, rfl, h1, h2⟩ := (mt_append S T r).mp h
      exact ⟨c :: u, v, rfl, ⟨u, rfl, h1⟩, h2⟩
    · rintro ⟨u, v, rfl, ⟨u', rfl, h1⟩, h2⟩
      exact ⟨u' ++ v, rfl, (mt_append S T _).mpr ⟨u', v, rfl, h1, h2⟩⟩
  | none :: S, T, y => by
    show (∃ a b, y = a ++ b ∧ Mt (S ++ T) b) ↔ _
    constructor
    · rintro ⟨a, b, rfl, h⟩
      obtain ⟨u, v, rfl, h1, h2⟩ := (mt_append S T b).mp h
      exact ⟨a ++ u, v, by rw [List.append_assoc], ⟨a, u, rfl, h1⟩, h2⟩
    · rintro ⟨u, v, rfl, ⟨a, b, rfl, h1⟩, h2⟩
      exact ⟨a, b ++ v, by rw [List.append_assoc], (mt_append S T _).mpr ⟨b, v, rfl, h1, h2⟩⟩
theorem mt_lits : ∀ (u y : List Nat), Mt (lits u) y ↔ y = u
  | [], _ => Iff.rfl
  | c :: u, y => by
    show (∃ r, y = c :: r ∧ Mt (lits u) r) ↔ _
    constructor
    · rintro ⟨r, rfl, h⟩; rw [(mt_lits u r).mp h]
    · rintro rfl; exact ⟨u, rfl, (mt_lits u u).mpr rfl⟩
theorem mt_any (y : List Nat) : Mt [none] y := ⟨y, [], by simp, rfl⟩
theorem mt_pre (u : List Nat) (T : List (Option Nat)) (y : List Nat) : Mt (lits u ++ T) y ↔ ∃ z, y = u ++ z ∧ Mt T z := by
  rw [mt_append]
  constructor
  · rintro ⟨a, b, rfl, h, k⟩; rw [(mt_lits u a).mp h]; exact ⟨b, rfl, k⟩
  · rintro ⟨z, rfl, k⟩; exact ⟨u, z, rfl, (mt_lits u u).mpr rfl, k⟩
theorem mt_suf (u : List Nat) (T : List (Option Nat)) (y : List Nat) : Mt (T ++ lits u) y ↔ ∃ z, y = z ++ u ∧ Mt T z := by
  rw [mt_append]
  constructor
  · rintro ⟨a, b, rfl, h, k⟩; rw [(mt_lits u b).mp k]; exact ⟨a, rfl, h⟩
  · rintro ⟨z, rfl, k⟩; exact ⟨z, u, rfl, k, (mt_lits u u).mpr rfl⟩
theorem mt_star_of_suffix {T : List (Option Nat)} {a b : List Nat} (h : Mt (none :: T) b) : Mt (none :: T) (a ++ b) := by
  obtain ⟨u, v, rfl, k⟩ := h
  exact ⟨a ++ u, v, by rw [List.append_assoc], k⟩
theorem mt_star_star {T : List (Option Nat)} {y : List Nat} : Mt (none :: none :: T) y ↔ Mt (none :: T) y := by
  constructor
  · rintro ⟨u, v, rfl, h⟩; exact mt_star_of_suffix h
  · intro h; exact ⟨[], y, rfl, h⟩

/-! ### the marks of a want -/
def lt : List Nat → List (Option Nat)
  | 46 :: 46 :: 46 :: r => none :: lt r
  | c :: r => some c :: lt r
  | [] => []
theorem lt_other {c : Nat} {r : List Nat} (h : c ≠ 46) : lt (c :: r) = some c :: lt r := by
  rw [lt]
  intro r' e
  cases e
  exact absurd rfl h
theorem lt_dot_other {c : Nat} {r : List Nat} (h : c ≠ 46) : lt (46 :: c :: r) = some 46 :: lt (c :: r) := by
  rw [lt]
  intros; simp_all
theorem lt_dot2_other {c : Nat} {r : List Nat} (h : c ≠ 46) : lt (46 :: 46 :: c :: r) = some 46 :: lt (46 :: c :: r) := by
  rw [lt]
  intros; simp_all
/-- the marks one sign after the other: those that stand, and the dots that wait -/
def ltS (st : List (Option Nat) × Nat) (c : Nat) : List (Option Nat) × Nat :=
  if c = 46 then (if st.2 = 2 then (st.1 ++ [none], 0) else (st.1, st.2 + 1)) else (st.1 ++ lits (List.replicate st.2 46) ++ [some c], 0)
def ltEnd (st : List (Option Nat) × Nat) : List (Option Nat) := st.1 ++ lits (List.replicate st.2 46)
theorem ltS_le {st : List (Option Nat) × Nat} {c : Nat} (h : st.2 ≤ 2) : (ltS st c).2 ≤ 2 := by
  unfold ltS
  split
  · split
    · exact Nat.zero_le _
    · show st.2 + 1 ≤ 2; omega
  · exact Nat.zero_le _
theorem lt_fold : ∀ (r : List Nat) (T : List (Option Nat)) (p : Nat), p ≤ 2 → ltEnd (r.foldl ltS (T, p)) = T ++ lt (List.replicate p 46 ++ r)
  | [], T, p, hp => by
    obtain rfl | rfl | rfl : p = 0 ∨ p = 1 ∨ p = 2 := by omega
    all_goals rfl
  | c :: r, T, p, hp => by
    rw [List.foldl_cons]
    have key : ltS (T, p) c = ((ltS (T, p) c).1, (ltS (T, p) c).2) := rfl
    rw [key, lt_fold r _ _ (ltS_le hp)]
    unfold ltS
    by_cases hc : c = 46
    · subst hc
      obtain rfl | rfl | rfl : p = 0 ∨ p = 1 ∨ p = 2 := by omega
      · rfl
      · rfl
      · show (T ++ [none]) ++ lt r = T ++ (none :: lt r)
        simp
    · rw [if_neg hc]
      obtain rfl | rfl | rfl : p = 0 ∨ p = 1 ∨ p = 2 := by omega
      · show (T ++ [] ++ [some c]) ++ lt r = T ++ lt (c :: r)
        rw [lt_other hc]; simp
      · show (T ++ [some 46] ++ [some c]) ++ lt r = T ++ lt (46 :: c :: r)
        rw [lt_dot_other hc, lt_other hc]; simp
      · show (T ++ [some 46, some 46] ++ [some c]) ++ lt r = T ++ lt (46 :: 46 :: c :: r)
        rw [lt_dot2_other hc, lt_dot_other hc, lt_other hc]; simp
def ltF (w : List Nat) : List (Option Nat) × Nat := w.foldl ltS ([], 0)
theorem ltF_end (w : List Nat) : ltEnd (ltF w) = lt w := by
  have := lt_fold w [] 0 (by omega)
  simpa [ltF] using this
theorem ltF_snoc (w : List Nat) (c : Nat) : ltF (w ++ [c]) = ltS (ltF w) c := by unfold ltF; rw [List.foldl_append]; rfl

/-! ### the table -/
def spT (T : List (Option Nat)) : List (Option Nat) := T.flatMap fun o => match o with | none => [none] | some c => lits (spellC c)
theorem spT_append (a b : List (Option Nat)) : spT (a ++ b) = spT a ++ spT b := by unfold spT; rw [List.flatMap_append]
theorem spT_lits (u : List Nat) : spT (lits u) = lits (spell u) := by
  induction u with
  | nil => rfl
  | cons c r ih =>
    show spT (some c :: lits r) = lits (spellC c ++ spell r)
    have : spT (some c :: lits r) = lits (spellC c) ++ spT (lits r) := rfl
    rw [this, ih]; unfold lits; rw [List.map_append]
def opT (sp : Bool) (T : List (Option Nat)) : List (Option Nat) := if sp then spT T else T
theorem opT_append (sp : Bool) (a b : List (Option Nat)) : opT sp (a ++ b) = opT sp a ++ opT sp b := by
  cases sp
  · rfl
  · exact spT_append a b
theorem opT_none (sp : Bool) : opT sp [none] = [none] := by cases sp <;> rfl
theorem opT_some (sp : Bool) (c : Nat) : opT sp [some c] = lits (if sp then spellC c else [c]) := by
  cases sp
  · rfl
  · show spT [some c] = _
    show lits (spellC c) ++ [] = lits (spellC c)
    rw [List.append_nil]
/-- a row tells which beginnings the marks take -/
def RowOf (g : List Nat) (T : List (Option Nat)) (row : List Bool) : Prop := ∀ k, k ≤ g.length → (row.getD k false = true ↔ Mt T (g.take k))
theorem getD_range {n k : Nat} (f : Nat → Bool) (h : k < n) : ((List.range n).map f).getD k false = f k := by
  rw [List.getD_eq_getElem?_getD, List.getElem?_map, List.getElem?_range h]; rfl
theorem rowOf_first (g : List Nat) : RowOf g [] ((List.range (g.length + 1)).map (· == 0)) := fun k hk => by
  rw [getD_range _ (by omega)]
  show (k == 0) = true ↔ g.take k = []
  rw [beq_iff_eq, List.take_eq_nil_iff]
  constructor
  · exact .inl
  · rintro (h | h)
    · exact h
    · subst h; simpa using hk
theorem rowOf_lit {g : List Nat} {T : List (Option Nat)} {above : List Bool} (part : List Nat) (h : RowOf g T above) : RowOf g (T ++ lits part) (litRow g above part) := fun k hk => by
  unfold litRow
  rw [getD_range _ (by omega), mt_suf, Bool.and_eq_true, Bool.and_eq_true, decide_eq_true_eq, beq_iff_eq]
  constructor
  · rintro ⟨⟨h1, h2⟩, h3⟩
    refine ⟨g.take (k - part.length), ?_, (h _ (by omega)).mp h2⟩
    have e : k = (k - part.length) + part.length := by omega
    have e2 : g.take k = g.take (k - part.length) ++ (g.drop (k - part.length)).take part.length := by
      conv => lhs; rw [e, List.take_add]
    rw [e2, h3]
  · rintro ⟨z, e, hz⟩
    have hl := congrArg List.length e
    rw [List.length_take, List.length_append, Nat.min_eq_left hk] at hl
    have hzl : z.length = k - part.length := by omega
    have h1 : g.take (k - part.length) = z := by
      have : g.take (k - part.length) = (g.take k).take (k - part.length) := by rw [List.take_take, Nat.min_eq_left (by omega)]
      rw [this, e, ← hzl, List.take_left']
      rfl
    have h2 : (g.drop (k - part.length)).take part.length = part := by
      have : (g.take k).drop (k - part.length) = part := by rw [e, ← hzl, List.drop_left']; rfl
      rw [List.drop_take] at this
      have e3 : k - (k - part.length) = part.length := by omega
      rw [e3] at this; exact this
    exact ⟨⟨by omega, (h _ (by omega)).mpr (by rw [h1]; exact hz)⟩, h2⟩
theorem rowOf_star {g : List Nat} {T : List (Option Nat)} {above : List Bool} (h : RowOf g T above) : RowOf g (T ++ [none]) (starRow g above) := fun k hk => by
  unfold starRow
  rw [getD_range _ (by omega), mt_append, List.any_eq_true]
  constructor
  · rintro ⟨b, hb, ht⟩
    have hb' : b = true := ht
    subst hb'
    obtain ⟨j, hj, e⟩ := List.getElem_of_mem hb
    rw [List.length_take] at hj
    rw [List.getElem_take] at e
    have hjk : j ≤ k := by omega
    refine ⟨g.take j, (g.take k).drop j, ?_, (h j (by omega)).mp ?_, mt_any _⟩
    · have : g.take j = (g.take k).take j := by rw [List.take_take, Nat.min_eq_left hjk]
      rw [this, List.take_append_drop]
    · rw [List.getD_eq_getElem?_getD, List.getElem?_eq_getElem (by omega), e]; rfl
  · rintro ⟨u, v, e, hu, _⟩
    have hl := congrArg List.length e
    rw [List.length_take, List.length_append, Nat.min_eq_left hk] at hl
    have h1 : g.take u.length = u := by
      have : g.take u.length = (g.take k).take u.length := by rw [List.take_take, Nat.min_eq_left (by omega)]
      rw [this, e, List.take_left']
      rfl
    have h2 := (h u.length (by omega)).mpr (by rw [h1]; exact hu)
    refine ⟨true, ?_, rfl⟩
    rw [List.getD_eq_getElem?_getD] at h2
    cases q : above[u.length]? with
    | none => rw [q] at h2; cases h2
    | some b =>
      rw [q] at h2
      have hb : b = true := h2
      subst hb
      refine List.mem_of_getElem? (i := u.length) ?_
      rw [List.getElem?_take, if_pos (by omega)]; exact q
end MQ

namespace MQ
theorem getD_snoc_lt {α : Type} {l : List α} {a d : α} {i : Nat} (h : i < l.length) : (l ++ [a]).getD i d = l.getD i d := by
  rw [List.getD_eq_getElem?_getD, List.getElem?_append_left h, ← List.getD_eq_getElem?_getD]
theorem getD_snoc_at {α : Type} {l : List α} {a d : α} : (l ++ [a]).getD l.length d = a := by
  rw [List.getD_eq_getElem?_getD, List.getElem?_concat_length]; rfl
/-- what holds of the table behind each sign -/
def TInv (g : List Nat) (sp : Bool) (w : List Nat) : Prop :=
  (tab g sp w).2 % 3 = (ltF w).2 ∧ (ltF w).2 ≤ 2 ∧ (ltF w).2 ≤ w.length ∧
  ∀ q, q ≤ (ltF w).2 → RowOf g (opT sp ((ltF w).1 ++ lits (List.replicate ((ltF w).2 - q) 46))) ((tab g sp w).1.getD (w.length - q) [])
theorem tinv (g : List Nat) (sp : Bool) (w : List Nat) : TInv g sp w := by
  revert w
  refine snoc_ind ?_ ?_
  · refine ⟨rfl, by decide, by decide, fun q hq => ?_⟩
    have h0 : q = 0 := by have : q ≤ 0 := hq; omega
    subst h0
    have e : opT sp ((ltF []).1 ++ lits (List.replicate ((ltF []).2 - 0) 46)) = [] := by cases sp <;> rfl
    rw [e]
    exact rowOf_first g
  · rintro w c ⟨h1, h2, h3, h4⟩
    obtain ⟨hl, -, -⟩ := tab_len g sp w
    have hwl : (w ++ [c]).length = w.length + 1 := by simp
    generalize hF : ltF w = F at h1 h2 h3 h4
    obtain ⟨T, p⟩ := F
    dsimp only at h1 h2 h3 h4
    unfold TInv
    rw [ltF_snoc, hF, tab_snoc, hwl]
    generalize ht : tab g sp w = st at h1 h4 hl
    obtain ⟨rows, dots⟩ := st
    dsimp only at h1 h4 hl
    have hat : ∀ a : List Bool, (rows ++ [a]).getD (w.length + 1) [] = a := fun a => by rw [← hl]; exact getD_snoc_at
    have hold : ∀ (a : List Bool) q, (rows ++ [a]).getD (w.length - q) [] = rows.getD (w.length - q) [] := fun a q => getD_snoc_lt (by omega)
    have hlast : rows.getD (rows.length - 1) [] = rows.getD (w.length - 0) [] := by rw [hl]; rfl
    by_cases hc : c = 46
    · subst hc
      have hd : dotsOf dots 46 = dots + 1 := rfl
      by_cases hp : p = 2
      · subst hp
        have e1 : ltS (T, 2) 46 = (T ++ [none], 0) := rfl
        have e2 : tabStep g sp (rows, dots) 46 = (rows ++ [starRow g (rows.getD (rows.length - 3) [])], dots + 1) := by
          unfold tabStep
          rw [hd, if_pos (by omega)]
        rw [e1, e2]
        refine ⟨by show (dots + 1) % 3 = 0; omega, Nat.zero_le _, Nat.zero_le _, fun q hq => ?_⟩
        have h0 : q = 0 := by have : q ≤ 0 := hq; omega
        subst h0
        show RowOf g (opT sp ((T ++ [none]) ++ [])) ((rows ++ [_]).getD (w.length + 1) [])
        rw [hat, List.append_nil, opT_append, opT_none]
        have := h4 2 (by omega)
        have e4 : rows.length - 3 = w.length - 2 := by omega
        rw [e4]
        refine rowOf_star ?_
        have e5 : T ++ lits (List.replicate (2 - 2) 46) = T := List.append_nil _
        rw [e5] at this
        exact this
      · have e1 : ltS (T, p) 46 = (T, p + 1) := by unfold ltS; rw [if_pos rfl, if_neg hp]
        have e2 : tabStep g sp (rows, dots) 46 = (rows ++ [litRow g (rows.getD (rows.length - 1) []) (if sp then spellC 46 else [46])], dots + 1) := by
          unfold tabStep
          rw [hd, if_neg (by omega)]
        rw [e1, e2]
        refine ⟨by show (dots + 1) % 3 = p + 1; omega, by show p + 1 ≤ 2; omega, by show p + 1 ≤ _; omega, fun q hq => ?_⟩
        have hq : q ≤ p + 1 := hq
        cases q with
        | zero =>
          show RowOf g (opT sp (T ++ lits (List.replicate (p + 1) 46))) ((rows ++ [_]).getD (w.length + 1) [])
          rw [hat, hlast]
          have := rowOf_lit (if sp then spellC 46 else [46]) (h4 0 (by omega))
          rw [← opT_some, ← opT_append] at this
          have e5 : T ++ lits (List.replicate (p - 0) 46) ++ [some 46] = T ++ lits (List.replicate (p + 1) 46) := by
            rw [List.replicate_succ', lits, lits, List.map_append, List.append_assoc]; rfl
          rw [e5] at this
          exact this
        | succ q =>
          have := h4 q (by omega)
          have e6 : p + 1 - (q + 1) = p - q := by omega
          have e7 : w.length + 1 - (q + 1) = w.length - q := by omega
          show RowOf g (opT sp (T ++ lits (List.replicate (p + 1 - (q + 1)) 46))) ((rows ++ [_]).getD (w.length + 1 - (q + 1)) [])
          rw [e6, e7, hold]
          exact this
    · have hd : dotsOf dots c = 0 := if_neg hc
      have e1 : ltS (T, p) c = (T ++ lits (List.replicate p 46) ++ [some c], 0) := by unfold ltS; rw [if_neg hc]
      have e2 : tabStep g sp (rows, dots) c = (rows ++ [litRow g (rows.getD (rows.length - 1) []) (if sp then spellC c else [c])], 0) := by
        unfold tabStep
        rw [hd, if_neg (by omega)]
      rw [e1, e2]
      refine ⟨rfl, Nat.zero_le _, Nat.zero_le _, fun q hq => ?_⟩
      have h0 : q = 0 := by have : q ≤ 0 := hq; omega
      subst h0
      show RowOf g (opT sp ((T ++ lits (List.replicate p 46) ++ [some c]) ++ [])) ((rows ++ [_]).getD (w.length + 1) [])
      rw [hat, hlast, List.append_nil, opT_append, opT_some]
      exact rowOf_lit _ (h4 0 (by omega))
theorem tab_last (g : List Nat) (sp : Bool) (w : List Nat) : RowOf g (opT sp (lt w)) ((tab g sp w).1.getD w.length []) := by
  have := (tinv g sp w).2.2.2 0 (Nat.zero_le _)
  rw [← ltF_end w]
  exact this
theorem tab_take (g : List Nat) (sp : Bool) (w : List Nat) : ∀ i, i ≤ w.length → (tab g sp w).1.getD i [] = (tab g sp (w.take i)).1.getD i [] := by
  revert w
  refine snoc_ind (fun i hi => ?_) fun w c ih i hi => ?_
  · rw [List.take_nil]
  · by_cases h : i ≤ w.length
    · rw [List.take_append_of_le_length h, ← ih i h, tab_snoc]
      obtain ⟨hl, -, -⟩ := tab_len g sp w
      exact getD_snoc_lt (by omega)
    · have : (w ++ [c]).length ≤ i := by simp; omega
      rw [List.take_of_length_le this]
/-- the table's rows -/
theorem tab_row (g : List Nat) (sp : Bool) (w : List Nat) {i : Nat} (hi : i ≤ w.length) : RowOf g (opT sp (lt (w.take i))) ((tab g sp w).1.getD i []) := by
  rw [tab_take g sp w i hi]
  have := tab_last g sp (w.take i)
  rw [List.length_take, Nat.min_eq_left hi] at this
  exact this

/-! ### spelling -/
def SufOf (v y : List Nat) : Prop := ∃ a, y = a ++ v
theorem spellC_39 : spellC 39 = [39, 34, 39, 34, 39] := rfl
theorem spellC_ne {c : Nat} (h : c ≠ 39) : spellC c = [c] := if_neg h
theorem spell_cons (c : Nat) (r : List Nat) : spell (c :: r) = spellC c ++ spell r := rfl
theorem suf_append {v a b : List Nat} (h : SufOf v (a ++ b)) : SufOf v b ∨ ∃ a1 a2, a = a1 ++ a2 ∧ a2 ≠ [] ∧ v = a2 ++ b := by
  obtain ⟨u, e⟩ := h
  rcases List.append_eq_append_iff.mp e with ⟨w, rfl, h2⟩ | ⟨w, rfl, h2⟩
  · exact .inl ⟨w, h2⟩
  · cases w with
    | nil => exact .inl ⟨[], by rw [h2]; rfl⟩
    | cons x w => exact .inr ⟨u, x :: w, rfl, by simp, h2⟩
/-- a sign that spelling does not make: where it stands in a spelled text's end -/
theorem suf_sign {c : Nat} (h1 : c ≠ 39) (h2 : c ≠ 34) : ∀ {e v : List Nat}, SufOf (c :: v) (spell e) → ∃ a b, e = a ++ c :: b ∧ v = spell b
  | [], v, ⟨a, h⟩ => by
    have : ([] : List Nat) = a ++ c :: v := h
    have := congrArg List.length this
    simp at this
  | d :: e, v, h => by
    rcases suf_append (a := spellC d) (b := spell e) h with h | ⟨a1, a2, ea, ne, ev⟩
    · obtain ⟨a, b, rfl, hb⟩ := suf_sign h1 h2 h
      exact ⟨d :: a, b, rfl, hb⟩
    · cases a2 with
      | nil => exact absurd rfl ne
      | cons x a2 =>
        obtain ⟨rfl, rfl⟩ := List.cons.inj ev
        have hx : c ∈ spellC d := by rw [ea]; simp
        by_cases hd : d = 39
        · subst hd
          rw [spellC_39] at hx
          simp at hx; omega
        · rw [spellC_ne hd] at hx ea
          have hc : c = d := by simpa using hx
          subst hc
          have h3 := congrArg List.length ea
          simp only [List.length_append, List.length_cons, List.length_nil] at h3
          have : a2 = [] := List.eq_nil_of_length_eq_zero (by omega)
          subst this
          exact ⟨[], e, rfl, rfl⟩
theorem spell_head {e v : List Nat} {c : Nat} (h : spell e = c :: v) : ∃ d r, e = d :: r ∧ c = d ∧ spellC d ++ spell r = c :: v := by
  cases e with
  | nil => cases h
  | cons d r =>
    refine ⟨d, r, rfl, ?_, h⟩
    rw [spell_cons] at h
    by_cases hd : d = 39
    · subst hd; rw [spellC_39] at h; cases h; rfl
    · rw [spellC_ne hd] at h; cases h; rfl
def NoQ (T : List (Option Nat)) : Prop := some 34 ∉ T
theorem spT_cons_none (T : List (Option Nat)) : spT (none :: T) = none :: spT T := rfl
theorem spT_cons_some (c : Nat) (T : List (Option Nat)) : spT (some c :: T) = lits (spellC c) ++ spT T := rfl
/-- the first sign of what marks without a run at their head take -/
theorem mt_head {T : List (Option Nat)} {v : List Nat} (hq : NoQ T) (h : Mt (spT T) v) : (∃ S, T = none :: S) ∨ ∀ r, v ≠ 34 :: r := by
  cases T with
  | nil => have h : v = [] := h; subst h; exact .inr fun _ e => by cases e
  | cons o S =>
    cases o with
    | none => exact .inl ⟨S, rfl⟩
    | some c =>
      refine .inr fun r e => ?_
      subst e
      rw [spT_cons_some, mt_pre] at h
      obtain ⟨z, e, _⟩ := h
      by_cases hc : c = 39
      · subst hc; rw [spellC_39] at e; cases e
      · rw [spellC_ne hc] at e
        have : (34 : Nat) = c := by cases e; rfl
        subst this
        exact hq (List.mem_cons_self ..)
theorem spell_back : ∀ (T : List (Option Nat)), NoQ T → (∀ e v, SufOf v (spell e) → Mt (spT T) v → Mt (none :: T) e) ∧ (∀ e, Mt (spT T) (spell e) → Mt T e)
  | [], _ => ⟨fun e v _ _ => mt_any e, fun e h => by
      cases e with
      | nil => rfl
      | cons d r =>
        have h : spellC d ++ spell r = [] := h
        by_cases hd : d = 39
        · subst hd; rw [spellC_39] at h; cases h
        · rw [spellC_ne hd] at h; cases h⟩
  | none :: T, hq => by
    obtain ⟨w, _⟩ := spell_back T (fun h => hq (List.mem_cons_of_mem _ h))
    refine ⟨fun e v ⟨a, hs⟩ h => ?_, fun e h => ?_⟩
    · rw [spT_cons_none] at h
      obtain ⟨u, v', rfl, h'⟩ := h
      exact mt_star_star.mpr (w e v' ⟨a ++ u, by rw [hs, List.append_assoc]⟩ h')
    · rw [spT_cons_none] at h
      obtain ⟨u, v', e', h'⟩ := h
      exact w e v' ⟨u, e'⟩ h'
  | some c :: T, hq => by
    have hq' : NoQ T := fun h => hq (List.mem_cons_of_mem _ h)
    obtain ⟨w, s⟩ := spell_back T hq'
    have hc2 : c ≠ 34 := fun e => hq (e ▸ List.mem_cons_self ..)
    have strong : ∀ e, Mt (spT (some c :: T)) (spell e) → Mt (some c :: T) e := fun e h => by
      rw [spT_cons_some, mt_pre] at h
      obtain ⟨z, ez, hz⟩ := h
      by_cases hc : c = 39
      · subst hc
        rw [spellC_39] at ez
        obtain ⟨d, r, rfl, hd, hr⟩ := spell_head ez
        subst hd
        rw [spellC_39] at hr
        have : spell r = z := by simpa using hr
        exact ⟨r, rfl, s r (by rw [this]; exact hz)⟩
      · rw [spellC_ne hc] at ez
        obtain ⟨d, r, rfl, hd, hr⟩ := spell_head ez
        subst hd
        rw [spellC_ne hc] at hr
        have : spell r = z := by simpa using hr
        exact ⟨r, rfl, s r (by rw [this]; exact hz)⟩
    refine ⟨fun e v hs h => ?_, strong⟩
    by_cases hc : c = 39
    · subst hc
      rw [spT_cons_some, mt_pre] at h
      obtain ⟨z, rfl, hz⟩ := h
      rw [spellC_39] at hs
      clear strong
      induction e with
      | nil =>
        obtain ⟨a, h⟩ := hs
        have := congrArg List.length h
        simp [spell] at this
      | cons d e ih =>
        rcases suf_append (a := spellC d) (b := spell e) hs with h | ⟨a1, a2, ea, ne, ev⟩
        · exact mt_star_of_suffix (a := [d]) (ih h)
        · by_cases hd : d = 39
          · subst hd
            rw [spellC_39] at ea
            have hh : ∀ r, z = 34 :: r → ∀ a, SufOf z (spell a) → Mt T a := fun r er a hsa => by
              rcases mt_head hq' hz with ⟨S, rfl⟩ | hn
              · exact mt_star_star.mp (w a z hsa hz)
              · exact absurd er (hn r)
            have hgo : Mt T e → Mt (none :: some 39 :: T) (39 :: e) := fun h => ⟨[], 39 :: e, rfl, e, rfl, h⟩
            match a1, ea with
            | [], ea =>
              have ea : a2 = [39, 34, 39, 34, 39] := ea.symm
              subst ea
              have : spell e = z := by simpa using ev.symm
              exact hgo (s e (by rw [this]; exact hz))
            | [_], ea =>
              have ea : a2 = [34, 39, 34, 39] := (List.cons.inj ea).2.symm
              subst ea; simp at ev
            | [_, _], ea =>
              have ea : a2 = [39, 34, 39] := (List.cons.inj (List.cons.inj ea).2).2.symm
              subst ea
              have ev : 34 :: 39 :: z = spell e := by simpa using ev
              obtain ⟨d, r, rfl, hd, hr⟩ := spell_head ev.symm
              subst hd
              have hr : spell r = 39 :: z := by simpa [spellC] using hr
              obtain ⟨d, r', rfl, hd, hr'⟩ := spell_head hr
              subst hd
              have hz34 : z = 34 :: 39 :: 34 :: 39 :: spell r' := by
                rw [spellC_39] at hr'
                simpa using hr'.symm
              exact hgo (hh _ hz34 _ ⟨[34, 39], ev.symm⟩)
            | [_, _, _], ea =>
              have ea : a2 = [34, 39] := (List.cons.inj (List.cons.inj (List.cons.inj ea).2).2).2.symm
              subst ea; simp at ev
            | [_, _, _, _], ea =>
              have ea : a2 = [39] := (List.cons.inj (List.cons.inj (List.cons.inj (List.cons.inj ea).2).2).2).2.symm
              subst ea
              have ev : 34 :: 39 :: 34 :: 39 :: z = spell e := by simpa using ev
              obtain ⟨d, r, rfl, hd, hr⟩ := spell_head ev.symm
              subst hd
              have hr : spell r = 39 :: 34 :: 39 :: z := by simpa [spellC] using hr
              obtain ⟨d, r', rfl, hd, hr'⟩ := spell_head hr
              subst hd
              have hz34 : z = 34 :: 39 :: spell r' := by
                rw [spellC_39] at hr'
                simpa using hr'.symm
              exact hgo (hh _ hz34 _ ⟨[34, 39, 34, 39], ev.symm⟩)
            | _ :: _ :: _ :: _ :: _ :: a1, ea =>
              have h3 := congrArg List.length ea
              simp only [List.length_append, List.length_cons, List.length_nil] at h3
              have : a2 = [] := List.eq_nil_of_length_eq_zero (by omega)
              exact absurd this ne
          · rw [spellC_ne hd] at ea
            cases a2 with
            | nil => exact absurd rfl ne
            | cons x a2 =>
              have h3 := congrArg List.length ea
              simp only [List.length_append, List.length_cons, List.length_nil] at h3
              have h4 : a1 = [] := List.eq_nil_of_length_eq_zero (by omega)
              subst h4
              have ex : d = x := (List.cons.inj ea).1
              have ex2 : 39 = x := (List.cons.inj ev).1
              omega
    · rw [spT_cons_some, mt_pre] at h
      obtain ⟨z, rfl, hz⟩ := h
      rw [spellC_ne hc] at hs
      obtain ⟨a, b, rfl, rfl⟩ := suf_sign hc hc2 hs
      exact ⟨a, c :: b, rfl, b, rfl, s b hz⟩
theorem spell_forth : ∀ (T : List (Option Nat)) (e : List Nat), Mt T e → Mt (spT T) (spell e)
  | [], e, h => by have h : e = [] := h; subst h; rfl
  | none :: T, e, ⟨u, v, h, k⟩ => by subst h; exact ⟨spell u, spell v, spell_append u v, spell_forth T v k⟩
  | some c :: T, e, ⟨r, h, k⟩ => by
    subst h
    rw [spT_cons_some, spell_cons]
    exact (mt_pre _ _ _).mpr ⟨_, rfl, spell_forth T r k⟩
/-- where the want has no quotation mark, spelling changes nothing -/
theorem mt_spell {T : List (Option Nat)} (hq : NoQ T) (e : List Nat) : Mt (spT T) (spell e) ↔ Mt T e := ⟨(spell_back T hq).2 e, spell_forth T e⟩
end MQ

namespace MQ
open Builtin Builtin.Str StrLaws
/-! ### where a part stands -/
def IsAt (B w : List Nat) (i : Nat) : Prop := ∃ u v, B = u ++ (w ++ v) ∧ u.length = i
theorem isAt_iff {B w : List Nat} {i : Nat} : IsAt B w i ↔ i + w.length ≤ B.length ∧ (B.drop i).take w.length = w := by
  constructor
  · rintro ⟨u, v, rfl, rfl⟩
    refine ⟨by simp only [List.length_append]; omega, ?_⟩
    rw [List.drop_left, List.take_left]
  · rintro ⟨h1, h2⟩
    refine ⟨B.take i, B.drop (i + w.length), ?_, by rw [List.length_take]; omega⟩
    have e : (B.drop i).drop w.length = B.drop (i + w.length) := by rw [List.drop_drop]
    rw [← e]
    conv => lhs; rw [← List.take_append_drop i B]
    congr 1
    conv => lhs; rw [← List.take_append_drop w.length (B.drop i), h2]
theorem at_iff {y w : Str} {hi i : Nat} (hhi : hi ≤ y.length) : At y w hi i ↔ IsAt (y.cps.toList.take hi) w.cps.toList i := by
  have hl : y.cps.toList.length = y.length := lst_length y
  have hw : w.cps.toList.length = w.length := lst_length w
  rw [isAt_iff, List.length_take, Nat.min_eq_left (by omega), hw]
  unfold At
  rw [subAt_eq, beq_iff_eq]
  constructor
  · rintro ⟨h1, h2⟩
    refine ⟨h1, ?_⟩
    rw [List.drop_take, List.take_take, Nat.min_eq_left (by omega)]
    exact h2
  · rintro ⟨h1, h2⟩
    refine ⟨h1, ?_⟩
    rw [List.drop_take, List.take_take, Nat.min_eq_left (by omega)] at h2
    exact h2
theorem occ_spec (x y : Str) (lo hi : Nat) : (occurrences x y lo hi 1 = [] ∧ ∀ i, lo ≤ i → ¬ At x y hi i) ∨
    ∃ i r, occurrences x y lo hi 1 = i :: r ∧ lo ≤ i ∧ At x y hi i ∧ ∀ k, lo ≤ k → k < i → ¬ At x y hi k := by
  rw [occ_eq]
  generalize hL : List.range' lo (hi + 1 - lo) = L
  have hm : ∀ i, i ∈ L ↔ lo ≤ i ∧ i < hi + 1 := fun i => by rw [← hL, List.mem_range'_1]; omega
  rcases occ_first x y hi 1 (Nat.le_refl _) L lo (fun i h => ((hm i).mp h).1) with ⟨h0, hn⟩ | ⟨pre, a, post, e, h0, ha, hn⟩
  · exact .inl ⟨by rw [h0], fun i hlo h => hn i ((hm i).mpr ⟨hlo, by have := h.1; omega⟩) h⟩
  · have hs := range'_split_from (hL.trans e)
    obtain ⟨r, hr⟩ : ∃ r, (forIn L ((#[] : Array Nat), lo) (occBody x y hi 1)).run.fst.toList = a :: r := by
      rw [← Array.getElem?_toList] at h0
      cases q : (forIn L ((#[] : Array Nat), lo) (occBody x y hi 1)).run.fst.toList with
      | nil => rw [q] at h0; cases h0
      | cons b t => rw [q] at h0; exact ⟨t, by rw [Option.some.inj h0]⟩
    exact .inr ⟨a, r, hr, hs.1, ha, fun k h1 h2 => hn k (hs.2 k h1 h2)⟩
theorem fromIndex_nat (n a : Nat) : fromIndex n (a : Int) = a := by
  unfold fromIndex
  rw [if_neg (by omega)]
  omega
theorem find4_spec (y w : Str) {a b : Nat} (hb : b ≤ y.length) :
    (find4 y w (a : Int) (b : Int) = -1 ∧ ∀ i, a ≤ i → ¬ IsAt (y.cps.toList.take b) w.cps.toList i) ∨
    ∃ k : Nat, find4 y w (a : Int) (b : Int) = (k : Int) ∧ a ≤ k ∧ IsAt (y.cps.toList.take b) w.cps.toList k ∧ ∀ i, a ≤ i → i < k → ¬ IsAt (y.cps.toList.take b) w.cps.toList i := by
  unfold find4
  rw [fromIndex_nat, fromIndex_nat, Nat.min_eq_left hb]
  rcases occ_spec y w a b with ⟨h0, hn⟩ | ⟨k, r, h0, hlo, hk, hn⟩
  · rw [h0]
    exact .inl ⟨rfl, fun i hi h => hn i hi ((at_iff hb).mpr h)⟩
  · rw [h0]
    exact .inr ⟨k, rfl, hlo, (at_iff hb).mp hk, fun i h1 h2 h => hn i h1 h2 ((at_iff hb).mpr h)⟩
/-- the marks of the middle parts -/
def tailM (ws : List Str) : List (Option Nat) := ws.flatMap fun w => lits w.cps.toList ++ [none]
def midM (ws : List Str) : List (Option Nat) := none :: tailM ws
theorem tailM_cons (w : Str) (r : List Str) : tailM (w :: r) = lits w.cps.toList ++ midM r := by
  show (lits w.cps.toList ++ [none]) ++ tailM r = _
  rw [List.append_assoc]; rfl
theorem mt_star_at {w : List Nat} {T : List (Option Nat)} {B : List Nat} {a : Nat} (ha : a ≤ B.length) :
    Mt (none :: (lits w ++ T)) (B.drop a) ↔ ∃ u v, B = u ++ (w ++ v) ∧ a ≤ u.length ∧ Mt T v := by
  constructor
  · rintro ⟨p, q, e, h⟩
    obtain ⟨z, rfl, hz⟩ := (mt_pre _ _ _).mp h
    refine ⟨B.take a ++ p, z, ?_, by rw [List.length_append, List.length_take]; omega, hz⟩
    conv => lhs; rw [← List.take_append_drop a B, e]
    rw [List.append_assoc]
  · rintro ⟨u, v, rfl, hu, h⟩
    refine ⟨u.drop a, w ++ v, ?_, (mt_pre _ _ _).mpr ⟨v, rfl, h⟩⟩
    rw [List.drop_append_of_le_length hu]
/-- the loop takes just what the marks take -/
theorem findLoop_mt (y : Str) {b : Nat} (hb : b ≤ y.length) : ∀ (ws : List Str) (a : Nat), a ≤ b → (findLoop y ws (a : Int) (b : Int) = true ↔ Mt (midM ws) ((y.cps.toList.take b).drop a))
  | [], a, ha => ⟨fun _ => mt_any _, fun _ => rfl⟩
  | w :: r, a, ha => by
    have hl : y.cps.toList.length = y.length := lst_length y
    have hw : w.cps.toList.length = w.length := lst_length w
    have hB : (y.cps.toList.take b).length = b := by rw [List.length_take]; omega
    show (if find4 y w a b < 0 then false else findLoop y r (find4 y w a b + w.length) b) = true ↔ Mt (none :: tailM (w :: r)) _
    rw [tailM_cons, mt_star_at (by omega)]
    rcases find4_spec y w (a := a) hb with ⟨h0, hn⟩ | ⟨k, h0, hlo, hk, hn⟩
    · rw [h0, if_pos (by omega)]
      constructor
      · intro h; cases h
      · rintro ⟨u, v, e, hu, _⟩
        exact absurd ⟨u, v, e, rfl⟩ (hn _ hu)
    · rw [h0, if_neg (by omega)]
      have hkw := (isAt_iff.mp hk).1
      rw [hB, hw] at hkw
      have e2 : ((k : Int) + (w.length : Nat)) = ((k + w.length : Nat) : Int) := by omega
      rw [e2, findLoop_mt y hb r _ hkw]
      obtain ⟨u, v, e, huk⟩ := hk
      constructor
      · intro h
        refine ⟨u, v, e, by omega, ?_⟩
        have : (y.cps.toList.take b).drop (k + w.length) = v := by
          rw [e, ← List.append_assoc, ← huk, ← hw, ← List.length_append, List.drop_left]
        rw [this] at h
        exact h
      · rintro ⟨u', v', e', hu', h⟩
        have hk2 : k ≤ u'.length := Nat.le_of_not_lt fun hc => hn _ hu' hc ⟨u', v', e', rfl⟩
        have : (y.cps.toList.take b).drop (k + w.length) = (u' ++ w.cps.toList).drop (k + w.length) ++ v' := by
          rw [e', ← List.append_assoc, List.drop_append_of_le_length (by rw [List.length_append]; omega)]
        rw [this]
        exact mt_star_of_suffix h
theorem ellTail_mt (y : Str) {a b : Nat} (hb : b ≤ y.length) (ws : List Str) : ellTail y ws (a : Int) (b : Int) = true ↔ a ≤ b ∧ Mt (midM ws) ((y.cps.toList.take b).drop a) := by
  unfold ellTail
  by_cases h : a ≤ b
  · rw [if_neg (by omega), findLoop_mt y hb ws a h]
    exact ⟨fun k => ⟨h, k⟩, fun k => k.2⟩
  · rw [if_pos (by omega)]
    constructor
    · intro k; cases k
    · intro k; exact absurd k.1 h
theorem startswith_iff (y w : Str) : Txt.startswith y w = true ↔ ∃ z, y.cps.toList = w.cps.toList ++ z := by
  unfold Txt.startswith
  rw [Bool.and_eq_true, decide_eq_true_eq, subAt_eq, beq_iff_eq, List.drop_zero]
  have hl : y.cps.toList.length = y.length := lst_length y
  have hw : w.cps.toList.length = w.length := lst_length w
  constructor
  · rintro ⟨h1, h2⟩
    exact ⟨y.cps.toList.drop w.length, by conv => lhs; rw [← List.take_append_drop w.length y.cps.toList, h2]⟩
  · rintro ⟨z, e⟩
    refine ⟨by rw [← hl, ← hw, e, List.length_append]; omega, ?_⟩
    rw [e, ← hw, List.take_left]
theorem endswith_iff (y w : Str) : Txt.endswith y w = true ↔ ∃ z, y.cps.toList = z ++ w.cps.toList := by
  unfold Txt.endswith
  rw [Bool.and_eq_true, decide_eq_true_eq, subAt_eq, beq_iff_eq]
  have hl : y.cps.toList.length = y.length := lst_length y
  have hw : w.cps.toList.length = w.length := lst_length w
  constructor
  · rintro ⟨h1, h2⟩
    refine ⟨y.cps.toList.take (y.length - w.length), ?_⟩
    rw [List.take_of_length_le (by rw [List.length_drop]; omega)] at h2
    conv => lhs; rw [← List.take_append_drop (y.length - w.length) y.cps.toList, h2]
  · rintro ⟨z, e⟩
    have hz : y.length - w.length = z.length := by rw [← hl, ← hw, e, List.length_append]; omega
    refine ⟨by rw [← hl, ← hw, e, List.length_append]; omega, ?_⟩
    rw [hz, e, List.drop_left, ← hw, List.take_length]
theorem midM_empty_cons {p : Str} (h : p.length = 0) (r : List Str) (z : List Nat) : Mt (midM (p :: r)) z ↔ Mt (midM r) z := by
  have e : p.cps.toList = [] := List.eq_nil_of_length_eq_zero ((lst_length p).trans h)
  show Mt (none :: tailM (p :: r)) z ↔ _
  rw [tailM_cons, e]
  exact mt_star_star
theorem tailM_append (a b : List Str) : tailM (a ++ b) = tailM a ++ tailM b := by unfold tailM; rw [List.flatMap_append]
theorem midM_snoc_empty {p : Str} (h : p.length = 0) (r : List Str) (z : List Nat) : Mt (midM (r ++ [p])) z ↔ Mt (midM r) z := by
  have e : p.cps.toList = [] := List.eq_nil_of_length_eq_zero ((lst_length p).trans h)
  have e2 : midM (r ++ [p]) = midM r ++ [none] := by
    show none :: tailM (r ++ [p]) = none :: tailM r ++ [none]
    rw [tailM_append]
    show none :: (tailM r ++ ((lits p.cps.toList ++ [none]) ++ [])) = _
    rw [e]; rfl
  rw [e2]
  have hend : ∃ S, midM r = S ++ [none] := by
    cases hr : r.reverse with
    | nil =>
      have : r = [] := by simpa using hr
      subst this; exact ⟨[], rfl⟩
    | cons q qs =>
      have : r = qs.reverse ++ [q] := by
        have := congrArg List.reverse hr
        simpa using this
      subst this
      refine ⟨none :: (tailM qs.reverse ++ lits q.cps.toList), ?_⟩
      show none :: tailM (qs.reverse ++ [q]) = _
      rw [tailM_append]
      show none :: (tailM qs.reverse ++ ((lits q.cps.toList ++ [none]) ++ [])) = _
      simp
  obtain ⟨S, hS⟩ := hend
  rw [hS, List.append_assoc, mt_append, mt_append]
  constructor
  · rintro ⟨u, v, e, h1, _⟩; exact ⟨u, v, e, h1, mt_any v⟩
  · rintro ⟨u, v, e, h1, _⟩; exact ⟨u, v, e, h1, ⟨[], v, rfl, mt_any v⟩⟩
theorem ellEnd_mt (y : Str) (wi : List Str) (pl : Str) (a : Nat) :
    ellEnd y (wi ++ [pl]) (a : Int) = true ↔ ∃ z, y.cps.toList = z ++ pl.cps.toList ∧ a ≤ z.length ∧ Mt (midM wi) (z.drop a) := by
  have hl : y.cps.toList.length = y.length := lst_length y
  have hw : pl.cps.toList.length = pl.length := lst_length pl
  rw [ellEnd_snoc]
  by_cases h0 : pl.length = 0
  · rw [if_pos h0]
    have e : pl.cps.toList = [] := List.eq_nil_of_length_eq_zero (by rw [hw]; exact h0)
    rw [ellTail_mt y (Nat.le_refl _), midM_snoc_empty h0, ← hl, List.take_length, e]
    constructor
    · rintro ⟨h1, h2⟩; exact ⟨_, (List.append_nil _).symm, h1, h2⟩
    · rintro ⟨z, ez, h1, h2⟩
      rw [List.append_nil] at ez
      rw [ez]; exact ⟨h1, h2⟩
  · rw [if_neg h0]
    by_cases he : Txt.endswith y pl = true
    · rw [if_pos he]
      obtain ⟨z, ez⟩ := (endswith_iff y pl).mp he
      have hzl : z.length + pl.length = y.length := by rw [← hl, ez, List.length_append]; omega
      have e2 : ((y.length : Int) - pl.length) = ((z.length : Nat) : Int) := by omega
      rw [e2, ellTail_mt y (by omega), ez, List.take_left]
      constructor
      · rintro ⟨h1, h2⟩; exact ⟨z, rfl, h1, h2⟩
      · rintro ⟨z', e', h1, h2⟩
        have : z = z' := List.append_cancel_right e'
        subst this; exact ⟨h1, h2⟩
    · rw [if_neg he]
      constructor
      · intro h; cases h
      · rintro ⟨z, ez, _⟩
        exact absurd ((endswith_iff y pl).mpr ⟨z, ez⟩) he
/-- the parts with a run between them -/
def glueM : List Str → List (Option Nat)
  | [] => []
  | [p] => lits p.cps.toList
  | p :: q :: r => lits p.cps.toList ++ none :: glueM (q :: r)
theorem glueM_snoc (pl : Str) : ∀ wi : List Str, none :: glueM (wi ++ [pl]) = midM wi ++ lits pl.cps.toList
  | [] => rfl
  | w :: r => by
    have h := glueM_snoc pl r
    show none :: glueM (w :: (r ++ [pl])) = none :: (tailM (w :: r) ++ lits pl.cps.toList)
    rw [tailM_cons]
    cases hr : r ++ [pl] with
    | nil => simp at hr
    | cons q qs =>
      show none :: (lits w.cps.toList ++ none :: glueM (q :: qs)) = _
      rw [← hr, h, List.append_assoc]
/-- _ellipsis_match with the want's parts at hand -/
theorem ell_parts (y : Str) (p0 : Str) (wi : List Str) (pl : Str) :
    Mt (glueM (p0 :: (wi ++ [pl]))) y.cps.toList ↔ ∃ z, y.cps.toList = (p0.cps.toList ++ z) ++ pl.cps.toList ∧ Mt (midM wi) z := by
  have e : glueM (p0 :: (wi ++ [pl])) = lits p0.cps.toList ++ (midM wi ++ lits pl.cps.toList) := by
    rw [← glueM_snoc]
    cases hr : wi ++ [pl] with
    | nil => simp at hr
    | cons q qs => rfl
  rw [e, mt_pre]
  constructor
  · rintro ⟨z, ez, h⟩
    obtain ⟨z', rfl, h'⟩ := (mt_suf _ _ _).mp h
    exact ⟨z', by rw [ez, List.append_assoc], h'⟩
  · rintro ⟨z, ez, h⟩
    exact ⟨z ++ pl.cps.toList, by rw [ez, List.append_assoc], (mt_suf _ _ _).mpr ⟨z, rfl, h⟩⟩
end MQ

namespace MQ
open Builtin Builtin.Str StrLaws
/-! ### the parts that split makes -/
def Gr (x y : Str) : Nat → List Nat → Nat → Prop
  | a, [], i => ∀ k, a ≤ k → k < i → ¬ At x y x.length k
  | a, c :: r, i => a ≤ c ∧ At x y x.length c ∧ (∀ k, a ≤ k → k < c → ¬ At x y x.length k) ∧ Gr x y (c + y.length) r i
def grEnd (w : Nat) : Nat → List Nat → Nat
  | a, [] => a
  | _, c :: r => grEnd w (c + w) r
theorem gr_snoc {x y : Str} (hy : 1 ≤ y.length) {i : Nat} (hi : At x y x.length i) : ∀ {cuts : List Nat} {a : Nat}, Gr x y a cuts i → grEnd y.length a cuts ≤ i → Gr x y a (cuts ++ [i]) (i + 1)
  | [], a, h, he => ⟨he, hi, h, fun k h1 h2 => by omega⟩
  | c :: r, a, h, he => ⟨h.1, h.2.1, h.2.2.1, gr_snoc hy hi h.2.2.2 he⟩
theorem gr_skip {x y : Str} {i : Nat} : ∀ {cuts : List Nat} {a : Nat}, Gr x y a cuts i → ¬ (grEnd y.length a cuts ≤ i ∧ At x y x.length i) → Gr x y a cuts (i + 1)
  | [], a, h, he => fun k h1 h2 h3 => by
    by_cases hk : k < i
    · exact h k h1 hk h3
    · have : k = i := by omega
      subst this; exact he ⟨h1, h3⟩
  | c :: r, a, h, he => ⟨h.1, h.2.1, h.2.2.1, gr_skip h.2.2.2 he⟩
theorem grEnd_snoc (w i : Nat) : ∀ (cuts : List Nat) (a : Nat), grEnd w a (cuts ++ [i]) = i + w
  | [], _ => rfl
  | _ :: r, _ => grEnd_snoc w i r _
theorem gr_loop (x y : Str) (hy : 1 ≤ y.length) (limit : Nat) : ∀ (n i : Nat) (st : Array Nat × Nat), Gr x y 0 st.fst.toList i → st.snd = grEnd y.length 0 st.fst.toList → st.fst.size ≤ i → i + n ≤ limit →
    Gr x y 0 (forIn (List.range' i n) st (occBody x y x.length limit)).run.fst.toList (i + n)
  | 0, i, st, h, _, _, _ => h
  | n + 1, i, st, h, he, hs, hl => by
    rw [List.range'_succ, List.forIn_cons]
    unfold occBody
    have e : i + (n + 1) = (i + 1) + n := by omega
    rw [e]
    split
    · rename_i hc
      refine gr_loop x y hy limit n (i + 1) _ ?_ ?_ ?_ (by omega)
      · show Gr x y 0 (st.fst.push i).toList (i + 1)
        rw [Array.toList_push]
        exact gr_snoc hy ⟨hc.1.2, hc.2⟩ h (by rw [← he]; exact hc.1.1.2)
      · show i + y.length = grEnd y.length 0 (st.fst.push i).toList
        rw [Array.toList_push, grEnd_snoc]
      · show (st.fst.push i).size ≤ i + 1
        rw [Array.size_push]; omega
    · rename_i hc
      refine gr_loop x y hy limit n (i + 1) _ ?_ he (by show st.fst.size ≤ i + 1; omega) (by omega)
      refine gr_skip h fun ⟨h1, h2⟩ => hc ⟨⟨⟨by omega, by rw [he]; exact h1⟩, h2.1⟩, h2.2⟩
theorem occ_gr (x y : Str) (hy : 1 ≤ y.length) : Gr x y 0 (occurrences x y 0 x.length (x.length + 1)) (x.length + 1) := by
  rw [occ_eq]
  have := gr_loop x y hy (x.length + 1) (x.length + 1) 0 (#[], 0) (fun k _ h => absurd h (by omega)) rfl (Nat.zero_le _) (by omega)
  simpa using this
theorem mark_list : ellMark.cps.toList = [46, 46, 46] := by decide +kernel
theorem mark_len : ellMark.length = 3 := by decide +kernel
theorem at_dots {x : Str} {k : Nat} : At x ellMark x.length k ↔ ∃ t, x.cps.toList.drop k = 46 :: 46 :: 46 :: t := by
  have hl : x.cps.toList.length = x.length := lst_length x
  rw [at_iff (Nat.le_refl _), ← hl, List.take_length, isAt_iff, mark_list]
  constructor
  · rintro ⟨_, h⟩
    refine ⟨(x.cps.toList.drop k).drop 3, ?_⟩
    have h : (x.cps.toList.drop k).take 3 = [46, 46, 46] := h
    conv => lhs; rw [← List.take_append_drop 3 (x.cps.toList.drop k), h]
    rfl
  · rintro ⟨t, e⟩
    have h1 := congrArg List.length e
    simp only [List.length_drop, List.length_cons] at h1
    refine ⟨by simp only [List.length_cons, List.length_nil]; omega, ?_⟩
    rw [e]; rfl
theorem lt_cons {c : Nat} {r : List Nat} (h : ∀ t, c :: r ≠ 46 :: 46 :: 46 :: t) : lt (c :: r) = some c :: lt r := by
  rw [lt]
  intro t e1 e2
  exact h t (by rw [e1, e2])
theorem lt_first : ∀ (u v : List Nat), (∀ k, k < u.length → ∀ t, (u ++ 46 :: 46 :: 46 :: v).drop k ≠ 46 :: 46 :: 46 :: t) → lt (u ++ 46 :: 46 :: 46 :: v) = lits u ++ none :: lt v
  | [], v, _ => rfl
  | c :: u, v, h => by
    show lt (c :: (u ++ 46 :: 46 :: 46 :: v)) = some c :: (lits u ++ none :: lt v)
    have h0 : ∀ t, c :: (u ++ 46 :: 46 :: 46 :: v) ≠ 46 :: 46 :: 46 :: t := h 0 (by simp)
    rw [lt_cons h0, lt_first u v fun k hk => h (k + 1) (by simp only [List.length_cons]; omega)]
theorem lt_free : ∀ (u : List Nat), (∀ k t, u.drop k ≠ 46 :: 46 :: 46 :: t) → lt u = lits u
  | [], _ => rfl
  | c :: u, h => by
    show lt (c :: u) = some c :: lits u
    rw [lt_cons (h 0), lt_free u fun k => h (k + 1)]
theorem glue_parts (x : Str) : ∀ (cuts : List Nat) (a : Nat), Gr x ellMark a cuts (x.length + 1) → a ≤ x.length → glueM (partsFrom x ellMark.length a cuts) = lt (x.cps.toList.drop a)
  | [], a, h, ha => by
    have hl : x.cps.toList.length = x.length := lst_length x
    show lits (strSub x a x.length).cps.toList = _
    rw [strSub_toList, List.take_of_length_le (by rw [List.length_drop]; omega)]
    refine (lt_free _ fun k t e => ?_).symm
    rw [List.drop_drop] at e
    have h1 := congrArg List.length e
    simp only [List.length_drop, List.length_cons] at h1
    exact h (a + k) (by omega) (by omega) (at_dots.mpr ⟨t, e⟩)
  | c :: r, a, h, ha => by
    have hl : x.cps.toList.length = x.length := lst_length x
    obtain ⟨h1, h2, h3, h4⟩ := h
    obtain ⟨t, et⟩ := at_dots.mp h2
    have hc := h2.1
    have e1 : glueM (partsFrom x ellMark.length a (c :: r)) = lits (strSub x a c).cps.toList ++ none :: glueM (partsFrom x ellMark.length (c + ellMark.length) r) := by
      obtain ⟨p, q, e⟩ := partsFrom_ne x ellMark.length (c + ellMark.length) r
      show glueM (strSub x a c :: partsFrom x ellMark.length (c + ellMark.length) r) = _
      rw [e]; rfl
    rw [e1, glue_parts x r _ h4 hc, strSub_toList]
    have e2 : x.cps.toList.drop a = (x.cps.toList.drop a).take (c - a) ++ x.cps.toList.drop c := by
      conv => lhs; rw [← List.take_append_drop (c - a) (x.cps.toList.drop a)]
      rw [List.drop_drop]
      congr 2; omega
    have e3 : x.cps.toList.drop (c + ellMark.length) = t := by
      rw [← List.drop_drop, et, mark_len]; rfl
    rw [e3]
    conv => rhs; rw [e2, et]
    refine (lt_first _ t fun k hk t' e => ?_).symm
    rw [List.length_take, List.length_drop] at hk
    rw [← et, ← e2, List.drop_drop] at e
    exact h3 (a + k) (by omega) (by omega) (at_dots.mpr ⟨t', e⟩)
theorem split_glue {x : Str} (h : (occurrences x ellMark 0 x.length 1).isEmpty = false) : glueM (Txt.split x ellMark) = lt x.cps.toList := by
  have h1 := (found_iff x ellMark).mp (by rw [h]; rfl)
  obtain ⟨i, hi, hs⟩ := h1
  have hm := mark_len
  have hg := occ_gr x ellMark (by omega)
  unfold Txt.split
  rw [if_neg]
  · split
    · rename_i he
      have : occurrences x ellMark 0 x.length (x.length + 1) = [] := List.isEmpty_iff.mp he
      rw [this] at hg
      exact absurd ⟨hi, hs⟩ (hg i (Nat.zero_le _) (by omega))
    · rw [partsBetween_eq, glue_parts x _ 0 hg (Nat.zero_le _)]; rfl
  · simp only [Bool.or_eq_true, decide_eq_true_eq, not_or]
    exact ⟨by omega, kind_mark x⟩
/-- _ellipsis_match takes just what the want's marks take -/
theorem ell_mt (x y : Str) : ellS x y = true ↔ Mt (lt x.cps.toList) y.cps.toList := by
  unfold ellS
  cases h : (occurrences x ellMark 0 x.length 1).isEmpty with
  | true =>
    rw [if_pos rfl, beq_iff_eq]
    have hno : ∀ i, ¬ At x ellMark x.length i := fun i hi => by
      have := (found_iff x ellMark).mpr ⟨i, hi.1, hi.2⟩
      rw [h] at this; cases this
    rw [lt_free _ fun k t e => hno k (at_dots.mpr ⟨t, e⟩), mt_lits]
    constructor
    · rintro rfl; rfl
    · intro e; exact (str_eq_of_lists e).symm
  | false =>
    rw [if_neg (by simp), ← split_glue h]
    have h2 := split_two h
    cases hs : Txt.split x ellMark with
    | nil => rw [hs] at h2; simp at h2
    | cons p0 pr =>
      rw [hs] at h2
      have hne : pr ≠ [] := by rintro rfl; simp at h2
      obtain ⟨wi, pl, rfl⟩ : ∃ wi pl, pr = wi ++ [pl] := ⟨_, _, (List.dropLast_concat_getLast hne).symm⟩
      rw [ell_parts]
      show (if p0.length = 0 then ellEnd y (p0 :: (wi ++ [pl])) 0 else if Txt.startswith y p0 = true then ellEnd y (wi ++ [pl]) p0.length else false) = true ↔ _
      by_cases h0 : p0.length = 0
      · rw [if_pos h0]
        have e0 : p0.cps.toList = [] := List.eq_nil_of_length_eq_zero ((lst_length p0).trans h0)
        have := ellEnd_mt y (p0 :: wi) pl 0
        rw [List.cons_append] at this
        rw [show ((0 : Nat) : Int) = 0 from rfl] at this
        rw [this, e0]
        constructor
        · rintro ⟨z, ez, _, hz⟩; exact ⟨z, ez, (midM_empty_cons h0 _ _).mp hz⟩
        · rintro ⟨z, ez, hz⟩; exact ⟨z, ez, Nat.zero_le _, (midM_empty_cons h0 _ _).mpr hz⟩
      · rw [if_neg h0]
        have hp : p0.cps.toList.length = p0.length := lst_length p0
        by_cases hst : Txt.startswith y p0 = true
        · rw [if_pos hst, ellEnd_mt]
          obtain ⟨z0, ez0⟩ := (startswith_iff y p0).mp hst
          constructor
          · rintro ⟨z, ez, hle, hz⟩
            refine ⟨z.drop p0.length, ?_, hz⟩
            have e1 : z.take p0.length = p0.cps.toList := by
              have h1 : (z ++ pl.cps.toList).take p0.length = z.take p0.length := List.take_append_of_le_length hle
              rw [← h1, ← ez, ez0, ← hp, List.take_left]
            rw [← e1, List.take_append_drop]; exact ez
          · rintro ⟨z, ez, hz⟩
            refine ⟨p0.cps.toList ++ z, ez, by rw [List.length_append]; omega, ?_⟩
            rw [← hp, List.drop_left]; exact hz
        · rw [if_neg hst]
          constructor
          · intro k; cases k
          · rintro ⟨z, ez, _⟩
            exact absurd ((startswith_iff y p0).mpr ⟨z ++ pl.cps.toList, by rw [ez, List.append_assoc]⟩) hst
end MQ

namespace MQ
open Builtin Builtin.Str StrLaws
/-! ### marks and apostrophes -/
theorem mem_lt {c : Nat} : ∀ {w : List Nat}, some c ∈ lt w → c ∈ w := by
  intro w
  induction w using lt.induct with
  | case1 r ih =>
    intro h
    rw [lt] at h
    rcases List.mem_cons.mp h with h | h
    · cases h
    · exact List.mem_cons_of_mem _ (List.mem_cons_of_mem _ (List.mem_cons_of_mem _ (ih h)))
  | case2 d r hn ih =>
    intro h
    rw [lt_cons (fun t e => by cases e; exact hn t rfl rfl)] at h
    rcases List.mem_cons.mp h with h | h
    · cases h; exact List.mem_cons_self ..
    · exact List.mem_cons_of_mem _ (ih h)
  | case3 => intro h; cases h
theorem spT_free : ∀ {T : List (Option Nat)}, some 39 ∉ T → spT T = T
  | [], _ => rfl
  | none :: T, h => by
    show none :: spT T = _
    rw [spT_free fun k => h (List.mem_cons_of_mem _ k)]
  | some c :: T, h => by
    have hc : c ≠ 39 := fun e => h (e ▸ List.mem_cons_self ..)
    rw [spT_cons_some, spellC_ne hc, spT_free fun k => h (List.mem_cons_of_mem _ k)]
    rfl
theorem mt_reverse' : ∀ {T : List (Option Nat)} {y : List Nat}, Mt T y → Mt T.reverse y.reverse
  | [], y, h => by have h : y = [] := h; subst h; rfl
  | some c :: T, y, ⟨r, e, h⟩ => by
    subst e
    rw [List.reverse_cons, List.reverse_cons]
    exact (mt_suf [c] _ _).mpr ⟨_, rfl, mt_reverse' h⟩
  | none :: T, y, ⟨u, v, e, h⟩ => by
    subst e
    rw [List.reverse_cons, List.reverse_append]
    exact (mt_append _ _ _).mpr ⟨_, _, rfl, mt_reverse' h, mt_any _⟩
theorem mt_reverse {T : List (Option Nat)} {y : List Nat} : Mt T.reverse y.reverse ↔ Mt T y :=
  ⟨fun h => by have := mt_reverse' h; rwa [List.reverse_reverse, List.reverse_reverse] at this, mt_reverse'⟩
theorem mt_cons39 : ∀ {S : List (Option Nat)} {y : List Nat}, some 39 ∉ S → (Mt (none :: S) (39 :: y) ↔ Mt (none :: S) y)
  | S, y, hS => by
    constructor
    · rintro ⟨u, v, e, h⟩
      cases u with
      | cons a u =>
        have : y = u ++ v := (List.cons.inj e).2
        exact ⟨u, v, this, h⟩
      | nil =>
        have e : v = 39 :: y := e.symm
        subst e
        cases S with
        | nil => exact mt_any y
        | cons o S =>
          cases o with
          | none => exact mt_star_star.mpr ((mt_cons39 fun k => hS (List.mem_cons_of_mem _ k)).mp h)
          | some c =>
            obtain ⟨r, e, _⟩ := h
            have : 39 = c := (List.cons.inj e).1
            subst this
            exact absurd (List.mem_cons_self ..) hS
    · intro h; exact mt_star_of_suffix (a := [39]) h
/-- bare marks against a text in apostrophes -/
theorem mt_quoted {T : List (Option Nat)} (h39 : some 39 ∉ T) (z : List Nat) :
    Mt T (39 :: (z ++ [39])) ↔ (∃ S, T = none :: S) ∧ (∃ S, T = S ++ [none]) ∧ Mt T z := by
  constructor
  · intro h
    have h1 : ∃ S, T = none :: S := by
      cases T with
      | nil => cases h
      | cons o S =>
        cases o with
        | none => exact ⟨S, rfl⟩
        | some c =>
          obtain ⟨r, e, _⟩ := h
          have : 39 = c := (List.cons.inj e).1
          subst this
          exact absurd (List.mem_cons_self ..) h39
    have h2 : ∃ S, T = S ++ [none] := by
      have hr := mt_reverse' h
      have e0 : (39 :: (z ++ [39])).reverse = 39 :: (z.reverse ++ [39]) := by simp
      rw [e0] at hr
      cases hT : T.reverse with
      | nil => rw [hT] at hr; cases hr
      | cons o S =>
        have eT : T = S.reverse ++ [o] := by
          have := congrArg List.reverse hT
          simpa using this
        cases o with
        | none => exact ⟨S.reverse, eT⟩
        | some c =>
          rw [hT] at hr
          obtain ⟨r, e, _⟩ := hr
          have : 39 = c := (List.cons.inj e).1
          subst this
          exact absurd (by rw [eT]; simp) h39
    refine ⟨h1, h2, ?_⟩
    obtain ⟨S, rfl⟩ := h1
    obtain ⟨S', e'⟩ := h2
    have ha := (mt_cons39 fun k => h39 (List.mem_cons_of_mem _ k)).mp h
    rw [e'] at ha ⊢
    have hb := mt_reverse' ha
    have e2 : (S' ++ [none]).reverse = none :: S'.reverse := by simp
    have e3 : (z ++ [39]).reverse = 39 :: z.reverse := by simp
    rw [e2, e3] at hb
    have hS' : some 39 ∉ S'.reverse := fun k => h39 (by rw [e']; simp at k ⊢; exact k)
    have hc := (mt_cons39 hS').mp hb
    rw [← e2] at hc
    exact mt_reverse.mp hc
  · rintro ⟨⟨S, rfl⟩, ⟨S', e'⟩, h⟩
    refine (mt_cons39 fun k => h39 (List.mem_cons_of_mem _ k)).mpr ?_
    rw [e'] at h ⊢
    obtain ⟨u, v, rfl, h1, _⟩ := (mt_append _ _ _).mp h
    rw [List.append_assoc]
    exact (mt_append _ _ _).mpr ⟨u, v ++ [39], rfl, h1, mt_any _⟩
/-- the marks of what quote writes -/
theorem lt_spell : ∀ (w : List Nat), lt (spell w ++ [39]) = spT (lt w) ++ [some 39] := by
  intro w
  induction w using lt.induct with
  | case1 r ih =>
    show lt (46 :: 46 :: 46 :: (spell r ++ [39])) = _
    rw [lt, lt, ih]; rfl
  | case2 c r hn ih =>
    have hne : ∀ t, c :: r ≠ 46 :: 46 :: 46 :: t := fun t e => by cases e; exact hn t rfl rfl
    rw [lt_cons hne, spT_cons_some, spell_cons, List.append_assoc, List.append_assoc, ← ih]
    by_cases hc : c = 39
    · subst hc
      rw [spellC_39]
      show lt (39 :: 34 :: 39 :: 34 :: 39 :: (spell r ++ [39])) = _
      rw [lt_other (by decide), lt_other (by decide), lt_other (by decide), lt_other (by decide), lt_other (by decide)]
      rfl
    · rw [spellC_ne hc]
      show lt (c :: (spell r ++ [39])) = some c :: lt (spell r ++ [39])
      refine lt_cons fun t e => ?_
      obtain ⟨hc46, e1⟩ := List.cons.inj e
      clear e
      subst hc46
      match r, hne, e1 with
      | [], _, e => cases e
      | a :: r', hne, e =>
        have ha : a = 46 := by
          by_cases h : a = 39
          · subst h; rw [spell_cons, spellC_39] at e; cases e
          · rw [spell_cons, spellC_ne h] at e; exact (List.cons.inj e).1
        subst ha
        rw [spell_cons, spellC_ne (by decide)] at e
        have e : spell r' ++ [39] = 46 :: t := (List.cons.inj e).2
        match r', hne, e with
        | [], _, e => cases e
        | b :: r'', hne, e =>
          have hb : b = 46 := by
            by_cases h : b = 39
            · subst h; rw [spell_cons, spellC_39] at e; cases e
            · rw [spell_cons, spellC_ne h] at e; exact (List.cons.inj e).1
          subst hb
          exact hne r'' rfl
  | case3 => rfl
theorem lt_quoted (w : List Nat) : lt (39 :: (spell w ++ [39])) = some 39 :: (spT (lt w) ++ [some 39]) := by
  rw [lt_other (by decide), lt_spell]
/-! ### loose wants -/
def td (w : List Nat) : Nat := (w.reverse.takeWhile (· == 46)).length
theorem td_snoc (w : List Nat) (c : Nat) : td (w ++ [c]) = if c = 46 then td w + 1 else 0 := by
  unfold td
  rw [List.reverse_append]
  show (List.takeWhile _ (c :: w.reverse)).length = _
  by_cases h : c = 46
  · subst h; simp
  · rw [if_neg h, List.takeWhile_cons_of_neg (by simpa using h)]; rfl
def EndOf (w : List Nat) : Prop :=
  (ltF w).2 = td w % 3 ∧ (0 < td w → (ltF w).2 = 0 → ∃ S, (ltF w).1 = S ++ [none]) ∧ (td w = 0 → (ltF w).1 = [] ∨ ∃ S c, (ltF w).1 = S ++ [some c])
theorem endOf (w : List Nat) : EndOf w := by
  revert w
  refine snoc_ind ⟨rfl, fun h => absurd h (by decide), fun _ => .inl rfl⟩ ?_
  rintro w c ⟨h1, h2, h3⟩
  unfold EndOf
  rw [ltF_snoc, td_snoc]
  generalize ltF w = F at h1 h2 h3
  obtain ⟨T, p⟩ := F
  dsimp only at h1 h2 h3
  unfold ltS
  by_cases hc : c = 46
  · rw [if_pos hc, if_pos hc]
    by_cases hp : p = 2
    · rw [if_pos hp]
      dsimp only
      exact ⟨by omega, fun _ _ => ⟨T, rfl⟩, fun h => by omega⟩
    · rw [if_neg hp]
      dsimp only
      exact ⟨by omega, fun _ h => by omega, fun h => by omega⟩
  · rw [if_neg hc, if_neg hc]
    dsimp only
    exact ⟨rfl, fun h => absurd h (by decide), fun _ => .inr ⟨_, c, rfl⟩⟩
theorem ends_star (w : List Nat) : (∃ S, lt w = S ++ [none]) ↔ 0 < td w ∧ td w % 3 = 0 := by
  obtain ⟨h1, h2, h3⟩ := endOf w
  rw [← ltF_end w]
  unfold ltEnd
  generalize ltF w = F at h1 h2 h3
  obtain ⟨T, p⟩ := F
  dsimp only at h1 h2 h3 ⊢
  constructor
  · rintro ⟨S, e⟩
    cases p with
    | succ p =>
      rw [List.replicate_succ', lits, List.map_append, ← List.append_assoc] at e
      have := (List.append_inj' e rfl).2
      cases this
    | zero =>
      have e : T ++ [] = S ++ [none] := e
      rw [List.append_nil] at e
      by_cases h0 : td w = 0
      · rcases h3 h0 with h | ⟨S', c, h⟩
        · rw [h] at e; simp at e
        · rw [h] at e
          have := (List.append_inj' e rfl).2
          cases this
      · exact ⟨by omega, h1.symm⟩
  · rintro ⟨ha, hb⟩
    have hp : p = 0 := by omega
    subst hp
    obtain ⟨S, e⟩ := h2 ha rfl
    exact ⟨S, by rw [e]; exact List.append_nil _⟩
theorem starts_star (w : List Nat) : (∃ S, lt w = none :: S) ↔ w.take 3 = [46, 46, 46] := by
  constructor
  · rintro ⟨S, e⟩
    induction w using lt.induct with
    | case1 r ih => rfl
    | case2 c r hn ih =>
      rw [lt_cons (fun t e => by cases e; exact hn t rfl rfl)] at e
      cases e
    | case3 => cases e
  · intro h
    refine ⟨lt (w.drop 3), ?_⟩
    conv => lhs; rw [← List.take_append_drop 3 w, h]
    rfl
theorem loose_iff (x : Str) : looseS x = true ↔ (∃ S, lt x.cps.toList = none :: S) ∧ (∃ S, lt x.cps.toList = S ++ [none]) := by
  have hl : x.cps.toList.length = x.length := lst_length x
  rw [starts_star, ends_star]
  have hdot : ∀ c, (Str.ofString ".").cps.contains c = (c == 46) := fun c => by
    have e : (Str.ofString ".").cps = #[46] := by decide +kernel
    rw [e, Bool.eq_iff_iff, Array.contains_iff_mem, beq_iff_eq]; simp
  have htd : (Txt.rstripChars x (Str.ofString ".")).length = x.length - td x.cps.toList := by
    unfold Txt.rstripChars
    rw [PyProof.Rows.stripBy_eq]
    have e : (Str.ofString ".").cps.contains = fun c => (c == 46) := funext hdot
    rw [e]
    show (strSub x 0 (x.length - ((x.cps.toList.drop 0).reverse.takeWhile (· == 46)).length)).length = _
    have := congrArg List.length (strSub_toList x 0 (x.length - ((x.cps.toList.drop 0).reverse.takeWhile (· == 46)).length))
    rw [show (strSub x 0 (x.length - ((x.cps.toList.drop 0).reverse.takeWhile (· == 46)).length)).cps.toList.length = _ from lst_length _] at this
    rw [this, List.length_take, List.length_drop]
    unfold td
    rw [List.drop_zero]
    omega
  have htl : td x.cps.toList ≤ x.length := by
    unfold td
    have := (List.takeWhile_sublist (p := (· == 46)) (l := x.cps.toList.reverse)).length_le
    rw [List.length_reverse] at this
    omega
  have hd : (x.length : Int) - ((Txt.rstripChars x (Str.ofString ".")).length : Int) = ((td x.cps.toList : Nat) : Int) := by rw [htd]; omega
  have hm : (Txt.slice x none (some 3) == Str.ofString "...") = true ↔ x.cps.toList.take 3 = [46, 46, 46] := by
    rw [beq_iff_eq]
    have em : Str.ofString "..." = ofL [46, 46, 46] := by decide +kernel
    by_cases h3 : 3 ≤ x.length
    · have := slice_upto (x := x) (k := 3) h3
      rw [show (((3 : Nat) : Int)) = 3 from rfl] at this
      rw [this, em]
      exact ⟨ofL_inj, fun e => by rw [e]⟩
    · have hsh : (Txt.slice x none (some 3)).length ≤ x.length := by
        exact Txt.slice_le x none (some 3)
      constructor
      · intro e
        have := congrArg Str.length e
        rw [em, ofL_length] at this
        simp only [List.length_cons, List.length_nil] at this
        omega
      · intro e
        have := congrArg List.length e
        simp only [List.length_take, List.length_cons, List.length_nil] at this
        omega
  unfold looseS
  rw [Bool.and_eq_true, Bool.and_eq_true, hm, hd, decide_eq_true_eq, beq_iff_eq, Int.fmod_eq_emod_of_nonneg _ (by decide)]
  constructor
  · rintro ⟨⟨a, b⟩, c⟩; exact ⟨a, by omega, by omega⟩
  · rintro ⟨a, b, c⟩; exact ⟨⟨a, by omega⟩, by omega⟩
end MQ

namespace MQ
open Builtin Builtin.Str StrLaws
theorem quote_bareL {w : List Nat} (h : bareL w = true) : quoteL w = w := by
  unfold bareL at h
  rw [Bool.and_eq_true, Bool.not_eq_true'] at h
  unfold quoteL
  rw [h.1, h.2]; rfl
theorem quote_oddL {w : List Nat} (h : bareL w = false) : quoteL w = 39 :: (spell w ++ [39]) := by
  unfold quoteL
  cases hw : w with
  | nil => rfl
  | cons a r =>
    rw [← hw]
    have h1 : w.isEmpty = false := by rw [hw]; rfl
    have h2 : w.all bareC = false := by
      unfold bareL at h
      rw [h1] at h
      simpa using h
    rw [h1, h2]; rfl
theorem bare_39 : bareC 39 = false := by decide +kernel
theorem bare_34 : bareC 34 = false := by decide +kernel
theorem bare_not {w : List Nat} {c : Nat} (h : bareL w = true) (hc : bareC c = false) : c ∉ w := fun hm => by
  unfold bareL at h
  rw [Bool.and_eq_true, List.all_eq_true] at h
  have := h.2 c hm
  rw [hc] at this; cases this
theorem ell_list (a b : List Nat) : ellS (ofL a) (ofL b) = true ↔ Mt (lt a) b := ell_mt (ofL a) (ofL b)
theorem hasq_iff (w : List Nat) : (occurrences (ofL w) (Str.ofString "\"") 0 (ofL w).length 1).isEmpty = true ↔ 34 ∉ w := by
  have e : Str.ofString "\"" = ⟨#[34]⟩ := by decide +kernel
  have h := found_one (ofL w) 34
  rw [e]
  cases q : (occurrences (ofL w) ⟨#[34]⟩ 0 (ofL w).length 1).isEmpty with
  | true =>
    rw [q] at h
    have h2 : decide (34 ∈ (ofL w).cps.toList) = false := h.symm
    exact ⟨fun _ => of_decide_eq_false h2, fun _ => rfl⟩
  | false =>
    rw [q] at h
    have h2 : decide (34 ∈ (ofL w).cps.toList) = true := h.symm
    have h3 : 34 ∈ w := of_decide_eq_true h2
    exact ⟨fun k => (by cases k), fun k => absurd h3 k⟩
/-- the plain law -/
theorem law_plain (W G : List Nat) {i j : Nat} (hi : i ≤ W.length) (hj : j ≤ G.length) :
    ellS (ofL (quoteL (W.take i))) (ofL (quoteL (G.take j))) =
      lawDue (bareL (W.take i)) (((tab G false W).1.getD i []).getD j false) (bareL (G.take j)) (looseS (ofL (W.take i)))
        (occurrences (ofL (W.take i)) (Str.ofString "\"") 0 (ofL (W.take i)).length 1).isEmpty
        (((tab (spell G) true W).1.getD i []).getD (spell (G.take j)).length false) := by
  have hc1 := tab_row G false W hi j hj
  have e1 : opT false (lt (W.take i)) = lt (W.take i) := rfl
  rw [e1] at hc1
  have hsp : spell G = spell (G.take j) ++ spell (G.drop j) := by rw [← spell_append, List.take_append_drop]
  have hc2 := tab_row (spell G) true W hi (spell (G.take j)).length (by rw [hsp, List.length_append]; omega)
  have e2 : opT true (lt (W.take i)) = spT (lt (W.take i)) := rfl
  have e3 : (spell G).take (spell (G.take j)).length = spell (G.take j) := by rw [hsp, List.take_left]
  rw [e2, e3] at hc2
  have hlo := loose_iff (ofL (W.take i))
  have hq := hasq_iff (W.take i)
  generalize ((tab G false W).1.getD i []).getD j false = c1 at hc1
  generalize ((tab (spell G) true W).1.getD i []).getD (spell (G.take j)).length false = c2 at hc2
  generalize looseS (ofL (W.take i)) = l at hlo
  generalize (occurrences (ofL (W.take i)) (Str.ofString "\"") 0 (ofL (W.take i)).length 1).isEmpty = q at hq
  generalize W.take i = h at *
  generalize G.take j = e at *
  rw [Bool.eq_iff_iff, ell_list]
  have hlo : l = true ↔ (∃ S, lt h = none :: S) ∧ (∃ S, lt h = S ++ [none]) := hlo
  unfold lawDue
  cases hb : bareL h with
  | true =>
    rw [if_pos rfl, quote_bareL hb, Bool.and_eq_true, Bool.or_eq_true, hc1, hlo]
    have h39 : some 39 ∉ lt h := fun k => bare_not hb bare_39 (mem_lt k)
    have h34 : NoQ (lt h) := fun k => bare_not hb bare_34 (mem_lt k)
    cases hbe : bareL e with
    | true =>
      rw [quote_bareL hbe]
      exact ⟨fun k => ⟨k, .inl rfl⟩, fun k => k.1⟩
    | false =>
      rw [quote_oddL hbe, mt_quoted h39]
      have key : Mt (lt h) (spell e) ↔ Mt (lt h) e := by
        have := mt_spell h34 e
        rwa [spT_free h39] at this
      rw [key]
      constructor
      · rintro ⟨a, b, c⟩; exact ⟨c, .inr ⟨a, b⟩⟩
      · rintro ⟨c, h | ⟨a, b⟩⟩
        · cases h
        · exact ⟨a, b, c⟩
  | false =>
    rw [if_neg (by simp), quote_oddL hb, lt_quoted]
    cases hbe : bareL e with
    | true =>
      rw [if_pos rfl, quote_bareL hbe]
      constructor
      · rintro ⟨r, er, _⟩
        exact absurd (by rw [er]; exact List.mem_cons_self ..) (bare_not hbe bare_39)
      · intro k; cases k
    | false =>
      rw [if_neg (by simp), quote_oddL hbe]
      have key : Mt (some 39 :: (spT (lt h) ++ [some 39])) (39 :: (spell e ++ [39])) ↔ Mt (spT (lt h)) (spell e) := by
        constructor
        · rintro ⟨r, er, k⟩
          have er : spell e ++ [39] = r := (List.cons.inj er).2
          subst er
          obtain ⟨z, ez, kz⟩ := (mt_suf [39] _ _).mp k
          have : spell e = z := List.append_cancel_right ez
          rw [this]; exact kz
        · intro k
          exact ⟨_, rfl, (mt_suf [39] _ _).mpr ⟨_, rfl, k⟩⟩
      rw [key]
      cases q with
      | true =>
        have hn : 34 ∉ h := hq.mp rfl
        rw [if_pos rfl, hc1]
        exact mt_spell (fun k => hn (mem_lt k)) e
      | false => rw [if_neg (by simp), hc2]
theorem law_plain2 {W G HH VV gq : Str} {i j sz : Nat} {bb ll bj c1 c2 : Bool} {row1 row2 : List Bool} (hi : i ≤ W.cps.toList.length) (hj : j ≤ G.cps.toList.length) (hHH : HH = ofL (W.cps.toList.take i))
    (hVV : VV = ofL (quoteL HH.cps.toList)) (hgq : gq = ofL (quoteL (G.cps.toList.take j))) (hbb : bb = bareL HH.cps.toList) (hll : ll = looseS HH) (hbj : bj = bareL (G.cps.toList.take j)) (hsz : sz = (spell (G.cps.toList.take j)).length)
    (hc1 : c1 = row1.getD j false) (hc2 : c2 = row2.getD sz false) (hr1 : row1 = (tab G.cps.toList false W.cps.toList).1.getD i []) (hr2 : row2 = (tab (spell G.cps.toList) true W.cps.toList).1.getD i []) :
    ellS VV gq = lawDue bb c1 bj ll (occurrences HH (Str.ofString "\"") 0 HH.length 1).isEmpty c2 := by
  subst hr1 hr2
  subst hsz
  subst hc1 hc2 hbj hgq
  subst hHH
  subst hVV hbb hll
  exact law_plain W.cps.toList G.cps.toList hi hj
end MQ

namespace MQ

end MQ
section
open MQ
local macro_rules | `(tactic| walk_at "eval ListComp") => `(tactic| (k_here; k_dflt (refine' comp_eval ?kF ?k1 ?k2 ?k3 ?k4 ?k5 ?k6 ?_; (case kF => k_asm); (case k1 => with_unfolding_all rfl); (case k2 => decide); (case k3 => with_unfolding_all rfl); (case k4 => decide); (case k5 => with_unfolding_all rfl); (case k6 => intro _; with_unfolding_all rfl); k_whole)))
local macro_rules | `(tactic| walk_at "eval Name") => `(tactic| (k_here; k_dflt (refine' nameC_L ?k1 ?k2 ?_ ?k3 ?k4 ?k5 ?k6; (case k3 => rfl); (case k1 => k_asm); (case k2 => first | assumption | exact rfl); (case k4 => rfl); (case k5 => rfl); (case k6 => decide); k_whole)))
local macro_rules | `(tactic| walk_at "eval Name") => `(tactic| (k_here; k_dflt (refine' nameC_C ?k1 ?k2 ?k3 ?k4 ?_ ?k5 ?k6 ?k7; (case k2 => rfl); (case k1 => k_asm); (case k3 => assumption); (case k4 => assumption); (case k5 => rfl); (case k6 => rfl); (case k7 => decide); k_whole)))
local macro_rules | `(tactic| walk_at "loadName") => `(tactic| (k_here; k_dflt (refine' loadC_L ?k1 ?k2 ?_ ?k3 ?k4 ?k5; (case k3 => rfl); (case k1 => k_asm); (case k2 => first | assumption | exact rfl); (case k4 => rfl); (case k5 => rfl); k_whole)))
local macro_rules | `(tactic| walk_at "exec Assign cons ListComp") => `(tactic| (k_here; k_dflt (refine' comp_assign ?kF ?k0 ?kL ?k1 ?k2 ?k3 ?k4 ?k5 ?k6 ?k7 ?k8 ?_; (case kF => k_asm); (case k0 => with_unfolding_all rfl); (case kL => with_unfolding_all rfl); (case k1 => with_unfolding_all rfl); (case k2 => decide); (case k3 => with_unfolding_all rfl); (case k4 => decide); (case k5 => with_unfolding_all rfl); (case k6 => with_unfolding_all rfl); (case k7 => with_unfolding_all rfl); (case k8 => intro _; with_unfolding_all rfl); k_whole)))
local macro_rules | `(tactic| walk_at "exec For Name Call cons nil") => `(tactic| (k_here; k_dflt (refine' for_rule ?kF ?k1 ?k2 ?k3 ?k4 ?_; (case kF => k_asm); (case k1 => with_unfolding_all rfl); (case k2 => with_unfolding_all rfl); (case k3 => with_unfolding_all rfl); (case k4 => intro _; with_unfolding_all rfl); k_whole)))
local macro_rules | `(tactic| walk_at "call builtin:len") => `(tactic| (k_here; (with_reducible show wpAny _ _ (call (Value.builtin "len") [Value.ref _]) _ _ _); k_dflt (refine' len_list ?k1 ?k2 ?_; (case k1 => exact News.isList (by k_asm) (by k_mem)); (case k2 => omega); k_whole)))
local macro_rules | `(tactic| walk_at "subscriptTail Name Name ref int") => `(tactic| (k_here; k_dflt (refine' item_ax ?k1 ?k4 ?k2 ?k3 ?_ ?k6; (case k1 => exact News.isList (by k_asm) (by k_mem)); (case k4 => assumption); (case k2 => omega); (case k3 => omega); (case k6 => with_unfolding_all rfl); k_whole)))
local macro_rules | `(tactic| walk_at "subscriptTail Subscript Name Name Name ref int") => `(tactic| (k_here; k_dflt (refine' item_ax ?k1 ?k4 ?k2 ?k3 ?_ ?k6; (case k1 => exact News.isList (by k_asm) (by k_mem)); (case k4 => assumption); (case k2 => omega); (case k3 => omega); (case k6 => with_unfolding_all rfl); k_whole)))
local macro_rules | `(tactic| walk_at "subscriptTail Subscript") => `(tactic| (k_here; k_dflt (refine' item_ax ?k1 ?k4 ?k2 ?k3 ?_ ?k6; (case k1 => exact News.isList (by k_asm) (by k_mem)); (case k4 => assumption); (case k2 => omega); (case k3 => omega); (case k6 => with_unfolding_all rfl); k_whole)))
local macro_rules | `(tactic| walk_at "call ref") => `(tactic| (k_here; k_dflt (refine' use_ct (texts_ct _ _ _ _ _ _ _) ?kF ?kN ?kh ?kX ?kT ?kp ?kd ?ku ?_; (case kF => k_asm); (case kN => k_asm); (case kh => rfl); (case kX => k_asm); (case kT => k_asm); (case kp => exact ⟨Fr.lst (by k_asm) (by k_asm), by assumption, by omega⟩); (case kd => (first | omega | decide +kernel | (simp only [depth_deeper]; decide +kernel))); (case ku => (first | omega | decide +kernel | (simp only [units_deeper]; decide +kernel))); k_whole); intro v9 h9 tk9 tl9 hR9 F9 N9 hn9 st9; obtain ⟨D9, W9, G9, ta9, tb9, e9, e8, hW9, hG9, kW9, kG9⟩ := hR9; subst e9; subst e8; (simp only [List.cons_append, List.nil_append] at N9); (try k_sweep)))
local macro_rules | `(tactic| walk_at "call ref") => `(tactic| (k_here; k_dflt (refine' use_ct (table_ct _ _ _ _ _ _ _ _ _) ?kF ?kN ?kh ?kX ?kT ?kp ?kd ?ku ?_; (case kF => k_asm); (case kN => k_asm); (case kh => rfl); (case kX => k_asm); (case kT => k_asm); (case kp => exact ⟨by omega, by first | omega | exact spell_len (by assumption)⟩); (case kd => (first | omega | decide +kernel | (simp only [depth_deeper]; decide +kernel))); (case ku => (first | omega | decide +kernel | (simp only [units_deeper]; decide +kernel))); k_whole); intro v9 h9 tk9 tl9 hR9 F9 N9 hn9 st9; obtain ⟨T9, kT9, ro9, e9, e8, hr9⟩ := hR9; subst e9; subst e8; (replace N9 := N9.perm (fun p hp => tab_perm hp)); (try k_sweep); (try k_sweep)))
local macro_rules | `(tactic| walk_at "call ref") => `(tactic| (k_here; k_dflt (refine' use_ct (spelled_ct _ _ _ _ _ _) ?kF ?kN ?kh ?kX ?kT ?kp ?kd ?ku ?_; (case kF => k_asm); (case kN => k_asm); (case kh => rfl); (case kX => k_asm); (case kT => k_asm); (case kp => first | omega | assumption); (case kd => (first | omega | decide +kernel | (simp only [depth_deeper]; decide +kernel))); (case ku => (first | omega | decide +kernel | (simp only [units_deeper]; decide +kernel))); k_whole); intro v9 h9 tk9 tl9 hR9 F9 N9 hn9 st9; obtain ⟨e9, t9, e8⟩ := hR9; subst e9; subst e8; (simp only [List.nil_append] at N9); (try k_sweep)))
local macro_rules | `(tactic| walk_at "call ref") => `(tactic| (k_here; k_dflt (refine' use_ct (quote_ct _ _ _ _ _ _) ?kF ?kN ?kh ?kX ?kT ?kp ?kd ?ku ?_; (case kF => k_asm); (case kN => k_asm); (case kh => rfl); (case kX => k_asm); (case kT => k_asm); (case kp => first | omega | assumption); (case kd => (first | omega | decide +kernel | (simp only [depth_deeper]; decide +kernel))); (case ku => (first | omega | decide +kernel | (simp only [units_deeper]; decide +kernel))); k_whole); intro v9 h9 tk9 tl9 hR9 F9 N9 hn9 st9; obtain ⟨e9, t9, e8⟩ := hR9; subst e9; subst e8; (simp only [List.nil_append] at N9); (try k_sweep)))
local macro_rules | `(tactic| walk_at "call ref") => `(tactic| (k_here; k_dflt (refine' use_ct (bare_ct _ _ _ _ _ _) ?kF ?kN ?kh ?kX ?kT ?kp ?kd ?ku ?_; (case kF => k_asm); (case kN => k_asm); (case kh => rfl); (case kX => k_asm); (case kT => k_asm); (case kp => exact ⟨by first | omega | assumption, by assumption⟩); (case kd => (first | omega | decide +kernel | (simp only [depth_deeper]; decide +kernel))); (case ku => (first | omega | decide +kernel | (simp only [units_deeper]; decide +kernel))); k_whole); intro v9 h9 tk9 tl9 hR9 F9 N9 hn9 st9; obtain ⟨e9, e8⟩ := hR9; subst e9; subst e8; (simp only [List.nil_append] at N9); (try k_sweep)))
local macro_rules | `(tactic| walk_at "call ref") => `(tactic| (k_here; k_dflt (refine' use_ct (loose_ct _ _ _ _ _ _) ?kF ?kN ?kh ?kX ?kT ?kp ?kd ?ku ?_; (case kF => k_asm); (case kN => k_asm); (case kh => rfl); (case kX => k_asm); (case kT => k_asm); (case kp => first | omega | assumption); (case kd => (first | omega | decide +kernel | (simp only [depth_deeper]; decide +kernel))); (case ku => (first | omega | decide +kernel | (simp only [units_deeper]; decide +kernel))); k_whole); intro v9 h9 tk9 tl9 hR9 F9 N9 hn9 st9; obtain ⟨e9, e8⟩ := hR9; subst e9; subst e8; (simp only [List.nil_append] at N9); (try k_sweep)))
local macro_rules | `(tactic| walk_at "call ref") => `(tactic| (k_here; k_dflt (refine' use_ct (ell_ct _ _ _ _ _ _ _ _) ?kF ?kN ?kh ?kX ?kT ?kp ?kd ?ku ?_; (case kF => k_asm); (case kN => k_asm); (case kh => rfl); (case kX => k_asm); (case kT => k_asm); (case kp => exact ⟨by omega, by omega⟩); (case kd => (first | omega | decide +kernel | (simp only [depth_deeper]; decide +kernel))); (case ku => (first | omega | decide +kernel | (simp only [units_deeper]; decide +kernel))); k_whole); intro v9 h9 tk9 tl9 hR9 F9 N9 hn9 st9; obtain ⟨e9, e8⟩ := hR9; subst e9; subst e8; (simp only [List.nil_append] at N9); (try k_sweep)))
set_option maxRecDepth 100000 in
set_option maxHeartbeats 8000000 in
theorem PySem.Challenge.cw_mq0098_01_holds : PySem.Challenge.rw_mq0098_01.Holds :=
  MQ.hd (by
  k_go0
  (all_goals try k_fold)
  refine wpAny_mono (E := fun _ _ => False) ?_ (fun _ _ q => q) (fun _ _ q => q.elim)
  k_steps
  rename_i zG zY zfa zo zpm zdoc zho zhg X zX zV zGL T zB zTE zTW z10 z9 zM z8 z7 zhcd z6 zhs zhlay zhL1 zhr1 zhl2 z5 z4 z3 z2 z1 zhL zra zw1 zr0 zhI zhr zhc1 zhc zK0 zhD zh1 ztk1 zw zright zX0 _ _ _ D0 W G tW tG hWl hGl hWk hGk _ _ _ _ oG hoG _ _ _ _ T1 k1 ro1 hr1 _ _ _ _ _ _ _ _ _ _ _ T2 k2 ro2 hr2 _ _ _ _ _ _ _ _ _ hrg F1 N1 _
  clear zY zV zGL zB zTE zTW zhcd zX0 zK0 zM zhD zright zX zG
  replace N1 := N1.perm (fun p hp => lw_perm hp)
  have hGl2 : G.cps.toList.length = G.length := lst_length G
  refine' iter_range (G.length + 1) (fun k v => ∃ t, v = Value.str (ofL (G.cps.toList.take k)) t) ?F1 ?N1 ?hh1 ?hr1 ?hb1 ?hn1 ?he1 ?hQ1
  (case F1 => k_asm)
  (case N1 => exact N1)
  (case hh1 => rfl)
  (case hr1 => assumption)
  (case hb1 => rfl)
  (case hn1 => rw [sizeLine_eq]; omega)
  case he1 =>
    intro C i u s₃ m₃ gB E' hi hm Fm st hn
    have X' := X.keeps st
    have T' := T.keeps st
    have hcell := hn _ (List.Mem.tail _ (List.Mem.tail _ (List.Mem.head _)))
    clear hn
    k_steps
    exact EltEnd.intro ⟨_, congrArg (Value.str · _) (slice_upto (by omega))⟩ (by k_asm)
  intro D2 h2 tk2 ys2 kk2 hP2 hD2 F2 N2
  clear N1 F1
  have hl2 : ys2.size = G.length + 1 := by have := hP2.length; rw [List.length_range, Array.length_toList] at this; exact this.symm
  k_steps
  refine' iter_list (FE fun l y => ∃ t, y = Value.str (ofL (quoteL l)) t) ?F2 ?N2 ?hh2 ?hr2 ?hn2 ?he2 ?hQ2
  (case F2 => k_asm)
  (case N2 => k_asm)
  (case hh2 => rfl)
  (case hr2 => exact List.Mem.head _)
  (case hn2 => rw [sizeLine_eq]; omega)
  case he2 =>
    intro C v s₃ m₃ gB E' hv hm Fm st hn
    have X' := X.keeps st
    have T' := T.keeps st
    have Nm : News gB C s₃.heap [] := News.nil
    clear hn
    obtain ⟨j, hj⟩ := List.getElem?_of_mem hv
    obtain ⟨i, _, t, rfl⟩ := Paired.get' hP2 j _ hj
    have hlen := take_le hGl i
    have hok := take_ok hGk i
    k_steps
    exact EltEnd.intro ⟨_, _, rfl, _, rfl⟩ (by k_asm)
  intro D3 h3 tk3 ys3 kk3 hP3 hD3 F3 N3
  clear N2 F2
  k_steps
  refine' iter_list (FE fun l y => y = Value.bool (bareL l)) ?F3 ?N3 ?hh3 ?hr3 ?hn3 ?he3 ?hQ3
  (case F3 => k_asm)
  (case N3 => k_asm)
  (case hh3 => rfl)
  (case hr3 => exact List.Mem.tail _ (List.Mem.head _))
  (case hn3 => rw [sizeLine_eq]; omega)
  case he3 =>
    intro C v s₃ m₃ gB E' hv hm Fm st hn
    have X' := X.keeps st
    have T' := T.keeps st
    have Nm : News gB C s₃.heap [] := News.nil
    clear hn
    obtain ⟨j, hj⟩ := List.getElem?_of_mem hv
    obtain ⟨i, _, t, rfl⟩ := Paired.get' hP2 j _ hj
    have hlen := take_le hGl i
    have hok := take_ok hGk i
    k_steps
    exact EltEnd.intro ⟨_, _, rfl, rfl⟩ (by k_asm)
  intro D4 h4 tk4 ys4 kk4 hP4 hD4 F4 N4
  clear N3 F3
  k_steps
  refine' iter_list (FE fun l y => ∃ t, y = Value.int ((spell l).length : Nat) t) ?F4 ?N4 ?hh4 ?hr4 ?hn4 ?he4 ?hQ4
  (case F4 => k_asm)
  (case N4 => k_asm)
  (case hh4 => rfl)
  (case hr4 => exact List.Mem.tail _ (List.Mem.tail _ (List.Mem.head _)))
  (case hn4 => rw [sizeLine_eq]; omega)
  case he4 =>
    intro C v s₃ m₃ gB E' hv hm Fm st hn
    have X' := X.keeps st
    have T' := T.keeps st
    have Nm : News gB C s₃.heap [] := News.nil
    clear hn
    obtain ⟨j, hj⟩ := List.getElem?_of_mem hv
    obtain ⟨i, _, t, rfl⟩ := Paired.get' hP2 j _ hj
    have hlen := take_le hGl i
    have hok := take_ok hGk i
    have hsp : (ofL (spell (ofL (G.cps.toList.take i)).cps.toList)).length ≤ 1000 := spell_len hlen
    k_steps
    exact EltEnd.intro ⟨_, _, rfl, _, congrArg (fun n : Nat => Value.int n _) (ofL_length _)⟩ (by k_asm)
  intro D5 h5 tk5 ys5 kk5 hP5 hD5 F5 N5
  clear N4 F4
  k_steps
  rename_i F5x N5x _
  have hl3 := hP3.length
  have hl4 := hP4.length
  have hl5 := hP5.length
  simp only [Array.length_toList] at hl3 hl4 hl5
  have hWl2 : W.cps.toList.length = W.length := lst_length W
  refine' for_range (W.length + 1) (LwO W tW T1 T2 D3 D4 D5 ((D5, PySem.W.listOf ys5 kk5) :: (D4, PySem.W.listOf ys4 kk4) :: (D3, PySem.W.listOf ys3 kk3) :: (T2, PySem.W.listOf (ro2.map fun p => Value.ref p.1).toArray k2) :: (T1, PySem.W.listOf (ro1.map fun p => Value.ref p.1).toArray k1) :: (ro1 ++ ro2))) ?F5 ?N5 ?hh5 ?hr5 ?hb5 ?hn5 ?h05 ?step5 ?hQ5
  (case F5 => k_asm)
  (case N5 => (exact N5x.perm (fun p hp => lw_drop hp)))
  (case hh5 => rfl)
  (case hr5 => assumption)
  (case hb5 => rfl)
  (case hn5 => rw [sizeLine_eq]; omega)
  (case h05 => exact ⟨rfl, rfl, rfl, rfl, rfl, rfl, rfl⟩)
  case hQ5 =>
    rintro h6 tk6 m6 news6 F6 N6 ⟨rfl, hw6, hp6, hs6, hg6, hb6, hz6⟩
    k_steps
  rintro i ti m6 news6 h6 tk6 I oI hi ⟨rfl, hw6, hp6, hs6, hg6, hb6, hz6⟩ hne6 hlt6 F6 N6
  obtain ⟨htl1, -, htr1⟩ := tab_len G.cps.toList false W.cps.toList
  obtain ⟨htl2, -, htr2⟩ := tab_len (spell G.cps.toList) true W.cps.toList
  obtain ⟨⟨a1, o1⟩, n1, hp1, ho1, hx1⟩ := row_at_nat hr1 (i := i) (by omega)
  obtain ⟨⟨a2, o2⟩, n2, hp2, ho2, hx2⟩ := row_at_nat hr2 (i := i) (by show i < (tab (spell G.cps.toList) true W.cps.toList).1.length; omega)
  have hrl1 := htr1 _ (MQ.getD_mem (j := i) (show i < (tab G.cps.toList false W.cps.toList).1.length by omega))
  have hrl2 := htr2 _ (MQ.getD_mem (j := i) (show i < (tab (spell G.cps.toList) true W.cps.toList).1.length by omega))
  replace ho2 : o2 = PySem.W.listOf ((((tab (spell G.cps.toList) true W.cps.toList).1.getD i []).map Value.bool).toArray) n2 := ho2
  dsimp only at ho1 hx1 hx2
  obtain ⟨row1, hrow1⟩ : ∃ x, x = (tab G.cps.toList false W.cps.toList).1.getD i [] := ⟨_, rfl⟩
  obtain ⟨row2, hrow2⟩ : ∃ x, x = (tab (spell G.cps.toList) true W.cps.toList).1.getD i [] := ⟨_, rfl⟩
  rw [← hrow1] at ho1 hrl1
  rw [← hrow2] at ho2 hrl2
  subst ho1 ho2
  have Ax1 : AtIx (ro1.map fun p => Value.ref p.1).toArray ((i : Nat) : Int) (.ref a1) := ⟨hx1⟩
  have Ax2 : AtIx (ro2.map fun p => Value.ref p.1).toArray ((i : Nat) : Int) (.ref a2) := ⟨hx2⟩
  clear hx1 hx2 htr1 htr2 htl1 htl2
  replace N6 := N6.perm (fun p hp => lw_rows hp1 hp2 hp)
  have hsl : Txt.slice W none (some (i : Int)) = ofL (W.cps.toList.take i) := slice_upto (by omega)
  have hsl1 : (Txt.slice W none (some (i : Int))).length ≤ 100 := by rw [hsl]; exact take_le hWl i
  have hsl2 : PyData.strOk (Txt.slice W none (some (i : Int))) = true := by rw [hsl]; exact take_ok hWk i
  have hsl3 : (ofL (quoteL (Txt.slice W none (some (i : Int))).cps.toList)).length ≤ 10000 := quote_le (by rw [show (Txt.slice W none (some (i : Int))).cps.toList.length = _ from lst_length _]; exact hsl1)
  have hgs : ys3.size = G.length + 1 := by omega
  k_steps
  rename_i F8 N8 _
  obtain ⟨HH, hHH⟩ : ∃ x, x = Txt.slice W none (some (i : Int)) := ⟨_, rfl⟩
  obtain ⟨VV, hVV⟩ : ∃ x, x = ofL (quoteL HH.cps.toList) := ⟨_, rfl⟩
  obtain ⟨bb, hbb⟩ : ∃ x, x = bareL HH.cps.toList := ⟨_, rfl⟩
  obtain ⟨ll, hll⟩ : ∃ x, x = looseS HH := ⟨_, rfl⟩
  refine' for_range (G.length + 1) (LwI W tW T1 T2 D3 D4 D5 ((a1, PySem.W.listOf (row1.map Value.bool).toArray n1) :: (a2, PySem.W.listOf (row2.map Value.bool).toArray n2) :: (I, oI) :: ((D5, PySem.W.listOf ys5 kk5) :: (D4, PySem.W.listOf ys4 kk4) :: (D3, PySem.W.listOf ys3 kk3) :: (T2, PySem.W.listOf (ro2.map fun p => Value.ref p.1).toArray k2) :: (T1, PySem.W.listOf (ro1.map fun p => Value.ref p.1).toArray k1) :: (ro1 ++ ro2))) HH VV i bb ll) ?F6 ?N6 ?hh6 ?hr6 ?hb6 ?hn6 ?h06 ?step6 ?hQ6
  (case F6 => exact F8)
  (case N6 => exact N8)
  (case hh6 => rfl)
  (case hr6 => assumption)
  (case hb6 => exact congrArg Int.ofNat hgs)
  (case hn6 => rw [sizeLine_eq]; omega)
  (case h06 => subst hll hbb hVV hHH; exact ⟨_, _, _, rfl, hw6, hp6, hs6, hg6, hb6, hz6, rfl, rfl, rfl, rfl, rfl⟩)
  case hQ6 =>
    rintro h7 tk7 m7 news7 F7 N7 ⟨tH, tV, tI, rfl, hw7, hp7, hs7, hg7, hb7, hz7, hhd7, hwr7, hba7, hlo7, hi7⟩
    have hJ : LwO W tW T1 T2 D3 D4 D5 ((D5, PySem.W.listOf ys5 kk5) :: (D4, PySem.W.listOf ys4 kk4) :: (D3, PySem.W.listOf ys3 kk3) :: (T2, PySem.W.listOf (ro2.map fun p => Value.ref p.1).toArray k2) :: (T1, PySem.W.listOf (ro1.map fun p => Value.ref p.1).toArray k1) :: (ro1 ++ ro2)) (i + 1) m7 ((D5, PySem.W.listOf ys5 kk5) :: (D4, PySem.W.listOf ys4 kk4) :: (D3, PySem.W.listOf ys3 kk3) :: (T2, PySem.W.listOf (ro2.map fun p => Value.ref p.1).toArray k2) :: (T1, PySem.W.listOf (ro1.map fun p => Value.ref p.1).toArray k1) :: (ro1 ++ ro2)) := ⟨rfl, hw7, hp7, hs7, hg7, hb7, hz7⟩
    k_steps
    exact TurnEnd.next ((D5, PySem.W.listOf ys5 kk5) :: (D4, PySem.W.listOf ys4 kk4) :: (D3, PySem.W.listOf ys3 kk3) :: (T2, PySem.W.listOf (ro2.map fun p => Value.ref p.1).toArray k2) :: (T1, PySem.W.listOf (ro1.map fun p => Value.ref p.1).toArray k1) :: (ro1 ++ ro2)) F7 N7 (fun p hp => List.Mem.tail _ (List.Mem.tail _ hp)) hne6 hJ
  clear F8 N8 hw6 hp6 hs6 hg6 hb6 hz6
  rintro j tj m7 news7 h7 tk7 I7 oI7 hj ⟨tH, tV, tI, rfl, hw7, hp7, hs7, hg7, hb7, hz7, hhd7, hwr7, hba7, hlo7, hi7⟩ hne7 hlt7 F7 N7
  obtain ⟨v3, hgj, tgj, hv3⟩ := paired_range (fe_trans hP2 hP3) hj
  obtain ⟨v4, hbj, hv4⟩ := paired_range (fe_trans hP2 hP4) hj
  obtain ⟨v5, hsj, tsj, hv5⟩ := paired_range (fe_trans hP2 hP5) hj
  have hsl4 : (spell (G.cps.toList.take j)).length ≤ (spell G.cps.toList).length := by
    conv => rhs; rw [← List.take_append_drop j G.cps.toList, spell_append, List.length_append]
    omega
  have hgl5 : (spell G.cps.toList).length ≤ 500 := by have := spell_le G.cps.toList; omega
  have hrj1 := bool_item (row := row1) (k := j) (by omega)
  have hrj2 := bool_item (row := row2) (k := (spell (G.cps.toList.take j)).length) (by omega)
  have hql : (ofL (quoteL (G.cps.toList.take j))).length ≤ 10000 := quote_le (by rw [List.length_take]; omega)
  obtain ⟨gq, hgq⟩ : ∃ x, x = ofL (quoteL (G.cps.toList.take j)) := ⟨_, rfl⟩
  obtain ⟨bj, hbj'⟩ : ∃ x, x = bareL (G.cps.toList.take j) := ⟨_, rfl⟩
  obtain ⟨sz, hsz⟩ : ∃ x, x = (spell (G.cps.toList.take j)).length := ⟨_, rfl⟩
  obtain ⟨c1, hc1⟩ : ∃ x, x = row1.getD j false := ⟨_, rfl⟩
  obtain ⟨c2, hc2⟩ : ∃ x, x = row2.getD sz false := ⟨_, rfl⟩
  rw [← hgq] at hv3 hql
  rw [← hbj'] at hv4
  rw [← hsz] at hv5 hrj2 hsl4
  rw [← hc1] at hrj1
  rw [← hc2] at hrj2
  subst hv3 hv4 hv5
  have A1 : AtIx (row1.map Value.bool).toArray ((j : Nat) : Int) (.bool c1) := ⟨hrj1⟩
  have A2 : AtIx (row2.map Value.bool).toArray ((sz : Nat) : Int) (.bool c2) := ⟨hrj2⟩
  have A3 : AtIx ys3 ((j : Nat) : Int) (.str gq tgj) := ⟨hgj⟩
  have A4 : AtIx ys4 ((j : Nat) : Int) (.bool bj) := ⟨hbj⟩
  have A5 : AtIx ys5 ((j : Nat) : Int) (.int ((sz : Nat) : Int) tsj) := ⟨hsj⟩
  have hVl : VV.length ≤ 10000 := by rw [hVV, hHH]; exact hsl3
  have hHl : HH.length ≤ 100 := by rw [hHH]; exact hsl1
  clear hrj1 hrj2 hgj hbj hsj hP2 hP3 hP4 hP5 hD2 hD3 hD4 hD5 hr1 hr2 hp1 hp2
  have hlaw : ellS VV gq = lawDue bb c1 bj ll (Builtin.Str.occurrences HH (Str.ofString "\"") 0 HH.length 1).isEmpty c2 := by
    exact law_plain2 (by omega) (by omega) (hHH.trans hsl) hVV hgq hbb hll hbj' hsz hc1 hc2 hrow1 hrow2
  k_steps
  all_goals first
    | exact (lw_no hlaw (by assumption) (by first | exact lw0 (by assumption) (by assumption) (by assumption) | exact lw1 (by assumption) (by assumption) (by assumption) | exact lw2 (by assumption) (by assumption) | exact lw3 (by assumption) (by assumption) | exact lw4 (by assumption) (by assumption) (by assumption) | exact lw5 (by assumption) (by assumption) (by assumption))).elim
    | (refine' TurnEnd.next _ ?tF ?tN (fun p hp => hp) hne7 ?tJ; (case tF => k_asm); (case tN => k_asm); (case tJ => exact ⟨_, _, _, rfl, hw7, hp7, hs7, hg7, hb7, hz7, hhd7, hwr7, hba7, hlo7, hi7⟩)))
end

