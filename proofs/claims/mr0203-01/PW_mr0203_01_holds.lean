import PyProof.Rows.All
import Wide.All
import OpenK.AllK
import Wide.FinOn
import PySem.Challenge.RW_mr0203_01
section part_Top
open PySem PySem.W PyProof.Rows
set_option Elab.async false
namespace Mine
set_option maxRecDepth 100000 in
set_option maxHeartbeats 8000000 in
open_top hd for PySem.Challenge.rw_mr0203_01
end Mine
end part_Top
section part_Base
open PySem PySem.W PySem.Calls PyProof.Rows
set_option Elab.async false
set_option maxRecDepth 100000
namespace Mine

/-- what a pure call gives back: a value, a heap that keeps all that stood -/
def Ret (s : Shared) (P : Value → Heap → Prop) (r : Result) (s' : Shared) : Prop :=
  ∃ v h' tk', r = .ok (.ret v) ∧ s' = { s with heap := h', toks := tk' } ∧ s.heap.StaysIn h' ∧ P v h'

theorem Fr.stay {h₀ h h' : Heap} {L : Addr} {m : Str → Option Value} (F : Fr h₀ L h m) (k : h.StaysIn h') : Fr h₀ L h' m :=
  ⟨F.ns.keeps k, fun b o e => k b o (F.keep b o e), F.above⟩
theorem News.stay {h₀ h h' : Heap} {L : Addr} {news : List (Addr × Obj)} (N : News h₀ L h news) (k : h.StaysIn h') : News h₀ L h' news :=
  fun p hp => ⟨k _ _ (N p hp).1, (N p hp).2⟩

theorem enterK {prog : Program} {w : World} {A : Around} {s : Shared} {R : Result → Shared → Prop} {K : Frag} {p : Program} {loose : List Str} {mean : ExcName → Option Value} {mg mb : Str → Option Value}
    {name qual : Str} {params : Arguments} {body : List Stmt} {scope : Scope} {dV kV doc pm cdv ct oc : Value} {an od : Option Addr} {osl : Array (Option Value)} {f : Addr} {args : Args} {binds : List (Str × Value)}
    (X : K.In s.heap) (T : Top p loose mean mg mb s.heap)
    (ho : K.lookup f = some ⟨oc, od, .func (fnOf name qual params body scope dV kV doc pm an cdv ct), osl⟩) (hcd : codeIn K cdv qual = true) (hroom : A.depth < recursionLimit)
    (hbind : BindsTo s (fnOf name qual params body scope dV kV doc pm an cdv ct) args binds) (hloc : ∀ y ∈ binds, scope.names.lookup y.1 = some .local)
    (hco : scope.isCoroutine = false) (hgen : scope.isGenerator = false) (hk : scope.kind = .function) (hcell : ∀ x ∈ scope.names, x.2 ≠ .cell)
    (h : ∀ L h₁ tk, Fr s.heap L h₁ (fun y => binds.reverse.lookup y) →
      wpAny (model prog w) (A.deeper (envOf qual scope L f cdv)) (execs body (envOf qual scope L f cdv)) (fun fl s' => R (.ok (.ret (match fl with | .ret v => v | _ => .none))) s') (fun _ _ => False)
        { s with heap := h₁, toks := tk }) :
    codeAny (model prog w) A (.call (.ref f) args) R s := by
  refine codeAny_call_def (fd := fnOf name qual params body scope dV kV doc pm an cdv ct) (body := body) (binds := binds) hroom (X _ _ ho) rfl T.nolimit (codeRec_of X hcd) rfl hbind hcell hloc (fun h₁ hns hk₁ => ?_) hco hgen hk
  exact wpAny_mono (h s.heap.objs.size h₁ _ ⟨hns, hk₁, Nat.le_refl _⟩) (fun _ _ x => x) fun _ _ x => x.elim

theorem call_ret {M : Model} {A : Around} {f : Value} {vs : List Value} {s : Shared} {P : Value → Heap → Prop} {Q : Value → Shared → Prop} {E : Value → Shared → Prop}
    (c : codeAny M A (.call f ⟨vs, []⟩) (Ret s P) s) (h : ∀ v h' tk', s.heap.StaysIn h' → P v h' → Q v { s with heap := h', toks := tk' }) : wpAny M A (call f vs) Q E s := by
  refine wpAny_call (codeAny_mono c fun r s' x => ?_)
  obtain ⟨v, h', tk', rfl, rfl, k, x⟩ := x
  exact h v h' tk' k x
end Mine
namespace Mine
/-- a class of the text's made: the object and its dict are new, the rest stands; then its __init__ is run over the heap that stood ahead of the making -/
theorem makeK {prog : Program} {w : World} {A : Around} {s : Shared} {R : Result → Shared → Prop} {K : Frag} {p : Program} {loose : List Str} {mean : ExcName → Option Value} {mg mb : Str → Option Value}
    {name qual : Str} {params : Arguments} {body : List Stmt} {scope : Scope} {dV kV doc pm cdv ct oc : Value} {an od : Option Addr} {osl : Array (Option Value)} {C f : Addr} {rest : List Value} {binds : Addr → List (Str × Value)}
    (X : K.In s.heap) (T : Top p loose mean mg mb s.heap) (hm : makesIn K C = true) (hi : findIn K (.ref C) "__init__" = some (some (.ref f))) (hf : isFn K (.ref f) = true)
    (ho : K.lookup f = some ⟨oc, od, .func (fnOf name qual params body scope dV kV doc pm an cdv ct), osl⟩) (hcd : codeIn K cdv qual = true) (hroom : A.depth + 1 < recursionLimit)
    (hbind : ∀ x s', BindsTo s' (fnOf name qual params body scope dV kV doc pm an cdv ct) ⟨.ref x :: rest, []⟩ (binds x)) (hloc : ∀ x, ∀ y ∈ binds x, scope.names.lookup y.1 = some .local)
    (hco : scope.isCoroutine = false) (hgen : scope.isGenerator = false) (hk : scope.kind = .function) (hcell : ∀ x ∈ scope.names, x.2 ≠ .cell)
    (h : ∀ x dx L h₁ tk A', A'.handled = A.handled → A'.depth = A.depth + 2 → Fr s.heap L h₁ (fun y => (binds x).reverse.lookup y) → News s.heap L h₁ [(x, instObj C dx), (dx, dictOf [] 0)] → @LT.lt Nat _ dx x →
      wpAny (model prog w) A' (execs body (envOf qual scope L f cdv)) (fun fl s' => (match fl with | .ret v => v | _ => .none) = .none ∧ R (.ok (.ret (.ref x))) s') (fun _ _ => False)
        { s with heap := h₁, toks := tk }) :
    codeAny (model prog w) A (.call (.ref C) ⟨rest, []⟩) R s := by
  obtain ⟨hh, g, d, t, os⟩ := s
  refine make_core (makes_of X hm) (looks_findIn X hi) (fun self => bind_fn X self (beq_iff_eq.mp hf)) (.inl rfl) ?_
  have st : hh.StaysIn ((hh.push emptyDict).push (instObj C hh.objs.size)) := fun b o e => Heap.get?_push_of_some _ (Heap.get?_push_of_some _ e)
  have hx : ((hh.push emptyDict).push (instObj C hh.objs.size)).get? (hh.objs.size + 1) = some (instObj C hh.objs.size) := by
    have : ((hh.push emptyDict).push (instObj C hh.objs.size)).get? (hh.push emptyDict).objs.size = some (instObj C hh.objs.size) := Heap.get?_push_size _ rfl
    rwa [Heap.size_push] at this
  have hdx : ((hh.push emptyDict).push (instObj C hh.objs.size)).get? hh.objs.size = some emptyDict := Heap.get?_push_of_some _ (Heap.get?_push_size _ rfl)
  refine codeAny_call_def (fd := fnOf name qual params body scope dV kV doc pm an cdv ct) (body := body) (binds := binds _) ?_ ((X.keeps st) _ _ ho) rfl (T.nolimit.keeps st) (codeRec_of (X.keeps st) hcd) rfl (hbind _ _) hcell (hloc _) (fun h₁ hns hk₁ => ?_) hco hgen hk
  · rw [depth_under_make]; exact hroom
  · have hsz : ((hh.push emptyDict).push (instObj C hh.objs.size)).objs.size = hh.objs.size + 2 := by rw [Heap.size_push, Heap.size_push]
    have fr0 : ∀ a, hh.objs.size ≤ a → hh.get? a = none := fun a ha => by
      cases e : hh.get? a with
      | none => rfl
      | some o => exact absurd (Heap.lt_size e) (Nat.not_lt.mpr ha)
    refine wpAny_mono (h (hh.objs.size + 1) hh.objs.size _ h₁ _ _ rfl ?_ ⟨hns, fun b o e => hk₁ b o (st b o e), ?_⟩ (fun p hp => ?_) (Nat.lt_succ_self _)) (fun fl s' q => q) fun _ _ q => q.elim
    · show (A.under _).depth + 1 = A.depth + 2
      rw [depth_under_make]
    · show hh.objs.size ≤ _
      dsimp only at hsz ⊢
      rw [hsz]; exact Nat.le_add_right _ _
    · rcases List.mem_cons.mp hp with rfl | hp
      · exact ⟨hk₁ _ _ hx, (by dsimp only at hsz ⊢; rw [hsz]; exact Nat.ne_of_lt (Nat.lt_succ_self _)), fr0 _ (Nat.le_succ _)⟩
      · rw [List.mem_singleton.mp hp]
        exact ⟨hk₁ _ _ hdx, (by dsimp only at hsz ⊢; rw [hsz]; exact Nat.ne_of_lt (Nat.lt_add_of_pos_right (by decide))), fr0 _ (Nat.le_refl _)⟩
end Mine
end part_Base
section part_Loops
open PySem PySem.W PySem.Calls PyProof.Rows
set_option Elab.async false
set_option maxRecDepth 100000
namespace Mine

/-- the end of a turn: the iterator I stands as it stood, the ledger and the names meet J -/
def TurnEnd (h₀ : Heap) (L I : Addr) (oI : Obj) (J : (Str → Option Value) → List (Addr × Obj) → Prop) (s : Shared) (Q : Flow → Shared → Prop) (f : Flow) (s₂ : Shared) : Prop :=
  match f with
  | .ret v => Q (.ret v) s₂
  | .brk => Q .next s₂
  | _ => ∃ h' tk m' news', s₂ = { s with heap := h', toks := tk } ∧ Fr h₀ L h' m' ∧ News h₀ L h' ((I, oI) :: news') ∧ (∀ p ∈ news', p.1 ≠ I) ∧ J m' news'

theorem TurnEnd.next {h₀ h' : Heap} {L I : Addr} {oI : Obj} {J : (Str → Option Value) → List (Addr × Obj) → Prop} {s : Shared} {Q : Flow → Shared → Prop} {tk : Nat} {m' : Str → Option Value} {news' : List (Addr × Obj)}
    (F : Fr h₀ L h' m') (N : News h₀ L h' ((I, oI) :: news')) (hne : ∀ p ∈ news', p.1 ≠ I) (hJ : J m' news') : TurnEnd h₀ L I oI J s Q .next { s with heap := h', toks := tk } :=
  ⟨h', tk, m', news', rfl, F, N, hne, hJ⟩

section
variable {prog : Program} {w : World} {A : Around} {E : Value → Shared → Prop} {s : Shared} {env : Env} {h₀ : Heap} {x : Str} {body : List Stmt} {Q : Flow → Shared → Prop}

theorem lp_gen {I : Addr} {fp : List Addr} {n : Nat} {P : Nat → Value → Prop} {St : Nat → Heap → Prop} {m₀ : Str → Option Value} {news : List (Addr × Obj)} (J : Nat → (Str → Option Value) → List (Addr × Obj) → Prop)
    (W : Walks prog w A I fp [I] n P St) (hLf : env.locals ∉ fp) (hI0 : h₀.get? I = none) (hnw : ∀ p ∈ news, p.1 ≠ I) (hfp : ∀ b ∈ fp, h₀.get? b = none → b = I)
    (hSt : ∀ i h, St i h → ∃ o, h.get? I = some o) (hst : St 0 s.heap) (F : Fr h₀ env.locals s.heap m₀) (N : News h₀ env.locals s.heap news) (hj : J 0 m₀ news)
    (turn : ∀ i v m₁ news₁ h tk oI, i < n → P i v → J i m₁ news₁ → (∀ p ∈ news₁, p.1 ≠ I) → Fr h₀ env.locals h (fun y => if y = x then some v else m₁ y) → News h₀ env.locals h ((I, oI) :: news₁) →
      wpAny (model prog w) A (execs body env) (TurnEnd h₀ env.locals I oI (J (i + 1)) s Q) E { s with heap := h, toks := tk })
    (done : ∀ m₁ news₁ h tk, J n m₁ news₁ → Fr h₀ env.locals h m₁ → News h₀ env.locals h news₁ → Q .next { s with heap := h, toks := tk }) :
    LoopAtV prog w A h₀ env x body Q E (.ref I) s := by
  refine ⟨I, fp, [I], n, P, St, m₀, news, J, rfl, W, hLf, fun b hb => (List.mem_singleton.mp hb) ▸ hI0, fun p hp hI => hnw p hp (List.mem_singleton.mp hI), hst, F, N, hj, ?_, ?_⟩
  · rintro i v m₁ news₁ s₁ own ⟨h, tk, rfl⟩ hin hP hJ hoff hown hownG hall hstn F₁ N₁
    obtain ⟨oI, hoI⟩ := hSt _ _ hstn
    have hmem : (I, oI) ∈ own := hall I (W.sub I (List.mem_singleton.mpr rfl)) hI0 oI hoI
    have hone : ∀ p ∈ own, p = (I, oI) := fun p hp => by
      have e := hfp p.1 (hown p hp) (N₁ p (List.mem_append_left _ hp)).2.2
      have g := hownG p hp
      have hoI' : ({ s with heap := h, toks := tk } : Shared).heap.get? I = some oI := hoI
      rw [e, hoI'] at g
      exact Prod.ext e (Option.some.inj g).symm
    have N₂ : News h₀ env.locals h ((I, oI) :: news₁) := fun p hp => by
      rcases List.mem_cons.mp hp with rfl | hp
      · exact N₁ _ (List.mem_append_left _ hmem)
      · exact N₁ p (List.mem_append_right _ hp)
    refine wpAny_mono (turn i v m₁ news₁ h tk oI hin hP hJ (fun p hp e => hoff p hp (List.mem_singleton.mpr e)) F₁ N₂) (fun f s₂ q => ?_) fun _ _ e => e
    have fin : (∃ h' tk m' news', s₂ = { s with heap := h', toks := tk } ∧ Fr h₀ env.locals h' m' ∧ News h₀ env.locals h' ((I, oI) :: news') ∧ (∀ p ∈ news', p.1 ≠ I) ∧ J (i + 1) m' news') →
        LoopStepU h₀ env.locals [I] own (J (i + 1)) { s with heap := h, toks := tk } .next s₂ := by
      rintro ⟨h', tk', m', news', rfl, F', N', hne, hJ'⟩
      refine ⟨rfl, h', tk', m', news', rfl, F', fun p hp => ?_, fun p hp e => hne p hp (List.mem_singleton.mp e), hJ'⟩
      rcases List.mem_append.mp hp with hp | hp
      · rw [hone p hp]; exact N' _ (.head _)
      · exact N' p (.tail _ hp)
    cases f with
    | ret v => exact .ret q
    | brk => exact .brk q
    | next => exact .next (fin q)
    | cont => exact .cont (fin q)
  · rintro h' tk m' news' F' N' _ hJ
    exact done m' news' h' tk hJ F' N'

theorem lp_range {r : Addr} {a₀ b₀ : Int} {t₀ u₀ v₀ : Tok} {n : Nat} {m₀ : Str → Option Value} {news : List (Addr × Obj)} (J : Nat → (Str → Option Value) → List (Addr × Obj) → Prop)
    (hh : A.handled = none) (hr : IsRange s.heap r a₀ b₀ 1 t₀ u₀ v₀) (hsmall : Builtin.Range.small a₀ b₀ 1 = true) (hn : Builtin.Range.rangeSize a₀ b₀ 1 = (n : Int))
    (F : Fr h₀ env.locals s.heap m₀) (N : News h₀ env.locals s.heap news) (hj : J 0 m₀ news)
    (turn : ∀ i t m₁ news₁ h tk I oI, i < n → J i m₁ news₁ → (∀ p ∈ news₁, p.1 ≠ I) → Fr h₀ env.locals h (fun y => if y = x then some (.int (a₀ + (i : Int)) t) else m₁ y) → News h₀ env.locals h ((I, oI) :: news₁) →
      wpAny (model prog w) A (execs body env) (TurnEnd h₀ env.locals I oI (J (i + 1)) s Q) E { s with heap := h, toks := tk })
    (done : ∀ m₁ news₁ h tk, J n m₁ news₁ → Fr h₀ env.locals h m₁ → News h₀ env.locals h news₁ → Q .next { s with heap := h, toks := tk }) :
    wpAny (model prog w) A (pyIter (.ref r)) (fun it s₂ => LoopAtV prog w A h₀ env x body Q E it s₂) E s := by
  refine wpAny_pyIter_range hr hsmall ?_
  have W := Walks.range (prog := prog) (w := w) hh s.heap.objs.size a₀ 1 n
  refine lp_gen J W ?_ (next_is_new F) (fun p hp e => absurd (Heap.lt_size (N p hp).1) (e ▸ Nat.lt_irrefl _)) (fun b hb _ => List.mem_singleton.mp hb) (fun i h st => ⟨_, st⟩)
    (by show IsRangeIter _ _ _ _ _; rw [hn]; simpa using Heap.get?_push_size _ rfl) (F.push _) (fun p hp => ⟨Heap.get?_push_of_some _ (N p hp).1, (N p hp).2⟩) hj ?_ ?_
  · intro hm
    exact absurd F.ns.lt ((List.mem_singleton.mp hm) ▸ Nat.lt_irrefl _)
  · rintro i v m₁ news₁ h tk oI hi ⟨t, rfl⟩ hJ hne F₁ N₁
    rw [Int.mul_one] at F₁
    exact turn i t m₁ news₁ h tk _ oI hi hJ hne F₁ N₁
  · exact done

theorem lp_list {l : Addr} {vs : List Value} {m₀ : Str → Option Value} {news : List (Addr × Obj)} (J : Nat → (Str → Option Value) → List (Addr × Obj) → Prop)
    (hh : A.handled = none) (hl : h₀.IsList l vs.toArray)
    (F : Fr h₀ env.locals s.heap m₀) (N : News h₀ env.locals s.heap news) (hj : J 0 m₀ news)
    (turn : ∀ i v m₁ news₁ h tk I oI, vs[i]? = some v → J i m₁ news₁ → (∀ p ∈ news₁, p.1 ≠ I) → Fr h₀ env.locals h (fun y => if y = x then some v else m₁ y) → News h₀ env.locals h ((I, oI) :: news₁) →
      wpAny (model prog w) A (execs body env) (TurnEnd h₀ env.locals I oI (J (i + 1)) s Q) E { s with heap := h, toks := tk })
    (done : ∀ m₁ news₁ h tk, J vs.length m₁ news₁ → Fr h₀ env.locals h m₁ → News h₀ env.locals h news₁ → Q .next { s with heap := h, toks := tk }) :
    wpAny (model prog w) A (pyIter (.ref l)) (fun it s₂ => LoopAtV prog w A h₀ env x body Q E it s₂) E s := by
  have hls : s.heap.IsList l vs.toArray := hl.at fun o e => F.keep l o e
  obtain ⟨ol, hol, _⟩ := id hl
  have hlt : l < h₀.objs.size := Heap.lt_size hol
  have hne : l ≠ s.heap.objs.size := Nat.ne_of_lt (Nat.lt_trans (Nat.lt_of_lt_of_le hlt F.above) F.ns.lt)
  refine wpAny_pyIter_list hls ?_
  have W := Walks.list (prog := prog) (w := w) hh s.heap.objs.size l hne vs.toArray
  refine lp_gen J W ?_ (next_is_new F) (fun p hp e => absurd (Heap.lt_size (N p hp).1) (e ▸ Nat.lt_irrefl _)) ?_ (fun i h st => let ⟨o, ho, _⟩ := st.1; ⟨o, ho⟩)
    ⟨⟨_, Heap.get?_push_size _ rfl, rfl, rfl⟩, hls.at fun o e => Heap.get?_push_of_some _ e⟩ (F.push _) (fun p hp => ⟨Heap.get?_push_of_some _ (N p hp).1, (N p hp).2⟩) hj ?_ ?_
  · intro hm
    rcases List.mem_cons.mp hm with e | hm
    · exact absurd F.ns.lt (e ▸ Nat.lt_irrefl _)
    · exact absurd (Nat.lt_of_lt_of_le hlt F.above) ((List.mem_singleton.mp hm) ▸ Nat.lt_irrefl _)
  · intro b hb hn
    rcases List.mem_cons.mp hb with e | hb
    · exact e
    · rw [List.mem_singleton.mp hb, hol] at hn; cases hn
  · rintro i v m₁ news₁ h tk oI hi hP hJ hne F₁ N₁
    exact turn i v m₁ news₁ h tk _ oI (by simpa using hP) hJ hne F₁ N₁
  · intro m₁ news₁ h tk hJ
    exact done m₁ news₁ h tk (by simpa using hJ)

theorem lp_text {y : Str} {ty : Tok} {m₀ : Str → Option Value} {news : List (Addr × Obj)} (J : Nat → (Str → Option Value) → List (Addr × Obj) → Prop)
    (hh : A.handled = none) (ha : y.cps.all (· < 128) = true)
    (F : Fr h₀ env.locals s.heap m₀) (N : News h₀ env.locals s.heap news) (hj : J 0 m₀ news)
    (turn : ∀ i c t m₁ news₁ h tk I oI, y.cps[i]? = some c → J i m₁ news₁ → (∀ p ∈ news₁, p.1 ≠ I) → Fr h₀ env.locals h (fun z => if z = x then some (.str ⟨#[c]⟩ t) else m₁ z) → News h₀ env.locals h ((I, oI) :: news₁) →
      wpAny (model prog w) A (execs body env) (TurnEnd h₀ env.locals I oI (J (i + 1)) s Q) E { s with heap := h, toks := tk })
    (done : ∀ m₁ news₁ h tk, J y.cps.size m₁ news₁ → Fr h₀ env.locals h m₁ → News h₀ env.locals h news₁ → Q .next { s with heap := h, toks := tk }) :
    wpAny (model prog w) A (pyIter (.str y ty)) (fun it s₂ => LoopAtV prog w A h₀ env x body Q E it s₂) E s := by
  refine wpAny_pyIter_ascii ha ?_
  have W := Walks.strAscii (prog := prog) (w := w) hh s.heap.objs.size y ty
  refine lp_gen J W ?_ (next_is_new F) (fun p hp e => absurd (Heap.lt_size (N p hp).1) (e ▸ Nat.lt_irrefl _)) (fun b hb _ => List.mem_singleton.mp hb) (fun i h st => let ⟨o, ho, _⟩ := st; ⟨o, ho⟩)
    ⟨_, Heap.get?_push_size _ rfl, rfl, rfl⟩ (F.push _) (fun p hp => ⟨Heap.get?_push_of_some _ (N p hp).1, (N p hp).2⟩) hj ?_ ?_
  · intro hm
    exact absurd F.ns.lt ((List.mem_singleton.mp hm) ▸ Nat.lt_irrefl _)
  · rintro i v m₁ news₁ h tk oI hi ⟨c, t, hc, rfl⟩ hJ hne F₁ N₁
    exact turn i c t m₁ news₁ h tk _ oI hc hJ hne F₁ N₁
  · exact done
end
end Mine
namespace Mine
/-- names that a map holds, written out ahead of it -/
def see : List (Str × Value) → (Str → Option Value) → Str → Option Value
  | [], u => u
  | (x, v) :: r, u => fun y => if y = x then some v else see r u y
theorem see_eq : ∀ (ps : List (Str × Value)) {m : Str → Option Value}, (∀ p ∈ ps, m p.1 = some p.2) → see ps m = m
  | [], _, _ => rfl
  | (x, v) :: r, m, h => by
    funext y
    show (if y = x then some v else see r m y) = m y
    by_cases e : y = x
    · rw [if_pos e, e]; exact (h (x, v) (.head _)).symm
    · rw [if_neg e, see_eq r fun q hq => h q (.tail _ hq)]
theorem fr_turn {h₀ h : Heap} {L : Addr} {m : Str → Option Value} {x : Str} {v : Value} (ps : List (Str × Value)) (F : Fr h₀ L h (fun y => if y = x then some v else m y)) (hp : ∀ p ∈ ps, m p.1 = some p.2) :
    Fr h₀ L h (fun y => if y = x then some v else see ps m y) := by rw [see_eq ps hp]; exact F
theorem fr_see {h₀ h : Heap} {L : Addr} {m : Str → Option Value} (ps : List (Str × Value)) (F : Fr h₀ L h m) (hp : ∀ p ∈ ps, m p.1 = some p.2) : Fr h₀ L h (see ps m) := by rw [see_eq ps hp]; exact F
theorem all1 {m : Str → Option Value} {p : Str × Value} (h : m p.1 = some p.2) : ∀ q ∈ [p], m q.1 = some q.2 := fun q hq => by rw [List.mem_singleton.mp hq]; exact h
theorem allc {m : Str → Option Value} {p : Str × Value} {r : List (Str × Value)} (h : m p.1 = some p.2) (hr : ∀ q ∈ r, m q.1 = some q.2) : ∀ q ∈ p :: r, m q.1 = some q.2 := fun q hq => by
  rcases List.mem_cons.mp hq with rfl | hq
  · exact h
  · exact hr q hq
theorem alln {m : Str → Option Value} : ∀ q ∈ ([] : List (Str × Value)), m q.1 = some q.2 := fun _ h => nomatch h
end Mine
namespace Mine
theorem for_fr {prog : Program} {w : World} {A : Around} {s : Shared} {name : Str} {scope : Scope} {L a : Addr} {cd : Value} {h₀ : Heap} {m : Str → Option Value} {Q : Flow → Shared → Prop} {x : Str} {px pos : Pos} {iter : Expr} {body : List Stmt}
    (F : Fr h₀ L s.heap m) (hx : (envOf name scope L a cd).kindOf x = some .local) (hk : scope.kind = .function)
    (h : wpAny (model prog w) A (eval iter (envOf name scope L a cd)) (fun xv s₁ => wpAny (model prog w) A (pyIter xv) (fun it s₂ => LoopAtV prog w A h₀ (envOf name scope L a cd) x body Q (fun _ _ => False) it s₂) (fun _ _ => False) s₁) (fun _ _ => False) s)
    (hs : ∀ x, foldedSetIterable iter (envOf name scope L a cd) x = pure x) :
    wpAny (model prog w) A (exec (.For (.Name x px) iter body [] pos) (envOf name scope L a cd)) Q (fun _ _ => False) s :=
  For_invV h₀ hx (by show (scope.kind == .class || (scope.kind == .module && L != mainGlobals)) = false; rw [hk]; rfl) h hs
end Mine
namespace Mine
theorem len_n {prog : Program} {w : World} {A : Around} {E : Value → Shared → Prop} {s : Shared} {l : Addr} {vs : List Value} {k : Nat} {Q : Value → Shared → Prop} (hl : s.heap.IsList l vs.toArray) (hk : vs.length = k) (hb : k ≤ 100000)
    (h : Q (.int (k : Int) (s.toks + 1)) { s with toks := s.toks + 1 + 1 }) : wpAny (model prog w) A (call (.builtin "len") [.ref l]) Q E s := by
  subst hk
  refine len_list hl (by simp only [List.size_toArray]; omega) ?_
  simpa using h
theorem tab_eq {c : Nat} (h : ((⟨#[c]⟩ : Str) == Str.ofString "\t") = true) : c = 9 := by
  have := beq_iff_eq.mp h
  rw [show Str.ofString "\t" = (⟨#[9]⟩ : Str) from by decide +kernel] at this
  simpa using this
theorem tab_ne {c : Nat} (h : ((⟨#[c]⟩ : Str) == Str.ofString "\t") = false) : c ≠ 9 := by
  rintro rfl
  rw [show Str.ofString "\t" = (⟨#[9]⟩ : Str) from by decide +kernel] at h
  simp at h
end Mine
namespace Mine
/-- an element's end, the ledger grown -/
def EltN (s : Shared) (h₀ : Heap) (L : Addr) (m : Str → Option Value) (I : Addr) (oI : Obj) (C : Addr) (oC : Obj) (D : Addr) (oD : Obj) (J : Value → List (Addr × Obj) → Prop) (y : Value) (s₂ : Shared) : Prop :=
  ∃ h' tk' nw', s₂ = { s with heap := h', toks := tk' } ∧ Fr h₀ L h' m ∧ News h₀ L h' ((I, oI) :: (C, oC) :: (D, oD) :: nw') ∧ LCg.Off3 I C D nw' ∧ J y nw'
open LCg in
theorem rest_inv {prog : Program} {w : World} {A : Around} {h₀ : Heap} {L : Addr} {m : Str → Option Value} {env : Env} {elt : Expr} {x : Str} {scope : Scope} {cl : List (Str × Addr)} {s : Shared} {S : List (Addr × Obj) → Prop} {P : Nat → Value → Prop} {Fin : List Value → List (Addr × Obj) → Prop} {n : Nat}
    (J : Nat → List Value → List (Addr × Obj) → Prop) (hS : ∀ i ys nw, J i ys nw → S nw)
    (step : ∀ i ys nw v I oI C oC D m₂ h tk, i < n → P i v → J i ys nw → NsObj oC m₂ → m₂ x = some v → Fr h₀ L h m → News h₀ L h ((I, oI) :: (C, oC) :: (D, lst ys) :: nw) → Off3 I C D nw → ((@Ne Nat I C) ∧ (@Ne Nat I D) ∧ (@Ne Nat C D)) →
      wpAny (model prog w) A (eval elt (compEnvC scope cl C env)) (EltN s h₀ L m I oI C oC D (lst ys) fun y => J (i + 1) (ys ++ [y])) (fun _ _ => False) { s with heap := h, toks := tk })
    (fin : ∀ ys nw, J n ys nw → Fin ys nw) : ∀ k i ys nw, i + k = n → J i ys nw → CompRest prog w A h₀ L m env elt x scope cl s S P Fin k i ys nw
  | 0, i, ys, nw, e, j => fin ys nw (by have : i = n := by omega
                                        exact this ▸ j)
  | k + 1, i, ys, nw, e, j => by
    intro v I oI C oC D m₂ h tk E' hP hC hx F N off ne
    refine wpAny_mono (step i ys nw v I oI C oC D m₂ h tk (by omega) hP j hC hx F N off ne) (fun y s₂ q => ?_) fun _ _ q => q.elim
    obtain ⟨h', tk', nw', rfl, F', N', off', j'⟩ := q
    exact ⟨h', tk', nw', rfl, F', N', off', hS _ _ _ j', rest_inv J hS step fin k (i + 1) _ nw' (by omega) j'⟩

/-- an element's end: all stands as it stood -/
def EltR (s : Shared) (h : Heap) (R : Value → Prop) (y : Value) (s₂ : Shared) : Prop := ∃ h' tk', s₂ = { s with heap := h', toks := tk' } ∧ h.StaysIn h' ∧ R y
/-- elements that change nothing: the ledger stays -/
theorem rest_pure {prog : Program} {w : World} {A : Around} {h₀ : Heap} {L : Addr} {m : Str → Option Value} {env : Env} {elt : Expr} {x : Str} {scope : Scope} {cl : List (Str × Addr)} {s : Shared} {S : List (Addr × Obj) → Prop} {P : Nat → Value → Prop} {Fin : List Value → List (Addr × Obj) → Prop} {n : Nat} {news : List (Addr × Obj)}
    (R : Nat → Value → Prop) (hS : S news)
    (step : ∀ i v I oI C oC D oD m₂ h tk, i < n → P i v → LCg.NsObj oC m₂ → m₂ x = some v → Fr h₀ L h m → News h₀ L h ((I, oI) :: (C, oC) :: (D, oD) :: news) →
      wpAny (model prog w) A (eval elt (compEnvC scope cl C env)) (EltR s h (R i)) (fun _ _ => False) { s with heap := h, toks := tk })
    (fin : ∀ ys, ys.length = n → (∀ j y, ys[j]? = some y → R j y) → Fin ys news) : LCg.CompRest prog w A h₀ L m env elt x scope cl s S P Fin n 0 [] news := by
  refine rest_inv (fun i ys nw => nw = news ∧ ys.length = i ∧ ∀ j y, ys[j]? = some y → R j y) (fun i ys nw j => j.1 ▸ hS) ?_ ?_ n 0 [] news (Nat.zero_add _) ⟨rfl, rfl, fun j y q => by simp at q⟩
  · rintro i ys nw v I oI C oC D m₂ h tk hi hP ⟨rfl, hl, hr⟩ hC hx F N off ne
    refine wpAny_mono (step i v I oI C oC D _ m₂ h tk hi hP hC hx F N) (fun y s₂ q => ?_) fun _ _ q => q
    obtain ⟨h', tk', rfl, st, r⟩ := q
    refine ⟨h', tk', nw, rfl, Fr.stay F st, News.stay N st, off, rfl, by simp [hl], fun j z hz => ?_⟩
    rcases Nat.lt_trichotomy j ys.length with q | q | q
    · exact hr j z (by rwa [List.getElem?_append_left q] at hz)
    · subst q; simp at hz; subst hz; exact hl ▸ r
    · have : (ys ++ [y])[j]? = none := List.getElem?_eq_none (by simp; omega)
      rw [this] at hz; cases hz
  · rintro ys nw ⟨rfl, hl, hr⟩
    exact fin ys hl hr
end Mine
namespace Mine
theorem News.pick {h₀ h : Heap} {L : Addr} {l l' : List (Addr × Obj)} (N : News h₀ L h l) (hs : ∀ p ∈ l', p ∈ l) : News h₀ L h l' := fun p hp => N p (hs p hp)
theorem sub_nil {l : List (Addr × Obj)} : ∀ p ∈ ([] : List (Addr × Obj)), p ∈ l := fun _ h => nomatch h
theorem sub_cons {l l' : List (Addr × Obj)} {p : Addr × Obj} (h : p ∈ l) (r : ∀ q ∈ l', q ∈ l) : ∀ q ∈ p :: l', q ∈ l := fun q hq => by
  rcases List.mem_cons.mp hq with rfl | hq
  · exact h
  · exact r q hq
theorem ne_nil {I : Addr} : ∀ p ∈ ([] : List (Addr × Obj)), p.1 ≠ I := fun _ h => nomatch h
theorem ne_cons {I : Addr} {p : Addr × Obj} {l : List (Addr × Obj)} (h : @Ne Nat p.1 I) (r : ∀ q ∈ l, q.1 ≠ I) : ∀ q ∈ p :: l, q.1 ≠ I := fun q hq => by
  rcases List.mem_cons.mp hq with rfl | hq
  · exact h
  · exact r q hq

/-- the end of a turn that may break -/
def TurnEndB (h₀ : Heap) (L I : Addr) (oI : Obj) (J : (Str → Option Value) → List (Addr × Obj) → Prop) (Jend : (Str → Option Value) → List (Addr × Obj) → Prop) (s : Shared) (Q : Flow → Shared → Prop) (f : Flow) (s₂ : Shared) : Prop :=
  match f with
  | .ret v => Q (.ret v) s₂
  | .brk => ∃ h' tk m' news', s₂ = { s with heap := h', toks := tk } ∧ Fr h₀ L h' m' ∧ News h₀ L h' news' ∧ Jend m' news'
  | _ => ∃ h' tk m' news', s₂ = { s with heap := h', toks := tk } ∧ Fr h₀ L h' m' ∧ News h₀ L h' ((I, oI) :: news') ∧ (∀ p ∈ news', p.1 ≠ I) ∧ J m' news'
theorem TurnEndB.next {h₀ h' : Heap} {L I : Addr} {oI : Obj} {J Jend : (Str → Option Value) → List (Addr × Obj) → Prop} {s : Shared} {Q : Flow → Shared → Prop} {tk : Nat} {m' : Str → Option Value} {news' : List (Addr × Obj)}
    (F : Fr h₀ L h' m') (N : News h₀ L h' ((I, oI) :: news')) (hne : ∀ p ∈ news', p.1 ≠ I) (hJ : J m' news') : TurnEndB h₀ L I oI J Jend s Q .next { s with heap := h', toks := tk } :=
  ⟨h', tk, m', news', rfl, F, N, hne, hJ⟩
theorem TurnEndB.brk {h₀ h' : Heap} {L I : Addr} {oI : Obj} {J Jend : (Str → Option Value) → List (Addr × Obj) → Prop} {s : Shared} {Q : Flow → Shared → Prop} {tk : Nat} {m' : Str → Option Value} {news' : List (Addr × Obj)}
    (F : Fr h₀ L h' m') (N : News h₀ L h' news') (hJ : Jend m' news') : TurnEndB h₀ L I oI J Jend s Q .brk { s with heap := h', toks := tk } :=
  ⟨h', tk, m', news', rfl, F, N, hJ⟩

section
variable {prog : Program} {w : World} {A : Around} {E : Value → Shared → Prop} {s : Shared} {env : Env} {h₀ : Heap} {x : Str} {body : List Stmt} {Q : Flow → Shared → Prop}
theorem lp_textB {y : Str} {ty : Tok} {m₀ : Str → Option Value} {news : List (Addr × Obj)} (J : Nat → (Str → Option Value) → List (Addr × Obj) → Prop) (Jend : (Str → Option Value) → List (Addr × Obj) → Prop)
    (hh : A.handled = none) (ha : y.cps.all (· < 128) = true)
    (F : Fr h₀ env.locals s.heap m₀) (N : News h₀ env.locals s.heap news) (hj : J 0 m₀ news)
    (turn : ∀ i c t m₁ news₁ h tk I oI, y.cps[i]? = some c → J i m₁ news₁ → (∀ p ∈ news₁, p.1 ≠ I) → Fr h₀ env.locals h (fun z => if z = x then some (.str ⟨#[c]⟩ t) else m₁ z) → News h₀ env.locals h ((I, oI) :: news₁) →
      wpAny (model prog w) A (execs body env) (TurnEndB h₀ env.locals I oI (J (i + 1)) Jend s Q) E { s with heap := h, toks := tk })
    (hend : ∀ m₁ news₁, J y.cps.size m₁ news₁ → Jend m₁ news₁)
    (fin : ∀ m₁ news₁ h tk, Jend m₁ news₁ → Fr h₀ env.locals h m₁ → News h₀ env.locals h news₁ → Q .next { s with heap := h, toks := tk }) :
    wpAny (model prog w) A (pyIter (.str y ty)) (fun it s₂ => LoopAtV prog w A h₀ env x body Q E it s₂) E s := by
  refine lp_text J hh ha F N hj (fun i c t m₁ news₁ h tk I oI h1 h2 h3 h4 h5 => wpAny_mono (turn i c t m₁ news₁ h tk I oI h1 h2 h3 h4 h5) (fun f s₂ q => ?_) fun _ _ e => e) fun m₁ news₁ h tk hJ F' N' => fin m₁ news₁ h tk (hend _ _ hJ) F' N'
  cases f with
  | ret v => exact q
  | next => exact q
  | cont => exact q
  | brk => obtain ⟨h', tk', m', news', rfl, F', N', j⟩ := q; exact fin _ _ _ _ j F' N'
end
theorem blank_eq {c : Nat} (h : ((⟨#[c]⟩ : Str) == Str.ofString " ") = true) : c = 32 := by
  have := beq_iff_eq.mp h
  rw [show Str.ofString " " = (⟨#[32]⟩ : Str) from by decide +kernel] at this
  simpa using this
theorem blank_ne {c : Nat} (h : ((⟨#[c]⟩ : Str) == Str.ofString " ") = false) : c ≠ 32 := by
  rintro rfl
  rw [show Str.ofString " " = (⟨#[32]⟩ : Str) from by decide +kernel] at h
  simp at h
end Mine
namespace Mine
theorem len_t {prog : Program} {w : World} {A : Around} {E : Value → Shared → Prop} {s : Shared} {l : Addr} {vs : List Value} {k : Nat} {Q : Value → Shared → Prop} (hl : IsTup s.heap l vs.toArray) (hk : vs.length = k) (hb : k ≤ 100000)
    (h : Q (.int (k : Int) (s.toks + 1)) { s with toks := s.toks + 1 + 1 }) : wpAny (model prog w) A (call (.builtin "len") [.ref l]) Q E s := by
  subst hk
  refine len_tuple hl (by simp only [List.size_toArray]; omega) ?_
  simpa using h
end Mine
end part_Loops
section part_Defs
open PySem PySem.W PySem.Calls PyProof.Rows
namespace Mine
/-- one turn of _gen_crc, as the model reckons it -/
def genStep (c : Int) : Int := if Builtin.bitAnd c 1 ≠ 0 then Builtin.bitXor (c.fdiv (2 ^ Int.toNat 1)) 3988292384 else c.fdiv (2 ^ Int.toNat 1)
def genIt (c : Int) : Nat → Int
  | 0 => c
  | n + 1 => genStep (genIt c n)
def gen (c : Int) : Int := genIt c 8
/-- one turn of _law_backward -/
def backStep (c : Int) : Int := if c.fdiv (2 ^ Int.toNat 31) > 0 then 2 * Builtin.bitXor c 3988292384 + 1 else 2 * c
def backIt (c : Int) : Nat → Int
  | 0 => c
  | n + 1 => backStep (backIt c n)
def back (c o : Int) : Int := Builtin.bitXor (backIt c 8) o
end Mine
namespace Mine
def fwd (ns : List Int) : Int := ns.foldl (fun r o => gen (Builtin.bitXor r o)) 4294967295
theorem fwd_snoc (ns : List Int) (n : Int) : fwd (ns ++ [n]) = gen (Builtin.bitXor (fwd ns) n) := by simp [fwd]
/-- _law_column's loop -/
def colLoop : Nat → Int → Int → Int
  | 0, _, c => c
  | k + 1, r, c => if r ≠ 4294967295 ∧ c < 40 then colLoop k (back r 32) (c + 1) else c
def col (r : Int) : Int := colLoop 40 r 0
def Stop (P : Prop) : Prop := P
theorem stop {P : Prop} (h : Stop P) : P := h
end Mine
namespace Mine
theorem colLoop_stop {k : Nat} {r c : Int} (h : ¬ (r ≠ 4294967295 ∧ c < 40)) : colLoop k r c = c := by
  cases k with
  | zero => rfl
  | succ k => rw [colLoop, if_neg h]
theorem colLoop_go {k : Nat} {r : Int} (h : r ≠ 4294967295) (hk : (k : Int) < 40) : colLoop (40 - k) r (k : Int) = colLoop (40 - (k + 1)) (back r 32) ((k + 1 : Nat) : Int) := by
  have e : 40 - k = (40 - (k + 1)) + 1 := by omega
  rw [e, colLoop, if_pos ⟨h, hk⟩]; rfl
end Mine
namespace Mine
/-- _law_printed: how many blanks stand behind one more sign -/
def prStep (sz : Nat) (n : Nat) (c : Nat) : Nat := if c = 9 then n + 1 + (sz - (n + 1) % sz) % sz else n + 1
def prLen (sz : Nat) (cs : List Nat) : Nat := cs.foldl (prStep sz) 0
end Mine
namespace Mine
def upTo (sz k : Nat) : Nat := k + (sz - k % sz) % sz
theorem upTo_stop {sz k : Nat} (h : k % sz = 0) : upTo sz k = k := by simp [upTo, h]
theorem upTo_more {sz k : Nat} (hz : 0 < sz) (h : 0 < k % sz) : k < upTo sz k := by
  have h1 := Nat.mod_lt k hz
  have h2 : (sz - k % sz) % sz = sz - k % sz := Nat.mod_eq_of_lt (by omega)
  unfold upTo; omega
theorem upTo_succ {sz k : Nat} (hz : 0 < sz) (h : 0 < k % sz) : upTo sz (k + 1) = upTo sz k := by
  have h1 := Nat.mod_lt k hz
  have h2 : (sz - k % sz) % sz = sz - k % sz := Nat.mod_eq_of_lt (by omega)
  have h3 : (k + 1) % sz = (k % sz + 1) % sz := by rw [Nat.mod_add_mod]
  unfold upTo
  rw [h2, h3]
  by_cases h4 : k % sz + 1 = sz
  · rw [h4, Nat.mod_self, Nat.sub_zero, Nat.mod_self]; omega
  · rw [Nat.mod_eq_of_lt (show k % sz + 1 < sz by omega), Nat.mod_eq_of_lt (show sz - (k % sz + 1) < sz by omega)]; omega
theorem upTo_le {sz k : Nat} (hz : 0 < sz) : upTo sz k < k + sz := by
  have := Nat.mod_lt (sz - k % sz) hz
  unfold upTo; omega
theorem prStep_tab {sz n : Nat} : prStep sz n 9 = upTo sz (n + 1) := by simp [prStep, upTo]
theorem prStep_not {sz n c : Nat} (h : c ≠ 9) : prStep sz n c = n + 1 := by simp [prStep, h]
theorem prStep_le {sz n c : Nat} (hz : 0 < sz) : prStep sz n c ≤ n + sz := by
  by_cases h : c = 9
  · subst h; rw [prStep_tab]; have := upTo_le (k := n + 1) hz; omega
  · rw [prStep_not h]; omega
theorem prLen_snoc {sz : Nat} (cs : List Nat) (c : Nat) : prLen sz (cs ++ [c]) = prStep sz (prLen sz cs) c := by simp [prLen]
theorem take_one_more {α : Type} {l : List α} {i : Nat} {c : α} (h : l[i]? = some c) : l.take (i + 1) = l.take i ++ [c] := by rw [List.take_add_one, h]; rfl
end Mine
namespace Mine
theorem fmod_nat (k z : Nat) : (k : Int).fmod (z : Int) = ((k % z : Nat) : Int) := by
  rw [Int.fmod_eq_emod_of_nonneg _ (Int.natCast_nonneg _), Int.natCast_emod]
theorem fdiv_nat (k z : Nat) : (k : Int).fdiv (z : Int) = ((k / z : Nat) : Int) := by
  rw [Int.fdiv_eq_ediv_of_nonneg _ (Int.natCast_nonneg _), Int.natCast_ediv]
end Mine
namespace Mine
/-- a lead: k tabs, then three runs of blanks with tabs between -/
def lead (k a b c : Nat) : List Nat := List.replicate k 9 ++ (List.replicate a 32 ++ 9 :: (List.replicate b 32 ++ 9 :: List.replicate c 32))
def leadStr (k a b c : Nat) : Str := ⟨(lead k a b c).toArray⟩
end Mine
namespace Mine
/-- Whitespace.__init__: one more tab behind b blanks -/
def bump (cnt : List Nat) (b : Nat) : List Nat :=
  let cnt' := if cnt.length ≤ b then cnt ++ List.replicate (b - cnt.length + 1) 0 else cnt
  cnt'.set b (cnt'.getD b 0 + 1)
structure WS where
  cnt : List Nat
  b : Nat
  n : Nat
  nt : Nat
def wsRun : List Nat → WS → WS
  | [], st => st
  | c :: r, st => if c = 32 then wsRun r ⟨st.cnt, st.b + 1, st.n + 1, st.nt⟩ else if c = 9 then wsRun r ⟨bump st.cnt st.b, 0, st.n + 1, st.nt + 1⟩ else st
def wsOf (cs : List Nat) : WS := wsRun cs ⟨[], 0, 0, 0⟩
end Mine
namespace Mine
theorem flat_zero (k : Nat) : (List.replicate k [(0 : Int)]).flatten = List.replicate k 0 := by
  induction k with
  | zero => rfl
  | succ k ih => rw [List.replicate_succ, List.flatten_cons, ih]; rfl
theorem map_set_bump (l : List Nat) (b : Nat) : (l.map fun (c : Nat) => (c : Int)).set b ((l.map fun (c : Nat) => (c : Int)).getD b 0 + 1) = (l.set b (l.getD b 0 + 1)).map fun (c : Nat) => (c : Int) := by
  rw [List.map_set]
  congr 1
  simp only [List.getD_eq_getElem?_getD, List.getElem?_map]
  cases l[b]? <;> simp
theorem bump_in {cnt : List Nat} {b : Nat} (h : ¬ ((cnt.length : Int) ≤ (b : Int))) :
    (cnt.map fun (c : Nat) => (c : Int)).set (b : Int).toNat ((cnt.map fun (c : Nat) => (c : Int)).getD (b : Int).toNat 0 + 1) = (bump cnt b).map fun (c : Nat) => (c : Int) := by
  rw [Int.toNat_natCast, map_set_bump]
  unfold bump
  rw [if_neg (by omega)]
theorem bump_ext {cnt : List Nat} {b : Nat} (h : (cnt.length : Int) ≤ (b : Int)) :
    ((cnt.map fun (c : Nat) => (c : Int)) ++ (List.replicate ((b : Int) - (cnt.length : Int) + 1).toNat [(0 : Int)]).flatten).set (b : Int).toNat (((cnt.map fun (c : Nat) => (c : Int)) ++ (List.replicate ((b : Int) - (cnt.length : Int) + 1).toNat [(0 : Int)]).flatten).getD (b : Int).toNat 0 + 1)
      = (bump cnt b).map fun (c : Nat) => (c : Int) := by
  have e : ((cnt.map fun (c : Nat) => (c : Int)) ++ (List.replicate ((b : Int) - (cnt.length : Int) + 1).toNat [(0 : Int)]).flatten) = (cnt ++ List.replicate (b - cnt.length + 1) 0).map fun (c : Nat) => (c : Int) := by
    rw [flat_zero, List.map_append, List.map_replicate]
    congr 2
    omega
  rw [e, Int.toNat_natCast, map_set_bump]
  unfold bump
  rw [if_pos (by omega)]
theorem bump_len (cnt : List Nat) (b : Nat) : (bump cnt b).length ≤ max cnt.length (b + 1) := by
  unfold bump
  split <;> simp <;> omega
theorem drop_at {α : Type} {l : List α} {i : Nat} {c : α} (h : l[i]? = some c) : l.drop i = c :: l.drop (i + 1) := by
  obtain ⟨hi, rfl⟩ := List.getElem?_eq_some_iff.mp h
  exact List.drop_eq_getElem_cons hi
end Mine
namespace Mine
/-- the dict of a Whitespace -/
def wsEs (P : Params) (k1 k2 k3 k4 k5 : Tok) (raw n nt norm sim : Value) : List DictEntry :=
  [⟨PyData.keyHash P (Str.ofString "raw"), .str (Str.ofString "raw") k1, raw⟩, ⟨PyData.keyHash P (Str.ofString "n"), .str (Str.ofString "n") k2, n⟩, ⟨PyData.keyHash P (Str.ofString "nt"), .str (Str.ofString "nt") k3, nt⟩,
   ⟨PyData.keyHash P (Str.ofString "norm"), .str (Str.ofString "norm") k4, norm⟩, ⟨PyData.keyHash P (Str.ofString "is_simple"), .str (Str.ofString "is_simple") k5, sim⟩]
/-- at x stands a Whitespace of what st says -/
def WsAt (P : Params) (h : Heap) (x : Addr) (st : WS) : Prop :=
  ∃ dx T T2 cvs k1 k2 k3 k4 k5 tb tn tt raw, h.get? x = some (instObj 83 dx) ∧ h.get? dx = some (dictOf (wsEs P k1 k2 k3 k4 k5 raw (.int (st.n : Int) tn) (.int (st.nt : Int) tt) (.ref T) (.bool (decide ((st.cnt.length : Int) ≤ 1)))) 5) ∧
    IsTup h T #[.ref T2, .int (st.b : Int) tb] ∧ IsTup h T2 cvs.toArray ∧ IntsAre cvs (st.cnt.map fun (c : Nat) => (c : Int)) ∧ st.cnt.length ≤ 100
theorem WsAt.keeps {P : Params} {h h' : Heap} {x : Addr} {st : WS} (W : WsAt P h x st) (k : h.StaysIn h') : WsAt P h' x st := by
  obtain ⟨dx, T, T2, cvs, k1, k2, k3, k4, k5, tb, tn, tt, raw, e1, e2, t1, t2, r⟩ := W
  exact ⟨dx, T, T2, cvs, k1, k2, k3, k4, k5, tb, tn, tt, raw, k _ _ e1, k _ _ e2, t1.keeps k, t2.keeps k, r⟩
end Mine
namespace Mine
theorem ws_inst {h₀ h : Heap} {L x dx : Addr} {m : Str → Option Value} {es : List DictEntry} {n : Nat} (F : Fr h₀ L h m) (e1 : h₀.get? x = some (instObj 83 dx)) (e2 : h₀.get? dx = some (dictOf es n)) : InstAt h x (instObj 83 dx) 83 (some (dictOf es n)) :=
  ⟨F.keep _ _ e1, rfl, rfl, F.keep _ _ e2⟩
def longest (st : WS) : Int := max ((st.cnt.length : Int) - 1) (st.b : Int)
/-- indent_level's sum over the first k places from ts on -/
def ilSum (cnt : List Nat) (ts : Nat) : Nat → Nat
  | 0 => 0
  | k + 1 => ilSum cnt ts k + (ts + k) / ts * cnt.getD (ts + k) 0
def level (st : WS) (ts : Nat) : Nat := st.b + ts * (ilSum st.cnt ts (st.cnt.length - ts) + st.nt)
end Mine
end part_Defs
section part_C1
open PySem PySem.W PySem.Calls PyProof.Rows
set_option Elab.async false
set_option maxRecDepth 100000
set_option maxHeartbeats 4000000
namespace Mine
theorem off_C1 : True := by
  w_top off
  trivial

theorem gen_call {w : World} {A : Around} {s : Shared} {p : Program} {loose : List Str} {mean : ExcName → Option Value} {mg mb : Str → Option Value} {c : Int} {tk : Tok}
    (X : (Mine.hd.heap_39 w.params).In s.heap) (T : Top p loose mean mg mb s.heap) (hh : A.handled = none) (hd : A.depth + 1 < recursionLimit) :
    codeAny (model Challenge.rw_mr0203_01.row.prog w) A (.call (.ref 21) ⟨[.int c tk], []⟩) (Ret s fun v _ => ∃ t, v = .int (gen c) t) s := by
  revert X
  k_fill
  intro X
  k_dflt (refine' enterK (binds := [(Str.ofString "crc", .int c tk)]) X T ?k1 ?k2 ?k3 ?k4 ?k5 ?k6 ?k7 ?k8 ?k9 ?_; (case k1 => k_is); (case k2 => k_is); (case k3 => omega); (case k4 => exact BindsTo.of_eq rfl); (case k5 => exact locs rfl); (case k6 => exact rfl); (case k7 => exact rfl); (case k8 => exact rfl); (case k9 => decide))
  intro L h₁ tk₁ F
  have N : News s.heap L h₁ [] := News.nil
  k_steps
  rename_i h' tk' t1 u1 v1 hr F' N' _
  refine lp_range (n := 8) (fun i m news => news = [] ∧ ∃ t, m (Str.ofString "crc") = some (.int (genIt c i) t)) hh hr (by decide) (by decide) F' N' ⟨rfl, _, rfl⟩ ?_ ?_
  · rintro i t m₁ news₁ h tk2 I oI hi ⟨rfl, t3, hm⟩ hne F₁ N₁
    clear N' F'
    replace F₁ : Fr s.heap L h _ := fr_turn [(Str.ofString "crc", .int (genIt c i) t3)] F₁ (all1 hm)
    replace N₁ : News s.heap L h _ := N₁
    k_steps
    · rename_i hc _ F₂ N₂
      exact TurnEnd.next F₂ N₂ (fun _ h => nomatch h) ⟨rfl, _, by rw [genIt, genStep, if_pos hc]; rfl⟩
    · rename_i hc _ F₂ N₂
      exact TurnEnd.next F₂ N₂ (fun _ h => nomatch h) ⟨rfl, _, by rw [genIt, genStep, if_neg (fun q => q hc)]; rfl⟩
  · rintro m₁ news₁ h tk2 ⟨rfl, t3, hm⟩ F₁ N₁
    clear N' F'
    replace F₁ : Fr s.heap L h _ := fr_see [(Str.ofString "crc", .int (genIt c 8) t3)] F₁ (all1 hm)
    replace N₁ : News s.heap L h _ := N₁
    k_steps
    exact ⟨_, _, _, rfl, rfl, F₁.keep, _, rfl⟩

theorem back_call {w : World} {A : Around} {s : Shared} {p : Program} {loose : List Str} {mean : ExcName → Option Value} {mg mb : Str → Option Value} {c o : Int} {tk to : Tok}
    (X : (Mine.hd.heap_39 w.params).In s.heap) (T : Top p loose mean mg mb s.heap) (hh : A.handled = none) (hd : A.depth + 1 < recursionLimit) :
    codeAny (model Challenge.rw_mr0203_01.row.prog w) A (.call (.ref 108) ⟨[.int c tk, .int o to], []⟩) (Ret s fun v _ => ∃ t, v = .int (back c o) t) s := by
  revert X
  k_fill
  intro X
  k_dflt (refine' enterK (binds := [(Str.ofString "register", .int c tk), (Str.ofString "octet", .int o to)]) X T ?k1 ?k2 ?k3 ?k4 ?k5 ?k6 ?k7 ?k8 ?k9 ?_; (case k1 => k_is); (case k2 => k_is); (case k3 => omega); (case k4 => exact BindsTo.of_eq rfl); (case k5 => exact locs rfl); (case k6 => exact rfl); (case k7 => exact rfl); (case k8 => exact rfl); (case k9 => decide))
  intro L h₁ tk₁ F
  have N : News s.heap L h₁ [] := News.nil
  k_steps
  rename_i h' tk' t1 u1 v1 hr F' N' _
  refine lp_range (n := 8) (fun i m news => news = [] ∧ m (Str.ofString "octet") = some (.int o to) ∧ ∃ t, m (Str.ofString "register") = some (.int (backIt c i) t)) hh hr (by decide) (by decide) F' N' ⟨rfl, rfl, _, rfl⟩ ?_ ?_
  · rintro i t m₁ news₁ h tk2 I oI hi ⟨rfl, ho, t3, hm⟩ hne F₁ N₁
    clear N' F'
    replace F₁ : Fr s.heap L h _ := fr_turn [(Str.ofString "register", .int (backIt c i) t3), (Str.ofString "octet", .int o to)] F₁ (allc hm (all1 ho))
    replace N₁ : News s.heap L h _ := N₁
    k_steps
    · rename_i hc _ F₂ N₂
      exact TurnEnd.next F₂ N₂ (fun _ h => nomatch h) ⟨rfl, rfl, _, by rw [backIt, backStep, if_pos hc]; rfl⟩
    · rename_i hc _ F₂ N₂
      exact TurnEnd.next F₂ N₂ (fun _ h => nomatch h) ⟨rfl, rfl, _, by rw [backIt, backStep, if_neg hc]; rfl⟩
  · rintro m₁ news₁ h tk2 ⟨rfl, ho, t3, hm⟩ F₁ N₁
    clear N' F'
    replace F₁ : Fr s.heap L h _ := fr_see [(Str.ofString "register", .int (backIt c 8) t3), (Str.ofString "octet", .int o to)] F₁ (allc hm (all1 ho))
    replace N₁ : News s.heap L h _ := N₁
    k_steps
    exact ⟨_, _, _, rfl, rfl, F₁.keep, _, rfl⟩
end Mine
end part_C1
section part_C2
open PySem PySem.W PySem.Calls PyProof.Rows
set_option Elab.async false
set_option maxRecDepth 100000
set_option maxHeartbeats 4000000
namespace Mine
theorem off_C2 : True := by
  w_top off
  trivial
local macro_rules | `(tactic| walk_at "call ref") => `(tactic| (k_here; k_dflt (refine' call_ret (gen_call ?x ?t ?hh ?d) ?_; (case x => k_in); (case t => exact Top.keeps (by k_asm) (Fr.keep (by k_asm))); (case hh => assumption); (case d => (simp only [depth_deeper]; omega))); intro v' h' tk' k' hv'; obtain ⟨t', hv''⟩ := hv'; subst hv''; have F' := Fr.stay (by k_asm) k'; have N' := News.stay (by k_asm) k'; (try k_sweep)))
local macro_rules | `(tactic| walk_at "call ref") => `(tactic| (k_here; k_dflt (refine' call_ret (back_call ?x ?t ?hh ?d) ?_; (case x => k_in); (case t => exact Top.keeps (by k_asm) (Fr.keep (by k_asm))); (case hh => assumption); (case d => (simp only [depth_deeper]; omega))); intro v' h' tk' k' hv'; obtain ⟨t', hv''⟩ := hv'; subst hv''; have F' := Fr.stay (by k_asm) k'; have N' := News.stay (by k_asm) k'; (try k_sweep)))
local macro_rules | `(tactic| walk_at "exec While BoolOp cons nil") => `(tactic| refine stop ?_)

theorem fwd_call {w : World} {A : Around} {s : Shared} {p : Program} {loose : List Str} {mean : ExcName → Option Value} {mg mb : Str → Option Value} {l : Addr} {vs : List Value} {ns : List Int}
    (X : (Mine.hd.heap_39 w.params).In s.heap) (T : Top p loose mean mg mb s.heap) (hh : A.handled = none) (hd : A.depth + 2 < recursionLimit) (hl : s.heap.IsList l vs.toArray) (hi : IntsAre vs ns) :
    codeAny (model Challenge.rw_mr0203_01.row.prog w) A (.call (.ref 101) ⟨[.ref l], []⟩) (Ret s fun v _ => ∃ t, v = .int (fwd ns) t) s := by
  revert X
  k_fill
  intro X
  k_dflt (refine' enterK (binds := [(Str.ofString "octets", .ref l)]) X T ?k1 ?k2 ?k3 ?k4 ?k5 ?k6 ?k7 ?k8 ?k9 ?_; (case k1 => k_is); (case k2 => k_is); (case k3 => omega); (case k4 => exact BindsTo.of_eq rfl); (case k5 => exact locs rfl); (case k6 => exact rfl); (case k7 => exact rfl); (case k8 => exact rfl); (case k9 => decide))
  intro L h₁ tk₁ F
  have N : News s.heap L h₁ [] := News.nil
  k_steps
  rename_i hi _ F' N'
  refine lp_list (fun i m news => news = [] ∧ ∃ t, m (Str.ofString "register") = some (.int (fwd (ns.take i)) t)) hh hl F' N' ⟨rfl, _, rfl⟩ ?_ ?_
  · rintro i v m₁ news₁ h tk2 I oI hv ⟨rfl, t3, hm⟩ hne F₁ N₁
    obtain ⟨n, t, rfl, hn⟩ := hi.at i v hv
    clear N' F'
    replace F₁ : Fr s.heap L h _ := fr_turn [(Str.ofString "register", .int (fwd (ns.take i)) t3)] F₁ (all1 hm)
    replace N₁ : News s.heap L h _ := N₁
    k_steps
    rename_i F₂ N₂
    exact TurnEnd.next F₂ N₂ (fun _ h => nomatch h) ⟨rfl, _, by rw [List.take_add_one, hn, Option.toList_some, fwd_snoc]; rfl⟩
  · rintro m₁ news₁ h tk2 ⟨rfl, t3, hm⟩ F₁ N₁
    rw [hi.length, List.take_length] at hm
    clear N' F'
    replace F₁ : Fr s.heap L h _ := fr_see [(Str.ofString "register", .int (fwd ns) t3)] F₁ (all1 hm)
    replace N₁ : News s.heap L h _ := N₁
    k_steps
    exact ⟨_, _, _, rfl, rfl, F₁.keep, _, rfl⟩

theorem col_call {w : World} {A : Around} {s : Shared} {p : Program} {loose : List Str} {mean : ExcName → Option Value} {mg mb : Str → Option Value} {c o : Int} {tk to : Tok}
    (X : (Mine.hd.heap_39 w.params).In s.heap) (T : Top p loose mean mg mb s.heap) (hh : A.handled = none) (hd : A.depth + 2 < recursionLimit) :
    codeAny (model Challenge.rw_mr0203_01.row.prog w) A (.call (.ref 115) ⟨[.int c tk, .int o to], []⟩) (Ret s fun v _ => ∃ t, v = .int (col (back c o)) t) s := by
  revert X
  k_fill
  intro X
  k_dflt (refine' enterK (binds := [(Str.ofString "register", .int c tk), (Str.ofString "octet", .int o to)]) X T ?k1 ?k2 ?k3 ?k4 ?k5 ?k6 ?k7 ?k8 ?k9 ?_; (case k1 => k_is); (case k2 => k_is); (case k3 => omega); (case k4 => exact BindsTo.of_eq rfl); (case k5 => exact locs rfl); (case k6 => exact rfl); (case k7 => exact rfl); (case k8 => exact rfl); (case k9 => decide))
  intro L h₁ tk₁ F
  have N : News s.heap L h₁ [] := News.nil
  k_steps
  unfold Stop
  rename_i F' N'
  refine While_inv (n₀ := 40) (fun n m news => news = [] ∧ ∃ k r t u, n = 40 - k ∧ k ≤ 40 ∧ colLoop (40 - k) r (k : Int) = col (back c o) ∧ m (Str.ofString "register") = some (.int r t) ∧ m (Str.ofString "column") = some (.int (k : Int) u)) F' N'
    ⟨rfl, 0, back c o, _, _, rfl, by omega, rfl, rfl, rfl⟩ ?_
  rintro n m₁ news₁ h tk2 F₁ N₁ ⟨rfl, k, r, t, u, rfl, hk, hc, hr, hm⟩
  clear N' F'
  replace F₁ : Fr s.heap L h _ := fr_see [(Str.ofString "register", .int r t), (Str.ofString "column", .int (k : Int) u)] F₁ (allc hr (all1 hm))
  replace N₁ : News s.heap L h _ := N₁
  k_steps
  · rename_i h1 h2 _ _ _ _ _ _ _ F₂ N₂
    refine WhileStep.intro F₂ N₂ (n' := 40 - (k + 1)) (by omega) ⟨rfl, k + 1, back r 32, _, _, rfl, by omega, ?_, rfl, rfl⟩
    rw [← colLoop_go h1 h2]; exact hc
  · rename_i h1 h2
    exact ⟨_, _, _, rfl, rfl, F₁.keep, u, by rw [← hc, colLoop_stop fun q => h2 q.2]⟩
  · rename_i h1
    exact ⟨_, _, _, rfl, rfl, F₁.keep, u, by rw [← hc, colLoop_stop fun q => q.1 h1]⟩
end Mine
end part_C2
section part_C3
open PySem PySem.W PySem.Calls PyProof.Rows
set_option Elab.async false
set_option maxRecDepth 100000
set_option maxHeartbeats 4000000
namespace Mine
local macro_rules | `(tactic| walk_at "no such key") => `(tactic| fail "none")
theorem off_C3 : True := by
  w_top off
  trivial
theorem hide {α : Type} {M : Model} {A : Around} {t : Sem α} {Q : α → Shared → Prop} {E : Value → Shared → Prop} {s : Shared} (h : ∀ K, Q = K → wpAny M A t K E s) : wpAny M A t Q E s := h Q rfl
local macro_rules | `(tactic| walk_at "exec While BoolOp cons nil") => `(tactic| refine stop ?_)

local macro_rules | `(tactic| walk_at "exec For Name Name cons nil") => `(tactic| (k_dflt (refine' for_fr ?F ?x ?k ?_ ?s; (case F => k_asm); (case x => exact rfl); (case k => exact rfl); (case s => (intro _; exact rfl)))))

local macro_rules | `(tactic| walk_at "call builtin:len") => `(tactic| (k_dflt (refine' len_n ?l ?k ?b ?_; (case l => exact News.isList (by k_asm) (by k_mem)); (case k => assumption); (case b => omega))))

theorem pr_call {w : World} {A : Around} {s : Shared} {p : Program} {loose : List Str} {mean : ExcName → Option Value} {mg mb : Str → Option Value} {y : Str} {ty : Tok} {sz : Nat} {tz : Tok}
    (X : (Mine.hd.heap_39 w.params).In s.heap) (T : Top p loose mean mg mb s.heap) (hh : A.handled = none) (hd : A.depth + 2 < recursionLimit) (ha : y.cps.all (· < 128) = true) (hy : y.cps.size ≤ 100) (hz : 0 < sz) (hz2 : sz ≤ 100) :
    codeAny (model Challenge.rw_mr0203_01.row.prog w) A (.call (.ref 94) ⟨[.str y ty, .int (sz : Int) tz], []⟩) (Ret s fun v h' => ∃ D vs, v = .ref D ∧ h'.IsList D vs.toArray ∧ IntsAre vs (List.replicate (prLen sz y.cps.toList) 32) ∧ s.heap.get? D = none) s := by
  revert X
  k_fill
  intro X
  k_dflt (refine' enterK (binds := [(Str.ofString "lead", .str y ty), (Str.ofString "size", .int (sz : Int) tz)]) X T ?k1 ?k2 ?k3 ?k4 ?k5 ?k6 ?k7 ?k8 ?k9 ?_; (case k1 => k_is); (case k2 => k_is); (case k3 => omega); (case k4 => exact BindsTo.of_eq rfl); (case k5 => exact locs rfl); (case k6 => exact rfl); (case k7 => exact rfl); (case k8 => exact rfl); (case k9 => decide))
  intro L h₁ tk₁ F
  have N : News s.heap L h₁ [] := News.nil
  refine hide fun K hK => ?_
  k_steps
  rename_i D _ _ _ F' N'
  refine lp_text (fun i m news => ∃ vs nn, news = [(D, W.listOf vs.toArray nn)] ∧ IntsAre vs (List.replicate (prLen sz (y.cps.toList.take i)) 32) ∧ prLen sz (y.cps.toList.take i) ≤ i * 100 ∧ m (Str.ofString "octets") = some (.ref D) ∧ m (Str.ofString "size") = some (.int (sz : Int) tz)) hh ha F' N' ⟨[], 0, rfl, .nil, Nat.zero_le _, rfl, rfl⟩ ?_ ?_
  · rintro i c t m₁ news₁ h tk2 I oI hv ⟨vs, nn, rfl, hi, hb, hm, hs⟩ hne F₁ N₁
    have hne' : @Ne Nat D I := hne (D, W.listOf vs.toArray nn) (.head _)
    have hci : i < y.cps.size := (Array.getElem?_eq_some_iff.mp hv).1
    have hlen : vs.length ≤ 10000 := by rw [hi.length, List.length_replicate]; omega
    clear N' F'
    replace F₁ : Fr s.heap L h _ := fr_turn [(Str.ofString "octets", .ref D), (Str.ofString "size", .int (sz : Int) tz)] F₁ (allc hm (all1 hs))
    replace N₁ : News s.heap L h _ := N₁
    k_steps
    unfold Stop
    rename_i _ F₂ N₂

    have hv' : y.cps.toList[i]? = some c := by rw [Array.getElem?_toList]; exact hv
    have e1 := take_one_more hv'
    generalize hn0 : prLen sz (y.cps.toList.take i) = n0 at hi hb
    have e2 : prLen sz (y.cps.toList.take (i + 1)) = prStep sz n0 c := by rw [e1, prLen_snoc, hn0]
    rw [e2]
    have hfin : prStep sz n0 c ≤ n0 + sz := prStep_le hz
    rw [List.push_toArray] at N₂
    refine While_inv (n₀ := prStep sz n0 c - (n0 + 1)) (fun n m news => ∃ vs k nn, news = [(I, oI), (D, W.listOf vs.toArray nn)] ∧ IntsAre vs (List.replicate k 32) ∧ n = prStep sz n0 c - k ∧ n0 < k ∧ (if c = 9 then upTo sz k = prStep sz n0 c else k = prStep sz n0 c) ∧ k ≤ prStep sz n0 c ∧
      m (Str.ofString "octets") = some (.ref D) ∧ m (Str.ofString "size") = some (.int (sz : Int) tz) ∧ m (Str.ofString "sign") = some (.str ⟨#[c]⟩ t)) F₂ N₂ ?_ ?_
    · refine ⟨_, n0 + 1, _, rfl, ?_, rfl, by omega, ?_, ?_, rfl, rfl, rfl⟩
      · rw [List.replicate_succ']; exact hi.append (.cons _ _ .nil)
      · by_cases h9 : c = 9
        · subst h9; rw [if_pos rfl, prStep_tab]
        · rw [if_neg h9, prStep_not h9]
      · unfold prStep; split <;> omega
    · rintro n m₂ news₂ h2 tk3 F₃ N₃ ⟨vs2, k, nn2, rfl, hi2, rfl, hk0, hk1, hk2, hm2, hs2, hg2⟩
      have hlenk : vs2.length = k := by rw [hi2.length, List.length_replicate]
      have hlen2 : vs2.length ≤ 11000 := by omega
      have hneD : ∀ p ∈ [(D, W.listOf vs2.toArray nn2)], p.1 ≠ I := fun p hp => by rw [List.mem_singleton.mp hp]; exact hne'
      clear N₂ F₂ hlen
      replace F₃ : Fr s.heap L h2 _ := fr_see [(Str.ofString "octets", .ref D), (Str.ofString "size", .int (sz : Int) tz), (Str.ofString "sign", .str ⟨#[c]⟩ t)] F₃ (allc hm2 (allc hs2 (all1 hg2)))
      replace N₃ : News s.heap L h2 _ := N₃
      k_steps
      · rename_i hc9 hmod _ _ F₄ N₄
        have hc := tab_eq hc9
        subst hc
        rw [if_pos rfl] at hk1
        rw [fmod_nat] at hmod
        have hmod' : 0 < k % sz := by omega
        have hmore := upTo_more hz hmod'
        rw [List.push_toArray] at N₄
        refine WhileStep.intro F₄ N₄ (n' := prStep sz n0 9 - (k + 1)) (by omega) ⟨_, k + 1, _, rfl, ?_, rfl, by omega, ?_, by omega, rfl, rfl, rfl⟩
        · rw [List.replicate_succ']; exact hi2.append (.cons _ _ .nil)
        · rw [if_pos rfl, upTo_succ hz hmod']; exact hk1
      · rename_i hc9 hmod
        have hc := tab_eq hc9
        subst hc
        rw [if_pos rfl] at hk1
        rw [fmod_nat] at hmod
        rw [upTo_stop (show k % sz = 0 by omega)] at hk1
        exact TurnEnd.next F₃ N₃ hneD ⟨vs2, nn2, rfl, hk1 ▸ hi2, by omega, rfl, rfl⟩
      · rename_i hc9
        rw [if_neg (tab_ne hc9)] at hk1
        exact TurnEnd.next F₃ N₃ hneD ⟨vs2, nn2, rfl, hk1 ▸ hi2, by omega, rfl, rfl⟩
  · rintro m₁ news₁ h tk2 ⟨vs, nn, rfl, hi, hb, hm, hs⟩ F₁ N₁
    have e3 : y.cps.toList.take y.cps.size = y.cps.toList := List.take_of_length_le (by simp)
    rw [e3] at hi
    clear N' F'
    replace F₁ : Fr s.heap L h _ := fr_see [(Str.ofString "octets", .ref D)] F₁ (all1 hm)
    replace N₁ : News s.heap L h _ := N₁
    k_steps
    subst hK
    exact ⟨_, _, _, rfl, rfl, F₁.keep, D, vs, rfl, News.isList N₁ (.head _), hi, (N₁ _ (.head _)).2.2⟩
end Mine
end part_C3
section part_C4
open PySem PySem.W PySem.Calls PyProof.Rows
set_option Elab.async false
set_option maxRecDepth 100000
set_option maxHeartbeats 4000000
namespace Mine
theorem off_C4 : True := by
  w_top off
  trivial

local macro_rules | `(tactic| walk_at "call builtin:str.join") => `(tactic| (k_dflt (refine' join_list ?l ?i ?z ?_; (case l => exact News.isList (by k_asm) (by k_mem)); (case i => assumption); (case z => assumption)); intro t' k'))
local macro_rules | `(tactic| walk_at "binaryOp Add str str") => `(tactic| (k_dflt (refine' PyProof.Rows.add_str ?_ ?z; (case z => assumption)); intro t' k'))
local macro_rules | `(tactic| walk_at "eval ListComp") => `(tactic| refine stop ?_)

theorem strs3 {ys : List Value} {a b c : Nat} (hlen : ys.length = [(a : Int), (b : Int), (c : Int)].length) (hR : ∀ (j : Nat) (y : Value), ys[j]? = some y → ∃ t, y = Value.str (Txt.mul (Str.ofString " ") ([(a : Int), (b : Int), (c : Int)].getD j 0)) t) :
    StrsAre ys.toArray.toList [Txt.mul (Str.ofString " ") (a : Int), Txt.mul (Str.ofString " ") (b : Int), Txt.mul (Str.ofString " ") (c : Int)] := by
  match ys, hlen with
  | [x, y, z], _ =>
    obtain ⟨t1, rfl⟩ := hR 0 x rfl
    obtain ⟨t2, rfl⟩ := hR 1 y rfl
    obtain ⟨t3, rfl⟩ := hR 2 z rfl
    exact .cons _ _ (.cons _ _ (.cons _ _ .nil))
theorem mul_blank {a : Nat} (ha : a ≤ 3) : Txt.mul (Str.ofString " ") (a : Int) = ⟨(List.replicate a 32).toArray⟩ := by
  have h : ∀ a : Fin 4, Txt.mul (Str.ofString " ") ((a : Nat) : Int) = ⟨(List.replicate (a : Nat) 32).toArray⟩ := by decide +kernel
  exact h ⟨a, by omega⟩
theorem join_small {a b c : Nat} (ha : a ≤ 3) (hb : b ≤ 3) (hc : c ≤ 3) :
    ([Txt.mul (Str.ofString " ") (a : Int), Txt.mul (Str.ofString " ") (b : Int), Txt.mul (Str.ofString " ") (c : Int)].map (·.length)).sum + [Txt.mul (Str.ofString " ") (a : Int), Txt.mul (Str.ofString " ") (b : Int), Txt.mul (Str.ofString " ") (c : Int)].length * (Str.ofString "\t").length ≤ 16777216 := by
  rw [mul_blank ha, mul_blank hb, mul_blank hc, show (Str.ofString "\t").length = 1 from by decide +kernel]
  simp [Str.length]
  omega

theorem lead_first {a b c g : Nat} (ha : a ≤ 3) (hb : b ≤ 3) (hc : c ≤ 3) (hg : g ≤ 2) :
    Txt.mul (Str.ofString "\t") ((g : Int).fdiv 2) ++ Txt.join (Str.ofString "\t") [Txt.mul (Str.ofString " ") (a : Int), Txt.mul (Str.ofString " ") (b : Int), Txt.mul (Str.ofString " ") (c : Int)] = leadStr (g / 2) a b c := by
  have h : ∀ (a b c : Fin 4) (g : Fin 3), Txt.mul (Str.ofString "\t") (((g : Nat) : Int).fdiv 2) ++ Txt.join (Str.ofString "\t") [Txt.mul (Str.ofString " ") ((a : Nat) : Int), Txt.mul (Str.ofString " ") ((b : Nat) : Int), Txt.mul (Str.ofString " ") ((c : Nat) : Int)] = leadStr ((g : Nat) / 2) a b c := by decide +kernel
  exact h ⟨a, by omega⟩ ⟨b, by omega⟩ ⟨c, by omega⟩ ⟨g, by omega⟩
theorem lead_second {a b c g : Nat} (ha : a ≤ 3) (hb : b ≤ 3) (hc : c ≤ 3) (hg : g ≤ 2) :
    Txt.mul (Str.ofString "\t") ((g : Int).fmod 2) ++ Txt.join (Str.ofString "\t") [Txt.mul (Str.ofString " ") (a : Int), Txt.mul (Str.ofString " ") (b : Int), Txt.mul (Str.ofString " ") (c : Int)] = leadStr (g % 2) a b c := by
  have h : ∀ (a b c : Fin 4) (g : Fin 3), Txt.mul (Str.ofString "\t") (((g : Nat) : Int).fmod 2) ++ Txt.join (Str.ofString "\t") [Txt.mul (Str.ofString " ") ((a : Nat) : Int), Txt.mul (Str.ofString " ") ((b : Nat) : Int), Txt.mul (Str.ofString " ") ((c : Nat) : Int)] = leadStr ((g : Nat) % 2) a b c := by decide +kernel
  exact h ⟨a, by omega⟩ ⟨b, by omega⟩ ⟨c, by omega⟩ ⟨g, by omega⟩
theorem lead_fit {a b c k : Nat} (ha : a ≤ 3) (hb : b ≤ 3) (hc : c ≤ 3) (hk : k ≤ 1) {x y : Str} (e : x ++ y = leadStr k a b c) : x.length + y.length ≤ sizeLine := by
  have h := congrArg Str.length e
  rw [Str.length_append] at h
  have : (leadStr k a b c).length ≤ 100 := by simp [leadStr, lead, Str.length]; omega
  rw [sizeLine_eq]; omega

theorem leads_call {w : World} {A : Around} {s : Shared} {p : Program} {loose : List Str} {mean : ExcName → Option Value} {mg mb : Str → Option Value} {l1 l2 : Addr} {vs1 vs2 : List Value} {a b c d e f g : Nat} {tz : Tok}
    (X : (Mine.hd.heap_39 w.params).In s.heap) (T : Top p loose mean mg mb s.heap) (hh : A.handled = none) (hd : A.depth + 2 < recursionLimit)
    (hl1 : s.heap.IsList l1 vs1.toArray) (hi1 : IntsAre vs1 [(a : Int), (b : Int), (c : Int)]) (hl2 : s.heap.IsList l2 vs2.toArray) (hi2 : IntsAre vs2 [(d : Int), (e : Int), (f : Int)])
    (ha : a ≤ 3) (hb : b ≤ 3) (hc : c ≤ 3) (hdd : d ≤ 3) (he : e ≤ 3) (hf : f ≤ 3) (hg : g ≤ 2) :
    codeAny (model Challenge.rw_mr0203_01.row.prog w) A (.call (.ref 120) ⟨[.ref l1, .ref l2, .int (g : Int) tz], []⟩) (Ret s fun v h' => ∃ D t1 t2, v = .ref D ∧ h'.IsList D #[.str (leadStr (g / 2) a b c) t1, .str (leadStr (g % 2) d e f) t2] ∧ s.heap.get? D = none) s := by
  revert X
  k_fill
  intro X
  k_dflt (refine' enterK (binds := [(Str.ofString "runs", .ref l1), (Str.ofString "others", .ref l2), (Str.ofString "front", .int (g : Int) tz)]) X T ?k1 ?k2 ?k3 ?k4 ?k5 ?k6 ?k7 ?k8 ?k9 ?_; (case k1 => k_is); (case k2 => k_is); (case k3 => omega); (case k4 => exact BindsTo.of_eq rfl); (case k5 => exact locs rfl); (case k6 => exact rfl); (case k7 => exact rfl); (case k8 => exact rfl); (case k9 => decide))
  intro L h₁ tk₁ F
  have N : News s.heap L h₁ [] := News.nil
  have F0 := F
  k_steps
  unfold Stop
  k_dflt (refine LCg.ListComp_U (F₀ := F0) (cl := []) (by with_unfolding_all rfl) (by decide) (by rfl) (by decide) (by rfl) ?_)
  k_steps
  refine LCg.CompSrc.base hh F0 N hl1 (by rw [List.size_toArray, hi1.length]; show 3 ≤ _; decide) ?_
  intro g0
  rw [List.size_toArray, hi1.length]
  refine rest_pure (fun i y => ∃ t, y = .str (Txt.mul (Str.ofString " ") ([(a : Int), (b : Int), (c : Int)].getD i 0)) t) (.inl hl1) ?_ ?_
  · rintro i v I oI C oC D oD m₂ h tk2 hi hv hC hx F₁ N₁
    obtain ⟨n, t, rfl, hn⟩ := hi1.at i v (by simpa using hv)
    have hnb : 0 ≤ n ∧ n ≤ 3 := by
      rcases i with _ | _ | _ | i <;> simp at hn <;> omega
    obtain ⟨hn0, hn3⟩ := hnb
    clear N F0 F
    k_steps
    have e : [(a : Int), (b : Int), (c : Int)].getD i 0 = n := by rw [List.getD_eq_getElem?_getD, hn]; rfl
    refine ⟨_, _, rfl, fun _ _ e => e, ?_⟩
    dsimp only
    rw [e]
    exact ⟨_, rfl⟩
  · intro ys hlen hR D h tk2 F₁ N₁ off
    have hys := strs3 hlen hR
    have hsz := join_small ha hb hc
    have e1 := lead_first ha hb hc hg
    have hz1 := lead_fit ha hb hc (show g / 2 ≤ 1 by omega) e1
    have F0 := F₁
    clear F N
    k_steps
    unfold Stop
    rename Fr _ _ _ _ => F₂
    rename News _ _ _ _ => N₂
    have F₃ := F₂
    k_dflt (refine LCg.ListComp_U (F₀ := F₂) (cl := []) (by with_unfolding_all rfl) (by decide) (by rfl) (by decide) (by rfl) ?_)
    k_steps
    refine LCg.CompSrc.base hh F₃ N₂ hl2 (by rw [List.size_toArray, hi2.length]; show 3 ≤ _; decide) ?_
    intro g1
    rw [List.size_toArray, hi2.length]
    refine rest_pure (fun i y => ∃ t, y = .str (Txt.mul (Str.ofString " ") ([(d : Int), (e : Int), (f : Int)].getD i 0)) t) (.inl hl2) ?_ ?_
    · rintro i v I oI C oC D oD m₂ h tk2 hi hv hC hx F₁ N₁
      obtain ⟨n, t, rfl, hn⟩ := hi2.at i v (by simpa using hv)
      have hnb : 0 ≤ n ∧ n ≤ 3 := by
        rcases i with _ | _ | _ | i <;> simp at hn <;> omega
      obtain ⟨hn0, hn3⟩ := hnb
      clear F₃ N₂
      k_steps
      have e : [(d : Int), (e : Int), (f : Int)].getD i 0 = n := by rw [List.getD_eq_getElem?_getD, hn]; rfl
      refine ⟨_, _, rfl, fun _ _ e => e, ?_⟩
      dsimp only
      rw [e]
      exact ⟨_, rfl⟩
    · intro ys2 hlen2 hR2 D2 h2 tk3 F₄ N₄ off2
      have hys2 := strs3 hlen2 hR2
      have hsz2 := join_small hdd he hf
      have e2 := lead_second hdd he hf hg
      have hz2 := lead_fit hdd he hf (show g % 2 ≤ 1 by omega) e2
      clear F₃ N₂
      k_steps
      rename Fr _ _ _ _ => F₅
      rename News _ _ _ _ => N₅
      rw [e1, e2] at N₅
      exact ⟨_, _, _, rfl, rfl, F₅.keep, _, _, _, rfl, News.isList N₅ (.head _), (N₅ _ (.head _)).2.2⟩
end Mine
end part_C4
section part_C5
open PySem PySem.W PySem.Calls PyProof.Rows
set_option Elab.async false
set_option maxRecDepth 100000
set_option maxHeartbeats 4000000
namespace Mine
theorem off_C5 : True := by
  w_top off
  trivial
local macro_rules | `(tactic| walk_at "exec For Name Attribute cons nil") => `(tactic| (k_dflt (refine' for_fr ?F ?x ?k ?_ ?s; (case F => k_asm); (case x => exact rfl); (case k => exact rfl); (case s => (intro _; exact rfl)))))

local macro_rules | `(tactic| walk_at "unpackItems ref") => `(tactic| (k_here; k_dflt (refine' unpackItemsN_ ?k1 ?k2 ?k3 ?k4 ?k5 ?_; (case k1 => k_asm); (case k2 => k_asm); (case k3 => kun_tup); (case k4 => first | assumption | exact rfl); (case k5 => first | assumption | exact rfl); k_whole); intro h' F' N'; (try k_sweep)))

local macro_rules | `(tactic| walk_at "call builtin:len") => `(tactic| (k_dflt (refine' len_n ?l ?k ?b ?_; (case l => exact News.isList (by k_asm) (by k_mem)); (case k => assumption); (case b => omega))))

local macro_rules | `(tactic| walk_at "setAttr ref") => `(tactic| ((with_reducible show wpAny _ _ (setAttr _ (Str.ofString "norm") _) _ _ _); refine stop ?_))
theorem news_ne {h₀ h : Heap} {L a b : Addr} {oa ob : Obj} {l : List (Addr × Obj)} (N : News h₀ L h l) (ha : (a, oa) ∈ l) (hb : (b, ob) ∈ l) (hne : oa ≠ ob) : @Ne Nat a b := by
  intro e
  have e1 := (N _ ha).1
  have e2 := (N _ hb).1
  dsimp only at e1 e2
  rw [e, e2] at e1
  exact hne (Option.some.inj e1).symm

/-- a Whitespace among the objects of a list -/
def WsL (P : Params) (l : List (Addr × Obj)) (x : Addr) (st : WS) : Prop :=
  ∃ dx T T2 cvs k1 k2 k3 k4 k5 tb tn tt raw, (x, instObj 83 dx) ∈ l ∧ (dx, dictOf (wsEs P k1 k2 k3 k4 k5 raw (.int (st.n : Int) tn) (.int (st.nt : Int) tt) (.ref T) (.bool (decide ((st.cnt.length : Int) ≤ 1)))) 5) ∈ l ∧
    (T, ({ cls := .type "tuple", data := .seq #[.ref T2, .int (st.b : Int) tb] } : Obj)) ∈ l ∧ (T2, ({ cls := .type "tuple", data := .seq cvs.toArray } : Obj)) ∈ l ∧ IntsAre cvs (st.cnt.map fun (c : Nat) => (c : Int)) ∧ st.cnt.length ≤ 100
theorem WsL.mono {P : Params} {l l' : List (Addr × Obj)} {x : Addr} {st : WS} (hs : ∀ p ∈ l, p ∈ l') (W : WsL P l x st) : WsL P l' x st := by
  obtain ⟨dx, T, T2, cvs, k1, k2, k3, k4, k5, tb, tn, tt, raw, e1, e2, t1, t2, r⟩ := W
  exact ⟨dx, T, T2, cvs, k1, k2, k3, k4, k5, tb, tn, tt, raw, hs _ e1, hs _ e2, hs _ t1, hs _ t2, r⟩
theorem WsL.at {P : Params} {h : Heap} {l : List (Addr × Obj)} {x : Addr} {st : WS} (W : WsL P l x st) (g : ∀ p ∈ l, h.get? p.1 = some p.2) : WsAt P h x st := by
  obtain ⟨dx, T, T2, cvs, k1, k2, k3, k4, k5, tb, tn, tt, raw, e1, e2, t1, t2, r⟩ := W
  exact ⟨dx, T, T2, cvs, k1, k2, k3, k4, k5, tb, tn, tt, raw, g _ e1, g _ e2, ⟨_, g _ t1, rfl, _, rfl⟩, ⟨_, g _ t2, rfl, _, rfl⟩, r⟩

/-- the loop's state ahead of turn i -/
def JW (x dx : Addr) (odx : Obj) (y : Str) (i : Nat) (m : Str → Option Value) (news : List (Addr × Obj)) : Prop :=
  ∃ D vs nn st, news = [(D, W.listOf vs.toArray nn), (x, instObj 83 dx), (dx, odx)] ∧ @LT.lt Nat _ x D ∧ IntsAre vs (st.cnt.map fun (c : Nat) => (c : Int)) ∧
      wsRun (y.cps.toList.drop i) st = wsOf y.cps.toList ∧ st.b ≤ i ∧ st.n ≤ i ∧ st.nt ≤ i ∧ st.cnt.length ≤ i ∧
      (∃ tb, m (Str.ofString "b") = some (.int (st.b : Int) tb)) ∧ (∃ tn, m (Str.ofString "n") = some (.int (st.n : Int) tn)) ∧ (∃ tt, m (Str.ofString "nt") = some (.int (st.nt : Int) tt)) ∧
      m (Str.ofString "count") = some (.ref D) ∧ m (Str.ofString "S") = some (.str (Str.ofString " ") 212) ∧ m (Str.ofString "T") = some (.str (Str.ofString "\t") 213) ∧ m (Str.ofString "self") = some (.ref x)
theorem JW.mk {x dx D : Addr} {odx : Obj} {y : Str} {i nn : Nat} {m : Str → Option Value} {vs : List Value} {st : WS} {tb tn tt : Tok} (h1 : @LT.lt Nat _ x D) (h2 : IntsAre vs (st.cnt.map fun (c : Nat) => (c : Int)))
    (h3 : wsRun (y.cps.toList.drop i) st = wsOf y.cps.toList) (h4 : st.b ≤ i) (h5 : st.n ≤ i) (h6 : st.nt ≤ i) (h7 : st.cnt.length ≤ i)
    (m1 : m (Str.ofString "b") = some (.int (st.b : Int) tb)) (m2 : m (Str.ofString "n") = some (.int (st.n : Int) tn)) (m3 : m (Str.ofString "nt") = some (.int (st.nt : Int) tt))
    (m4 : m (Str.ofString "count") = some (.ref D)) (m5 : m (Str.ofString "S") = some (.str (Str.ofString " ") 212)) (m6 : m (Str.ofString "T") = some (.str (Str.ofString "\t") 213)) (m7 : m (Str.ofString "self") = some (.ref x)) :
    JW x dx odx y i m [(D, W.listOf vs.toArray nn), (x, instObj 83 dx), (dx, odx)] :=
  ⟨D, vs, nn, st, rfl, h1, h2, h3, h4, h5, h6, h7, ⟨tb, m1⟩, ⟨tn, m2⟩, ⟨tt, m3⟩, m4, m5, m6, m7⟩
theorem JW.elim {x dx : Addr} {odx : Obj} {y : Str} {i : Nat} {m : Str → Option Value} {news : List (Addr × Obj)} {C : Prop} (h : JW x dx odx y i m news)
    (k : ∀ D vs nn cnt b n nt tb tn tt, news = [(D, W.listOf vs.toArray nn), (x, instObj 83 dx), (dx, odx)] → @LT.lt Nat _ x D → IntsAre vs (cnt.map fun (c : Nat) => (c : Int)) → wsRun (y.cps.toList.drop i) ⟨cnt, b, n, nt⟩ = wsOf y.cps.toList → b ≤ i → n ≤ i → nt ≤ i → cnt.length ≤ i →
      m (Str.ofString "b") = some (.int (b : Int) tb) → m (Str.ofString "n") = some (.int (n : Int) tn) → m (Str.ofString "nt") = some (.int (nt : Int) tt) →
      m (Str.ofString "count") = some (.ref D) → m (Str.ofString "S") = some (.str (Str.ofString " ") 212) → m (Str.ofString "T") = some (.str (Str.ofString "\t") 213) → m (Str.ofString "self") = some (.ref x) →
      C) : C := by
  obtain ⟨D, vs, nn, ⟨cnt, b, n, nt⟩, rfl, hD, hi, hrun, hb1, hn1, hnt1, hc1, ⟨tb, hmb⟩, ⟨tn, hmn⟩, ⟨tt, hmt⟩, hmc, hmS, hmT, hms⟩ := h
  exact k D vs nn cnt b n nt tb tn tt rfl hD hi hrun hb1 hn1 hnt1 hc1 hmb hmn hmt hmc hmS hmT hms
/-- the state behind the loop -/
def JWe (x dx : Addr) (odx : Obj) (y : Str) (m : Str → Option Value) (news : List (Addr × Obj)) : Prop :=
  ∃ D vs nn st, news = [(D, W.listOf vs.toArray nn), (x, instObj 83 dx), (dx, odx)] ∧ @LT.lt Nat _ x D ∧ IntsAre vs (st.cnt.map fun (c : Nat) => (c : Int)) ∧
      st = wsOf y.cps.toList ∧ st.cnt.length ≤ 100 ∧
      (∃ tb, m (Str.ofString "b") = some (.int (st.b : Int) tb)) ∧ (∃ tn, m (Str.ofString "n") = some (.int (st.n : Int) tn)) ∧ (∃ tt, m (Str.ofString "nt") = some (.int (st.nt : Int) tt)) ∧
      m (Str.ofString "count") = some (.ref D) ∧ m (Str.ofString "self") = some (.ref x)
theorem JWe.mk {x dx D : Addr} {odx : Obj} {y : Str} {nn : Nat} {m : Str → Option Value} {vs : List Value} {st : WS} {tb tn tt : Tok} (h1 : @LT.lt Nat _ x D) (h2 : IntsAre vs (st.cnt.map fun (c : Nat) => (c : Int)))
    (h3 : st = wsOf y.cps.toList) (h4 : st.cnt.length ≤ 100) (m1 : m (Str.ofString "b") = some (.int (st.b : Int) tb)) (m2 : m (Str.ofString "n") = some (.int (st.n : Int) tn)) (m3 : m (Str.ofString "nt") = some (.int (st.nt : Int) tt))
    (m4 : m (Str.ofString "count") = some (.ref D)) (m7 : m (Str.ofString "self") = some (.ref x)) : JWe x dx odx y m [(D, W.listOf vs.toArray nn), (x, instObj 83 dx), (dx, odx)] :=
  ⟨D, vs, nn, st, rfl, h1, h2, h3, h4, ⟨tb, m1⟩, ⟨tn, m2⟩, ⟨tt, m3⟩, m4, m7⟩
theorem JWe.elim {x dx : Addr} {odx : Obj} {y : Str} {m : Str → Option Value} {news : List (Addr × Obj)} {C : Prop} (h : JWe x dx odx y m news)
    (k : ∀ D vs nn st tb tn tt, news = [(D, W.listOf vs.toArray nn), (x, instObj 83 dx), (dx, odx)] → @LT.lt Nat _ x D → IntsAre vs (st.cnt.map fun (c : Nat) => (c : Int)) → st = wsOf y.cps.toList → st.cnt.length ≤ 100 →
      m (Str.ofString "b") = some (.int (st.b : Int) tb) → m (Str.ofString "n") = some (.int (st.n : Int) tn) → m (Str.ofString "nt") = some (.int (st.nt : Int) tt) →
      m (Str.ofString "count") = some (.ref D) → m (Str.ofString "self") = some (.ref x) → C) : C := by
  obtain ⟨D, vs, nn, st, rfl, hD, hi, hst, hc1, ⟨tb, hmb⟩, ⟨tn, hmn⟩, ⟨tt, hmt⟩, hmc, hms⟩ := h
  exact k D vs nn st tb tn tt rfl hD hi hst hc1 hmb hmn hmt hmc hms
theorem JW.done {x dx : Addr} {odx : Obj} {y : Str} {m : Str → Option Value} {news : List (Addr × Obj)} (hy : y.cps.size ≤ 100) (h : JW x dx odx y y.cps.size m news) : JWe x dx odx y m news := by
  obtain ⟨D, vs, nn, st, rfl, hD, hi, hrun, hb1, hn1, hnt1, hc1, hmb, hmn, hmt, hmc, hmS, hmT, hms⟩ := h
  rw [List.drop_of_length_le (by simp)] at hrun
  exact ⟨D, vs, nn, st, rfl, hD, hi, hrun, by omega, hmb, hmn, hmt, hmc, hms⟩

theorem ws_call {w : World} {A : Around} {s : Shared} {p : Program} {loose : List Str} {mean : ExcName → Option Value} {mg mb : Str → Option Value} {y : Str} {ty : Tok}
    (X : (Mine.hd.heap_39 w.params).In s.heap) (T : Top p loose mean mg mb s.heap) (hh : A.handled = none) (hd : A.depth + 2 < recursionLimit) (ha : y.cps.all (· < 128) = true) (hy : y.cps.size ≤ 100) :
    codeAny (model Challenge.rw_mr0203_01.row.prog w) A (.call (.ref 83) ⟨[.str y ty], []⟩) (Ret s fun v h' => ∃ x l, v = .ref x ∧ WsL w.params l x (wsOf y.cps.toList) ∧ (∀ p ∈ l, h'.get? p.1 = some p.2 ∧ s.heap.get? p.1 = none)) s := by
  revert X
  k_fill
  intro X
  k_dflt (refine' makeK (binds := fun x => [(Str.ofString "self", .ref x), (Str.ofString "ws", .str y ty)]) X T ?m1 ?m2 ?m3 ?k1 ?k2 ?k3 ?k4 ?k5 ?k6 ?k7 ?k8 ?k9 ?_; (case m1 => k_is); (case m2 => k_is); (case m3 => k_is); (case k1 => k_is); (case k2 => k_is); (case k3 => omega); (case k4 => (intro x s'; exact BindsTo.of_eq rfl)); (case k5 => (intro x; exact locs rfl)); (case k6 => exact rfl); (case k7 => exact rfl); (case k8 => exact rfl); (case k9 => decide))
  intro x dx L h₁ tk₁ A' hA hdep F N hlt
  have hh' : A'.handled = none := hA.trans hh
  k_steps
  rename Fr _ _ _ _ => F'
  rename News _ _ _ _ => N'
  rename_i D1 _ l1 _ _ _ D _ l2 _ _ _ _
  replace N' : News s.heap L _ [(D, W.listOf ([] : List Value).toArray 0), (x, instObj 83 dx), (dx, _)] := fun p hp => N' p (by
    rcases List.mem_cons.mp hp with rfl | hp
    · exact .head _
    · exact .tail _ (.tail _ hp))
  generalize hodx : dictOf _ _ = odx at N'
  refine lp_textB (JW x dx odx y) (JWe x dx odx y) hh' ha F' N' (JW.mk (vs := []) (st := ⟨[], 0, 0, 0⟩) (by omega) .nil rfl (Nat.le_refl _) (Nat.le_refl _) (Nat.le_refl _) (Nat.le_refl _) rfl rfl rfl rfl rfl rfl rfl) ?_ (fun m₁ news₁ => JW.done hy) ?_
  · clear N' F' l1 l2
    intro i c t m₁ news₁ h tk2 I oI hv hJ hne F₁ N₁
    refine hJ.elim ?_
    intro D vs nn cnt b n nt tb tn tt en hD hi hrun hb1 hn1 hnt1 hc1 hmb hmn hmt hmc hmS hmT hms
    clear hJ
    rw [en] at hne N₁
    clear en
    have hne1 : @Ne Nat D I := hne _ (.head _)
    have hne2 : @Ne Nat x I := hne _ (.tail _ (.head _))
    have hne3 : @Ne Nat dx I := hne _ (.tail _ (.tail _ (.head _)))
    have hci : i < y.cps.size := (Array.getElem?_eq_some_iff.mp hv).1
    have hv' : y.cps.toList[i]? = some c := by rw [Array.getElem?_toList]; exact hv
    rw [drop_at hv'] at hrun
    have hlenk : vs.length = cnt.length := by rw [hi.length, List.length_map]
    have hlen2 : vs.length ≤ 200 := by omega
    replace F₁ : Fr s.heap L h _ := fr_turn [(Str.ofString "b", .int (b : Int) tb), (Str.ofString "n", .int (n : Int) tn), (Str.ofString "nt", .int (nt : Int) tt), (Str.ofString "count", .ref D), (Str.ofString "S", .str (Str.ofString " ") 212), (Str.ofString "T", .str (Str.ofString "\t") 213), (Str.ofString "self", .ref x)] F₁
      (allc hmb (allc hmn (allc hmt (allc hmc (allc hmS (allc hmT (all1 hms)))))))
    replace N₁ : News s.heap L h _ := N₁
    generalize hTE : TurnEndB _ _ _ _ _ _ _ _ = TE
    k_steps
    all_goals (subst hTE)
    · rename Fr _ _ _ _ => F₂
      rename News _ _ _ _ => N₂
      rename (_ == _) = true => hc
      rw [wsRun, if_pos (blank_eq hc)] at hrun
      exact TurnEndB.next F₂ N₂ hne (JW.mk hD hi hrun (by dsimp only; omega) (by dsimp only; omega) (by dsimp only; omega) (by dsimp only; omega) rfl rfl rfl rfl rfl rfl rfl)
    · rename Fr _ _ _ _ => F₂
      rename News _ _ _ _ => N₂
      rename IntsAre _ _ => hI₂
      rename (_ == _) = true => hc
      rename (_ == _) = false => hc0
      rename (_ : Int) ≤ _ => hle
      rw [wsRun, if_neg (blank_ne hc0), if_pos (tab_eq hc)] at hrun
      rw [bump_ext hle] at hI₂
      have hbl := bump_len cnt b
      exact TurnEndB.next F₂ (News.pick N₂ (sub_cons (by k_mem) (sub_cons (.head _) (sub_cons (by k_mem) (sub_cons (by k_mem) sub_nil))))) (ne_cons (by dsimp only; omega) (ne_cons hne2 (ne_cons hne3 ne_nil)))
        (JW.mk (by omega) hI₂ hrun (by dsimp only; omega) (by dsimp only; omega) (by dsimp only; omega) (by dsimp only; omega) rfl rfl rfl rfl rfl rfl rfl)
    · rename Fr _ _ _ _ => F₂
      rename News _ _ _ _ => N₂
      rename IntsAre _ _ => hI₂
      rename (_ == _) = true => hc
      rename (_ == _) = false => hc0
      rename ¬ ((_ : Int) ≤ _) => hle
      rw [wsRun, if_neg (blank_ne hc0), if_pos (tab_eq hc)] at hrun
      rw [bump_in hle] at hI₂
      have hbl := bump_len cnt b
      exact TurnEndB.next F₂ N₂ (ne_cons hne1 (ne_cons hne2 (ne_cons hne3 ne_nil)))
        (JW.mk hD hI₂ hrun (by dsimp only; omega) (by dsimp only; omega) (by dsimp only; omega) (by dsimp only; omega) rfl rfl rfl rfl rfl rfl rfl)
    · rename_i hc0 hc
      rw [wsRun, if_neg (blank_ne hc0), if_neg (tab_ne hc)] at hrun
      exact TurnEndB.brk F₁ (News.pick N₁ fun p hp => .tail _ hp) (JWe.mk hD hi hrun (by dsimp only; omega) rfl rfl rfl rfl rfl)
  · clear N' F' l1 l2
    intro m₁ news₁ h tk2 hJ F₁ N₁
    refine hJ.elim ?_
    intro D vs nn st tb tn tt en hD hi hst hc1 hmb hmn hmt hmc hms
    clear hJ
    rw [en] at N₁
    clear en
    have hlenk : vs.length = st.cnt.length := by rw [hi.length, List.length_map]
    replace F₁ : Fr s.heap L h _ := fr_see [(Str.ofString "b", .int (st.b : Int) tb), (Str.ofString "n", .int (st.n : Int) tn), (Str.ofString "nt", .int (st.nt : Int) tt), (Str.ofString "count", .ref D), (Str.ofString "self", .ref x)] F₁
      (allc hmb (allc hmn (allc hmt (allc hmc (all1 hms)))))
    replace N₁ : News s.heap L h _ := N₁
    subst hodx
    k_steps
    unfold Stop
    rename Fr _ _ _ _ => F₂
    rename News _ _ _ _ => N₂
    have n1 := news_ne N₂ (.tail _ (.head _)) (.tail _ (.tail _ (.tail _ (.tail _ (.head _))))) (by intro e; have e' := congrArg Obj.data e; cases e')
    have n2 := news_ne N₂ (.tail _ (.head _)) (.tail _ (.tail _ (.tail _ (.head _)))) (by intro e; have e' := congrArg Obj.data e; cases e')
    dsimp only at N₂
    k_dflt (refine' set_dict ?k1 ?k2 ?k3 ?k4 ?k5 ?k6 ?k7 ?k8 ?k9 ?k10 ?k11 ?k12 ?k13 ?_; (case k1 => k_asm); (case k2 => k_asm); (case k3 => k_asm); (case k4 => k_inst); (case k5 => exact rfl); (case k6 => k_is); (case k7 => k_is); (case k8 => k_is); (case k9 => k_is); (case k10 => k_get); (case k11 => k_put); (case k12 => k_upd); (case k13 => exact Nat.le_of_ble_eq_true rfl))
    intro h₃ F₃ N₃
    clear F₂ N₂
    k_steps
    rename Fr _ _ _ _ => F₄
    rename News _ _ _ _ => N₄
    rw [← hst]
    exact ⟨_, _, _, rfl, rfl, F₄.keep, x, _, rfl, ⟨dx, _, _, vs, _, _, _, _, _, tb, tn, tt, _, .tail _ (.tail _ (.tail _ (.head _))), .tail _ (.tail _ (.tail _ (.tail _ (.head _)))), .head _, .tail _ (.head _), hi, hc1⟩, fun p hp => ⟨(N₄ p hp).1, (N₄ p hp).2.2⟩⟩
end Mine
end part_C5
section part_H6
open PySem PySem.W PySem.Calls PyProof.Rows
set_option Elab.async false
set_option maxRecDepth 100000
namespace Mine
theorem WsAt.all {C : Prop} {P : Params} {h : Heap} {x : Addr} {st : WS} (W : WsAt P h x st)
    (k : ∀ dx T T2 cvs k1 k2 k3 k4 k5 tb tn tt raw, h.get? x = some (instObj 83 dx) → h.get? dx = some (dictOf (wsEs P k1 k2 k3 k4 k5 raw (.int (st.n : Int) tn) (.int (st.nt : Int) tt) (.ref T) (.bool (decide ((st.cnt.length : Int) ≤ 1)))) 5) →
      IsTup h T #[.ref T2, .int (st.b : Int) tb] → IsTup h T2 cvs.toArray → IntsAre cvs (st.cnt.map fun (c : Nat) => (c : Int)) → st.cnt.length ≤ 100 → C) : C := by
  obtain ⟨dx, T, T2, cvs, k1, k2, k3, k4, k5, tb, tn, tt, raw, e1, e2, t1, t2, hi, hc⟩ := W
  exact k dx T T2 cvs k1 k2 k3 k4 k5 tb tn tt raw e1 e2 t1 t2 hi hc
theorem max2 {prog : Program} {w : World} {A : Around} {E : Value → Shared → Prop} {s : Shared} {a b : Int} {t u : Tok} {Q : Value → Shared → Prop} (hh : A.handled = none)
    (h : ∀ t' h' tk, s.heap.StaysIn h' → Q (.int (max a b) t') { s with heap := h', toks := tk }) : wpAny (model prog w) A (call (.builtin "max") [.int a t, .int b u]) Q E s := by
  refine max_two_ints hh fun h' tk hk => ?_
  by_cases hc : b > a
  · rw [if_pos hc]; have := h u h' tk hk; rwa [show max a b = b by omega] at this
  · rw [if_neg hc]; have := h t h' tk hk; rwa [show max a b = a by omega] at this
theorem min2 {prog : Program} {w : World} {A : Around} {E : Value → Shared → Prop} {s : Shared} {a b : Int} {t u : Tok} {Q : Value → Shared → Prop} (hh : A.handled = none)
    (h : ∀ t' h' tk, s.heap.StaysIn h' → Q (.int (min a b) t') { s with heap := h', toks := tk }) : wpAny (model prog w) A (call (.builtin "min") [.int a t, .int b u]) Q E s := by
  refine min_two_ints hh fun h' tk hk => ?_
  by_cases hc : b < a
  · rw [if_pos hc]; have := h u h' tk hk; rwa [show min a b = b by omega] at this
  · rw [if_neg hc]; have := h t h' tk hk; rwa [show min a b = a by omega] at this
theorem long_nonneg (st : WS) : 0 ≤ longest st := by unfold longest; omega
theorem range_n {a b : Nat} : Builtin.Range.rangeSize (a : Int) (b : Int) 1 = ((b - a : Nat) : Int) := by
  unfold Builtin.Range.rangeSize
  rw [if_pos (by decide)]
  split <;> omega
theorem small_n {a b : Nat} (ha : a ≤ 100000) (hb : b ≤ 100000) : Builtin.Range.small (a : Int) (b : Int) 1 = true := small_one (by omega) (by omega) (by omega) (by omega)
theorem quot_n (a b : Nat) : ((a : Int) + (b : Int)).fdiv (a : Int) = (((a + b) / a : Nat) : Int) := by rw [← fdiv_nat]; rfl
theorem quot_le {a b : Nat} (h : 0 < a) (hb : a + b ≤ 100) : (a + b) / a ≤ 100 := Nat.le_trans (Nat.div_le_self _ _) hb
theorem seqIndex_n {a b n : Nat} (h : a + b < n) : seqIndex? ((a : Int) + (b : Int)) n = some (a + b) := by
  unfold seqIndex?
  have h1 : ¬ ((a : Int) + (b : Int) < 0) := by omega
  have h2 : ((a : Int) + (b : Int)).toNat = a + b := by omega
  have h3 : 0 ≤ (a : Int) + (b : Int) := by omega
  have h4 : (a : Int) + (b : Int) < (n : Int) := by omega
  simp only [if_neg h1, h2, h3, h4, decide_true, Bool.and_true, if_true]
end Mine
end part_H6
section part_C6
open PySem PySem.W PySem.Calls PyProof.Rows
set_option Elab.async false
set_option maxRecDepth 100000
set_option maxHeartbeats 4000000
namespace Mine
theorem off_C6 : True := by
  w_top off
  trivial
local macro_rules | `(tactic| walk_at "getAttr ref") => `(tactic| (k_here; k_dflt (refine' get_own ?k1 ?k2 ?k3 ?k4 ?k5 ?k6 ?k7 ?k8 ?k9 ?_; (case k1 => k_asm); (case k2 => k_asm); (case k3 => exact ws_inst (by k_asm) (by assumption) (by assumption)); (case k4 => k_is); (case k5 => k_is); (case k6 => k_is); (case k7 => k_is); (case k8 => k_get); (case k9 => k_handed); k_whole)))
local macro_rules | `(tactic| walk_at "unpackItems ref") => `(tactic| (k_here; k_dflt (refine' unpackItemsN_ ?k1 ?k2 ?k3 ?k4 ?k5 ?_; (case k1 => k_asm); (case k2 => k_asm); (case k3 => exact IsTup.keeps (by assumption) (Fr.keep (by k_asm))); (case k4 => first | assumption | exact rfl); (case k5 => first | assumption | exact rfl); k_whole); intro h' F' N'; (try k_sweep)))

local macro_rules | `(tactic| walk_at "assign Tuple") => `(tactic| (k_here; (with_reducible show wpAny _ _ (assign (Expr.Tuple _ _ _) _ (Value.ref _)) _ _ _); k_dflt (refine' unpackN_ ?k1 ?k2 ?k3 ?k4 ?k5 ?k6 ?_; (case k1 => k_asm); (case k2 => k_asm); (case k3 => exact IsTup.keeps (by assumption) (Fr.keep (by k_asm))); (case k4 => first | assumption | exact rfl); (case k5 => exact rfl); (case k6 => exact rfl); k_whole); intro h' F' N'; (try k_sweep)))
local macro_rules | `(tactic| walk_at "call builtin:len") => `(tactic| (k_dflt (refine' len_t ?l ?k ?b ?_; (case l => exact IsTup.keeps (by assumption) (Fr.keep (by k_asm))); (case k => assumption); (case b => omega))))

local macro_rules | `(tactic| walk_at "call builtin:max") => `(tactic| ((with_reducible show wpAny _ _ (call (Value.builtin _) [Value.int _ _, Value.int _ _]) _ _ _); k_dflt (refine' max2 ?h ?_; (case h => assumption)); intro t' h' tk' k'; have F' := Fr.stay (by k_asm) k'; have N' := News.stay (by k_asm) k'; (try k_sweep)))

theorem long_call {w : World} {A : Around} {s : Shared} {p : Program} {loose : List Str} {mean : ExcName → Option Value} {mg mb : Str → Option Value} {x : Addr} {st : WS}
    (X : (Mine.hd.heap_39 w.params).In s.heap) (T : Top p loose mean mg mb s.heap) (hh : A.handled = none) (hd : A.depth + 1 < recursionLimit) (W : WsAt w.params s.heap x st) :
    codeAny (model Challenge.rw_mr0203_01.row.prog w) A (.call (.ref 45) ⟨[.ref x], []⟩) (Ret s fun v _ => ∃ t, v = .int (longest st) t) s := by
  refine W.all ?_
  intro dx T1 T2 cvs k1 k2 k3 k4 k5 tb tn tt raw e1 e2 t1 t2 hi hc
  clear W
  revert X
  k_fill
  intro X
  k_dflt (refine' enterK (binds := [(Str.ofString "self", .ref x)]) X T ?k1 ?k2 ?k3 ?k4 ?k5 ?k6 ?k7 ?k8 ?k9 ?_; (case k1 => k_is); (case k2 => k_is); (case k3 => omega); (case k4 => exact BindsTo.of_eq rfl); (case k5 => exact locs rfl); (case k6 => exact rfl); (case k7 => exact rfl); (case k8 => exact rfl); (case k9 => decide))
  intro L h₁ tk₁ F
  have N : News s.heap L h₁ [] := News.nil
  have hlenk : cvs.length = st.cnt.length := by rw [hi.length, List.length_map]
  k_steps
  rename Fr _ _ _ _ => F₂
  exact ⟨_, _, _, rfl, rfl, F₂.keep, _, rfl⟩

local macro_rules | `(tactic| walk_at "binaryOp Mult int int") => `(tactic| (k_dflt (refine' PyProof.Rows.mul_int ?_ ?m; (case m => exact IntMulOk.of_left (intBits_le_64 (by omega) (by omega))))))
local macro_rules | `(tactic| walk_at "subscriptTail") => `(tactic| (k_here; (with_reducible show wpAny _ _ (subscriptTail _ _ (Value.ref _) (Value.int _ _)) _ _ _); k_dflt (refine' item_tupleT ?t ?a ?b ?c ?d ?_; (case t => exact IsTup.keeps (by assumption) (Fr.keep (by k_asm))); (case a => omega); (case b => omega); (case c => assumption); (case d => assumption))))
theorem level_call {w : World} {A : Around} {s : Shared} {p : Program} {loose : List Str} {mean : ExcName → Option Value} {mg mb : Str → Option Value} {x : Addr} {st : WS} {ts : Nat} {tz : Tok}
    (X : (Mine.hd.heap_39 w.params).In s.heap) (T : Top p loose mean mg mb s.heap) (hh : A.handled = none) (hd : A.depth + 1 < recursionLimit) (W : WsAt w.params s.heap x st) (hz : 0 < ts) (hz2 : ts ≤ 100) :
    codeAny (model Challenge.rw_mr0203_01.row.prog w) A (.call (.ref 52) ⟨[.ref x, .int (ts : Int) tz], []⟩) (Ret s fun v _ => ∃ t, v = .int (level st ts : Int) t) s := by
  refine W.all ?_
  intro dx T1 T2 cvs k1 k2 k3 k4 k5 tb tn tt raw e1 e2 t1 t2 hi hc
  clear W
  revert X
  k_fill
  intro X
  k_dflt (refine' enterK (binds := [(Str.ofString "self", .ref x), (Str.ofString "tabsize", .int (ts : Int) tz)]) X T ?k1 ?k2 ?k3 ?k4 ?k5 ?k6 ?k7 ?k8 ?k9 ?_; (case k1 => k_is); (case k2 => k_is); (case k3 => omega); (case k4 => exact BindsTo.of_eq rfl); (case k5 => exact locs rfl); (case k6 => exact rfl); (case k7 => exact rfl); (case k8 => exact rfl); (case k9 => decide))
  intro L h₁ tk₁ F
  have N : News s.heap L h₁ [] := News.nil
  refine hide fun K hK => ?_
  have hlenk : cvs.length = st.cnt.length := by rw [hi.length, List.length_map]
  k_steps
  rename IsRange _ _ _ _ _ _ _ _ => hr
  rename Fr _ _ _ _ => F'
  rename News _ _ _ _ => N'
  refine lp_range (n := st.cnt.length - ts) (fun i m news => news = [] ∧ (∃ t, m (Str.ofString "il") = some (.int (ilSum st.cnt ts i : Int) t)) ∧ m (Str.ofString "tabsize") = some (.int (ts : Int) tz) ∧ m (Str.ofString "count") = some (.ref T2) ∧
      m (Str.ofString "trailing") = some (.int (st.b : Int) tb) ∧ m (Str.ofString "self") = some (.ref x)) hh hr (small_n (by omega) (by omega)) range_n F' N' ⟨rfl, ⟨_, rfl⟩, rfl, rfl, rfl, rfl⟩ ?_ ?_
  · rintro i t m₁ news₁ h tk2 I oI hlt ⟨rfl, ⟨t3, hm⟩, h1, h2, h3, h4⟩ hne F₁ N₁
    clear N' F'
    replace F₁ : Fr s.heap L h _ := fr_turn [(Str.ofString "il", .int (ilSum st.cnt ts i : Int) t3), (Str.ofString "tabsize", .int (ts : Int) tz), (Str.ofString "count", .ref T2), (Str.ofString "trailing", .int (st.b : Int) tb), (Str.ofString "self", .ref x)] F₁
      (allc hm (allc h1 (allc h2 (allc h3 (all1 h4)))))
    replace N₁ : News s.heap L h _ := N₁
    have hq := quot_n ts i
    have hq1 : (ts + i) / ts ≤ 100 := quot_le hz (by omega)
    have hg : (st.cnt.map fun (c : Nat) => (c : Int))[ts + i]? = some ((st.cnt.getD (ts + i) 0 : Nat) : Int) := by
      rw [List.getElem?_map, List.getD_eq_getElem?_getD, List.getElem?_eq_getElem (show ts + i < st.cnt.length by omega)]; rfl
    obtain ⟨tv, hv⟩ := hi.get _ _ hg
    have hj : seqIndex? ((ts : Int) + (i : Int)) cvs.length = some (ts + i) := seqIndex_n (by omega)
    have hqb : 0 ≤ ((ts : Int) + (i : Int)).fdiv (ts : Int) ∧ ((ts : Int) + (i : Int)).fdiv (ts : Int) ≤ 100 := by rw [hq]; exact ⟨Int.natCast_nonneg _, Int.ofNat_le.mpr hq1⟩
    generalize hTE : TurnEnd _ _ _ _ _ _ _ = TE
    k_steps
    subst hTE
    rename Fr _ _ _ _ => F₂
    rename News _ _ _ _ => N₂
    exact TurnEnd.next F₂ N₂ (fun _ h => nomatch h) ⟨rfl, ⟨_, by rw [ilSum, Int.natCast_add, Int.natCast_mul, ← hq]; rfl⟩, rfl, rfl, rfl, rfl⟩
  · rintro m₁ news₁ h tk2 ⟨rfl, ⟨t3, hm⟩, h1, h2, h3, h4⟩ F₁ N₁
    clear N' F'
    replace F₁ : Fr s.heap L h _ := fr_see [(Str.ofString "il", .int (ilSum st.cnt ts (st.cnt.length - ts) : Int) t3), (Str.ofString "tabsize", .int (ts : Int) tz), (Str.ofString "trailing", .int (st.b : Int) tb), (Str.ofString "self", .ref x)] F₁
      (allc hm (allc h1 (allc h3 (all1 h4))))
    replace N₁ : News s.heap L h _ := N₁
    k_steps
    subst hK
    rename Fr _ _ _ _ => F₂
    exact ⟨_, _, _, rfl, rfl, F₂.keep, _, by rw [level, Int.natCast_add, Int.natCast_mul, Int.natCast_add]⟩
end Mine
end part_C6
section part_H7
open PySem PySem.W PySem.Calls PyProof.Rows
set_option Elab.async false
set_option maxRecDepth 100000
namespace Mine
/-- the witnesses: the entries up to k that p picks -/
def trips (p : Nat → Nat → Bool) (f g : Nat → Nat) : Nat → List (Nat × Nat × Nat)
  | 0 => []
  | k + 1 => trips p f g k ++ (if p (f (k + 1)) (g (k + 1)) then [(k + 1, f (k + 1), g (k + 1))] else [])
def tripObj (t : Nat × Nat × Nat) (t1 t2 t3 : Tok) : Obj := { cls := .type "tuple", data := .seq #[.int (t.1 : Int) t1, .int (t.2.1 : Int) t2, .int (t.2.2 : Int) t3] }
inductive TripsIn (news : List (Addr × Obj)) : List Value → List (Nat × Nat × Nat) → Prop
  | nil : TripsIn news [] []
  | cons {vs ts} {T : Addr} {t : Nat × Nat × Nat} {t1 t2 t3 : Tok} : (T, tripObj t t1 t2 t3) ∈ news → TripsIn news vs ts → TripsIn news (.ref T :: vs) (t :: ts)
theorem TripsIn.mono {l l' : List (Addr × Obj)} (hs : ∀ p ∈ l, p ∈ l') : ∀ {vs : List Value} {ts : List (Nat × Nat × Nat)}, TripsIn l vs ts → TripsIn l' vs ts
  | _, _, .nil => .nil
  | _, _, .cons h r => .cons (hs _ h) (r.mono hs)
theorem TripsIn.snoc {l : List (Addr × Obj)} {T : Addr} {t : Nat × Nat × Nat} {t1 t2 t3 : Tok} (h : (T, tripObj t t1 t2 t3) ∈ l) : ∀ {vs : List Value} {ts : List (Nat × Nat × Nat)}, TripsIn l vs ts → TripsIn l (vs ++ [.ref T]) (ts ++ [t])
  | _, _, .nil => .cons h .nil
  | _, _, .cons h' r => .cons h' (r.snoc h)
theorem TripsIn.len {l : List (Addr × Obj)} : ∀ {vs : List Value} {ts : List (Nat × Nat × Nat)}, TripsIn l vs ts → vs.length = ts.length
  | _, _, .nil => rfl
  | _, _, .cons _ r => congrArg (· + 1) r.len
/-- triples in a heap -/
inductive TripsAt (h : Heap) : List Value → List (Nat × Nat × Nat) → Prop
  | nil : TripsAt h [] []
  | cons {vs ts} {T : Addr} {t : Nat × Nat × Nat} {t1 t2 t3 : Tok} : h.get? T = some (tripObj t t1 t2 t3) → TripsAt h vs ts → TripsAt h (.ref T :: vs) (t :: ts)
theorem TripsIn.at {h₀ h : Heap} {L : Addr} {l : List (Addr × Obj)} (N : News h₀ L h l) : ∀ {vs : List Value} {ts : List (Nat × Nat × Nat)}, TripsIn l vs ts → TripsAt h vs ts
  | _, _, .nil => .nil
  | _, _, .cons e r => .cons (N _ e).1 (r.at N)
theorem TripsAt.keeps {h h' : Heap} (k : h.StaysIn h') : ∀ {vs : List Value} {ts : List (Nat × Nat × Nat)}, TripsAt h vs ts → TripsAt h' vs ts
  | _, _, .nil => .nil
  | _, _, .cons e r => .cons (k _ _ e) (r.keeps k)
theorem trips_len (p : Nat → Nat → Bool) (f g : Nat → Nat) : ∀ k, (trips p f g k).length ≤ k
  | 0 => Nat.le_refl _
  | k + 1 => by
    have := trips_len p f g k
    rw [trips, List.length_append]
    split
    · simp; omega
    · simp; omega
def reachOf (a b : WS) : Nat := (max (longest a) (longest b) + 1).toNat
theorem reach_is (a b : WS) : max (longest a) (longest b) + 1 = (reachOf a b : Int) := by
  have := long_nonneg a
  unfold reachOf; omega
theorem reach_le {a b : WS} (h1 : a.cnt.length ≤ 100) (h2 : a.b ≤ 100) (h3 : b.cnt.length ≤ 100) (h4 : b.b ≤ 100) : reachOf a b ≤ 101 := by
  unfold reachOf longest; omega
theorem range_from1 (n : Nat) : Builtin.Range.rangeSize 1 ((n : Int) + 1) 1 = (n : Int) := by
  unfold Builtin.Range.rangeSize
  rw [if_pos (by decide)]
  split <;> omega
theorem WsAt.parts {P : Params} {h : Heap} {x : Addr} {st : WS} (W : WsAt P h x st) : st.cnt.length ≤ 100 := by
  obtain ⟨dx, T, T2, cvs, k1, k2, k3, k4, k5, tb, tn, tt, raw, e1, e2, t1, t2, hi, hc⟩ := W
  exact hc
end Mine
namespace Mine
theorem trips_pos {p : Nat → Nat → Bool} {f g : Nat → Nat} {k : Nat} (h : p (f (k + 1)) (g (k + 1)) = true) : trips p f g (k + 1) = trips p f g k ++ [(k + 1, f (k + 1), g (k + 1))] := by rw [trips, if_pos h]
theorem trips_neg {p : Nat → Nat → Bool} {f g : Nat → Nat} {k : Nat} (h : p (f (k + 1)) (g (k + 1)) = false) : trips p f g (k + 1) = trips p f g k := by rw [trips, h]; simp
end Mine
end part_H7
section group_C7
open PySem PySem.W PySem.Calls PyProof.Rows
set_option Elab.async false
set_option maxRecDepth 100000
namespace Mine
local macro_rules | `(tactic| walk_at "getMethod ref") => `(tactic| (k_here; k_dflt (refine' method_inst ?k1 ?k2 ?k3 ?k4 ?k5 ?k6 ?k7 ?_; (case k1 => k_asm); (case k2 => k_asm); (case k3 => exact ws_inst (by k_asm) (by assumption) (by assumption)); (case k4 => k_is); (case k5 => k_is); (case k6 => k_is); (case k7 => k_get); k_whole)))
local macro_rules | `(tactic| walk_at "call builtin:max") => `(tactic| ((with_reducible show wpAny _ _ (call (Value.builtin _) [Value.int _ _, Value.int _ _]) _ _ _); k_dflt (refine' max2 ?h ?_; (case h => assumption)); intro t' h' tk' k'; have F' := Fr.stay (by k_asm) k'; have N' := News.stay (by k_asm) k'; (try k_sweep)))
local macro_rules | `(tactic| walk_at "call ref") => `(tactic| (k_here; k_dflt (refine' call_ret (long_call ?x ?t ?hh ?d ?w) ?_; (case w => exact WsAt.keeps (by assumption) (Fr.keep (by k_asm))); (case x => k_in); (case t => exact Top.keeps (by k_asm) (Fr.keep (by k_asm))); (case hh => assumption); (case d => (simp only [depth_deeper]; omega))); intro v' h' tk' k' hv'; obtain ⟨t', hv''⟩ := hv'; subst hv''; have F' := Fr.stay (by k_asm) k'; have N' := News.stay (by k_asm) k'; (try k_sweep)))
local macro_rules | `(tactic| walk_at "call ref") => `(tactic| (k_here; k_dflt (refine' call_ret (level_call ?x ?t ?hh ?d ?w ?z1 ?z2) ?_; (case w => exact WsAt.keeps (by assumption) (Fr.keep (by k_asm))); (case x => k_in); (case t => exact Top.keeps (by k_asm) (Fr.keep (by k_asm))); (case hh => assumption); (case d => (simp only [depth_deeper]; omega)); (case z1 => omega); (case z2 => omega)); intro v' h' tk' k' hv'; obtain ⟨t', hv''⟩ := hv'; subst hv''; have F' := Fr.stay (by k_asm) k'; have N' := News.stay (by k_asm) k'; (try k_sweep)))
local macro_rules | `(tactic| walk_at "exec For Name Call cons nil") => `(tactic| (k_dflt (refine' for_fr ?F ?x ?k ?_ ?s; (case F => k_asm); (case x => exact rfl); (case k => exact rfl); (case s => (intro _; exact rfl)))))
section part_C7
open PySem PySem.W PySem.Calls PyProof.Rows
set_option Elab.async false
set_option maxRecDepth 100000
set_option maxHeartbeats 4000000
theorem off_C7 : True := by
  w_top off
  trivial
local macro_rules | `(tactic| k_all) => `(tactic| assumption)

local macro_rules | `(tactic| walk_at "execs cons Assign cons") => `(tactic| ((with_reducible refine wpAny_execs_cons ?_); try dsimp only))
theorem ne_call {w : World} {A : Around} {s : Shared} {p : Program} {loose : List Str} {mean : ExcName → Option Value} {mg mb : Str → Option Value} {x y : Addr} {st su : WS}
    (X : (Mine.hd.heap_39 w.params).In s.heap) (T : Top p loose mean mg mb s.heap) (hh : A.handled = none) (hd : A.depth + 2 < recursionLimit) (Wx : WsAt w.params s.heap x st) (Wy : WsAt w.params s.heap y su) (hre : reachOf st su ≤ 90) :
    codeAny (model Challenge.rw_mr0203_01.row.prog w) A (.call (.ref 66) ⟨[.ref x, .ref y], []⟩)
      (Ret s fun v h' => ∃ D rvs n l, v = .ref D ∧ (D, W.listOf rvs.toArray n) ∈ l ∧ TripsIn l rvs (trips (fun a b => a != b) (level st) (level su) (reachOf st su)) ∧ (∀ p ∈ l, h'.get? p.1 = some p.2 ∧ s.heap.get? p.1 = none)) s := by
  refine Wx.all ?_
  intro dx T1 T2 cvs k1 k2 k3 k4 k5 tb tn tt raw e1 e2 t1 t2 hi hc
  refine Wy.all ?_
  intro dx' T1' T2' cvs' k1' k2' k3' k4' k5' tb' tn' tt' raw' e1' e2' t1' t2' hi' hc'
  clear t1 t2 t1' t2' hi hi'
  revert X
  k_fill
  intro X
  k_dflt (refine' enterK (binds := [(Str.ofString "self", .ref x), (Str.ofString "other", .ref y)]) X T ?k1 ?k2 ?k3 ?k4 ?k5 ?k6 ?k7 ?k8 ?k9 ?_; (case k1 => k_is); (case k2 => k_is); (case k3 => omega); (case k4 => exact BindsTo.of_eq rfl); (case k5 => exact locs rfl); (case k6 => exact rfl); (case k7 => exact rfl); (case k8 => exact rfl); (case k9 => decide))
  intro L h₁ tk₁ F
  have N : News s.heap L h₁ [] := News.nil
  refine hide fun K hK => ?_
  k_steps
  rename IsRange _ _ _ _ _ _ _ _ => hr
  rename Fr _ _ _ _ => F'
  rename News _ _ _ _ => N'
  rw [reach_is] at hr
  refine lp_range (n := reachOf st su) (fun i m news => ∃ D rvs nn tups, news = (D, W.listOf rvs.toArray nn) :: tups ∧ (∀ p ∈ tups, p.1 ≠ D) ∧ TripsIn tups rvs (trips (fun a b => a != b) (level st) (level su) i) ∧
      m (Str.ofString "a") = some (.ref D) ∧ m (Str.ofString "self") = some (.ref x) ∧ m (Str.ofString "other") = some (.ref y)) hh hr (small_one (by omega) (by omega) (by omega) (by omega)) (range_from1 _) F' N'
    ⟨_, [], 0, [], rfl, ne_nil, .nil, rfl, rfl, rfl⟩ ?_ ?_
  · rintro i t m₁ news₁ h tk2 I oI hlt ⟨D, rvs, nn, tups, rfl, hoff, htr, h1, h2, h3⟩ hne F₁ N₁
    clear N' F'
    have hneD : @Ne Nat D I := hne _ (.head _)
    have hneT : ∀ p ∈ tups, p.1 ≠ I := fun p hp => hne p (.tail _ hp)
    have hlen : rvs.length ≤ 200 := by rw [htr.len]; have := trips_len (fun a b => a != b) (level st) (level su) i; omega
    replace F₁ : Fr s.heap L h _ := fr_turn [(Str.ofString "a", .ref D), (Str.ofString "self", .ref x), (Str.ofString "other", .ref y)] F₁ (allc h1 (allc h2 (all1 h3)))
    rw [show (1 : Int) + (i : Int) = ((i + 1 : Nat) : Int) by omega] at F₁
    replace N₁ : News s.heap L h _ := N₁
    generalize hTE : TurnEnd _ _ _ _ _ _ _ = TE
    k_steps
    all_goals (subst hTE)
    · rename Fr _ _ _ _ => F₂
      rename News _ _ _ _ => N₂
      rename (_ : Int) ≠ _ => hcmp
      rw [List.push_toArray] at N₂
      rename _ ∧ _ => hl
      refine TurnEnd.next F₂ (news' := (D, _) :: (_, tripObj (i + 1, level st (i + 1), level su (i + 1)) _ _ _) :: tups)
        (News.pick N₂ (sub_cons (.tail _ (.head _)) (sub_cons (.tail _ (.tail _ (.head _))) (sub_cons (.head _) fun p hp => .tail _ (.tail _ (.tail _ hp))))))
        (ne_cons hneD (ne_cons (by dsimp only; omega) hneT)) ⟨D, _, _, _, rfl, ne_cons (by dsimp only; omega) hoff, ?_, rfl, rfl, rfl⟩
      rw [trips_pos (show (fun a b => a != b) (level st (i + 1)) (level su (i + 1)) = true by simp; omega)]
      exact TripsIn.snoc (.head _) (htr.mono fun p hp => .tail _ hp)
    · rename Fr _ _ _ _ => F₂
      rename News _ _ _ _ => N₂
      rename (_ : Int) = _ => hcmp
      refine TurnEnd.next F₂ N₂ hne ⟨D, _, _, _, rfl, hoff, ?_, rfl, rfl, rfl⟩
      rw [trips_neg (show (fun a b => a != b) (level st (i + 1)) (level su (i + 1)) = false by simp; omega)]
      exact htr
  · rintro m₁ news₁ h tk2 ⟨D, rvs, nn, tups, rfl, hoff, htr, h1, h2, h3⟩ F₁ N₁
    clear N' F'
    replace F₁ : Fr s.heap L h _ := fr_see [(Str.ofString "a", .ref D)] F₁ (all1 h1)
    replace N₁ : News s.heap L h _ := N₁
    k_steps
    subst hK
    exact ⟨_, _, _, rfl, rfl, F₁.keep, D, rvs, _, _, rfl, .head _, htr.mono fun p hp => .tail _ hp, fun p hp => ⟨(N₁ p hp).1, (N₁ p hp).2.2⟩⟩

theorem nl_call {w : World} {A : Around} {s : Shared} {p : Program} {loose : List Str} {mean : ExcName → Option Value} {mg mb : Str → Option Value} {x y : Addr} {st su : WS}
    (X : (Mine.hd.heap_39 w.params).In s.heap) (T : Top p loose mean mg mb s.heap) (hh : A.handled = none) (hd : A.depth + 2 < recursionLimit) (Wx : WsAt w.params s.heap x st) (Wy : WsAt w.params s.heap y su) (hre : reachOf st su ≤ 90) :
    codeAny (model Challenge.rw_mr0203_01.row.prog w) A (.call (.ref 80) ⟨[.ref x, .ref y], []⟩)
      (Ret s fun v h' => ∃ D rvs n l, v = .ref D ∧ (D, W.listOf rvs.toArray n) ∈ l ∧ TripsIn l rvs (trips (fun a b => decide (b ≤ a)) (level st) (level su) (reachOf st su)) ∧ (∀ p ∈ l, h'.get? p.1 = some p.2 ∧ s.heap.get? p.1 = none)) s := by
  refine Wx.all ?_
  intro dx T1 T2 cvs k1 k2 k3 k4 k5 tb tn tt raw e1 e2 t1 t2 hi hc
  refine Wy.all ?_
  intro dx' T1' T2' cvs' k1' k2' k3' k4' k5' tb' tn' tt' raw' e1' e2' t1' t2' hi' hc'
  clear t1 t2 t1' t2' hi hi'
  revert X
  k_fill
  intro X
  k_dflt (refine' enterK (binds := [(Str.ofString "self", .ref x), (Str.ofString "other", .ref y)]) X T ?k1 ?k2 ?k3 ?k4 ?k5 ?k6 ?k7 ?k8 ?k9 ?_; (case k1 => k_is); (case k2 => k_is); (case k3 => omega); (case k4 => exact BindsTo.of_eq rfl); (case k5 => exact locs rfl); (case k6 => exact rfl); (case k7 => exact rfl); (case k8 => exact rfl); (case k9 => decide))
  intro L h₁ tk₁ F
  have N : News s.heap L h₁ [] := News.nil
  refine hide fun K hK => ?_
  k_steps
  rename IsRange _ _ _ _ _ _ _ _ => hr
  rename Fr _ _ _ _ => F'
  rename News _ _ _ _ => N'
  rw [reach_is] at hr
  refine lp_range (n := reachOf st su) (fun i m news => ∃ D rvs nn tups, news = (D, W.listOf rvs.toArray nn) :: tups ∧ (∀ p ∈ tups, p.1 ≠ D) ∧ TripsIn tups rvs (trips (fun a b => decide (b ≤ a)) (level st) (level su) i) ∧
      m (Str.ofString "a") = some (.ref D) ∧ m (Str.ofString "self") = some (.ref x) ∧ m (Str.ofString "other") = some (.ref y)) hh hr (small_one (by omega) (by omega) (by omega) (by omega)) (range_from1 _) F' N'
    ⟨_, [], 0, [], rfl, ne_nil, .nil, rfl, rfl, rfl⟩ ?_ ?_
  · rintro i t m₁ news₁ h tk2 I oI hlt ⟨D, rvs, nn, tups, rfl, hoff, htr, h1, h2, h3⟩ hne F₁ N₁
    clear N' F'
    have hneD : @Ne Nat D I := hne _ (.head _)
    have hneT : ∀ p ∈ tups, p.1 ≠ I := fun p hp => hne p (.tail _ hp)
    have hlen : rvs.length ≤ 200 := by rw [htr.len]; have := trips_len (fun a b => decide (b ≤ a)) (level st) (level su) i; omega
    replace F₁ : Fr s.heap L h _ := fr_turn [(Str.ofString "a", .ref D), (Str.ofString "self", .ref x), (Str.ofString "other", .ref y)] F₁ (allc h1 (allc h2 (all1 h3)))
    rw [show (1 : Int) + (i : Int) = ((i + 1 : Nat) : Int) by omega] at F₁
    replace N₁ : News s.heap L h _ := N₁
    generalize hTE : TurnEnd _ _ _ _ _ _ _ = TE
    k_steps
    all_goals (subst hTE)
    · rename Fr _ _ _ _ => F₂
      rename News _ _ _ _ => N₂
      rename (_ : Int) ≤ _ => hcmp
      rw [List.push_toArray] at N₂
      rename _ ∧ _ => hl
      refine TurnEnd.next F₂ (news' := (D, _) :: (_, tripObj (i + 1, level st (i + 1), level su (i + 1)) _ _ _) :: tups)
        (News.pick N₂ (sub_cons (.tail _ (.head _)) (sub_cons (.tail _ (.tail _ (.head _))) (sub_cons (.head _) fun p hp => .tail _ (.tail _ (.tail _ hp))))))
        (ne_cons hneD (ne_cons (by dsimp only; omega) hneT)) ⟨D, _, _, _, rfl, ne_cons (by dsimp only; omega) hoff, ?_, rfl, rfl, rfl⟩
      rw [trips_pos (show (fun a b => decide (b ≤ a)) (level st (i + 1)) (level su (i + 1)) = true by simp; omega)]
      exact TripsIn.snoc (.head _) (htr.mono fun p hp => .tail _ hp)
    · rename Fr _ _ _ _ => F₂
      rename News _ _ _ _ => N₂
      rename ¬ ((_ : Int) ≤ _) => hcmp
      refine TurnEnd.next F₂ N₂ hne ⟨D, _, _, _, rfl, hoff, ?_, rfl, rfl, rfl⟩
      rw [trips_neg (show (fun a b => decide (b ≤ a)) (level st (i + 1)) (level su (i + 1)) = false by simp; omega)]
      exact htr
  · rintro m₁ news₁ h tk2 ⟨D, rvs, nn, tups, rfl, hoff, htr, h1, h2, h3⟩ F₁ N₁
    clear N' F'
    replace F₁ : Fr s.heap L h _ := fr_see [(Str.ofString "a", .ref D)] F₁ (all1 h1)
    replace N₁ : News s.heap L h _ := N₁
    k_steps
    subst hK
    exact ⟨_, _, _, rfl, rfl, F₁.keep, D, rvs, _, _, rfl, .head _, htr.mono fun p hp => .tail _ hp, fun p hp => ⟨(N₁ p hp).1, (N₁ p hp).2.2⟩⟩
end part_C7
section part_H8
open PySem PySem.W PySem.Calls PyProof.Rows PySem.Spec
set_option Elab.async false
set_option maxRecDepth 100000
def natInts (l : List Nat) : List Int := l.map fun (c : Nat) => (c : Int)
theorem natInts_inj {l l' : List Nat} : (l.map fun (c : Nat) => (c : Int)) = (l'.map fun (c : Nat) => (c : Int)) ↔ l = l' :=
  ⟨fun h => by
    have := congrArg (List.map Int.toNat) h
    simpa [List.map_map, Function.comp_def] using this, fun h => h ▸ rfl⟩
theorem reads_ints {h : Heap} {vs : List Value} {ns : List Int} (hi : IntsAre vs ns) : ReadsAll h vs (ns.map PyData.int) [] := readsAll_of_ints hi
theorem reads_norm {h : Heap} {T1 T2 : Addr} {cvs : List Value} {ns : List Int} {b : Int} {tb : Tok} (t1 : IsTup h T1 #[.ref T2, .int b tb]) (t2 : IsTup h T2 cvs.toArray) (hi : IntsAre cvs ns) :
    Reads h (.ref T1) (.tuple [.tuple (ns.map PyData.int), .int b]) [] := by
  obtain ⟨o1, e1, c1, n1, d1⟩ := t1
  obtain ⟨o2, e2, c2, n2, d2⟩ := t2
  have r2 : Reads h (.ref T2) (.tuple (ns.map PyData.int)) [] := Reads.tuple e2 c2 d2 (by simpa using reads_ints hi)
  exact Reads.tuple e1 c1 d1 (ReadsAll.cons r2 (ReadsAll.cons (Reads.int b tb) ReadsAll.nil))
theorem shaped_norm (ns : List Int) (b : Int) : SeqAt.shaped (.tuple [.tuple (ns.map PyData.int), .int b]) = true := by
  simp [SeqAt.shaped, PyData.canLay0, PyData.canLayAll0, PyData.depth, PyData.depthAll, ke_canLayAll0, ke_depthAll]
theorem eqv_norm (ns ms : List Int) (b c : Int) : PyData.eqv (.tuple [.tuple (ns.map PyData.int), .int b]) (.tuple [.tuple (ms.map PyData.int), .int c]) = (decide (ns = ms) && (b == c)) := by
  simp only [PyData.eqv, PyData.eqvAll, ked_eqvAll, Bool.and_true]
theorem eq_norm {prog : Program} {w : World} {A : Around} {E : Value → Shared → Prop} {s : Shared} {Q : Value → Shared → Prop} {T1 T2 T1' T2' : Addr} {cvs cvs' : List Value} {cnt cnt' : List Nat} {b b' : Nat} {tb tb' : Tok}
    (t1 : IsTup s.heap T1 #[.ref T2, .int (b : Int) tb]) (t2 : IsTup s.heap T2 cvs.toArray) (hi : IntsAre cvs (cnt.map fun (c : Nat) => (c : Int)))
    (t1' : IsTup s.heap T1' #[.ref T2', .int (b' : Int) tb']) (t2' : IsTup s.heap T2' cvs'.toArray) (hi' : IntsAre cvs' (cnt'.map fun (c : Nat) => (c : Int)))
    (hu : A.units + 64 < cLine) (h : Q (.bool (decide (cnt = cnt' ∧ b = b'))) s) : wpAny (model prog w) A (compareOp .Eq (.ref T1) (.ref T1')) Q E s := by
  refine eq_dataH (reads_norm t1 t2 hi) (reads_norm t1' t2' hi') (shaped_norm _ _) (shaped_norm _ _) hu ?_
  rw [eqv_norm]
  have e : (decide ((cnt.map fun (c : Nat) => (c : Int)) = cnt'.map fun (c : Nat) => (c : Int)) && ((b : Int) == (b' : Int))) = decide (cnt = cnt' ∧ b = b') := by
    rw [Bool.decide_and]
    congr 1
    · exact decide_eq_decide.mpr natInts_inj
    · rw [Bool.eq_iff_iff]; simp; omega
  rw [e]; exact h
def tripData (t : Nat × Nat × Nat) : PyData := .tuple [.int (t.1 : Int), .int (t.2.1 : Int), .int (t.2.2 : Int)]
theorem reads_trips {h : Heap} : ∀ {vs : List Value} {ts : List (Nat × Nat × Nat)}, TripsAt h vs ts → ReadsAll h vs (ts.map tripData) []
  | _, _, .nil => .nil
  | _, _, .cons (t := t) (t1 := t1) (t2 := t2) (t3 := t3) e r => by
    have r1 : Reads h (.ref _) (tripData t) [] := Reads.tuple e rfl rfl (ReadsAll.cons (Reads.int _ t1) (ReadsAll.cons (Reads.int _ t2) (ReadsAll.cons (Reads.int _ t3) ReadsAll.nil)))
    exact ReadsAll.cons r1 (reads_trips r)
theorem reads_tripList {h : Heap} {D : Addr} {vs : List Value} {ts : List (Nat × Nat × Nat)} (hl : h.IsList D vs.toArray) (ht : TripsAt h vs ts) : Reads h (.ref D) (.list (ts.map tripData)) [D] := by
  obtain ⟨o, e, c, n, d⟩ := hl
  exact Reads.list e c d (by simpa using reads_trips ht)
theorem canLay_trips : ∀ ts : List (Nat × Nat × Nat), PyData.canLayAll0 (ts.map tripData) = true
  | [] => rfl
  | t :: r => by simp [PyData.canLayAll0, PyData.canLay0, tripData, canLay_trips r]
theorem depth_trips : ∀ ts : List (Nat × Nat × Nat), PyData.depthAll (ts.map tripData) ≤ 3
  | [] => by simp [PyData.depthAll]
  | t :: r => by
    have := depth_trips r
    simp only [List.map_cons, PyData.depthAll, tripData, PyData.depth] at this ⊢
    omega
theorem shaped_trips (ts : List (Nat × Nat × Nat)) : SeqAt.shaped (.list (ts.map tripData)) = true := by
  have h := depth_trips ts
  have h2 : PyData.depth (.list (ts.map tripData)) ≤ 64 := by simp only [PyData.depth]; omega
  show (PyData.canLay0 (.list (ts.map tripData)) && decide (PyData.depth (.list (ts.map tripData)) ≤ 64)) = true
  rw [Bool.and_eq_true]
  exact ⟨by simp only [PyData.canLay0]; exact canLay_trips ts, decide_eq_true h2⟩
theorem eqv_trips : ∀ ts us : List (Nat × Nat × Nat), PyData.eqvAll (ts.map tripData) (us.map tripData) = decide (ts = us)
  | [], [] => by simp [PyData.eqvAll]
  | [], _ :: _ => by simp [PyData.eqvAll]
  | _ :: _, [] => by simp [PyData.eqvAll]
  | (a, b, c) :: r, (a', b', c') :: q => by
    simp only [List.map_cons, PyData.eqvAll, eqv_trips r q, tripData, PyData.eqv, Bool.and_true]
    rw [Bool.eq_iff_iff]
    simp
    omega
theorem ne_trips {prog : Program} {w : World} {A : Around} {E : Value → Shared → Prop} {s : Shared} {Q : Value → Shared → Prop} {D D' : Addr} {vs vs' : List Value} {ts ts' : List (Nat × Nat × Nat)}
    (hl : s.heap.IsList D vs.toArray) (ht : TripsAt s.heap vs ts) (hl' : s.heap.IsList D' vs'.toArray) (ht' : TripsAt s.heap vs' ts') (hu : A.units + 64 < cLine) (h : Q (.bool (!decide (ts = ts'))) s) :
    wpAny (model prog w) A (compareOp .NotEq (.ref D) (.ref D')) Q E s := by
  refine ne_dataH (reads_tripList hl ht) (reads_tripList hl' ht') (shaped_trips _) (shaped_trips _) hu ?_
  simp only [PyData.eqv, eqv_trips]
  exact h
theorem eq_trips {prog : Program} {w : World} {A : Around} {E : Value → Shared → Prop} {s : Shared} {Q : Value → Shared → Prop} {D D' : Addr} {vs vs' : List Value} {ts ts' : List (Nat × Nat × Nat)}
    (hl : s.heap.IsList D vs.toArray) (ht : TripsAt s.heap vs ts) (hl' : s.heap.IsList D' vs'.toArray) (ht' : TripsAt s.heap vs' ts') (hu : A.units + 64 < cLine) (h : Q (.bool (decide (ts = ts'))) s) :
    wpAny (model prog w) A (compareOp .Eq (.ref D) (.ref D')) Q E s := by
  refine eq_dataH (reads_tripList hl ht) (reads_tripList hl' ht') (shaped_trips _) (shaped_trips _) hu ?_
  simp only [PyData.eqv, eqv_trips]
  exact h
/-- less's loop: from 2 on -/
def lessUp (f g : Nat → Nat) : Nat → Bool
  | 0 => true
  | k + 1 => lessUp f g k && decide (f (k + 2) < g (k + 2))
theorem lessUp_fails {f g : Nat → Nat} {i : Nat} (h : g (i + 2) ≤ f (i + 2)) : ∀ {n : Nat}, i < n → lessUp f g n = false
  | n + 1, hi => by
    rw [lessUp]
    by_cases e : i = n
    · subst e; simp; intro _; exact h
    · rw [lessUp_fails h (show i < n by omega)]; rfl
def lessF (st su : WS) : Bool :=
  if su.n ≤ st.n then false else if st.cnt.length ≤ 1 ∧ su.cnt.length ≤ 1 then decide (st.nt ≤ su.nt) else lessUp (level st) (level su) (reachOf st su - 1)
theorem range_from2 {n : Nat} (h : 1 ≤ n) : Builtin.Range.rangeSize 2 ((n : Int) + 1) 1 = ((n - 1 : Nat) : Int) := by
  unfold Builtin.Range.rangeSize
  rw [if_pos (by decide)]
  split <;> omega
theorem reach_pos (a b : WS) : 1 ≤ reachOf a b := by
  have := long_nonneg a
  have := reach_is a b
  omega
end part_H8
section part_C8
open PySem PySem.W PySem.Calls PyProof.Rows
set_option Elab.async false
set_option maxRecDepth 100000
set_option maxHeartbeats 4000000
theorem off_C8 : True := by
  w_top off
  trivial
local macro_rules | `(tactic| walk_at "getAttr ref") => `(tactic| (k_here; k_dflt (refine' get_own ?k1 ?k2 ?k3 ?k4 ?k5 ?k6 ?k7 ?k8 ?k9 ?_; (case k1 => k_asm); (case k2 => k_asm); (case k3 => exact ws_inst (by k_asm) (by assumption) (by assumption)); (case k4 => k_is); (case k5 => k_is); (case k6 => k_is); (case k7 => k_is); (case k8 => k_get); (case k9 => k_handed); k_whole)))
local macro_rules | `(tactic| walk_at "compareOp Eq ref ref") => `(tactic| (k_dflt (refine' eq_norm ?a1 ?a2 ?a3 ?b1 ?b2 ?b3 ?u ?_; (case a1 => exact IsTup.keeps (by assumption) (Fr.keep (by k_asm))); (case a2 => exact IsTup.keeps (by assumption) (Fr.keep (by k_asm))); (case a3 => assumption); (case b1 => exact IsTup.keeps (by assumption) (Fr.keep (by k_asm))); (case b2 => exact IsTup.keeps (by assumption) (Fr.keep (by k_asm))); (case b3 => assumption); (case u => assumption))))

theorem eq_call {w : World} {A : Around} {s : Shared} {p : Program} {loose : List Str} {mean : ExcName → Option Value} {mg mb : Str → Option Value} {x y : Addr} {st su : WS}
    (X : (Mine.hd.heap_39 w.params).In s.heap) (T : Top p loose mean mg mb s.heap) (hh : A.handled = none) (hd : A.depth + 2 < recursionLimit) (hu : A.units + 67 < cLine) (Wx : WsAt w.params s.heap x st) (Wy : WsAt w.params s.heap y su) :
    codeAny (model Challenge.rw_mr0203_01.row.prog w) A (.call (.ref 59) ⟨[.ref x, .ref y], []⟩) (Ret s fun v h' => v = .bool (decide (st.cnt = su.cnt ∧ st.b = su.b))) s := by
  refine Wx.all ?_
  intro dx T1 T2 cvs k1 k2 k3 k4 k5 tb tn tt raw e1 e2 t1 t2 hi hc
  refine Wy.all ?_
  intro dx' T1' T2' cvs' k1' k2' k3' k4' k5' tb' tn' tt' raw' e1' e2' t1' t2' hi' hc'
  revert X
  k_fill
  intro X
  k_dflt (refine' enterK (binds := [(Str.ofString "self", .ref x), (Str.ofString "other", .ref y)]) X T ?k1 ?k2 ?k3 ?k4 ?k5 ?k6 ?k7 ?k8 ?k9 ?_; (case k1 => k_is); (case k2 => k_is); (case k3 => omega); (case k4 => exact BindsTo.of_eq rfl); (case k5 => exact locs rfl); (case k6 => exact rfl); (case k7 => exact rfl); (case k8 => exact rfl); (case k9 => decide))
  intro L h₁ tk₁ F
  have N : News s.heap L h₁ [] := News.nil
  have hu' : (A.deeper (envOf (Str.ofString "Whitespace.equal") default L 59 .none)).units + 64 < cLine := by show A.units + 3 + 64 < cLine; omega
  replace hu : A.units + 3 + 64 < cLine := hu'
  k_steps
  exact ⟨_, _, _, rfl, rfl, F.keep, rfl⟩

theorem less_call {w : World} {A : Around} {s : Shared} {p : Program} {loose : List Str} {mean : ExcName → Option Value} {mg mb : Str → Option Value} {x y : Addr} {st su : WS}
    (X : (Mine.hd.heap_39 w.params).In s.heap) (T : Top p loose mean mg mb s.heap) (hh : A.handled = none) (hd : A.depth + 2 < recursionLimit) (Wx : WsAt w.params s.heap x st) (Wy : WsAt w.params s.heap y su) (hre : reachOf st su ≤ 90) :
    codeAny (model Challenge.rw_mr0203_01.row.prog w) A (.call (.ref 73) ⟨[.ref x, .ref y], []⟩) (Ret s fun v h' => v = .bool (lessF st su)) s := by
  refine Wx.all ?_
  intro dx T1 T2 cvs k1 k2 k3 k4 k5 tb tn tt raw e1 e2 t1 t2 hi hc
  refine Wy.all ?_
  intro dx' T1' T2' cvs' k1' k2' k3' k4' k5' tb' tn' tt' raw' e1' e2' t1' t2' hi' hc'
  clear t1 t2 t1' t2' hi hi'
  revert X
  k_fill
  intro X
  k_dflt (refine' enterK (binds := [(Str.ofString "self", .ref x), (Str.ofString "other", .ref y)]) X T ?k1 ?k2 ?k3 ?k4 ?k5 ?k6 ?k7 ?k8 ?k9 ?_; (case k1 => k_is); (case k2 => k_is); (case k3 => omega); (case k4 => exact BindsTo.of_eq rfl); (case k5 => exact locs rfl); (case k6 => exact rfl); (case k7 => exact rfl); (case k8 => exact rfl); (case k9 => decide))
  intro L h₁ tk₁ F
  have N : News s.heap L h₁ [] := News.nil
  refine hide fun K hK => ?_
  k_steps
  · rename (_ : Int) ≤ _ => hn
    subst hK
    exact ⟨_, _, _, rfl, rfl, F.keep, by unfold lessF; rw [if_pos (by omega)]⟩
  · rename ¬ ((_ : Int) ≤ _) => hn
    rename_i h1 h2 _
    subst hK
    exact ⟨_, _, _, rfl, rfl, F.keep, by unfold lessF; rw [if_neg (by omega), if_pos ⟨by omega, by omega⟩]; exact congrArg Value.bool (decide_eq_decide.mpr Int.ofNat_le)⟩
  · have hL : lessF st su = lessUp (level st) (level su) (reachOf st su - 1) := by unfold lessF; rw [if_neg (by omega), if_neg (by omega)]
    rename IsRange _ _ _ _ _ _ _ _ => hr
    rename Fr _ _ _ _ => F'
    rename News _ _ _ _ => N'
    rw [reach_is] at hr
    have hrp := reach_pos st su
    refine lp_range (n := reachOf st su - 1) (fun i m news => news = [] ∧ lessUp (level st) (level su) i = true ∧ m (Str.ofString "self") = some (.ref x) ∧ m (Str.ofString "other") = some (.ref y)) hh hr (small_one (by omega) (by omega) (by omega) (by omega)) (range_from2 hrp) F' N'
      ⟨rfl, rfl, rfl, rfl⟩ ?_ ?_
    · rintro i t m₁ news₁ h tk2 I oI hlt ⟨rfl, hup, h2, h3⟩ hne F₁ N₁
      clear N' F'
      replace F₁ : Fr s.heap L h _ := fr_turn [(Str.ofString "self", .ref x), (Str.ofString "other", .ref y)] F₁ (allc h2 (all1 h3))
      rw [show (2 : Int) + (i : Int) = ((i + 2 : Nat) : Int) by omega] at F₁
      replace N₁ : News s.heap L h _ := N₁
      generalize hTE : TurnEnd _ _ _ _ _ _ _ = TE
      k_steps
      all_goals (subst hTE)
      · rename Fr _ _ _ _ => F₂
        rename (_ : Int) ≤ _ => hcmp
        subst hK
        exact ⟨_, _, _, rfl, rfl, F₂.keep, by rw [hL, lessUp_fails (Int.ofNat_le.mp hcmp) hlt]⟩
      · rename Fr _ _ _ _ => F₂
        rename News _ _ _ _ => N₂
        rename ¬ ((_ : Int) ≤ _) => hcmp
        exact TurnEnd.next F₂ N₂ (fun _ h => nomatch h) ⟨rfl, by rw [lessUp, hup]; simp; omega, rfl, rfl⟩
    · rintro m₁ news₁ h tk2 ⟨rfl, hup, h2, h3⟩ F₁ N₁
      clear N' F'
      replace F₁ : Fr s.heap L h _ := F₁
      replace N₁ : News s.heap L h _ := N₁
      k_steps
      subst hK
      exact ⟨_, _, _, rfl, rfl, F₁.keep, by rw [hL, hup]⟩
  · have hL : lessF st su = lessUp (level st) (level su) (reachOf st su - 1) := by unfold lessF; rw [if_neg (by omega), if_neg (by omega)]
    rename IsRange _ _ _ _ _ _ _ _ => hr
    rename Fr _ _ _ _ => F'
    rename News _ _ _ _ => N'
    rw [reach_is] at hr
    have hrp := reach_pos st su
    refine lp_range (n := reachOf st su - 1) (fun i m news => news = [] ∧ lessUp (level st) (level su) i = true ∧ m (Str.ofString "self") = some (.ref x) ∧ m (Str.ofString "other") = some (.ref y)) hh hr (small_one (by omega) (by omega) (by omega) (by omega)) (range_from2 hrp) F' N'
      ⟨rfl, rfl, rfl, rfl⟩ ?_ ?_
    · rintro i t m₁ news₁ h tk2 I oI hlt ⟨rfl, hup, h2, h3⟩ hne F₁ N₁
      clear N' F'
      replace F₁ : Fr s.heap L h _ := fr_turn [(Str.ofString "self", .ref x), (Str.ofString "other", .ref y)] F₁ (allc h2 (all1 h3))
      rw [show (2 : Int) + (i : Int) = ((i + 2 : Nat) : Int) by omega] at F₁
      replace N₁ : News s.heap L h _ := N₁
      generalize hTE : TurnEnd _ _ _ _ _ _ _ = TE
      k_steps
      all_goals (subst hTE)
      · rename Fr _ _ _ _ => F₂
        rename (_ : Int) ≤ _ => hcmp
        subst hK
        exact ⟨_, _, _, rfl, rfl, F₂.keep, by rw [hL, lessUp_fails (Int.ofNat_le.mp hcmp) hlt]⟩
      · rename Fr _ _ _ _ => F₂
        rename News _ _ _ _ => N₂
        rename ¬ ((_ : Int) ≤ _) => hcmp
        exact TurnEnd.next F₂ N₂ (fun _ h => nomatch h) ⟨rfl, by rw [lessUp, hup]; simp; omega, rfl, rfl⟩
    · rintro m₁ news₁ h tk2 ⟨rfl, hup, h2, h3⟩ F₁ N₁
      clear N' F'
      replace F₁ : Fr s.heap L h _ := F₁
      replace N₁ : News s.heap L h _ := N₁
      k_steps
      subst hK
      exact ⟨_, _, _, rfl, rfl, F₁.keep, by rw [hL, hup]⟩
end part_C8
end Mine
end group_C7
section part_H9
open PySem PySem.W PySem.Calls PyProof.Rows
set_option Elab.async false
set_option maxRecDepth 100000
namespace Mine
section
variable {prog : Program} {w : World} {A : Around} {s : Shared} {env : Env} {h₀ : Heap} {x : Str} {px : Pos} {body : List Stmt} {Q : Flow → Shared → Prop}

/-- a for-loop of any Name for target (a cell too): the turn stores it itself -/
theorem lpT_gen {I : Addr} {fp : List Addr} {n : Nat} {P : Nat → Value → Prop} {St : Nat → Heap → Prop} {m₀ : Str → Option Value} {news kept : List (Addr × Obj)} (J : Nat → (Str → Option Value) → List (Addr × Obj) → Prop)
    (W : Walks prog w A I fp [I] n P St) (hLf : env.locals ∉ fp) (hI0 : h₀.get? I = none) (hnw : ∀ p ∈ news, p.1 ≠ I) (hfp : ∀ b ∈ fp, h₀.get? b = none → b = I ∨ ∃ o, (b, o) ∈ kept)
    (hkept : ∀ i m nw, J i m nw → ∀ p ∈ kept, p ∈ nw)
    (hSt : ∀ i h, St i h → ∃ o, h.get? I = some o) (hst : St 0 s.heap) (F : Fr h₀ env.locals s.heap m₀) (N : News h₀ env.locals s.heap news) (hj : J 0 m₀ news)
    (turn : ∀ i v m₁ news₁ h tk oI, i < n → P i v → J i m₁ news₁ → (∀ p ∈ news₁, p.1 ≠ I) → Fr h₀ env.locals h m₁ → News h₀ env.locals h ((I, oI) :: news₁) →
      wpAny (model prog w) A (assign (.Name x px) env v) (fun _ s₂ => wpAny (model prog w) A (execs body env) (TurnEnd h₀ env.locals I oI (J (i + 1)) s Q) (fun _ _ => False) s₂) (fun _ _ => False) { s with heap := h, toks := tk })
    (done : ∀ m₁ news₁ h tk, J n m₁ news₁ → Fr h₀ env.locals h m₁ → News h₀ env.locals h news₁ → Q .next { s with heap := h, toks := tk }) {E : Value → Shared → Prop} :
    codeAny (model prog w) A (.forLoop (.Name x px) (.ref I) body [] env) (fun r s' => match r with | .ok f => Q f s' | .error e => cameBackBy (model prog w) A env E e s') s := by
  have hLI : env.locals ≠ I := fun e => hLf (e ▸ W.sub I (List.mem_singleton.mpr rfl))
  refine codeAny_forLoop (fun k s' => ∃ h' tk m' nw i, s' = { s with heap := h', toks := tk } ∧ St i h' ∧ Fr h₀ env.locals h' m' ∧ News h₀ env.locals h' nw ∧ (∀ p ∈ nw, p.1 ≠ I) ∧ J i m' nw ∧ i ≤ n ∧ k = n + 1 - i) ?_ (n + 1)
    ⟨s.heap, s.toks, m₀, news, 0, rfl, hst, F, N, hnw, hj, Nat.zero_le _, rfl⟩
  rintro k s' ⟨h', tk, m', nw, i, rfl, hst', F', N', hne, hJ, hi, rfl⟩
  have next : ∀ h₁ : Heap, (∀ b o, b ∉ [I] → h'.get? b = some o → h₁.get? b = some o) → Fr h₀ env.locals h₁ m' ∧ News h₀ env.locals h₁ nw := fun h₁ hk₁ =>
    ⟨LCg.fr_but F' hk₁ hLI hI0, LCg.news_but N' hk₁ hne⟩
  by_cases hlt : i < n
  · refine W.item i _ _ _ hlt hst' fun v h₁ tk₁ hP hst₁ hk₁ => ?_
    obtain ⟨F₁, N₁⟩ := next h₁ hk₁
    obtain ⟨oI, hoI⟩ := hSt _ _ hst₁
    have N₂ : News h₀ env.locals h₁ ((I, oI) :: nw) := fun p hp => by
      rcases List.mem_cons.mp hp with rfl | hp
      · exact ⟨hoI, Ne.symm hLI, hI0⟩
      · exact N₁ p hp
    refine wpAny_mono (turn i v m' nw h₁ tk₁ oI hlt hP hJ hne F₁ N₂) (fun _ s₂ q => wpAny_mono q (fun f s₃ q₃ => ?_) fun _ _ e => e.elim) fun _ _ e => e.elim
    have go : (∃ h' tk m' news', s₃ = { s with heap := h', toks := tk } ∧ Fr h₀ env.locals h' m' ∧ News h₀ env.locals h' ((I, oI) :: news') ∧ (∀ p ∈ news', p.1 ≠ I) ∧ J (i + 1) m' news') →
        ∃ m, m < n + 1 - i ∧ ∃ h' tk m' nw j, s₃ = { s with heap := h', toks := tk } ∧ St j h' ∧ Fr h₀ env.locals h' m' ∧ News h₀ env.locals h' nw ∧ (∀ p ∈ nw, p.1 ≠ I) ∧ J j m' nw ∧ j ≤ n ∧ m = n + 1 - j := by
      rintro ⟨h₃, tk₃, m₃, nw₃, rfl, F₃, N₃, hne₃, hJ₃⟩
      refine ⟨n + 1 - (i + 1), by omega, h₃, tk₃, m₃, nw₃, i + 1, rfl, W.frame _ _ _ hst₁ fun b hb o e => ?_, F₃, fun p hp => N₃ p (.tail _ hp), hne₃, hJ₃, hlt, rfl⟩
      cases hn : h₀.get? b with
      | some o₀ =>
        have : o₀ = o := by have := F₁.keep b o₀ hn; rw [e] at this; exact (Option.some.inj this).symm
        exact this ▸ F₃.keep b o₀ hn
      | none =>
        rcases hfp b hb hn with rfl | ⟨ob, hob⟩
        · rw [hoI] at e; cases e; exact (N₃ _ (.head _)).1
        · have e1 := (N₁ _ (hkept _ _ _ hJ _ hob)).1
          dsimp only at e1
          rw [e] at e1; cases e1
          exact (N₃ _ (.tail _ (hkept _ _ _ hJ₃ _ hob))).1
    cases f with
    | ret v => exact q₃
    | brk => exact q₃
    | next => exact go q₃
    | cont => exact go q₃
  · have hin : i = n := by omega
    subst hin
    refine W.done _ _ _ hst' fun h₁ tk₁ hk₁ => wpAny_execs_nil ?_
    obtain ⟨F₁, N₁⟩ := next h₁ hk₁
    exact done m' nw h₁ tk₁ hJ F₁ N₁

theorem lpT_range {r : Addr} {a₀ b₀ : Int} {t₀ u₀ v₀ : Tok} {n : Nat} {m₀ : Str → Option Value} {news : List (Addr × Obj)} (J : Nat → (Str → Option Value) → List (Addr × Obj) → Prop)
    (hh : A.handled = none) (hr : IsRange s.heap r a₀ b₀ 1 t₀ u₀ v₀) (hsmall : Builtin.Range.small a₀ b₀ 1 = true) (hn : Builtin.Range.rangeSize a₀ b₀ 1 = (n : Int))
    (F : Fr h₀ env.locals s.heap m₀) (N : News h₀ env.locals s.heap news) (hj : J 0 m₀ news)
    (turn : ∀ i t m₁ news₁ h tk I oI, i < n → J i m₁ news₁ → (∀ p ∈ news₁, p.1 ≠ I) → Fr h₀ env.locals h m₁ → News h₀ env.locals h ((I, oI) :: news₁) →
      wpAny (model prog w) A (assign (.Name x px) env (.int (a₀ + (i : Int)) t)) (fun _ s₂ => wpAny (model prog w) A (execs body env) (TurnEnd h₀ env.locals I oI (J (i + 1)) s Q) (fun _ _ => False) s₂) (fun _ _ => False) { s with heap := h, toks := tk })
    (done : ∀ m₁ news₁ h tk, J n m₁ news₁ → Fr h₀ env.locals h m₁ → News h₀ env.locals h news₁ → Q .next { s with heap := h, toks := tk }) {E : Value → Shared → Prop} :
    wpAny (model prog w) A (pyIter (.ref r)) (fun it s₂ => codeAny (model prog w) A (.forLoop (.Name x px) it body [] env) (fun r s' => match r with | .ok f => Q f s' | .error e => cameBackBy (model prog w) A env E e s') s₂) E s := by
  refine wpAny_pyIter_range hr hsmall ?_
  have W := Walks.range (prog := prog) (w := w) hh s.heap.objs.size a₀ 1 n
  refine lpT_gen (h₀ := h₀) (kept := []) J W ?_ (next_is_new F) (fun p hp e => absurd (Heap.lt_size (N p hp).1) (e ▸ Nat.lt_irrefl _)) (fun b hb _ => .inl (List.mem_singleton.mp hb)) (fun _ _ _ _ _ h => nomatch h) (fun i h st => ⟨_, st⟩)
    (by show IsRangeIter _ _ _ _ _; rw [hn]; simpa using Heap.get?_push_size _ rfl) (F.push _) (fun p hp => ⟨Heap.get?_push_of_some _ (N p hp).1, (N p hp).2⟩) hj ?_ ?_
  · intro hm
    exact absurd F.ns.lt ((List.mem_singleton.mp hm) ▸ Nat.lt_irrefl _)
  · rintro i v m₁ news₁ h tk oI hi ⟨t, rfl⟩ hJ hne F₁ N₁
    rw [Int.mul_one]
    exact turn i t m₁ news₁ h tk _ oI hi hJ hne F₁ N₁
  · exact done

theorem lpT_list {l : Addr} {vs : List Value} {ol : Obj} {m₀ : Str → Option Value} {news : List (Addr × Obj)} (J : Nat → (Str → Option Value) → List (Addr × Obj) → Prop)
    (hh : A.handled = none) (hl : (l, ol) ∈ news) (hol : ol.cls = .type "list" ∧ ∃ k, ol.data = .seq vs.toArray k) (hkept : ∀ i m nw, J i m nw → (l, ol) ∈ nw)
    (F : Fr h₀ env.locals s.heap m₀) (N : News h₀ env.locals s.heap news) (hj : J 0 m₀ news)
    (turn : ∀ i v m₁ news₁ h tk I oI, vs[i]? = some v → J i m₁ news₁ → (∀ p ∈ news₁, p.1 ≠ I) → Fr h₀ env.locals h m₁ → News h₀ env.locals h ((I, oI) :: news₁) →
      wpAny (model prog w) A (assign (.Name x px) env v) (fun _ s₂ => wpAny (model prog w) A (execs body env) (TurnEnd h₀ env.locals I oI (J (i + 1)) s Q) (fun _ _ => False) s₂) (fun _ _ => False) { s with heap := h, toks := tk })
    (done : ∀ m₁ news₁ h tk, J vs.length m₁ news₁ → Fr h₀ env.locals h m₁ → News h₀ env.locals h news₁ → Q .next { s with heap := h, toks := tk }) {E : Value → Shared → Prop} :
    wpAny (model prog w) A (pyIter (.ref l)) (fun it s₂ => codeAny (model prog w) A (.forLoop (.Name x px) it body [] env) (fun r s' => match r with | .ok f => Q f s' | .error e => cameBackBy (model prog w) A env E e s') s₂) E s := by
  have hls : s.heap.IsList l vs.toArray := ⟨ol, (N _ hl).1, hol.1, hol.2⟩
  have hlt : l < s.heap.objs.size := Heap.lt_size (N _ hl).1
  have hne : l ≠ s.heap.objs.size := Nat.ne_of_lt hlt
  refine wpAny_pyIter_list hls ?_
  have W := Walks.list (prog := prog) (w := w) hh s.heap.objs.size l hne vs.toArray
  refine lpT_gen (h₀ := h₀) (kept := [(l, ol)]) J W ?_ (next_is_new F) (fun p hp e => absurd (Heap.lt_size (N p hp).1) (e ▸ Nat.lt_irrefl _)) ?_ (fun i m nw j p hp => (List.mem_singleton.mp hp) ▸ hkept i m nw j) (fun i h st => let ⟨o, ho, _⟩ := st.1; ⟨o, ho⟩)
    ⟨⟨_, Heap.get?_push_size _ rfl, rfl, rfl⟩, hls.at fun o e => Heap.get?_push_of_some _ e⟩ (F.push _) (fun p hp => ⟨Heap.get?_push_of_some _ (N p hp).1, (N p hp).2⟩) hj ?_ ?_
  · intro hm
    rcases List.mem_cons.mp hm with e | hm
    · exact absurd F.ns.lt (e ▸ Nat.lt_irrefl _)
    · exact (N _ hl).2.1 (List.mem_singleton.mp hm).symm
  · intro b hb hn
    rcases List.mem_cons.mp hb with e | hb
    · exact .inl e
    · exact .inr ⟨ol, by rw [List.mem_singleton.mp hb]; exact .head _⟩
  · rintro i v m₁ news₁ h tk oI hi hP hJ hne F₁ N₁
    exact turn i v m₁ news₁ h tk _ oI (by simpa using hP) hJ hne F₁ N₁
  · intro m₁ news₁ h tk hJ
    exact done m₁ news₁ h tk (by simpa using hJ)
end
end Mine
namespace Mine
def bodyOf : Stmt → List Stmt
  | .FunctionDef _ _ b _ _ _ _ _ _ _ => b
  | _ => []
def scopeOf : Stmt → Scope
  | .FunctionDef _ _ _ _ _ _ sc _ _ _ => sc
  | _ => default
def nth (n : Nat) : List Stmt → Stmt
  | [] => default
  | s :: r => match n with | 0 => s | k + 1 => nth k r
noncomputable def lawStmt : Stmt := nth 10 Challenge.pw_mr0203_01.main.body
noncomputable def lawBody : List Stmt := bodyOf lawStmt
noncomputable def lawScopeP : { sc : Scope // sc = scopeOf lawStmt } := ⟨Scope.mk _ _ _ _ _, by with_unfolding_all rfl⟩
noncomputable def lawScope : Scope := lawScopeP.1
noncomputable def law0P : { st : Stmt // st = nth 0 lawBody } := ⟨Stmt.Assign _ _ _, by with_unfolding_all rfl⟩
noncomputable def law1P : { st : Stmt // st = nth 1 lawBody } := ⟨Stmt.Assign _ _ _, by with_unfolding_all rfl⟩
noncomputable def law2P : { st : Stmt // st = nth 2 lawBody } := ⟨Stmt.Assign _ _ _, by with_unfolding_all rfl⟩
noncomputable def law3P : { st : Stmt // st = nth 3 lawBody } := ⟨Stmt.Assign _ _ _, by with_unfolding_all rfl⟩
noncomputable def law4P : { st : Stmt // st = nth 4 lawBody } := ⟨Stmt.Assign _ _ _, by with_unfolding_all rfl⟩
noncomputable def law5P : { st : Stmt // st = nth 5 lawBody } := ⟨Stmt.Assign _ _ _, by with_unfolding_all rfl⟩
noncomputable def law6P : { st : Stmt // st = nth 6 lawBody } := ⟨Stmt.Assign _ _ _, by with_unfolding_all rfl⟩
noncomputable def law7P : { st : Stmt // st = nth 7 lawBody } := ⟨Stmt.For _ _ _ _ _, by with_unfolding_all rfl⟩
noncomputable def law8P : { st : Stmt // st = nth 8 lawBody } := ⟨Stmt.For _ _ _ _ _, by with_unfolding_all rfl⟩
noncomputable def law9P : { st : Stmt // st = nth 9 lawBody } := ⟨Stmt.Return _ _, by with_unfolding_all rfl⟩
theorem law_whole : lawBody = [law0P.1, law1P.1, law2P.1, law3P.1, law4P.1, law5P.1, law6P.1, law7P.1, law8P.1, law9P.1] := by with_unfolding_all rfl
noncomputable abbrev lawCl (L : Addr) : List (Str × Addr) := [(Str.ofString "one", L + 1 + 1 + 1 + 1 + 1), (Str.ofString "k", L + 1 + 1 + 1 + 1), (Str.ofString "lead", L + 1 + 1 + 1), (Str.ofString "columns", L + 1 + 1), (Str.ofString "octet", L + 1)]
noncomputable abbrev lawEnv (L f : Addr) (cd : Value) : Env := envX (Str.ofString "law") lawScope L f cd (lawCl L)
theorem lawEnv_is (L f : Addr) (cd : Value) : envOfC (Str.ofString "law") (scopeOf lawStmt) L f cd = lawEnv L f cd := by with_unfolding_all rfl
end Mine
end part_H9
section part_H10
open PySem PySem.W PySem.Calls PyProof.Rows
set_option Elab.async false
set_option maxRecDepth 100000
namespace Mine
theorem sl_ints {prog : Program} {w : World} {A : Around} {E : Value → Shared → Prop} {hp h₀ : Heap} {g : Array GenState} {d : Drawn} {t : Nat} {os : OsState} {L l : Addr} {m : Str → Option Value} {news : List (Addr × Obj)} {value slice : Expr} {vl vu : Value} {lo hi : Option Int} {vs : List Value} {ns ms : List Int} {Q : Value → Shared → Prop}
    (F : Fr h₀ L hp m) (N : News h₀ L hp news) (hl : hp.IsList l vs.toArray) (pl : IsPart vl lo) (pu : IsPart vu hi) (hi' : IntsAre vs ns) (hm : IntsAre (slicePick vs.toArray lo hi none).toList ms)
    (h : ∀ D ws h', Fr h₀ L h' m → News h₀ L h' ((D, W.listOf (List.toArray ws) 0) :: news) → (∀ p ∈ news, p.1 < D) → IntsAre ws ms → Q (.ref D) ⟨h', g, d, t, os⟩)
    (hs : subscripted slice false (.ref l) (.ref hp.objs.size) = operate [.ref hp.objs.size, .ref l] (getItem (.ref l) (.ref hp.objs.size))) (ht : ∀ r, letTemporaryGo value (.ref l) r = pure ()) (hz : ns.length ≤ 1000) :
    wpAny (model prog w) A (subscriptTail value slice (.ref l) (.ref hp.objs.size)) Q E ⟨hp.push { cls := .type "slice", data := .fields #[vl, vu, .none] }, g, d, t, os⟩ :=
  kmk_slice_ints (s := ⟨hp, g, d, t, os⟩) F N hl pl pu hi' hm rfl (fun D ws h' F' N' l1 hI _ _ => h D ws h' F' N' l1 hI) hs ht (by rw [List.size_toArray, hi'.length, sizeLine_eq]; omega)
end Mine
end part_H10
section group_C9
open PySem PySem.W PySem.Calls PyProof.Rows
set_option Elab.async false
set_option maxRecDepth 100000
namespace Mine
local macro_rules | `(tactic| walk_at "eval Name") => `(tactic| ((with_reducible show wpAny _ _ (eval (Expr.Name _ _) (lawEnv _ _ _)) _ _ _); k_dflt (first
  | (refine' nameX_L (cn := Str.ofString "law") (cs := lawScope) ?F ?v ?_ ?a ?b; (case a => rfl); (case b => rfl); (case F => k_asm); (case v => rfl); k_whole)
  | (refine' nameX_C (cn := Str.ofString "law") (cs := lawScope) ?N ?c ?m ?d ?_ ?a ?b; (case a => rfl); (case b => rfl); (case N => k_asm); (case c => rfl); (case m => k_mem); (case d => k_asm); k_whole)
  | (refine' nameX_K (cn := Str.ofString "law") (cs := lawScope) ?F ?X ?T ?e ?_ ?a ?b; (case a => rfl); (case b => rfl); (case F => k_asm); (case X => k_asm); (case T => k_asm); (case e => k_is); k_whole)
  | (refine' nameX_B (cn := Str.ofString "law") (cs := lawScope) ?F ?X ?T ?e ?v ?n ?_ ?a ?b; (case a => rfl); (case b => rfl); (case F => k_asm); (case X => k_asm); (case T => k_asm); (case e => k_is); (case v => boot_fast); (case n => decide); k_whole))))
local macro_rules | `(tactic| walk_at "storeName") => `(tactic| ((with_reducible show wpAny _ _ (storeName (lawEnv _ _ _) _ _) _ _ _); k_dflt (first
  | (refine' storeX_L (cn := Str.ofString "law") (cs := lawScope) ?F ?N ?_ ?a ?b; (case a => rfl); (case b => rfl); (case F => k_asm); (case N => k_asm); k_whole; intro h' F' N'; (try k_sweep))
  | (refine' storeX_C (cn := Str.ofString "law") (cs := lawScope) ?F ?N ?c ?U ?d ?_ ?a ?b; (case a => rfl); (case b => rfl); (case F => k_asm); (case N => k_asm); (case c => rfl); (case U => k_updF); (case d => k_asm); k_whole; intro h' o' F' N' d'; (try dsimp only at N'); (try k_sweep)))))
local macro_rules | `(tactic| walk_at "subscriptTail") => `(tactic| ((with_reducible show wpAny _ _ (subscriptTail _ (PySem.Expr.Slice _ _ none _) (Value.ref _) (Value.ref _)) _ _ _); k_dflt (refine' sl_ints ?F ?N ?l ?p ?q ?i ?m ?_ ?s ?t ?z; (case F => k_asm); (case N => k_asm); (case l => kmk_list); (case p => kmk_part); (case q => kmk_part); (case i => l_ints); (case m => first | exact kmk_from (by l_ints) (by first | decide | omega) | exact kmk_upto (by l_ints) (by first | decide | omega) | exact kmk_run (by l_ints) (by first | decide | omega) (by first | decide | omega)); (case s => with_unfolding_all rfl); (case t => kmk_pure); (case z => first | decide | omega | (simp only [List.length_cons, List.length_nil]; omega))); intro D' ws' h' F' N' l1 hI'; (try simp only [Int.reduceNeg, Int.neg_neg, Int.reduceToNat] at hI'); (try k_lt l1); (try k_sweep)))
local macro_rules | `(tactic| walk_at "subscriptTail Name Slice ref ref") => `(tactic| walk_at "subscriptTail")
section part_C9
open PySem PySem.W PySem.Calls PyProof.Rows
set_option Elab.async false
set_option maxRecDepth 100000
set_option maxHeartbeats 4000000
theorem off_C9 : True := by
  w_top off
  trivial

theorem law0 {w : World} {A : Around} {s : Shared} {p : Program} {loose : List Str} {mean : ExcName → Option Value} {mg mb : Str → Option Value} {L f l : Addr} {cd : Value} {base : Heap} {m : Str → Option Value} {vs : List Value} {ns : List Int} {o1 o2 o3 o4 o5 : Obj} {Q : Flow → Shared → Prop}
    (X : (Mine.hd.heap_39 w.params).In base) (T : Top p loose mean mg mb base) (hh : A.handled = none) (hd : A.depth + 20 < recursionLimit) (hu : A.units + 200 < cLine)
    (hl : base.IsList l vs.toArray) (hi : IntsAre vs ns) (hlen : ns.length ≤ 63) (F : Fr base L s.heap m) (hm : m (Str.ofString "script") = some (.ref l)) (N : News base L s.heap [(L + 1 + 1 + 1 + 1 + 1, o5), (L + 1 + 1 + 1 + 1, o4), (L + 1 + 1 + 1, o3), (L + 1 + 1, o2), (L + 1, o1)])
    (h : ∀ D rvs h' tk m', IntsAre rvs (ns.take 8 ++ [0, 2, 1, 3, 1, 0, 0, 120].drop ns.length) → Fr base L h' m' → m' (Str.ofString "row") = some (.ref D) → News base L h' [(D, W.listOf rvs.toArray 0), (L + 1 + 1 + 1 + 1 + 1, o5), (L + 1 + 1 + 1 + 1, o4), (L + 1 + 1 + 1, o3), (L + 1 + 1, o2), (L + 1, o1)] → Q .next { s with heap := h', toks := tk }) :
    wpAny (model Challenge.rw_mr0203_01.row.prog w) A (exec law0P.1 (lawEnv L f cd)) Q (fun _ _ => False) s := by
  revert X
  k_fill
  intro X
  replace F := fr_see [(Str.ofString "script", .ref l)] F (all1 hm)
  show wpAny _ _ (exec (Stmt.Assign _ _ _) _) _ _ _
  k_steps
  rename Fr _ _ _ _ => F₂
  rename News _ _ _ _ => N₂
  rename IntsAre _ _ => hI
  exact h _ _ _ _ _ (by simpa using hI) F₂ rfl (News.pick N₂ (sub_cons (.head _) fun p hp => .tail _ (.tail _ (.tail _ (.tail _ hp)))))
end part_C9
section part_H11
open PySem PySem.W PySem.Calls PyProof.Rows
set_option Elab.async false
set_option maxRecDepth 100000
set_option maxHeartbeats 2000000
open LCg LCp
section
variable {prog : Program} {w : World} {A : Around} {E : Value → Shared → Prop} {s : Shared} {h₀ : Heap} {L : Addr} {m : Str → Option Value} {env : Env}

/-- a comprehension over pairs that an iterator of its own makes; its elements change nothing -/
theorem block_Z {elt iter : Expr} {x x₂ : Str} {px px₂ tp : Pos} {tk} {scope : Scope} {cl : List (Str × Addr)} {pos : Pos} {s₂ : Shared} {I : Addr} {fp wr : List Addr} {n : Nat} {Pt : Nat → Array Value → Prop} {St : Nat → Heap → Prop} {Mid : Nat → Addr → Heap → Prop} {news : List (Addr × Obj)}
    {RR : Value → Addr → Result → Shared → Prop} (R : Nat → Value → Prop)
    (W : WalksU prog w A I fp wr n Pt St Mid) (hsz : n ≤ sizeLine)
    (hcell : ∀ y ∈ scope.names, y.2 ≠ .cell) (hkind : scope.kind = .function) (hx : scope.names.lookup x = some .local) (hx₂ : scope.names.lookup x₂ = some .local) (hxx : x ≠ x₂) (hh : A.handled = none)
    (hst : St 0 s₂.heap) (hfp : ∀ b ∈ fp, b < s₂.heap.objs.size)
    (F : Fr h₀ L s₂.heap m) (N : News h₀ L s₂.heap news) (hLw : L ∉ wr) (hwr : ∀ b ∈ wr, h₀.get? b = none) (off : ∀ p ∈ news, p.1 ∉ wr)
    (step : ∀ i v₁ v₂ C oC D oD m₂ h tk, i < n → Pt i #[v₁, v₂] → NsObj oC m₂ → m₂ x = some v₁ → m₂ x₂ = some v₂ → Fr h₀ L h m → News h₀ L h ((C, oC) :: (D, oD) :: news) →
      wpAny (model prog w) A (eval elt (compEnvC scope cl C env)) (EltR s₂ h (R i)) (fun _ _ => False) { s₂ with heap := h, toks := tk })
    (hPt : ∀ i vals, Pt i vals → ∃ v₁ v₂, vals = #[v₁, v₂])
    (hRR : ∀ D C h tk m' ys, Fr h₀ L h m → News h₀ L h ((D, lst ys) :: news) → (∀ p ∈ news, @LT.lt Nat _ p.1 D) → h.Ns C m' → h₀.get? C = none → C ≠ L → C ≠ D → (∀ p ∈ news, p.1 ≠ C) → ys.length = n → (∀ j y, ys[j]? = some y → R j y) → RR (.ref D) C (.ok .next) { s₂ with heap := h, toks := tk }) :
    wpAny (model prog w) A (newList []) (fun acc s₃ => wpAny (model prog w) A (newFunctionEnv scope env.globals cl [] env.qual none .none (some env)) (fun cenv s₄ =>
      codeAny (model prog w) A (.compStart (.ListComp elt [⟨.Tuple [.Name x px, .Name x₂ px₂] tk tp, iter, [], 0⟩] scope pos) 0 (.ref I) acc { cenv with scope := relabel scope env }) (RR acc cenv.locals) s₄) E s₃) E s₂ := by
  refine wpAny_newObj_type (wpAny_newFunctionEnv hcell (by intro y hy; simp at hy) (fun h₁ hns₁ hsb₁ => ?_) hkind)
  dsimp only at hns₁ hsb₁ ⊢
  generalize hH2 : s₂.heap.push { cls := .type "list", dict := none, data := .seq ([] : List Value).toArray } = H2 at hns₁ hsb₁ ⊢
  have hC : H2.objs.size = s₂.heap.objs.size + 1 := by rw [← hH2, Heap.size_push]
  have hDC : s₂.heap.objs.size ≠ H2.objs.size := by rw [hC]; exact Nat.ne_of_lt (Nat.lt_succ_self _)
  have below : ∀ b, b < s₂.heap.objs.size → b ≠ H2.objs.size ∧ b ≠ s₂.heap.objs.size := fun b hb => ⟨by rw [hC]; exact Nat.ne_of_lt (Nat.lt_succ_of_lt hb), Nat.ne_of_lt hb⟩
  have hDf : s₂.heap.objs.size ∉ fp := fun hm => Nat.lt_irrefl _ (hfp _ hm)
  have hCf : H2.objs.size ∉ fp := fun hm => by have := hfp _ hm; rw [hC] at this; exact Nat.lt_irrefl _ (Nat.lt_of_succ_lt this)
  have hDw : s₂.heap.objs.size ∉ wr := fun hm => hDf (W.sub _ hm)
  have hCw : H2.objs.size ∉ wr := fun hm => hCf (W.sub _ hm)
  have old : ∀ b o, s₂.heap.get? b = some o → h₁.get? b = some o := fun b o e => hsb₁.extBut b o (below b (Heap.lt_size e)).1 (Heap.get?_push_of_some _ (hH2 ▸ Heap.get?_push_of_some _ e))
  have hacc : h₁.get? s₂.heap.objs.size = some (lst []) := hsb₁.extBut _ _ hDC (Heap.get?_push_of_some _ (hH2 ▸ Heap.get?_push_size _ rfl))
  have hst₁ : St 0 h₁ := W.frame _ _ _ hst fun b _ o e => old b o e
  have fresh₀ : ∀ a, s₂.heap.objs.size ≤ a → h₀.get? a = none := fun a ha => by
    cases e : h₀.get? a with
    | none => rfl
    | some o' => exact absurd (Heap.lt_size (F.keep a o' e)) (Nat.not_lt.mpr ha)
  have hD₀ : h₀.get? s₂.heap.objs.size = none := fresh₀ _ (Nat.le_refl _)
  have hC₀ : h₀.get? H2.objs.size = none := fresh₀ _ (by rw [hC]; exact Nat.le_succ _)
  have hLlt : L < s₂.heap.objs.size := F.ns.lt
  have hDL : s₂.heap.objs.size ≠ L := Ne.symm (below L hLlt).2
  have hCL : H2.objs.size ≠ L := Ne.symm (below L hLlt).1
  have hnlt : ∀ p ∈ news, @LT.lt Nat _ p.1 s₂.heap.objs.size := fun p hp => Heap.lt_size (N p hp).1
  have hnC : ∀ p ∈ news, p.1 ≠ H2.objs.size := fun p hp => (below _ (hnlt p hp)).1
  have keepF : ∀ {h h' : Heap}, Fr h₀ L h m → (∀ b o, b ∉ wr → h.get? b = some o → h'.get? b = some o) → Fr h₀ L h' m := fun F' hk =>
    ⟨F'.ns.at' fun o e => hk L o hLw e, fun b o e => hk b o (fun hb => by rw [hwr b hb] at e; cases e) (F'.keep b o e), F'.above⟩
  have keepN : ∀ {h h' : Heap} {ys : List Value}, News h₀ L h ((s₂.heap.objs.size, lst ys) :: news) → (∀ b o, b ∉ wr → h.get? b = some o → h'.get? b = some o) → News h₀ L h' ((s₂.heap.objs.size, lst ys) :: news) := fun N' hk p hp => by
    refine ⟨hk _ _ ?_ (N' p hp).1, (N' p hp).2⟩
    rcases List.mem_cons.mp hp with rfl | hp
    · exact hDw
    · exact off p hp
  have loop : ∀ s₃ : Shared, s₃ = { s₂ with heap := h₁, toks := s₂.toks + ([] : List (Str × Value)).length } →
      codeAny (model prog w) A (.compLoop (.ListComp elt [⟨.Tuple [.Name x px, .Name x₂ px₂] tk tp, iter, [], 0⟩] scope pos) 0 (.ref I) (.ref s₂.heap.objs.size) (compEnvC scope cl H2.objs.size env))
        (RR (.ref s₂.heap.objs.size) H2.objs.size) s₃ := by
    rintro s₃ rfl
    refine codeAny_compLoop_pair
      (fun k s' => ∃ h' tk i ys m', s' = { s₂ with heap := h', toks := tk } ∧ i ≤ n ∧ k = n + 1 - i ∧ ys.length = i ∧ St i h' ∧ Fr h₀ L h' m ∧ h'.Ns H2.objs.size m' ∧ News h₀ L h' ((s₂.heap.objs.size, lst ys) :: news) ∧ (∀ j y, ys[j]? = some y → R j y)) ?_ (n + 1)
      ⟨h₁, _, 0, [], _, rfl, Nat.zero_le _, rfl, rfl, hst₁, F.keeps old, hns₁, fun p hp => ?_, fun j y q => by simp at q⟩
    · rintro k s' ⟨h', tk', i, ys, m', rfl, hi, rfl, hyl, hst', F', hn', N', hR'⟩
      by_cases hlt : i < n
      · refine W.item i _ _ _ hlt hst' fun T vals h₂ tk₂ hPv hT hMid hk₂ => ?_
        obtain ⟨v₁, v₂, rfl⟩ := hPt i vals hPv
        refine W.go _ _ _ i T _ _ _ hMid fun h₃ hst₃ hk₃ => ?_
        have hTw : T ∉ wr := W.apart i T _ hMid
        have F₃ := keepF (keepF F' hk₂) hk₃
        have N₃ := keepN (keepN N' hk₂) hk₃
        have hn₃ : h₃.Ns H2.objs.size m' := (hn'.at' fun o e => hk₂ _ o hCw e).at' fun o e => hk₃ _ o hCw e
        have ht : IsTup h₃ T #[v₁, v₂] := by
          obtain ⟨ot, e1, e2, e3⟩ := hT
          exact ⟨ot, hk₃ T ot hTw e1, e2, e3⟩
        refine assign_Tuple_tuple hh ht rfl rfl fun h₅ he => ?_
        have he' : ∀ b o, h₃.get? b = some o → h₅.get? b = some o := fun b o e => he b o (Nat.ne_of_lt (Heap.lt_size e)) e
        refine assignInOrder_cons (wpAny_assign_Name (wpAny_storeName_local (lookup_relabel_local hx) (hn₃.at' fun o e => he' _ o e) (fun h₆ hn₆ hs₆ => ?_) (by simp [compEnvC, relabel, hkind])))
        refine assignInOrder_cons (wpAny_assign_Name (wpAny_storeName_local (lookup_relabel_local hx₂) hn₆ (fun h₇ hn₇ hs₇ => ?_) (by simp [compEnvC, relabel, hkind])))
        refine assignInOrder_nil ?_
        have old3 : ∀ b o, b ≠ H2.objs.size → h₃.get? b = some o → h₇.get? b = some o := fun b o hb e => hs₇.extBut b o hb (hs₆.extBut b o hb (he' b o e))
        have hst₇ : St (i + 1) h₇ := W.frame _ _ _ hst₃ fun b hb o e => old3 b o (fun q => hCf (by rw [← q]; exact hb)) e
        obtain ⟨oC, heC, hoC⟩ := ns_obj hn₇
        have F₇ : Fr h₀ L h₇ m := ((F₃.keeps he').change hs₆ hCL hC₀).change hs₇ hCL hC₀
        have N₇ : News h₀ L h₇ ((H2.objs.size, oC) :: (s₂.heap.objs.size, lst ys) :: news) := fun p hp => by
          rcases List.mem_cons.mp hp with rfl | hp
          · exact ⟨heC, hCL, hC₀⟩
          · refine ⟨old3 _ _ ?_ (N₃ p hp).1, (N₃ p hp).2⟩
            rcases List.mem_cons.mp hp with rfl | hp
            · exact hDC
            · exact hnC p hp
        refine wpAny_mono (step i v₁ v₂ H2.objs.size oC s₂.heap.objs.size _ _ h₇ _ hlt hPv hoC (by simp [hxx]) (by simp) F₇ N₇) (fun y s₄ h₄ => ?_) fun _ _ e => e.elim
        obtain ⟨h₈, tk₈, rfl, st₈, hy⟩ := h₄
        have zD := (News.stay N₇ st₈ (s₂.heap.objs.size, lst ys) (.tail _ (.head _))).1
        refine append_at (hsz := by show ys.toArray.size ≤ sizeLine; rw [List.size_toArray, hyl]; exact Nat.le_trans hi hsz) zD fun h₉ hs₉ hD₉ => ?_
        refine ⟨n + 1 - (i + 1), by omega, h₉, tk₈, i + 1, ys ++ [y], _, rfl, hlt, rfl, by rw [List.length_append, List.length_singleton, hyl], W.frame _ _ _ hst₇ fun b hb o e => hs₉.extBut b o (fun q => hDf (q ▸ hb)) (st₈ b o e), (Fr.stay F₇ st₈).change hs₉ hDL hD₀,
          ((hoC.ns (st₈ _ _ heC))).sameBut hs₉ (Ne.symm hDC), fun p hp => ?_, fun j z hz => ?_⟩
        · rcases List.mem_cons.mp hp with rfl | hp
          · exact ⟨hD₉.trans (congrArg some (lst_snoc ys y)), hDL, hD₀⟩
          · have q := News.stay N₇ st₈ p (.tail _ (.tail _ hp))
            exact ⟨hs₉.extBut _ _ (Nat.ne_of_lt (hnlt p hp)) q.1, q.2⟩
        · rcases Nat.lt_trichotomy j ys.length with q | q | q
          · exact hR' j z (by rwa [List.getElem?_append_left q] at hz)
          · subst q; simp at hz; subst hz; exact hyl ▸ hy
          · have : (ys ++ [y])[j]? = none := List.getElem?_eq_none (by simp; omega)
            rw [this] at hz; cases hz
      · obtain rfl : i = n := Nat.le_antisymm hi (Nat.not_lt.mp hlt)
        refine W.done _ _ _ hst' fun h₂ tk₂ hk₂ => ?_
        exact hRR _ _ h₂ tk₂ _ ys (keepF F' hk₂) (keepN N' hk₂) hnlt (hn'.at' fun o e => hk₂ _ o hCw e) hC₀ hCL (Ne.symm hDC) hnC hyl hR'
    · rcases List.mem_cons.mp hp with rfl | hp
      · exact ⟨hacc, hDL, hD₀⟩
      · exact ⟨old _ _ (N p hp).1, (N p hp).2⟩
  exact codeAny_compStart_list (loop _ rfl) (W.self 0 _ _ _ hst₁ (loop _ rfl))
end
open LCg LCp
/-- what a comprehension over pairs asks of its source; Fin takes the list that it makes -/
def SrcZ (prog : Program) (w : World) (A : Around) (h₀ : Heap) (L : Addr) (m : Str → Option Value) (env : Env) (elt : Expr) (x x₂ : Str) (scope : Scope) (cl : List (Str × Addr)) (Fin : Shared → List Value → List (Addr × Obj) → Prop) (xv : Value) (s₁ : Shared) : Prop :=
  ∃ (I : Addr) (fp wr : List Addr) (n : Nat) (Pt : Nat → Array Value → Prop) (St : Nat → Heap → Prop) (Mid : Nat → Addr → Heap → Prop) (news : List (Addr × Obj)) (R : Nat → Value → Prop),
    xv = .ref I ∧ WalksU prog w A I fp wr n Pt St Mid ∧ n ≤ sizeLine ∧ A.handled = none ∧ St 0 s₁.heap ∧ (∀ b ∈ fp, b < s₁.heap.objs.size) ∧ Fr h₀ L s₁.heap m ∧ News h₀ L s₁.heap news ∧ L ∉ wr ∧ (∀ b ∈ wr, h₀.get? b = none) ∧ (∀ p ∈ news, p.1 ∉ wr) ∧
    (∀ i v₁ v₂ C oC D oD m₂ h tk, i < n → Pt i #[v₁, v₂] → NsObj oC m₂ → m₂ x = some v₁ → m₂ x₂ = some v₂ → Fr h₀ L h m → News h₀ L h ((C, oC) :: (D, oD) :: news) →
      wpAny (model prog w) A (eval elt (compEnvC scope cl C env)) (EltR s₁ h (R i)) (fun _ _ => False) { s₁ with heap := h, toks := tk }) ∧
    (∀ i vals, Pt i vals → ∃ v₁ v₂, vals = #[v₁, v₂]) ∧
    (∀ ys, ys.length = n → (∀ j y, ys[j]? = some y → R j y) → Fin s₁ ys news)
def FinZ (h₀ : Heap) (L : Addr) (m : Str → Option Value) (y : Str) (Q : Flow → Shared → Prop) (s : Shared) (ys : List Value) (news : List (Addr × Obj)) : Prop :=
  ∀ D h tk, Fr h₀ L h (fun z => if z = y then some (.ref D) else m z) → News h₀ L h ((D, lst ys) :: news) → (∀ p ∈ news, @LT.lt Nat _ p.1 D) → Q .next { s with heap := h, toks := tk }
theorem assign_comp_Z {prog : Program} {w : World} {A : Around} {E : Value → Shared → Prop} {s : Shared} {h₀ : Heap} {L : Addr} {m : Str → Option Value} {env : Env} {elt iter : Expr} {x x₂ y : Str} {px px₂ tp py : Pos} {tk} {scope : Scope} {cl : List (Str × Addr)} {pos spos : Pos} {Q : Flow → Shared → Prop} (hLe : env.locals = L)
    (hsw : swapsWith (.ListComp elt [⟨.Tuple [.Name x px, .Name x₂ px₂] tk tp, iter, [], 0⟩] scope pos) (some (.Name y py)) spos.line env = pure true)
    (hclos : closureFor scope env = pure cl) (hcell : ∀ z ∈ scope.names, z.2 ≠ .cell) (hkind : scope.kind = .function)
    (hnames : ∀ z ∈ scope.names, z.2 = .local → scope.names.lookup z.1 = some .local) (hx : scope.names.lookup x = some .local) (hx₂ : scope.names.lookup x₂ = some .local) (hxx : x ≠ x₂)
    (hy : env.kindOf y = some .local) (hp : (env.scope.kind == .class || (env.scope.kind == .module && env.locals != env.globals)) = false)
    (h : wpAny (model prog w) A (eval iter env) (SrcZ prog w A h₀ L m env elt x x₂ scope cl (FinZ h₀ L m y Q)) E s)
    (hs : ∀ x, foldedSetIterable iter env x = pure x := by intro _; rfl) :
    wpAny (model prog w) A (exec (.Assign [.Name y py] (.ListComp elt [⟨.Tuple [.Name x px, .Name x₂ px₂] tk tp, iter, [], 0⟩] scope pos) spos) env) Q E s := by
  subst hLe
  rw [exec_Assign_Name_used _ _ _ _ hsw]
  refine wpAny_bind (wpAny_standAt (wpAny_bind ?_))
  show wpAny _ A (do let _ ← comprehension (.ListComp elt [⟨.Tuple [.Name x px, .Name x₂ px₂] tk tp, iter, [], 0⟩] scope pos) scope env _ (newList []) false (eval iter env) (some (assign (.Name y py) env))) _ _ s
  refine wpAny_bind (wpAny_mono (wpAny_comprehension_free (use := some (assign (.Name y py) env)) (Q := fun _ s' => Q .next s') rfl hs hclos hkind hnames
    (wpAny_mono h (fun xv s₁ h₁ => ?_) fun _ _ e => e)) (fun _ s' hq => wpAny_pure (wpAny_pure hq)) fun _ _ e => e)
  obtain ⟨I, fp, wr, n, Pt, St, Mid, news, R, rfl, W, hsz, hh, hst, hfp, F, N, hLw, hwr, off, step, hPt, fin⟩ := h₁
  refine W.self 0 _ _ _ hst ?_
  refine block_Z R W hsz hcell hkind hx hx₂ hxx hh hst hfp F N hLw hwr off step hPt ?_
  intro D C h' tk m' ys F' N' hlt hn hC₀ hCL hCD offC hlen hR
  show wpAny _ A (assign (.Name y py) env (.ref D)) _ _ _
  refine wpAny_assign_Name (wpAny_storeName_local hy F'.ns (fun h₂ hn₂ hs₂ => ?_) hp)
  have hL₀ : h₀.get? env.locals = none := Heap.get?_none_of_le F'.above
  have F₂ : Fr h₀ env.locals h₂ (fun z => if z = y then some (.ref D) else m z) := ⟨hn₂, fun b o e => hs₂.extBut b o (fun q => by rw [q, hL₀] at e; cases e) (F'.keep b o e), F'.above⟩
  refine ⟨m', hn.sameBut hs₂ hCL, fun h'' hs'' => fin ys hlen hR D h'' _ (F₂.change hs'' hCL hC₀) (fun p hp => ?_) hlt⟩
  have z : h₂.get? p.1 = some p.2 := hs₂.extBut _ _ (N' p hp).2.1 (N' p hp).1
  refine ⟨hs''.extBut _ _ ?_ z, (N' p hp).2⟩
  rcases List.mem_cons.mp hp with rfl | hp
  · exact Ne.symm hCD
  · exact offC p hp

theorem zip_src {prog : Program} {w : World} {A : Around} {E : Value → Shared → Prop} {s : Shared} {h₀ : Heap} {L : Addr} {m : Str → Option Value} {env : Env} {elt : Expr} {x x₂ : Str} {scope : Scope} {cl : List (Str × Addr)} {Fin : Shared → List Value → List (Addr × Obj) → Prop}
    {l1 l2 : Addr} {xs ys : List Value} {o1 o2 : Obj} {news : List (Addr × Obj)} (R : Nat → Value → Prop) (hh : A.handled = none) (F : Fr h₀ L s.heap m) (N : News h₀ L s.heap news)
    (m1 : (l1, o1) ∈ news) (c1 : o1.cls = .type "list") (d1 : ∃ k, o1.data = .seq xs.toArray k) (m2 : (l2, o2) ∈ news) (c2 : o2.cls = .type "list") (d2 : ∃ k, o2.data = .seq ys.toArray k) (hz : xs.length = 3) (hz2 : ys.length = 3)
    (step : ∀ i v₁ v₂ C oC D oD m₂ h tk, i < 3 → xs[i]? = some v₁ → ys[i]? = some v₂ → NsObj oC m₂ → m₂ x = some v₁ → m₂ x₂ = some v₂ → Fr h₀ L h m → News h₀ L h ((C, oC) :: (D, oD) :: news) →
      wpAny (model prog w) A (eval elt (compEnvC scope cl C env)) (EltR s h (R i)) (fun _ _ => False) { s with heap := h, toks := tk })
    (fin : ∀ h' zs, zs.length = 3 → (∀ j y, zs[j]? = some y → R j y) → Fin { s with heap := h' } zs news) :
    wpAny (model prog w) A (call (.type "zip") [.ref l1, .ref l2]) (SrcZ prog w A h₀ L m env elt x x₂ scope cl Fin) E s := by
  have hl1 : s.heap.IsList l1 xs.toArray := ⟨o1, (N _ m1).1, c1, d1⟩
  have hl2 : s.heap.IsList l2 ys.toArray := ⟨o2, (N _ m2).1, c2, d2⟩
  have lt1 : @LT.lt Nat _ l1 s.heap.objs.size := Heap.lt_size (N _ m1).1
  have lt2 : @LT.lt Nat _ l2 s.heap.objs.size := Heap.lt_size (N _ m2).1
  refine call_zip_2 hl1 hl2 fun h' hzp hTI hTO hi1 hi2 hsize hk => ?_
  have fr : ∀ a, s.heap.objs.size ≤ a → h₀.get? a = none := fun a ha => by
    cases e : h₀.get? a with
    | none => rfl
    | some o => exact absurd (Heap.lt_size (F.keep a o e)) (Nat.not_lt.mpr ha)
  have hLlt : @LT.lt Nat _ L s.heap.objs.size := F.ns.lt
  generalize hS : s.heap.objs.size = S at *
  have D : ZipApart (S + 4) (S + 2) (S + 3) S (S + 1) l1 l2 := by constructor <;> (first | exact Nat.ne_of_lt (show @LT.lt Nat _ _ _ by omega) | exact Nat.ne_of_gt (show @LT.lt Nat _ _ _ by omega))
  have W := (WalksT.zip2 (prog := prog) (w := w) hh (S + 4) (S + 2) (S + 3) S (S + 1) l1 l2 D xs.toArray ys.toArray).toU
  have hn3 : min xs.toArray.size ys.toArray.size = 3 := by simp [hz, hz2]
  rw [hn3] at W
  have hwr' : ∀ b ∈ [S + 4, S + 3, S, S + 1], @LE.le Nat _ S b := by intro b hb; simp at hb; rcases hb with rfl | rfl | rfl | rfl <;> omega
  refine ⟨S + 4, _, _, 3, _, _, _, news, R, rfl, W, by rw [sizeLine_eq]; omega, hh, ⟨hzp, hTI, ⟨_, _, hTO⟩, hi1, hi2, hl1.at fun o e => hk _ o e, hl2.at fun o e => hk _ o e⟩, ?_, F.keeps hk, N.grown hk, ?_, ?_, ?_, ?_, ?_, ?_⟩
  · intro b hb
    show @LT.lt Nat _ b h'.objs.size
    rw [hsize]
    simp at hb
    rcases hb with rfl | rfl | rfl | rfl | rfl | rfl | rfl <;> omega
  · intro hb; exact absurd (hwr' _ hb) (by omega)
  · intro b hb; exact fr b (hwr' b hb)
  · intro p hp hb
    have := Heap.lt_size (N p hp).1
    rw [hS] at this
    exact absurd (hwr' _ hb) (Nat.not_le.mpr this)
  · rintro i v₁ v₂ C oC D' oD m₂ h tk hi ⟨a, b, ha, hb, hab⟩ hC h1 h2 F' N'
    have e1 : v₁ = a ∧ v₂ = b := by simpa using hab
    obtain ⟨rfl, rfl⟩ := e1
    exact step i v₁ v₂ C oC D' oD m₂ h tk hi (by simpa using ha) (by simpa using hb) hC h1 h2 F' N'
  · rintro i vals ⟨a, b, _, _, rfl⟩; exact ⟨a, b, rfl⟩
  · intro zs hl hr; exact fin h' zs hl hr
end part_H11
section part_C10
open PySem PySem.W PySem.Calls PyProof.Rows
set_option Elab.async false
set_option maxRecDepth 100000
set_option maxHeartbeats 4000000
theorem off_C10 : True := by
  w_top off
  trivial
local macro_rules | `(tactic| walk_at "CompSrc") => `(tactic| refine stop ?_)
theorem ints3 {ys : List Value} {g : Nat → Int} (hlen : ys.length = 3) (hR : ∀ (j : Nat) (y : Value), ys[j]? = some y → ∃ t, y = Value.int (g j) t) : ∃ ta tb tc, ys = [.int (g 0) ta, .int (g 1) tb, .int (g 2) tc] := by
  match ys, hlen with
  | [x, y, z], _ =>
    obtain ⟨t1, rfl⟩ := hR 0 x rfl
    obtain ⟨t2, rfl⟩ := hR 1 y rfl
    obtain ⟨t3, rfl⟩ := hR 2 z rfl
    exact ⟨t1, t2, t3, rfl⟩

theorem law1 {w : World} {A : Around} {s : Shared} {p : Program} {loose : List Str} {mean : ExcName → Option Value} {mg mb : Str → Option Value} {L f Dr : Addr} {cd : Value} {base : Heap} {m : Str → Option Value} {rvs : List Value} {nr : Nat} {r0 r1 r2 r3 r4 r5 r6 r7 : Int} {news : List (Addr × Obj)} {Q : Flow → Shared → Prop}
    (X : (Mine.hd.heap_39 w.params).In base) (T : Top p loose mean mg mb base) (hh : A.handled = none)
    (F : Fr base L s.heap m) (N : News base L s.heap news) (hm : m (Str.ofString "row") = some (.ref Dr)) (hr : (Dr, W.listOf rvs.toArray nr) ∈ news) (hi : IntsAre rvs [r0, r1, r2, r3, r4, r5, r6, r7])
    (h : ∀ D ta tb tc h' tk, Fr base L h' (fun z => if z = Str.ofString "runs" then some (.ref D) else m z) → News base L h' ((D, LCg.lst [.int (r0.fmod 4) ta, .int (r1.fmod 4) tb, .int (r2.fmod 4) tc]) :: news) → LCg.Off1 D news → Q .next { s with heap := h', toks := tk }) :
    wpAny (model Challenge.rw_mr0203_01.row.prog w) A (exec law1P.1 (lawEnv L f cd)) Q (fun _ _ => False) s := by
  revert X
  k_fill
  intro X
  have hps := all1 (m := m) (p := (Str.ofString "row", .ref Dr)) hm
  have F₀ := fr_see [(Str.ofString "row", .ref Dr)] F hps
  clear F
  show wpAny _ _ (exec (Stmt.Assign _ _ _) _) _ _ _
  k_dflt (refine LCg.Assign_ListComp_U (F₀ := F₀) (cl := []) (by rfl) (by with_unfolding_all rfl) (by with_unfolding_all rfl) (by decide) (by rfl) (by decide) (by rfl) (by rfl) (by rfl) ?_)
  k_steps
  unfold Stop
  rename Fr _ _ _ _ => F₁
  rename News _ _ _ _ => N₁
  rename IntsAre _ _ => hI
  refine LCg.CompSrc.ledger hh F₁ N₁ (.head _) (by rw [List.size_toArray, hI.length]; show 3 ≤ _; decide) ?_
  intro g0
  rw [List.size_toArray, hI.length]
  refine rest_pure (fun i y => ∃ t, y = .int (([r0, r1, r2].getD i 0).fmod 4) t) (.inr ⟨_, .head _, rfl, _, rfl⟩) ?_ ?_
  · rintro i v I oI C oC D oD m₂ h tk2 hlt hv hC hx F₂ N₂
    obtain ⟨n, t, rfl, hn⟩ := hI.at i v (by simpa using hv)
    have e : [r0, r1, r2].getD i 0 = n := by rw [List.getD_eq_getElem?_getD]; exact congrArg (Option.getD · 0) hn
    clear N₁ F₁
    k_steps
    refine ⟨_, _, rfl, fun _ _ e => e, ?_⟩
    dsimp only
    rw [e]
    exact ⟨_, rfl⟩
  · intro ys hlen hR D h2 tk2 F₂ N₂ off
    obtain ⟨ta, tb, tc, rfl⟩ := ints3 (g := fun i => ([r0, r1, r2].getD i 0).fmod 4) hlen hR
    rw [see_eq _ hps] at F₂
    exact h D ta tb tc h2 tk2 F₂ (News.pick N₂ (sub_cons (.head _) fun p hp => .tail _ (.tail _ hp))) off.2
end part_C10
section part_H12
open PySem PySem.W PySem.Calls PyProof.Rows
set_option Elab.async false
set_option maxRecDepth 100000
theorem newList_S {M : Model} {A : Around} {E : Value → Shared → Prop} {s : Shared} {h₀ : Heap} {L : Addr} {m : Str → Option Value} {news : List (Addr × Obj)} {vs : List Value} {Q : Value → Shared → Prop} (F : Fr h₀ L s.heap m) (N : News h₀ L s.heap news)
    (h : ∀ D h', Fr h₀ L h' m → News h₀ L h' ((D, W.listOf vs.toArray 0) :: news) → (∀ p ∈ news, p.1 < D) → s.heap.StaysIn h' → Q (.ref D) { s with heap := h' }) (hsz : vs.length ≤ 1000) : wpAny M A (newList vs) Q E s :=
  wpAny_newObj_type (h _ _ (F.push _) (N.push F _) (fun p hp => Heap.lt_size (N p hp).1) fun _ _ e => Heap.get?_push_of_some _ e) (by show vs.toArray.size ≤ sizeLine; rw [List.size_toArray, sizeLine_eq]; omega)
theorem newTuple_S {M : Model} {A : Around} {E : Value → Shared → Prop} {s : Shared} {h₀ : Heap} {L : Addr} {m : Str → Option Value} {news : List (Addr × Obj)} {vs : List Value} {Q : Value → Shared → Prop} (F : Fr h₀ L s.heap m) (N : News h₀ L s.heap news)
    (h : ∀ D h', Fr h₀ L h' m → News h₀ L h' ((D, { cls := .type "tuple", data := .seq vs.toArray 0 }) :: news) → (∀ p ∈ news, p.1 < D) → s.heap.StaysIn h' → Q (.ref D) { s with heap := h' }) (hsz : vs.length ≤ 1000) : wpAny M A (newTuple vs) Q E s :=
  wpAny_newObj_type (h _ _ (F.push _) (N.push F _) (fun p hp => Heap.lt_size (N p hp).1) fun _ _ e => Heap.get?_push_of_some _ e) (by show vs.toArray.size ≤ sizeLine; rw [List.size_toArray, sizeLine_eq]; omega)
theorem stays_refl {h : Heap} : h.StaysIn h := fun _ _ e => e
theorem stays_trans {a b c : Heap} (x : a.StaysIn b) (y : b.StaysIn c) : a.StaysIn c := fun q o e => y q o (x q o e)
end part_H12
section part_C11
open PySem PySem.W PySem.Calls PyProof.Rows
set_option Elab.async false
set_option maxRecDepth 100000
set_option maxHeartbeats 4000000
theorem off_C11 : True := by
  w_top off
  trivial
local macro_rules | `(tactic| walk_at "CompSrc") => `(tactic| refine stop ?_)
local macro_rules | `(tactic| walk_at "call type:zip") => `(tactic| refine stop ?_)
local macro_rules | `(tactic| walk_at "call builtin:max") => `(tactic| ((with_reducible show wpAny _ _ (call (Value.builtin _) [Value.int _ _, Value.int _ _]) _ _ _); k_dflt (refine' max2 ?h ?_; (case h => assumption)); intro t' h' tk' k'; have F' := Fr.stay (by k_asm) k'; have N' := News.stay (by k_asm) k'; (try k_sweep)))
local macro_rules | `(tactic| walk_at "call builtin:min") => `(tactic| ((with_reducible show wpAny _ _ (call (Value.builtin _) [Value.int _ _, Value.int _ _]) _ _ _); k_dflt (refine' min2 ?h ?_; (case h => assumption)); intro t' h' tk' k'; have F' := Fr.stay (by k_asm) k'; have N' := News.stay (by k_asm) k'; (try k_sweep)))

local macro_rules | `(tactic| walk_at "subscriptTail") => `(tactic| ((with_reducible show wpAny _ _ (subscriptTail _ _ (Value.ref _) (Value.int _ _)) _ _ _); k_dflt (refine' item_list ?l ?a ?b ?c ?_; (case l => exact News.isList (by k_asm) (by k_mem)); (case a => first | decide | omega); (case b => first | decide | omega); (case c => first | exact rfl | assumption))))
local macro_rules | `(tactic| walk_at "newList") => `(tactic| (k_dflt (refine' newList_S ?k1 ?k2 ?_ ?z; (case k1 => k_asm); (case k2 => k_asm); (case z => first | decide | (simp only [List.length_cons, List.length_nil]; omega))); intro l' h' F' N' l1 k'; (try k_lt l1); (try k_sweep)))
theorem law2 {w : World} {A : Around} {s : Shared} {p : Program} {loose : List Str} {mean : ExcName → Option Value} {mg mb : Str → Option Value} {L f Dn : Addr} {cd : Value} {base : Heap} {m : Str → Option Value} {a b c : Int} {ta tb tc : Tok} {news : List (Addr × Obj)} {Q : Flow → Shared → Prop}
    (X : (Mine.hd.heap_39 w.params).In base) (T : Top p loose mean mg mb base) (hh : A.handled = none)
    (F : Fr base L s.heap m) (N : News base L s.heap news) (hm : m (Str.ofString "runs") = some (.ref Dn)) (hr : (Dn, LCg.lst [.int a ta, .int b tb, .int c tc]) ∈ news)
    (h : ∀ D h' tk, Fr base L h' (fun z => if z = Str.ofString "turned" then some (.ref D) else m z) → News base L h' ((D, W.listOf #[.int b tb, .int a ta, .int c tc] 0) :: news) → AllLt D news → Q .next { s with heap := h', toks := tk }) :
    wpAny (model Challenge.rw_mr0203_01.row.prog w) A (exec law2P.1 (lawEnv L f cd)) Q (fun _ _ => False) s := by
  revert X
  k_fill
  intro X
  have hps := all1 (m := m) (p := (Str.ofString "runs", .ref Dn)) hm
  have F₀ := fr_see [(Str.ofString "runs", .ref Dn)] F hps
  clear F
  show wpAny _ _ (exec (Stmt.Assign _ _ _) _) _ _ _
  k_steps
  rename Fr _ _ _ _ => F₁
  rename News _ _ _ _ => N₁
  rename ∀ p ∈ news, _ => hlt
  rw [see_eq _ hps] at F₁
  exact h _ _ _ F₁ N₁ (allLt_of hlt)

theorem law3 {w : World} {A : Around} {s : Shared} {p : Program} {loose : List Str} {mean : ExcName → Option Value} {mg mb : Str → Option Value} {L f Dr Dt : Addr} {cd : Value} {base : Heap} {m : Str → Option Value} {rvs : List Value} {nr : Nat} {r0 r1 r2 r3 r4 r5 r6 r7 a b c : Int} {ta tb tc : Tok} {news : List (Addr × Obj)} {Q : Flow → Shared → Prop}
    (X : (Mine.hd.heap_39 w.params).In base) (T : Top p loose mean mg mb base) (hh : A.handled = none)
    (F : Fr base L s.heap m) (N : News base L s.heap news) (hm : m (Str.ofString "row") = some (.ref Dr)) (hmt : m (Str.ofString "turned") = some (.ref Dt)) (hr : (Dr, W.listOf rvs.toArray nr) ∈ news) (hi : IntsAre rvs [r0, r1, r2, r3, r4, r5, r6, r7]) (ht : (Dt, W.listOf #[.int b tb, .int a ta, .int c tc] 0) ∈ news)
    (h : ∀ D td te tf h' tk, Fr base L h' (fun z => if z = Str.ofString "others" then some (.ref D) else m z) →
      News base L h' ((D, LCg.lst [.int (max 0 (min 3 (b + [0, 1, 0, -1].getD (r3.fmod 4).toNat 0))) td, .int (max 0 (min 3 (a + [0, 1, 0, -1].getD (r4.fmod 4).toNat 0))) te, .int (max 0 (min 3 (c + [0, 1, 0, -1].getD (r5.fmod 4).toNat 0))) tf]) :: news) → (∀ p ∈ news, @LT.lt Nat _ p.1 D) → Q .next { s with heap := h', toks := tk }) :
    wpAny (model Challenge.rw_mr0203_01.row.prog w) A (exec law3P.1 (lawEnv L f cd)) Q (fun _ _ => False) s := by
  revert X
  k_fill
  intro X
  have hps := allc (m := m) (p := (Str.ofString "row", .ref Dr)) hm (all1 (p := (Str.ofString "turned", .ref Dt)) hmt)
  have F₀ := fr_see [(Str.ofString "row", .ref Dr), (Str.ofString "turned", .ref Dt)] F hps
  clear F
  show wpAny _ _ (exec (Stmt.Assign _ _ _) _) _ _ _
  k_dflt (refine assign_comp_Z (h₀ := base) (m := see [(Str.ofString "row", .ref Dr), (Str.ofString "turned", .ref Dt)] m) (cl := []) (by rfl) (by with_unfolding_all rfl) (by with_unfolding_all rfl) (by decide) (by rfl) (by decide) (by rfl) (by rfl) (by decide) (by rfl) (by rfl) ?_)
  k_steps
  unfold Stop
  rename Fr _ _ _ _ => F₁
  rename News _ _ _ _ => N₁
  rename IntsAre _ _ => hI
  obtain ⟨t1, vs1, rfl, hI1⟩ := hI.cons_inv
  obtain ⟨t2, vs2, rfl, hI2⟩ := hI1.cons_inv
  obtain ⟨t3, vs3, rfl, hI3⟩ := hI2.cons_inv
  obtain rfl := hI3.nil_inv
  clear hI hI1 hI2 hI3
  refine zip_src (fun i y => ∃ t, y = .int (max 0 (min 3 ([b, a, c].getD i 0 + [0, 1, 0, -1].getD (([r3, r4, r5].getD i 0).fmod 4).toNat 0))) t) hh F₁ N₁ (.tail _ ht) rfl ⟨_, rfl⟩ (.head _) rfl ⟨_, rfl⟩ rfl rfl ?_ ?_
  · rintro i v₁ v₂ C oC D oD m₂ h tk2 hlt h1 h2 hC hx hx2 F₂ N₂
    have e1 : ∃ t, v₁ = .int ([b, a, c].getD i 0) t := by
      rcases i with _ | _ | _ | i
      · exact ⟨_, (Option.some.inj h1).symm⟩
      · exact ⟨_, (Option.some.inj h1).symm⟩
      · exact ⟨_, (Option.some.inj h1).symm⟩
      · omega
    have e2 : ∃ t, v₂ = .int ([r3, r4, r5].getD i 0) t := by
      rcases i with _ | _ | _ | i
      · exact ⟨_, (Option.some.inj h2).symm⟩
      · exact ⟨_, (Option.some.inj h2).symm⟩
      · exact ⟨_, (Option.some.inj h2).symm⟩
      · omega
    obtain ⟨u1, rfl⟩ := e1
    obtain ⟨u2, rfl⟩ := e2
    generalize [b, a, c].getD i 0 = z1 at *
    generalize [r3, r4, r5].getD i 0 = z2 at *
    clear N₁ F₁ h1 h2
    k_steps
    refine ⟨_, _, rfl, ?_, _, rfl⟩
    refine stays_trans (b := ?b1) ?x1 (stays_trans (b := ?b2) ?x2 ?x3)
    case x3 => assumption
    case x2 => assumption
    case x1 => assumption
  · intro h' ys hlen hR D h2 tk2 F₂ N₂ hlt2
    obtain ⟨td, te, tf, rfl⟩ := ints3 (g := fun i => max 0 (min 3 ([b, a, c].getD i 0 + [0, 1, 0, -1].getD (([r3, r4, r5].getD i 0).fmod 4).toNat 0))) hlen hR
    rw [see_eq _ hps] at F₂
    exact h D td te tf h2 tk2 F₂ (News.pick N₂ (sub_cons (.head _) fun p hp => .tail _ (.tail _ hp))) (fun p hp => hlt2 p (.tail _ hp))
end part_C11
section part_C12
open PySem PySem.W PySem.Calls PyProof.Rows
set_option Elab.async false
set_option maxRecDepth 100000
set_option maxHeartbeats 4000000
theorem off_C12 : True := by
  w_top off
  trivial
local macro_rules | `(tactic| walk_at "subscriptTail") => `(tactic| ((with_reducible show wpAny _ _ (subscriptTail _ _ (Value.ref _) (Value.int _ _)) _ _ _); k_dflt (refine' item_list ?l ?a ?b ?c ?_; (case l => exact News.isList (by k_asm) (by k_mem)); (case a => first | decide | omega); (case b => first | decide | omega); (case c => first | assumption | exact rfl))))
local macro_rules | `(tactic| walk_at "exec Assign cons") => `(tactic| (refine stop ?_))

local macro_rules | `(tactic| walk_at "call builtin:max") => `(tactic| ((with_reducible show wpAny _ _ (call (Value.builtin _) [Value.ref _]) _ _ _); k_dflt (refine' kso_max ?F ?N ?l ?i ?n ?h ?_; (case F => k_asm); (case N => k_asm); (case l => exact News.isList (by k_asm) (by k_mem)); (case i => l_ints); (case n => exact Nat.succ_pos _); (case h => assumption)); intro h' M' t' tk' F' N' hM1 hM2; (try k_sweep)))
theorem max_two {M a b : Int} (h : a ≤ M) (k : b ≤ M) : max a b ≤ M := by omega
theorem le_maxL {x a : Int} (b : Int) (h : x ≤ a) : x ≤ max a b := by omega
theorem le_maxR (a b : Int) : b ≤ max a b := by omega
theorem le_own (a : Int) : a ≤ a := by omega
theorem max6 {M a b c d e g : Int} (h1 : M ∈ [a, b, c, d, e, g]) (h2 : ∀ x ∈ [a, b, c, d, e, g], x ≤ M) : M = max (max (max (max (max a b) c) d) e) g := by
  simp only [List.mem_cons, List.mem_nil_iff, or_false, forall_eq_or_imp, forall_eq] at h1 h2
  obtain ⟨ha, hb, hc, hd, he, hg⟩ := h2
  refine Int.le_antisymm ?_ (max_two (max_two (max_two (max_two (max_two ha hb) hc) hd) he) hg)
  rcases h1 with h | h | h | h | h | h <;> rw [h]
  · exact le_maxL _ (le_maxL _ (le_maxL _ (le_maxL _ (le_maxL _ (le_own _)))))
  · exact le_maxL _ (le_maxL _ (le_maxL _ (le_maxL _ (le_maxR _ _))))
  · exact le_maxL _ (le_maxL _ (le_maxL _ (le_maxR _ _)))
  · exact le_maxL _ (le_maxL _ (le_maxR _ _))
  · exact le_maxL _ (le_maxR _ _)
  · exact le_maxR _ _
theorem law45 {w : World} {A : Around} {s : Shared} {p : Program} {loose : List Str} {mean : ExcName → Option Value} {mg mb : Str → Option Value} {L f Dr Dn Do : Addr} {cd : Value} {base : Heap} {m : Str → Option Value} {rvs : List Value} {nr : Nat} {r0 r1 r2 r3 r4 r5 r6 r7 : Int} {a b c d e g : Int} {ta tb tc td te tg : Tok} {o1 o2 o3 o4 o5 : Obj} {v1 : Option Value} {rest : List Stmt} {Q : Flow → Shared → Prop}
    (X : (Mine.hd.heap_39 w.params).In base) (T : Top p loose mean mg mb base) (hh : A.handled = none)
    (F : Fr base L s.heap m) (N : News base L s.heap [(Do, LCg.lst [.int d td, .int e te, .int g tg]), (Dn, LCg.lst [.int a ta, .int b tb, .int c tc]), (Dr, W.listOf rvs.toArray nr), (L + 1 + 1 + 1 + 1 + 1, o5), (L + 1 + 1 + 1 + 1, o4), (L + 1 + 1 + 1, o3), (L + 1 + 1, o2), (L + 1, o1)])
    (hm : m (Str.ofString "row") = some (.ref Dr)) (hmn : m (Str.ofString "runs") = some (.ref Dn)) (hmo : m (Str.ofString "others") = some (.ref Do)) (hi : IntsAre rvs [r0, r1, r2, r3, r4, r5, r6, r7]) (d1 : o1.data = .cell v1)
    (q1 : @Ne Nat Dr (L + 1)) (q2 : @Ne Nat Dn (L + 1)) (q3 : @Ne Nat Do (L + 1))
    (h : ∀ o1' t h' tk m', o1'.data = .cell (some (.int (r7.fmod 256) t)) → Fr base L h' m' → m' (Str.ofString "row") = some (.ref Dr) → m' (Str.ofString "runs") = some (.ref Dn) → m' (Str.ofString "others") = some (.ref Do) → (∃ t, m' (Str.ofString "reach") = some (.int (max (max (max (max (max a b) c) d) e) g + 1) t)) →
      News base L h' [(Do, LCg.lst [.int d td, .int e te, .int g tg]), (Dn, LCg.lst [.int a ta, .int b tb, .int c tc]), (Dr, W.listOf rvs.toArray nr), (L + 1 + 1 + 1 + 1 + 1, o5), (L + 1 + 1 + 1 + 1, o4), (L + 1 + 1 + 1, o3), (L + 1 + 1, o2), (L + 1, o1')] → wpAny (model Challenge.rw_mr0203_01.row.prog w) A (execs rest (lawEnv L f cd)) Q (fun _ _ => False) { s with heap := h', toks := tk }) :
    wpAny (model Challenge.rw_mr0203_01.row.prog w) A (execs (law4P.1 :: law5P.1 :: rest) (lawEnv L f cd)) Q (fun _ _ => False) s := by
  revert X
  k_fill
  intro X
  have hps := allc (m := m) (p := (Str.ofString "row", .ref Dr)) hm (allc (p := (Str.ofString "runs", .ref Dn)) hmn (all1 (p := (Str.ofString "others", .ref Do)) hmo))
  have F₀ := fr_see [(Str.ofString "row", .ref Dr), (Str.ofString "runs", .ref Dn), (Str.ofString "others", .ref Do)] F hps
  clear F
  obtain ⟨t7, h7⟩ := hi.get 7 r7 rfl
  have h7' : rvs.toArray[(7 : Int).toNat]? = some (.int r7 t7) := by rw [List.getElem?_toArray]; exact h7
  refine wpAny_execs_cons ?_
  show wpAny _ _ (exec (Stmt.Assign [Expr.Name _ _] (Expr.BinOp _ _ _ _) _) _) _ _ _
  refine wpAny_Assign_Name ?_
  k_steps
  show wpAny _ _ (exec (Stmt.Assign [Expr.Name _ _] (Expr.BinOp _ _ _ _) _) _) _ _ _
  refine wpAny_Assign_Name ?_
  k_steps
  rename Fr _ _ _ _ => F₁
  rename News _ _ _ _ => N₁
  rename Obj.data _ = _ => hd1
  have hM := max6 (a := a) (b := b) (c := c) (d := d) (e := e) (g := g) (by assumption) (by assumption)
  subst hM
  exact h _ _ _ _ _ hd1 F₁ rfl rfl rfl ⟨_, rfl⟩ (News.pick N₁ fun p hp => .tail _ hp)
end part_C12
section part_H13
open PySem PySem.W PySem.Calls PyProof.Rows
set_option Elab.async false
set_option maxRecDepth 100000
/-- what a call has made, laid onto the ledger -/
theorem news_add {h₀ h h' : Heap} {L : Addr} {m : Str → Option Value} {news l : List (Addr × Obj)} (F : Fr h₀ L h m) (N : News h₀ L h news) (k : h.StaysIn h') (g : ∀ p ∈ l, h'.get? p.1 = some p.2 ∧ h.get? p.1 = none) : News h₀ L h' (news ++ l) := fun p hp => by
  rcases List.mem_append.mp hp with hp | hp
  · exact News.stay N k p hp
  · refine ⟨(g p hp).1, fun e => ?_, ?_⟩
    · obtain ⟨o, _, _, hL, _⟩ := F.ns
      have := (g p hp).2
      rw [e, hL] at this; cases this
    · cases e : h₀.get? p.1 with
      | none => rfl
      | some o => have := F.keep _ _ e; rw [(g p hp).2] at this; cases this
/-- what is new stands apart from what stood -/
theorem new_ne {h₀ h : Heap} {L X : Addr} {o : Obj} {news l : List (Addr × Obj)} {h' : Heap} (N : News h₀ L h news) (hX : (X, o) ∈ news) (g : ∀ p ∈ l, h'.get? p.1 = some p.2 ∧ h.get? p.1 = none) : ∀ p ∈ l, p.1 ≠ X := fun p hp e => by
  have := (g p hp).2
  rw [e, (N _ hX).1] at this; cases this
theorem app_ne {X : Addr} {l l' : List (Addr × Obj)} (h : ∀ p ∈ l, p.1 ≠ X) (h' : ∀ p ∈ l', p.1 ≠ X) : ∀ p ∈ l ++ l', p.1 ≠ X := fun p hp => (List.mem_append.mp hp).elim (h p) (h' p)
theorem isList_obj {h : Heap} {D : Addr} {vs : List Value} (hl : h.IsList D vs.toArray) : ∃ d sl n, h.get? D = some ⟨.type "list", d, .seq vs.toArray n, sl⟩ := by
  obtain ⟨⟨c, d, dt, sl⟩, e, hc, n, hd⟩ := hl
  dsimp only at hc hd
  subst hc hd
  exact ⟨d, sl, n, e⟩
end part_H13
section part_C13
open PySem PySem.W PySem.Calls PyProof.Rows
set_option Elab.async false
set_option maxRecDepth 100000
set_option maxHeartbeats 4000000
theorem off_C13 : True := by
  w_top off
  trivial
local macro_rules | `(tactic| walk_at "unpackItems ref") => `(tactic| (k_here; k_dflt (refine' unpackItemsN_ ?k1 ?k2 ?k3 ?k4 ?k5 ?_; (case k1 => k_asm); (case k2 => k_asm); (case k3 => kun_tup); (case k4 => first | assumption | exact rfl); (case k5 => first | assumption | exact rfl); k_whole); intro h' F' N'; (try k_sweep)))
local macro_rules | `(tactic| walk_at "assign Tuple") => `(tactic| (k_here; (with_reducible show wpAny _ _ (assign (Expr.Tuple _ _ _) _ (Value.ref _)) _ _ _); k_dflt (refine' unpackN_ ?k1 ?k2 ?k3 ?k4 ?k5 ?k6 ?_; (case k1 => k_asm); (case k2 => k_asm); (case k3 => kun_tup); (case k4 => first | assumption | exact rfl); (case k5 => exact rfl); (case k6 => exact rfl); k_whole); intro h' F' N'; (try k_sweep)))

theorem law6 {w : World} {A : Around} {s : Shared} {p : Program} {loose : List Str} {mean : ExcName → Option Value} {mg mb : Str → Option Value} {L f Dr Dn Do : Addr} {cd : Value} {base : Heap} {m : Str → Option Value} {or on oo o1 o2 o3 o4 o5 : Obj} {v2 : Option Value} {Q : Flow → Shared → Prop}
    (X : (Mine.hd.heap_39 w.params).In base) (T : Top p loose mean mg mb base) (hh : A.handled = none)
    (F : Fr base L s.heap m) (N : News base L s.heap [(Do, oo), (Dn, on), (Dr, or), (L + 1 + 1 + 1 + 1 + 1, o5), (L + 1 + 1 + 1 + 1, o4), (L + 1 + 1 + 1, o3), (L + 1 + 1, o2), (L + 1, o1)])
    (d2 : o2.data = .cell v2) (q1 : @Ne Nat Dr (L + 1 + 1)) (q2 : @Ne Nat Dn (L + 1 + 1)) (q3 : @Ne Nat Do (L + 1 + 1))
    (h : ∀ (Ds Dc : Addr) o2' h' tk, o2'.data = .cell (some (.ref Dc)) → Fr base L h' (fun z => if z = Str.ofString "spaces" then some (.ref Ds) else m z) →
      AllLt Ds [(Do, oo), (Dn, on), (Dr, or), (L + 1 + 1 + 1 + 1 + 1, o5), (L + 1 + 1 + 1 + 1, o4), (L + 1 + 1 + 1, o3), (L + 1 + 1, o2), (L + 1, o1)] → @LT.lt Nat _ Ds Dc →
      News base L h' [(Dc, W.listOf #[] 0), (Ds, W.listOf #[] 0), (Do, oo), (Dn, on), (Dr, or), (L + 1 + 1 + 1 + 1 + 1, o5), (L + 1 + 1 + 1 + 1, o4), (L + 1 + 1 + 1, o3), (L + 1 + 1, o2'), (L + 1, o1)] → Q .next { s with heap := h', toks := tk }) :
    wpAny (model Challenge.rw_mr0203_01.row.prog w) A (exec law6P.1 (lawEnv L f cd)) Q (fun _ _ => False) s := by
  revert X
  k_fill
  intro X
  show wpAny _ _ (exec (Stmt.Assign [Expr.Tuple _ _ _] (Expr.Tuple _ _ _) _) _) _ _ _
  k_steps
  rename Fr _ _ _ _ => F₁
  rename News _ _ _ _ => N₁
  rename Obj.data _ = _ => hd2
  exact h _ _ _ _ _ hd2 F₁ (by simp only [AllLt, and_true]; omega) (by omega) (News.pick N₁ fun p hp => .tail _ hp)
end part_C13
section part_H14
open PySem PySem.W PySem.Calls PyProof.Rows
set_option Elab.async false
set_option maxRecDepth 100000
/-- the spaces made of the leads -/
inductive SpOk (P : Params) (tl : List (Addr × Obj)) : List Value → List (List Nat) → Prop
  | nil : SpOk P tl [] []
  | cons {vs lds} {x : Addr} {ld : List Nat} : WsL P tl x (wsOf (ld ++ [120])) → SpOk P tl vs lds → SpOk P tl (.ref x :: vs) (ld :: lds)
theorem SpOk.mono {P : Params} {l l' : List (Addr × Obj)} (hs : ∀ p ∈ l, p ∈ l') : ∀ {vs : List Value} {ts : List (List Nat)}, SpOk P l vs ts → SpOk P l' vs ts
  | _, _, .nil => .nil
  | _, _, .cons h r => .cons (h.mono hs) (r.mono hs)
theorem SpOk.snoc {P : Params} {l : List (Addr × Obj)} {x : Addr} {ld : List Nat} (h : WsL P l x (wsOf (ld ++ [120]))) : ∀ {vs : List Value} {ts : List (List Nat)}, SpOk P l vs ts → SpOk P l (vs ++ [.ref x]) (ts ++ [ld])
  | _, _, .nil => .cons h .nil
  | _, _, .cons h' r => .cons h' (r.snoc h)
theorem SpOk.len {P : Params} {l : List (Addr × Obj)} : ∀ {vs : List Value} {ts : List (List Nat)}, SpOk P l vs ts → vs.length = ts.length
  | _, _, .nil => rfl
  | _, _, .cons _ r => congrArg (· + 1) r.len
/-- a lead's columns, told by the registers -/
def told (ld : List Nat) (oc : Int) (rc : Nat) : List Int := (List.range rc).map fun i => col (back (fwd (List.replicate (prLen (i + 1) ld) 32 ++ [oc])) oc)
inductive ColOk (oc : Int) (rc : Nat) (tl : List (Addr × Obj)) : List Value → List (List Nat) → Prop
  | nil : ColOk oc rc tl [] []
  | cons {vs lds} {c : Addr} {ys : List Value} {ld : List Nat} : (c, LCg.lst ys) ∈ tl → IntsAre ys (told ld oc rc) → ColOk oc rc tl vs lds → ColOk oc rc tl (.ref c :: vs) (ld :: lds)
theorem ColOk.mono {oc : Int} {rc : Nat} {l l' : List (Addr × Obj)} (hs : ∀ p ∈ l, p ∈ l') : ∀ {vs : List Value} {ts : List (List Nat)}, ColOk oc rc l vs ts → ColOk oc rc l' vs ts
  | _, _, .nil => .nil
  | _, _, .cons h i r => .cons (hs _ h) i (r.mono hs)
theorem ColOk.snoc {oc : Int} {rc : Nat} {l : List (Addr × Obj)} {c : Addr} {ys : List Value} {ld : List Nat} (h : (c, LCg.lst ys) ∈ l) (hi : IntsAre ys (told ld oc rc)) : ∀ {vs : List Value} {ts : List (List Nat)}, ColOk oc rc l vs ts → ColOk oc rc l (vs ++ [.ref c]) (ts ++ [ld])
  | _, _, .nil => .cons h hi .nil
  | _, _, .cons h' i' r => .cons h' i' (r.snoc h hi)
theorem ColOk.len {oc : Int} {rc : Nat} {l : List (Addr × Obj)} : ∀ {vs : List Value} {ts : List (List Nat)}, ColOk oc rc l vs ts → vs.length = ts.length
  | _, _, .nil => rfl
  | _, _, .cons _ _ r => congrArg (· + 1) r.len
theorem cat_x (ld : List Nat) : ((⟨ld.toArray⟩ : Str) ++ Str.ofString "x").cps.toList = ld ++ [120] := by
  rw [show Str.ofString "x" = (⟨#[120]⟩ : Str) from by decide +kernel, Str.cps_append]
  simp
theorem lead_len {k a b c : Nat} (hk : k ≤ 1) (ha : a ≤ 3) (hb : b ≤ 3) (hc : c ≤ 3) : (lead k a b c).length ≤ 20 := by simp [lead]; omega
theorem lead_ascii (k a b c : Nat) : ∀ x ∈ lead k a b c, x < 128 := by
  intro x hx
  simp only [lead, List.mem_append, List.mem_replicate, List.mem_cons] at hx
  omega
theorem ints_of {ys : List Value} {g : Nat → Int} : ∀ {n : Nat}, ys.length = n → (∀ (j : Nat) (y : Value), ys[j]? = some y → ∃ t, y = Value.int (g j) t) → IntsAre ys ((List.range n).map g) := by
  intro n
  induction n generalizing ys g with
  | zero => intro hl _; rw [List.length_eq_zero_iff.mp hl]; exact .nil
  | succ n ih =>
    intro hl hR
    match ys, hl with
    | y :: r, hl =>
      obtain ⟨t, rfl⟩ := hR 0 y rfl
      rw [List.range_succ_eq_map, List.map_cons, List.map_map]
      exact .cons _ _ (ih (by simpa using hl) fun j z hz => hR (j + 1) z (by simpa using hz))
theorem all_lt {ld : List Nat} (h : ∀ x ∈ ld, x < 128) : ld.toArray.all (· < 128) = true := by
  simp only [List.all_toArray, List.all_eq_true, decide_eq_true_eq]
  exact h
def EltK (s : Shared) (h₀ : Heap) (L : Addr) (m : Str → Option Value) (l : List (Addr × Obj)) (R : Value → Prop) (y : Value) (s₂ : Shared) : Prop := ∃ h' tk', s₂ = { s with heap := h', toks := tk' } ∧ Fr h₀ L h' m ∧ News h₀ L h' l ∧ R y
theorem rest_keep {prog : Program} {w : World} {A : Around} {h₀ : Heap} {L : Addr} {m : Str → Option Value} {env : Env} {elt : Expr} {x : Str} {scope : Scope} {cl : List (Str × Addr)} {s : Shared} {S : List (Addr × Obj) → Prop} {P : Nat → Value → Prop} {Fin : List Value → List (Addr × Obj) → Prop} {n : Nat} {news : List (Addr × Obj)}
    (R : Nat → Value → Prop) (hS : S news)
    (step : ∀ i v I oI C oC D oD m₂ h tk, i < n → P i v → LCg.NsObj oC m₂ → m₂ x = some v → Fr h₀ L h m → News h₀ L h ((I, oI) :: (C, oC) :: (D, oD) :: news) →
      wpAny (model prog w) A (eval elt (compEnvC scope cl C env)) (EltK s h₀ L m ((I, oI) :: (C, oC) :: (D, oD) :: news) (R i)) (fun _ _ => False) { s with heap := h, toks := tk })
    (fin : ∀ ys, ys.length = n → (∀ j y, ys[j]? = some y → R j y) → Fin ys news) : LCg.CompRest prog w A h₀ L m env elt x scope cl s S P Fin n 0 [] news := by
  refine rest_inv (fun i ys nw => nw = news ∧ ys.length = i ∧ ∀ j y, ys[j]? = some y → R j y) (fun i ys nw j => j.1 ▸ hS) ?_ ?_ n 0 [] news (Nat.zero_add _) ⟨rfl, rfl, fun j y q => by simp at q⟩
  · rintro i ys nw v I oI C oC D m₂ h tk hi hP ⟨rfl, hl, hr⟩ hC hx F N off ne
    refine wpAny_mono (step i v I oI C oC D _ m₂ h tk hi hP hC hx F N) (fun y s₂ q => ?_) fun _ _ q => q
    obtain ⟨h', tk', rfl, F', N', r⟩ := q
    refine ⟨h', tk', nw, rfl, F', N', off, rfl, by simp [hl], fun j z hz => ?_⟩
    rcases Nat.lt_trichotomy j ys.length with q | q | q
    · exact hr j z (by rwa [List.getElem?_append_left q] at hz)
    · subst q; simp at hz; subst hz; exact hl ▸ r
    · have : (ys ++ [y])[j]? = none := List.getElem?_eq_none (by simp; omega)
      rw [this] at hz; cases hz
  · rintro ys nw ⟨rfl, hl, hr⟩
    exact fin ys hl hr
theorem news_new {h₀ h h' : Heap} {L D : Addr} {o : Obj} {m : Str → Option Value} {news : List (Addr × Obj)} (F : Fr h₀ L h m) (N : News h₀ L h news) (k : h.StaysIn h') (g : h'.get? D = some o) (fr : h.get? D = none) : News h₀ L h' ((D, o) :: news) := fun p hp => by
  have N' := news_add (l := [(D, o)]) F N k fun p hp => by rw [List.mem_singleton.mp hp]; exact ⟨g, fr⟩
  rcases List.mem_cons.mp hp with rfl | hp
  · exact N' _ (List.mem_append_right _ (.head _))
  · exact N' p (List.mem_append_left _ hp)
end part_H14
section part_C14
open PySem PySem.W PySem.Calls PyProof.Rows
set_option Elab.async false
set_option maxRecDepth 100000
set_option maxHeartbeats 4000000
theorem off_C14 : True := by
  w_top off
  trivial
local macro_rules | `(tactic| walk_at "subscriptTail") => `(tactic| ((with_reducible show wpAny _ _ (subscriptTail _ _ (Value.ref _) (Value.int _ _)) _ _ _); k_dflt (refine' item_list ?l ?a ?b ?c ?_; (case l => exact News.isList (by k_asm) (by k_mem)); (case a => first | decide | omega); (case b => first | decide | omega); (case c => assumption))))
local macro_rules | `(tactic| walk_at "call ref") => `(tactic| (refine stop ?_))
local macro_rules | `(tactic| walk_at "call ref") => `(tactic| (k_here; k_dflt (refine' call_ret (fwd_call ?x ?t ?hh ?d ?l ?i) ?_; (case x => k_in); (case t => exact Top.keeps (by k_asm) (Fr.keep (by k_asm))); (case hh => assumption); (case d => omega); (case l => exact News.isList (by k_asm) (by k_mem)); (case i => assumption)); intro v' h' tk' k' hv'; obtain ⟨t', hv''⟩ := hv'; subst hv''; have F' := Fr.stay (by k_asm) k'; have N' := News.stay (by k_asm) k'; (try k_sweep)))
local macro_rules | `(tactic| walk_at "call ref") => `(tactic| (k_here; k_dflt (refine' call_ret (col_call ?x ?t ?hh ?d) ?_; (case x => k_in); (case t => exact Top.keeps (by k_asm) (Fr.keep (by k_asm))); (case hh => assumption); (case d => omega)); intro v' h' tk' k' hv'; obtain ⟨t', hv''⟩ := hv'; subst hv''; have F' := Fr.stay (by k_asm) k'; have N' := News.stay (by k_asm) k'; (try k_sweep)))
local macro_rules | `(tactic| walk_at "call ref") => `(tactic| (k_here; k_dflt (refine' call_ret (pr_call ?x ?t ?hh ?d ?a ?y ?z1 ?z2) ?_; (case x => k_in); (case t => exact Top.keeps (by k_asm) (Fr.keep (by k_asm))); (case hh => assumption); (case d => omega); (case a => assumption); (case y => assumption); (case z1 => omega); (case z2 => omega)); intro v' h' tk' k' hv'; obtain ⟨D', vs', hv1, hl', hi', hfr'⟩ := hv'; subst hv1; obtain ⟨d', sl', n', hg'⟩ := isList_obj hl'; have F' := Fr.stay (by k_asm) k'; have N' := news_new (by k_asm) (by k_asm) k' hg' hfr'; (try k_sweep)))
local macro_rules | `(tactic| walk_at "eval ListComp") => `(tactic| refine stop ?_)

local macro_rules | `(tactic| k_all) => `(tactic| assumption)
theorem prFold_le {sz : Nat} (hz : 0 < sz) : ∀ (cs : List Nat) (n : Nat), cs.foldl (prStep sz) n ≤ n + cs.length * (sz + 1)
  | [], n => by simp
  | c :: r, n => by
    refine Nat.le_trans (prFold_le hz r _) ?_
    have h1 : prStep sz n c ≤ n + (sz + 1) := by
      by_cases h : c = 9
      · subst h; rw [prStep_tab]; have := upTo_le (k := n + 1) hz; omega
      · simp [prStep, h]
    rw [List.length_cons, Nat.add_mul]
    omega
theorem prLen_le {sz : Nat} (hz : 0 < sz) (cs : List Nat) : prLen sz cs ≤ cs.length * (sz + 1) := Nat.le_trans (prFold_le hz cs 0) (by omega)
theorem len_fit {sz : Nat} {cs : List Nat} {x : Int} (h : prLen sz cs ≤ 2000) : (List.replicate (prLen sz cs) (32 : Int)).length + [x].length ≤ sizeLine := by
  rw [List.length_replicate]
  exact Nat.le_trans (Nat.succ_le_succ h) (by decide)
local macro_rules | `(tactic| walk_at "binaryOp Add ref ref") => `(tactic| (k_here; k_dflt (refine' kmk_add_ints ?F ?N ?a ?b ?i ?j ?_ ?z; (case F => k_asm); (case N => k_asm); (case a => exact News.isList (by k_asm) (by k_mem)); (case b => exact News.isList (by k_asm) (by k_mem)); (case i => assumption); (case j => exact .cons _ _ .nil); (case z => exact len_fit (by assumption))); intro D' ws' h' F' N' l1 hI'; (try k_lt l1); (try k_sweep)))

theorem sub_same {l l' : List (Addr × Obj)} {q : Addr × Obj} (h : ∀ p ∈ l, p ∈ l') : ∀ p ∈ q :: l, p ∈ q :: l' := fun p hp => by
  rcases List.mem_cons.mp hp with rfl | hp
  · exact .head _
  · exact .tail _ (h p hp)
theorem sub_tail {l l' : List (Addr × Obj)} {q : Addr × Obj} (h : ∀ p ∈ l, p ∈ l') : ∀ p ∈ l, p ∈ q :: l' := fun p hp => .tail _ (h p hp)
theorem sub_refl {l : List (Addr × Obj)} : ∀ p ∈ l, p ∈ l := fun _ h => h
theorem pull {T : Addr × Obj} {tl : List (Addr × Obj)} : ∀ (A : List (Addr × Obj)), ∀ p ∈ A ++ T :: tl, p ∈ T :: (A ++ tl) := fun A p hp => by
  rcases List.mem_append.mp hp with hp | hp
  · exact .tail _ (List.mem_append_left _ hp)
  · rcases List.mem_cons.mp hp with rfl | hp
    · exact .head _
    · exact .tail _ (List.mem_append_right _ hp)
/-- the loop's state ahead of turn i -/
def J7 (P : Params) (oc : Int) (rc : Nat) (lds : List (List Nat)) (L Ds Dc D : Addr) (oD o1 o2 o4 o5 : Obj) (vr : Value) (i : Nat) (m : Str → Option Value) (nw : List (Addr × Obj)) : Prop :=
  ∃ xs cs tl nx nc o3' v3', m (Str.ofString "spaces") = some (.ref Ds) ∧ m (Str.ofString "reach") = some vr ∧ o3'.data = .cell v3' ∧
      SpOk P tl xs (lds.take i) ∧ ColOk oc rc tl cs (lds.take i) ∧ (∀ p ∈ tl, p.1 ≠ L + 1 + 1 + 1) ∧ (∀ p ∈ tl, p.1 ≠ L + 1 + 1 + 1 + 1) ∧ (∀ p ∈ tl, p.1 ≠ L + 1 + 1 + 1 + 1 + 1) ∧ (∀ p ∈ tl, p.1 ≠ Ds) ∧ (∀ p ∈ tl, p.1 ≠ Dc) ∧
      nw = (D, oD) :: (Dc, W.listOf cs.toArray nc) :: (Ds, W.listOf xs.toArray nx) :: (L + 1 + 1 + 1 + 1 + 1, o5) :: (L + 1 + 1 + 1 + 1, o4) :: (L + 1 + 1 + 1, o3') :: (L + 1 + 1, o2) :: (L + 1, o1) :: tl
theorem J7.mk {P : Params} {oc : Int} {rc : Nat} {lds : List (List Nat)} {L Ds Dc D : Addr} {oD o1 o2 o3 o4 o5 : Obj} {vr : Value} {i nx nc : Nat} {m : Str → Option Value} {xs cs : List Value} {tl : List (Addr × Obj)} {v3 : Option Value}
    (h1 : m (Str.ofString "spaces") = some (.ref Ds)) (h2 : m (Str.ofString "reach") = some vr) (h3 : o3.data = .cell v3) (sp : SpOk P tl xs (lds.take i)) (co : ColOk oc rc tl cs (lds.take i))
    (z3 : ∀ p ∈ tl, p.1 ≠ L + 1 + 1 + 1) (z4 : ∀ p ∈ tl, p.1 ≠ L + 1 + 1 + 1 + 1) (z5 : ∀ p ∈ tl, p.1 ≠ L + 1 + 1 + 1 + 1 + 1) (zs : ∀ p ∈ tl, p.1 ≠ Ds) (zc : ∀ p ∈ tl, p.1 ≠ Dc) :
    J7 P oc rc lds L Ds Dc D oD o1 o2 o4 o5 vr i m ((D, oD) :: (Dc, W.listOf cs.toArray nc) :: (Ds, W.listOf xs.toArray nx) :: (L + 1 + 1 + 1 + 1 + 1, o5) :: (L + 1 + 1 + 1 + 1, o4) :: (L + 1 + 1 + 1, o3) :: (L + 1 + 1, o2) :: (L + 1, o1) :: tl) :=
  ⟨xs, cs, tl, nx, nc, o3, v3, h1, h2, h3, sp, co, z3, z4, z5, zs, zc, rfl⟩
theorem J7.elim {P : Params} {oc : Int} {rc : Nat} {lds : List (List Nat)} {L Ds Dc D : Addr} {oD o1 o2 o4 o5 : Obj} {vr : Value} {i : Nat} {m : Str → Option Value} {nw : List (Addr × Obj)} {C : Prop} (h : J7 P oc rc lds L Ds Dc D oD o1 o2 o4 o5 vr i m nw)
    (k : ∀ xs cs tl nx nc o3' v3', m (Str.ofString "spaces") = some (.ref Ds) → m (Str.ofString "reach") = some vr → o3'.data = .cell v3' →
      SpOk P tl xs (lds.take i) → ColOk oc rc tl cs (lds.take i) → (∀ p ∈ tl, p.1 ≠ L + 1 + 1 + 1) → (∀ p ∈ tl, p.1 ≠ L + 1 + 1 + 1 + 1) → (∀ p ∈ tl, p.1 ≠ L + 1 + 1 + 1 + 1 + 1) → (∀ p ∈ tl, p.1 ≠ Ds) → (∀ p ∈ tl, p.1 ≠ Dc) →
      nw = (D, oD) :: (Dc, W.listOf cs.toArray nc) :: (Ds, W.listOf xs.toArray nx) :: (L + 1 + 1 + 1 + 1 + 1, o5) :: (L + 1 + 1 + 1 + 1, o4) :: (L + 1 + 1 + 1, o3') :: (L + 1 + 1, o2) :: (L + 1, o1) :: tl → C) : C := by
  obtain ⟨xs, cs, tl, nx, nc, o3', v3', hs', hr', d3', sp, co, z3, z4, z5, zs, zc, e⟩ := h
  exact k xs cs tl nx nc o3' v3' hs' hr' d3' sp co z3 z4 z5 zs zc e
theorem J7.mem {P : Params} {oc : Int} {rc : Nat} {lds : List (List Nat)} {L Ds Dc D : Addr} {oD o1 o2 o4 o5 : Obj} {vr : Value} {i : Nat} {m : Str → Option Value} {nw : List (Addr × Obj)} (h : J7 P oc rc lds L Ds Dc D oD o1 o2 o4 o5 vr i m nw) : (D, oD) ∈ nw :=
  h.elim fun _ _ _ _ _ _ _ _ _ _ _ _ _ _ _ _ _ e => e ▸ .head _
theorem pick7 {C : Prop} {fr a b c d e g i : Nat} {t1 t2 : Tok} {v : Value} (hv : [Value.str (leadStr (fr / 2) a b c) t1, .str (leadStr (fr % 2) d e g) t2][i]? = some v) (ha : a ≤ 3) (hb : b ≤ 3) (hc : c ≤ 3) (hdd : d ≤ 3) (he : e ≤ 3) (hg : g ≤ 3) (hfr : fr ≤ 2)
    (k : ∀ ld t, v = .str ⟨ld.toArray⟩ t → [lead (fr / 2) a b c, lead (fr % 2) d e g].take (i + 1) = [lead (fr / 2) a b c, lead (fr % 2) d e g].take i ++ [ld] → ld.length ≤ 20 → (∀ x ∈ ld, x < 128) → C) : C := by
  rcases i with _ | _ | i
  · cases hv; exact k _ t1 rfl rfl (lead_len (by omega) ha hb hc) (lead_ascii _ _ _ _)
  · cases hv; exact k _ t2 rfl rfl (lead_len (by omega) hdd he hg) (lead_ascii _ _ _ _)
  · cases hv
theorem add_ne {X D : Addr} {o : Obj} {tl : List (Addr × Obj)} (h1 : ∀ p ∈ tl, p.1 ≠ X) (h2 : X ≠ D) : ∀ p ∈ (D, o) :: tl, p.1 ≠ X := ne_cons (fun e => h2 e.symm) h1

theorem law7 {w : World} {A : Around} {s : Shared} {p : Program} {loose : List Str} {mean : ExcName → Option Value} {mg mb : Str → Option Value} {L f Dr Dn Do Ds Dc : Addr} {cd : Value} {base : Heap} {m : Str → Option Value} {rvs : List Value} {nr : Nat} {r0 r1 r2 r3 r4 r5 r6 r7 : Int} {a b c d e g fr rc : Nat} {oc : Int} {ta tb tc td te tg to tr : Tok} {o1 o2 o3 o4 o5 : Obj} {v3 : Option Value} {Q : Flow → Shared → Prop}
    (X : (Mine.hd.heap_39 w.params).In base) (T : Top p loose mean mg mb base) (hh : A.handled = none) (hd : A.depth + 20 < recursionLimit)
    (F : Fr base L s.heap m) (N : News base L s.heap [(Dc, W.listOf #[] 0), (Ds, W.listOf #[] 0), (Do, LCg.lst [.int (d : Int) td, .int (e : Int) te, .int (g : Int) tg]), (Dn, LCg.lst [.int (a : Int) ta, .int (b : Int) tb, .int (c : Int) tc]), (Dr, W.listOf rvs.toArray nr), (L + 1 + 1 + 1 + 1 + 1, o5), (L + 1 + 1 + 1 + 1, o4), (L + 1 + 1 + 1, o3), (L + 1 + 1, o2), (L + 1, o1)])
    (hm : m (Str.ofString "row") = some (.ref Dr)) (hmn : m (Str.ofString "runs") = some (.ref Dn)) (hmo : m (Str.ofString "others") = some (.ref Do)) (hms : m (Str.ofString "spaces") = some (.ref Ds)) (hmr : m (Str.ofString "reach") = some (.int (rc : Int) tr))
    (hi : IntsAre rvs [r0, r1, r2, r3, r4, r5, r6, r7]) (h6 : r6.fmod 3 = (fr : Int)) (d1 : o1.data = .cell (some (.int oc to))) (d2 : o2.data = .cell (some (.ref Dc))) (d3 : o3.data = .cell v3)
    (q1 : @LT.lt Nat _ (L + 1 + 1 + 1 + 1 + 1) Ds) (q2 : @LT.lt Nat _ Ds Dc) (ha : a ≤ 3) (hb : b ≤ 3) (hc : c ≤ 3) (hdd : d ≤ 3) (he : e ≤ 3) (hg : g ≤ 3) (hfr : fr ≤ 2) (hrc : rc ≤ 4)
    (h : ∀ xs cs tl nx nc o3' v3' h' tk m', Fr base L h' m' → m' (Str.ofString "spaces") = some (.ref Ds) → m' (Str.ofString "reach") = some (.int (rc : Int) tr) → o3'.data = .cell v3' →
      SpOk w.params tl xs [lead (fr / 2) a b c, lead (fr % 2) d e g] → ColOk oc rc tl cs [lead (fr / 2) a b c, lead (fr % 2) d e g] → (∀ p ∈ tl, p.1 ≠ L + 1 + 1 + 1 + 1) → (∀ p ∈ tl, p.1 ≠ L + 1 + 1 + 1 + 1 + 1) →
      News base L h' ((Dc, W.listOf cs.toArray nc) :: (Ds, W.listOf xs.toArray nx) :: (L + 1 + 1 + 1 + 1 + 1, o5) :: (L + 1 + 1 + 1 + 1, o4) :: (L + 1 + 1 + 1, o3') :: (L + 1 + 1, o2) :: (L + 1, o1) :: tl) → Q .next { s with heap := h', toks := tk }) :
    wpAny (model Challenge.rw_mr0203_01.row.prog w) A (exec law7P.1 (lawEnv L f cd)) Q (fun _ _ => False) s := by
  revert X
  k_fill
  intro X
  have hps := allc (m := m) (p := (Str.ofString "row", .ref Dr)) hm (allc (p := (Str.ofString "runs", .ref Dn)) hmn (allc (p := (Str.ofString "others", .ref Do)) hmo (allc (p := (Str.ofString "spaces", .ref Ds)) hms (all1 (p := (Str.ofString "reach", .int (rc : Int) tr)) hmr))))
  have F₀ := fr_see [(Str.ofString "row", .ref Dr), (Str.ofString "runs", .ref Dn), (Str.ofString "others", .ref Do), (Str.ofString "spaces", .ref Ds), (Str.ofString "reach", .int (rc : Int) tr)] F hps
  clear F
  show wpAny _ _ (exec (Stmt.For _ _ _ [] _) _) _ _ _
  refine wpAny_For ?_ (by intro _; rfl)
  k_steps
  unfold Stop
  show wpAny _ _ (call (Value.ref 120) [_, _, Value.int (r6.fmod 3) _]) _ _ _
  rw [h6]
  refine call_ret (leads_call (a := a) (b := b) (c := c) (d := d) (e := e) (f := g) (X.keeps F₀.keep) (T.keeps F₀.keep) hh (by omega) (vs1 := [.int (a : Int) ta, .int (b : Int) tb, .int (c : Int) tc]) (News.isList N (.tail _ (.tail _ (.tail _ (.head _))))) (.cons _ _ (.cons _ _ (.cons _ _ .nil))) (vs2 := [.int (d : Int) td, .int (e : Int) te, .int (g : Int) tg]) (News.isList N (.tail _ (.tail _ (.head _)))) (.cons _ _ (.cons _ _ (.cons _ _ .nil))) ha hb hc hdd he hg hfr) ?_
  rintro v h₁ tk₁ st ⟨D, t1, t2, rfl, hl, hfrD⟩
  obtain ⟨d', sl', n', hgD⟩ := isList_obj (vs := [.str (leadStr (fr / 2) a b c) t1, .str (leadStr (fr % 2) d e g) t2]) hl
  have N₁ := news_new F₀ N st hgD hfrD
  have hDs : @Ne Nat D Ds := fun e => by have := (N _ (.tail _ (.head _))).1; rw [← e, hfrD] at this; cases this
  have hDc : @Ne Nat D Dc := fun e => by have := (N _ (.head _)).1; rw [← e, hfrD] at this; cases this
  have hD3 : @Ne Nat D (L + 1 + 1 + 1) := fun e => by have := (N (L + 1 + 1 + 1, o3) (.tail _ (.tail _ (.tail _ (.tail _ (.tail _ (.tail _ (.tail _ (.head _))))))))).1; rw [← e, hfrD] at this; cases this
  have F₁ := Fr.stay F₀ st
  clear F₀ N
  replace N₁ : News base L h₁ ((D, ⟨.type "list", d', .seq [.str (leadStr (fr / 2) a b c) t1, .str (leadStr (fr % 2) d e g) t2].toArray n', sl'⟩) :: (Dc, W.listOf [].toArray 0) :: (Ds, W.listOf [].toArray 0) :: (L + 1 + 1 + 1 + 1 + 1, o5) :: (L + 1 + 1 + 1 + 1, o4) :: (L + 1 + 1 + 1, o3) :: (L + 1 + 1, o2) :: (L + 1, o1) :: []) := News.pick N₁ (sub_same (sub_same (sub_same (sub_tail (sub_tail (sub_tail sub_refl))))))
  refine lpT_list (vs := [.str (leadStr (fr / 2) a b c) t1, .str (leadStr (fr % 2) d e g) t2]) (ol := ⟨.type "list", d', .seq [.str (leadStr (fr / 2) a b c) t1, .str (leadStr (fr % 2) d e g) t2].toArray n', sl'⟩)
    (J7 w.params oc rc [lead (fr / 2) a b c, lead (fr % 2) d e g] L Ds Dc D ⟨.type "list", d', .seq [.str (leadStr (fr / 2) a b c) t1, .str (leadStr (fr % 2) d e g) t2].toArray n', sl'⟩ o1 o2 o4 o5 (.int (rc : Int) tr))
    hh (.head _) ⟨rfl, n', rfl⟩ (fun i m nw hJ => hJ.mem) F₁ N₁ (J7.mk (xs := []) (cs := []) (tl := []) rfl rfl d3 .nil .nil ne_nil ne_nil ne_nil ne_nil ne_nil) ?_ ?_
  · intro i v m₁ news₁ h₂ tk₂ I oI hv hJ hI F₂ N₂
    refine hJ.elim ?_
    intro xs cs tl nx nc o3' v3' hs' hr' d3' sp co z3 z4 z5 zs zc en
    rw [en] at hI N₂
    clear en hJ
    refine pick7 hv ha hb hc hdd he hg hfr ?_
    intro ld t ev htk hlen hasc
    subst ev
    have hIs : @Ne Nat Ds I := hI (Ds, W.listOf xs.toArray nx) (.tail _ (.tail _ (.head _)))
    have hIc : @Ne Nat Dc I := hI (Dc, W.listOf cs.toArray nc) (.tail _ (.head _))
    have hI3 : @Ne Nat (L + 1 + 1 + 1) I := hI (L + 1 + 1 + 1, o3') (.tail _ (.tail _ (.tail _ (.tail _ (.tail _ (.head _))))))
    have hID : @Ne Nat D I := hI _ (.head _)
    have hI5 : True → @Ne Nat (L + 1 + 1 + 1 + 1 + 1) I := fun _ => hI (L + 1 + 1 + 1 + 1 + 1, o5) (.tail _ (.tail _ (.tail _ (.head _))))
    have hI4 : True → @Ne Nat (L + 1 + 1 + 1 + 1) I := fun _ => hI (L + 1 + 1 + 1 + 1, o4) (.tail _ (.tail _ (.tail _ (.tail _ (.head _)))))
    have hI2 : True → @Ne Nat (L + 1 + 1) I := fun _ => hI (L + 1 + 1, o2) (.tail _ (.tail _ (.tail _ (.tail _ (.tail _ (.tail _ (.head _)))))))
    have hI1 : True → @Ne Nat (L + 1) I := fun _ => hI (L + 1, o1) (.tail _ (.tail _ (.tail _ (.tail _ (.tail _ (.tail _ (.tail _ (.head _))))))))
    have hps' := allc (m := m₁) (p := (Str.ofString "spaces", .ref Ds)) hs' (all1 (p := (Str.ofString "reach", .int (rc : Int) tr)) hr')
    replace F₂ : Fr base L h₂ _ := fr_see [(Str.ofString "spaces", .ref Ds), (Str.ofString "reach", .int (rc : Int) tr)] F₂ hps'
    replace N₂ : News base L h₂ _ := N₂
    clear F₁ N₁
    generalize hTE : TurnEnd _ _ _ _ _ _ _ = TE
    k_steps
    unfold Stop
    rename Fr _ _ _ _ => F₃
    rename News _ _ _ _ => N₃
    have hcx := cat_x ld
    have hyA : (⟨ld.toArray⟩ ++ Str.ofString "x" : Str).cps.all (· < 128) = true := by
      rw [← Array.all_toList, hcx, List.all_eq_true]
      intro x hx
      rcases List.mem_append.mp hx with q | q
      · exact decide_eq_true (hasc x q)
      · cases List.mem_singleton.mp q; decide
    have hyL : (⟨ld.toArray⟩ ++ Str.ofString "x" : Str).cps.size ≤ 100 := by
      rw [← Array.length_toList, hcx, List.length_append]
      show ld.length + 1 ≤ 100
      omega
    refine call_ret (ws_call (X.keeps F₃.keep) (T.keeps F₃.keep) hh (by omega) hyA hyL) ?_
    rintro v' h₃ tk₃ st₃ ⟨x, l, rfl, hW, hn⟩
    rw [hcx] at hW
    have y3 := app_ne z3 (new_ne N₃ (.tail _ (.tail _ (.tail _ (.tail _ (.tail _ (.tail _ (.head _))))))) hn)
    have y4 := app_ne z4 (new_ne N₃ (.tail _ (.tail _ (.tail _ (.tail _ (.tail _ (.head _)))))) hn)
    have y5 := app_ne z5 (new_ne N₃ (.tail _ (.tail _ (.tail _ (.tail _ (.head _))))) hn)
    have ys' := app_ne zs (new_ne N₃ (.tail _ (.tail _ (.tail _ (.head _)))) hn)
    have yc := app_ne zc (new_ne N₃ (.tail _ (.tail _ (.head _))) hn)
    have yI := app_ne (fun p hp => hI p (.tail _ (.tail _ (.tail _ (.tail _ (.tail _ (.tail _ (.tail _ (.tail _ hp))))))))) (new_ne N₃ (.head _) hn)
    have sp' := (sp.mono fun p hp => List.mem_append_left l hp).snoc (hW.mono fun p hp => List.mem_append_right tl hp)
    have co' := co.mono fun p hp => List.mem_append_left l hp
    have N₄ := news_add F₃ N₃ st₃ hn
    have F₄ := Fr.stay F₃ st₃
    simp only [List.cons_append] at N₄
    have hxl : xs.toArray.size ≤ sizeLine := by
      rw [List.size_toArray, sp.len, List.length_take]
      exact Nat.le_trans (Nat.min_le_right _ _) (show 2 ≤ sizeLine by decide)
    have hcl : cs.toArray.size ≤ sizeLine := by
      rw [List.size_toArray, co.len, List.length_take]
      exact Nat.le_trans (Nat.min_le_right _ _) (show 2 ≤ sizeLine by decide)
    clear F₃ N₃ sp co z3 z4 z5 zs zc
    generalize tl ++ l = tl' at y3 y4 y5 ys' yc yI sp' co' N₄
    k_steps
    unfold Stop
    rename Fr _ _ _ _ => F₅
    rename News _ _ _ _ => N₅
    rename Obj.data _ = Data.cell (some (Value.str _ _)) => dl
    k_dflt (refine LCg.ListComp_U (F₀ := F₅) (cl := _) (by with_unfolding_all rfl) (by decide) (by rfl) (by decide) (by rfl) ?_)
    k_steps
    rename Fr _ _ _ _ => F₆
    rename News _ _ _ _ => N₆
    rename IsRange _ _ _ _ _ _ _ _ => hr
    clear hI
    refine LCg.CompSrc.range hh F₆ N₆ hr (small_one (by omega) (by omega) (by omega) (by omega)) (range_from1 rc) (Nat.le_trans hrc (by decide)) ?_
    intro g0
    refine rest_keep (fun j y => ∃ t, y = Value.int (col (back (fwd (List.replicate (prLen (j + 1) ld) 32 ++ [oc])) oc)) t) trivial ?_ ?_
    · rintro j v I' oI' C oC D' oD' m₂ h tk2 hj hv' hC hx F₇ N₇
      obtain ⟨tz, rfl⟩ := hv'
      rw [show (1 : Int) + (j : Int) = ((j + 1 : Nat) : Int) by omega] at hx
      have ha' : (⟨ld.toArray⟩ : Str).cps.all (· < 128) = true := all_lt hasc
      have hy' : (⟨ld.toArray⟩ : Str).cps.size ≤ 100 := by show ld.toArray.size ≤ 100; rw [List.size_toArray]; omega
      have hzp : prLen (j + 1) (⟨ld.toArray⟩ : Str).cps.toList ≤ 2000 := by
        refine Nat.le_trans (prLen_le (by omega) _) ?_
        show ld.toArray.toList.length * (j + 1 + 1) ≤ 2000
        rw [List.toList_toArray]
        exact Nat.le_trans (Nat.mul_le_mul hlen (show j + 1 + 1 ≤ 6 by omega)) (by decide)
      clear F₆ N₆ hr
      k_steps
      rename Fr _ _ _ _ => F₈
      rename News _ _ _ _ => N₈
      exact ⟨_, _, rfl, F₈, News.pick N₈ fun p hp => .tail _ (.tail _ (.tail _ hp)), _, rfl⟩
    · intro ys hlen hR D' h3 tk3 F₇ N₇ off
      have hint := ints_of hlen hR
      clear F₆ N₆ hr
      have hoff : True → _ := fun _ => off
      obtain ⟨_, _, oc', _⟩ := off
      k_steps
      obtain ⟨oI', oD', _, os', ol5, ol4, ol3, ol2, ol1, otl⟩ := hoff trivial
      rename Fr _ _ _ _ => F₈
      rename News _ _ _ _ => N₈
      rw [List.push_toArray, List.push_toArray] at N₈
      have up : ∀ p ∈ tl', p ∈ (D', LCg.lst ys) :: tl' := fun p hp => .tail _ hp
      have sp'' := sp'.mono up
      have co'' := (co'.mono up).snoc (.head _) hint
      rw [← htk] at sp'' co''
      subst hTE
      exact TurnEnd.next F₈ (News.pick N₈ (pull [_, _, _, _, _, _, _, _, _])) (ne_cons hID (ne_cons hIc (ne_cons hIs (ne_cons (hI5 trivial) (ne_cons (hI4 trivial) (ne_cons hI3 (ne_cons (hI2 trivial) (ne_cons (hI1 trivial) (add_ne yI oI'))))))))) (J7.mk rfl rfl dl sp'' co'' (add_ne y3 ol3) (add_ne y4 ol4) (add_ne y5 ol5) (add_ne ys' os') (add_ne yc oc'))
  · intro m₁ news₁ h₂ tk₂ hJ F₂ N₂
    refine hJ.elim ?_
    intro xs cs tl nx nc o3' v3' hs' hr' d3' sp co z3 z4 z5 zs zc en
    rw [en] at N₂
    exact h xs cs tl nx nc o3' v3' h₂ tk₂ m₁ F₂ hs' hr' d3' sp co z4 z5 (News.pick N₂ (sub_tail sub_refl))
end part_C14
section part_H15
open PySem PySem.W PySem.Calls PyProof.Rows PySem.Spec
set_option Elab.async false
set_option maxRecDepth 100000
theorem ws_instN {h₀ h : Heap} {L x dx : Addr} {news : List (Addr × Obj)} {es : List DictEntry} {n : Nat} (N : News h₀ L h news) (e1 : (x, instObj 83 dx) ∈ news) (e2 : (dx, dictOf es n) ∈ news) : InstAt h x (instObj 83 dx) 83 (some (dictOf es n)) :=
  ⟨(N _ e1).1, rfl, rfl, (N _ e2).1⟩
theorem wsN {P : Params} {h₀ h : Heap} {L x : Addr} {news tl : List (Addr × Obj)} {st : WS} (N : News h₀ L h news) (W : WsL P tl x st) (hs : ∀ p ∈ tl, p ∈ news) : WsAt P h x st := W.at fun p hp => (N p (hs p hp)).1
open LCg in
theorem rest_T {prog : Program} {w : World} {A : Around} {h₀ : Heap} {L : Addr} {m : Str → Option Value} {env : Env} {ct elt : Expr} {x : Str} {scope : Scope} {cl : List (Str × Addr)} {s : Shared} {S : List (Addr × Obj) → Prop} {P : Nat → Value → Prop} {Fin : List Value → List (Addr × Obj) → Prop} {n : Nat} {news : List (Addr × Obj)}
    (J : Nat → List Value → Prop) (hS : S news)
    (step : ∀ i ys v I oI C oC D m₂ h tk, i < n → P i v → J i ys → NsObj oC m₂ → m₂ x = some v → Fr h₀ L h m → News h₀ L h ((I, oI) :: (C, oC) :: (D, lst ys) :: news) →
      wpAny (model prog w) A (isTrue ct (compEnvC scope cl C env) (eval ct (compEnvC scope cl C env))) (fun ok s' => if ok = true then
        wpAny (model prog w) A (eval elt (compEnvC scope cl C env)) (EltK s h₀ L m ((I, oI) :: (C, oC) :: (D, lst ys) :: news) (fun y => J (i + 1) (ys ++ [y]))) (fun _ _ => False) s'
        else EltK s h₀ L m ((I, oI) :: (C, oC) :: (D, lst ys) :: news) (fun _ => J (i + 1) ys) Value.none s') (fun _ _ => False) { s with heap := h, toks := tk })
    (fin : ∀ ys, J n ys → Fin ys news) : ∀ k i ys, i + k = n → J i ys → LCt.CompRestT prog w A h₀ L m env ct elt x scope cl s S P Fin k i ys news
  | 0, i, ys, e, j => fin ys (by have : i = n := by omega
                                 exact this ▸ j)
  | k + 1, i, ys, e, j => by
    intro v I oI C oC D m₂ h tk E' hP hC hx F N off ne
    refine wpAny_mono (step i ys v I oI C oC D m₂ h tk (by omega) hP j hC hx F N) (fun ok s₂ q => ?_) fun _ _ q => q.elim
    by_cases ho : ok = true
    · rw [if_pos ho] at q ⊢
      refine wpAny_mono q (fun y s₃ q => ?_) fun _ _ q => q.elim
      obtain ⟨h', tk', rfl, F', N', j'⟩ := q
      exact ⟨h', tk', news, rfl, F', N', off, hS, rest_T J hS step fin k (i + 1) _ (by omega) j'⟩
    · rw [if_neg ho] at q ⊢
      obtain ⟨h', tk', rfl, F', N', j'⟩ := q
      exact ⟨h', tk', news, rfl, F', N', off, hS, rest_T J hS step fin k (i + 1) _ (by omega) j'⟩
theorem trips_all (f g : Nat → Nat) : ∀ (n i : Nat), i < n → (trips (fun _ _ => true) f g n)[i]? = some (i + 1, f (i + 1), g (i + 1)) ∧ (trips (fun _ _ => true) f g n).length = n
  | 0, i, h => by omega
  | n + 1, i, h => by
    have hl : (trips (fun _ _ => true) f g n).length = n := by
      cases n with
      | zero => rfl
      | succ n => exact (trips_all f g (n + 1) 0 (by omega)).2
    rw [trips_pos rfl]
    refine ⟨?_, by simp [hl]⟩
    by_cases e : i < n
    · rw [List.getElem?_append_left (by omega)]; exact (trips_all f g n i e).1
    · have : i = n := by omega
      subst this
      rw [List.getElem?_append_right (by omega)]; simp [hl]
theorem trips_alllen (f g : Nat → Nat) (n : Nat) : (trips (fun _ _ => true) f g n).length = n := by
  cases n with
  | zero => rfl
  | succ n => exact (trips_all f g (n + 1) 0 (by omega)).2
theorem TripsIn.get {l : List (Addr × Obj)} : ∀ {vs : List Value} {ts : List (Nat × Nat × Nat)}, TripsIn l vs ts → ∀ (i : Nat) (v : Value) (t : Nat × Nat × Nat), vs[i]? = some v → ts[i]? = some t → ∃ T t1 t2 t3, v = .ref T ∧ (T, tripObj t t1 t2 t3) ∈ l
  | _, _, .nil, i, v, t, h, _ => by simp at h
  | _, _, .cons e r, 0, v, t, h, h' => by
    simp at h h'
    subst h h'
    exact ⟨_, _, _, _, rfl, e⟩
  | _, _, .cons e r, i + 1, v, t, h, h' => r.get i v t (by simpa using h) (by simpa using h')
/-- the levels of a whitespace, 1 .. rc -/
def lv (st : WS) (rc : Nat) : List Int := (List.range rc).map fun i => (level st (i + 1) : Int)
theorem lv_get {st : WS} {rc i : Nat} (h : i < rc) : (lv st rc)[i]? = some (level st (i + 1) : Int) := by simp [lv, h]
theorem lv_len (st : WS) (rc : Nat) : (lv st rc).length = rc := by simp [lv]
theorem reads_intList {h : Heap} {D : Addr} {vs : List Value} {ns : List Int} (hl : h.IsList D vs.toArray) (hi : IntsAre vs ns) : Reads h (.ref D) (.list (ns.map PyData.int)) [D] := by
  obtain ⟨o, e, c, n, d⟩ := hl
  exact Reads.list e c d (by simpa using reads_ints hi)
theorem shaped_ints (ns : List Int) : SeqAt.shaped (.list (ns.map PyData.int)) = true := by
  simp [SeqAt.shaped, PyData.canLay0, PyData.canLayAll0, PyData.depth, PyData.depthAll, ke_canLayAll0, ke_depthAll]
theorem ne_ints {prog : Program} {w : World} {A : Around} {E : Value → Shared → Prop} {s : Shared} {Q : Value → Shared → Prop} {D D' : Addr} {vs vs' : List Value} {ns ms : List Int}
    (hl : s.heap.IsList D vs.toArray) (hi : IntsAre vs ns) (hl' : s.heap.IsList D' vs'.toArray) (hi' : IntsAre vs' ms) (hu : A.units + 64 < cLine) (h : Q (.bool (!decide (ns = ms))) s) :
    wpAny (model prog w) A (compareOp .NotEq (.ref D) (.ref D')) Q E s := by
  refine ne_dataH (reads_intList hl hi) (reads_intList hl' hi') (shaped_ints _) (shaped_ints _) hu ?_
  simp only [PyData.eqv, ked_eqvAll]
  exact h
theorem eq_ints {prog : Program} {w : World} {A : Around} {E : Value → Shared → Prop} {s : Shared} {Q : Value → Shared → Prop} {D D' : Addr} {vs vs' : List Value} {ns ms : List Int}
    (hl : s.heap.IsList D vs.toArray) (hi : IntsAre vs ns) (hl' : s.heap.IsList D' vs'.toArray) (hi' : IntsAre vs' ms) (hu : A.units + 64 < cLine) (h : Q (.bool (decide (ns = ms))) s) :
    wpAny (model prog w) A (compareOp .Eq (.ref D) (.ref D')) Q E s := by
  refine eq_dataH (reads_intList hl hi) (reads_intList hl' hi') (shaped_ints _) (shaped_ints _) hu ?_
  simp only [PyData.eqv, ked_eqvAll]
  exact h
end part_H15
section part_C15
open PySem PySem.W PySem.Calls PyProof.Rows
set_option Elab.async false
set_option maxRecDepth 100000
set_option maxHeartbeats 4000000
theorem off_C15 : True := by
  w_top off
  trivial
theorem lvl8 {w : World} {A : Around} {s : Shared} {p : Program} {loose : List Str} {mean : ExcName → Option Value} {mg mb : Str → Option Value} {base : Heap} {L x : Addr} {m : Str → Option Value} {nw tl : List (Addr × Obj)} {st : WS} {ts : Nat} {tz : Tok} {Q E : Value → Shared → Prop}
    (F : Fr base L s.heap m) (N : News base L s.heap nw) (T : Top p loose mean mg mb base) (hh : A.handled = none) (Wx : WsL w.params tl x st) (sb : ∀ p ∈ tl, p ∈ nw) (X : (Mine.hd.heap_39 w.params).In s.heap) (hd : A.depth + 1 < recursionLimit) (hz : 0 < ts) (hz2 : ts ≤ 100)
    (k : ∀ h' tk t, Fr base L h' m → News base L h' nw → Q (.int (level st ts : Int) t) { s with heap := h', toks := tk }) : wpAny (model Challenge.rw_mr0203_01.row.prog w) A (call (.ref 52) [.ref x, .int (ts : Int) tz]) Q E s := by
  refine call_ret (level_call X (T.keeps F.keep) hh hd (wsN N Wx sb) hz hz2) ?_
  rintro v h' tk k' ⟨t, rfl⟩
  exact k h' tk t (Fr.stay F k') (News.stay N k')
theorem ne8 {w : World} {A : Around} {s : Shared} {p : Program} {loose : List Str} {mean : ExcName → Option Value} {mg mb : Str → Option Value} {base : Heap} {L x y : Addr} {m : Str → Option Value} {nw tl tl2 : List (Addr × Obj)} {st su : WS} {Q E : Value → Shared → Prop}
    (F : Fr base L s.heap m) (N : News base L s.heap nw) (T : Top p loose mean mg mb base) (hh : A.handled = none) (Wx : WsL w.params tl x st) (W2 : WsL w.params tl2 y su) (sb : ∀ p ∈ tl, p ∈ nw) (sb2 : ∀ p ∈ tl2, p ∈ nw) (X : (Mine.hd.heap_39 w.params).In s.heap) (hd : A.depth + 2 < recursionLimit) (hre : reachOf st su ≤ 90)
    (k : ∀ h' tk D rvs n l, (D, W.listOf rvs.toArray n) ∈ l → TripsIn l rvs (trips (fun a b => a != b) (level st) (level su) (reachOf st su)) → Fr base L h' m → News base L h' (nw ++ l) → Q (.ref D) { s with heap := h', toks := tk }) : wpAny (model Challenge.rw_mr0203_01.row.prog w) A (call (.ref 66) [.ref x, .ref y]) Q E s := by
  refine call_ret (ne_call X (T.keeps F.keep) hh hd (wsN N Wx sb) (wsN N W2 sb2) hre) ?_
  rintro v h' tk k' ⟨D, rvs, n, l, rfl, hm, htr, hn⟩
  exact k h' tk D rvs n l hm htr (Fr.stay F k') (news_add F N k' hn)
theorem nl8 {w : World} {A : Around} {s : Shared} {p : Program} {loose : List Str} {mean : ExcName → Option Value} {mg mb : Str → Option Value} {base : Heap} {L x y : Addr} {m : Str → Option Value} {nw tl tl2 : List (Addr × Obj)} {st su : WS} {Q E : Value → Shared → Prop}
    (F : Fr base L s.heap m) (N : News base L s.heap nw) (T : Top p loose mean mg mb base) (hh : A.handled = none) (Wx : WsL w.params tl x st) (W2 : WsL w.params tl2 y su) (sb : ∀ p ∈ tl, p ∈ nw) (sb2 : ∀ p ∈ tl2, p ∈ nw) (X : (Mine.hd.heap_39 w.params).In s.heap) (hd : A.depth + 2 < recursionLimit) (hre : reachOf st su ≤ 90)
    (k : ∀ h' tk D rvs n l, (D, W.listOf rvs.toArray n) ∈ l → TripsIn l rvs (trips (fun a b => decide (b ≤ a)) (level st) (level su) (reachOf st su)) → Fr base L h' m → News base L h' (nw ++ l) → Q (.ref D) { s with heap := h', toks := tk }) : wpAny (model Challenge.rw_mr0203_01.row.prog w) A (call (.ref 80) [.ref x, .ref y]) Q E s := by
  refine call_ret (nl_call X (T.keeps F.keep) hh hd (wsN N Wx sb) (wsN N W2 sb2) hre) ?_
  rintro v h' tk k' ⟨D, rvs, n, l, rfl, hm, htr, hn⟩
  exact k h' tk D rvs n l hm htr (Fr.stay F k') (news_add F N k' hn)
theorem eq8 {w : World} {A : Around} {s : Shared} {p : Program} {loose : List Str} {mean : ExcName → Option Value} {mg mb : Str → Option Value} {base : Heap} {L x y : Addr} {m : Str → Option Value} {nw tl tl2 : List (Addr × Obj)} {st su : WS} {Q E : Value → Shared → Prop}
    (F : Fr base L s.heap m) (N : News base L s.heap nw) (T : Top p loose mean mg mb base) (hh : A.handled = none) (Wx : WsL w.params tl x st) (W2 : WsL w.params tl2 y su) (sb : ∀ p ∈ tl, p ∈ nw) (sb2 : ∀ p ∈ tl2, p ∈ nw) (X : (Mine.hd.heap_39 w.params).In s.heap) (hd : A.depth + 2 < recursionLimit) (hu : A.units + 67 < cLine)
    (k : ∀ h' tk, Fr base L h' m → News base L h' nw → Q (.bool (decide (st.cnt = su.cnt ∧ st.b = su.b))) { s with heap := h', toks := tk }) : wpAny (model Challenge.rw_mr0203_01.row.prog w) A (call (.ref 59) [.ref x, .ref y]) Q E s := by
  refine call_ret (eq_call X (T.keeps F.keep) hh hd hu (wsN N Wx sb) (wsN N W2 sb2)) ?_
  rintro v h' tk k' rfl
  exact k h' tk (Fr.stay F k') (News.stay N k')
theorem less8 {w : World} {A : Around} {s : Shared} {p : Program} {loose : List Str} {mean : ExcName → Option Value} {mg mb : Str → Option Value} {base : Heap} {L x y : Addr} {m : Str → Option Value} {nw tl tl2 : List (Addr × Obj)} {st su : WS} {Q E : Value → Shared → Prop}
    (F : Fr base L s.heap m) (N : News base L s.heap nw) (T : Top p loose mean mg mb base) (hh : A.handled = none) (Wx : WsL w.params tl x st) (W2 : WsL w.params tl2 y su) (sb : ∀ p ∈ tl, p ∈ nw) (sb2 : ∀ p ∈ tl2, p ∈ nw) (X : (Mine.hd.heap_39 w.params).In s.heap) (hd : A.depth + 2 < recursionLimit) (hre : reachOf st su ≤ 90)
    (k : ∀ h' tk, Fr base L h' m → News base L h' nw → Q (.bool (lessF st su)) { s with heap := h', toks := tk }) : wpAny (model Challenge.rw_mr0203_01.row.prog w) A (call (.ref 73) [.ref x, .ref y]) Q E s := by
  refine call_ret (less_call X (T.keeps F.keep) hh hd (wsN N Wx sb) (wsN N W2 sb2) hre) ?_
  rintro v h' tk k' rfl
  exact k h' tk (Fr.stay F k') (News.stay N k')
local macro_rules | `(tactic| k_all) => `(tactic| assumption)
local macro_rules | `(tactic| walk_at "call ref") => `(tactic| (refine stop ?_))
local macro_rules | `(tactic| walk_at "eval ListComp") => `(tactic| refine stop ?_)
local macro_rules | `(tactic| walk_at "exec Assign cons ListComp") => `(tactic| refine stop ?_)
local macro_rules | `(tactic| walk_at "compareOp NotEq ref ref") => `(tactic| refine stop ?_)
local macro_rules | `(tactic| walk_at "compareOp Eq ref ref") => `(tactic| refine stop ?_)
local macro_rules | `(tactic| walk_at "unpackItems ref") => `(tactic| (k_here; k_dflt (refine' unpackItemsN_ ?k1 ?k2 ?k3 ?k4 ?k5 ?_; (case k1 => k_asm); (case k2 => k_asm); (case k3 => kun_tup); (case k4 => first | assumption | exact rfl); (case k5 => first | assumption | exact rfl); k_whole); intro h' F' N'; (try k_sweep)))
local macro_rules | `(tactic| walk_at "assign Tuple") => `(tactic| (k_here; (with_reducible show wpAny _ _ (assign (Expr.Tuple _ _ _) _ (Value.ref _)) _ _ _); k_dflt (refine' unpackN_ ?k1 ?k2 ?k3 ?k4 ?k5 ?k6 ?_; (case k1 => k_asm); (case k2 => k_asm); (case k3 => kun_tup); (case k4 => first | assumption | exact rfl); (case k5 => exact rfl); (case k6 => exact rfl); k_whole); intro h' F' N'; (try k_sweep)))
local macro_rules | `(tactic| walk_at "subscriptTail") => `(tactic| ((with_reducible show wpAny _ _ (subscriptTail _ _ (Value.ref _) (Value.int _ _)) _ _ _); k_dflt (refine' item_list ?l ?a ?b ?c ?_; (case l => exact News.isList (by k_asm) (by k_mem)); (case a => first | decide | omega); (case b => first | decide | omega); (case c => assumption))))
local macro_rules | `(tactic| walk_at "getMethod ref") => `(tactic| (k_here; k_dflt (refine' method_inst ?k1 ?k2 ?k3 ?k4 ?k5 ?k6 ?k7 ?_; (case k1 => k_asm); (case k2 => k_asm); (case k3 => exact ws_instN (by k_asm) (by (repeat (first | assumption | refine List.Mem.tail _ ?_))) (by (repeat (first | assumption | refine List.Mem.tail _ ?_)))); (case k4 => k_is); (case k5 => k_is); (case k6 => k_is); (case k7 => k_get); k_whole)))
local macro_rules | `(tactic| walk_at "call ref") => `(tactic| (k_here; k_dflt (refine' lvl8 ?F ?N ?t ?hh ?w ?s ?x ?d ?z1 ?z2 ?_; (case F | N | t => k_asm); (case hh | w => assumption); (case s => (intro p hp; repeat (first | exact hp | refine List.Mem.tail _ ?_))); (case x => k_in); (case d | z1 | z2 => omega)); intro h' tk' t' F' N'; (try k_sweep)))
theorem tupN {h₀ h : Heap} {L T : Addr} {news : List (Addr × Obj)} {a b c : Nat} {t1 t2 t3 : Tok} (N : News h₀ L h news) (e : (T, tripObj (a, b, c) t1 t2 t3) ∈ news) : IsTup h T [Value.int (a : Int) t1, Value.int (b : Int) t2, Value.int (c : Int) t3].toArray := ⟨_, (N _ e).1, rfl, _, rfl⟩
local macro_rules | `(tactic| walk_at "subscriptTail") => `(tactic| ((with_reducible show wpAny _ _ (subscriptTail _ _ (Value.ref _) (Value.int _ _)) _ _ _); k_dflt (refine' item_tupleT ?l ?a ?b ?c ?d ?_; (case l => exact tupN (by k_asm) (by (repeat (first | assumption | refine List.Mem.tail _ ?_)))); (case a => decide); (case b => decide); (case c => exact rfl); (case d => exact rfl))))
local macro_rules | `(tactic| walk_at "subscriptTail") => `(tactic| ((with_reducible show wpAny _ _ (subscriptTail _ _ (Value.ref _) (Value.int _ _)) _ _ _); k_dflt (refine' item_list_intsT ?l ?i ?a ?b ?c ?_; (case l => exact News.isList (by k_asm) (by (repeat (first | assumption | refine List.Mem.tail _ ?_)))); (case i => assumption); (case a => omega); (case b => (rw [lv_len]; omega)); (case c => omega)); intro t'))
local macro_rules | `(tactic| walk_at "call ref") => `(tactic| (k_here; k_dflt (refine' ne8 ?F ?N ?t ?hh ?w ?w2 ?s ?s2 ?x ?d ?z1 ?_; (case F | N | t => k_asm); (case hh | w | w2 => assumption); (case s | s2 => (intro p hp; repeat (first | exact hp | refine List.Mem.tail _ ?_))); (case x => k_in); (case d | z1 => omega)); intro h' tk' D' rvs' n' l' hm' htr' F' N'; simp only [List.cons_append] at N'; (try k_sweep)))
local macro_rules | `(tactic| walk_at "call ref") => `(tactic| (k_here; k_dflt (refine' nl8 ?F ?N ?t ?hh ?w ?w2 ?s ?s2 ?x ?d ?z1 ?_; (case F | N | t => k_asm); (case hh | w | w2 => assumption); (case s | s2 => (intro p hp; repeat (first | exact hp | refine List.Mem.tail _ ?_))); (case x => k_in); (case d | z1 => omega)); intro h' tk' D' rvs' n' l' hm' htr' F' N'; simp only [List.cons_append] at N'; (try k_sweep)))
local macro_rules | `(tactic| walk_at "call ref") => `(tactic| (k_here; k_dflt (refine' eq8 ?F ?N ?t ?hh ?w ?w2 ?s ?s2 ?x ?d ?u ?_; (case F | N | t => k_asm); (case hh | w | w2 => assumption); (case s | s2 => (intro p hp; repeat (first | exact hp | refine List.Mem.tail _ ?_))); (case x => k_in); (case d | u => omega)); intro h' tk' F' N'; (try k_sweep)))
local macro_rules | `(tactic| walk_at "call ref") => `(tactic| (k_here; k_dflt (refine' less8 ?F ?N ?t ?hh ?w ?w2 ?s ?s2 ?x ?d ?z1 ?_; (case F | N | t => k_asm); (case hh | w | w2 => assumption); (case s | s2 => (intro p hp; repeat (first | exact hp | refine List.Mem.tail _ ?_))); (case x => k_in); (case d | z1 => omega)); intro h' tk' F' N'; (try k_sweep)))
theorem ne_bool_same {prog : Program} {w : World} {A : Around} {E : Value → Shared → Prop} {s : Shared} {Q : Value → Shared → Prop} {b : Bool} (hu : A.units + 64 < cLine) (h : Q (.bool false) s) : wpAny (model prog w) A (compareOp .NotEq (.bool b) (.bool b)) Q E s := by
  refine ne_dataH (Reads.bool b) (Reads.bool b) rfl rfl hu ?_
  rw [show PyData.eqv (.bool b) (.bool b) = true by cases b <;> rfl]
  exact h
local macro_rules | `(tactic| walk_at "compareOp NotEq bool bool") => `(tactic| refine stop ?_)

/-- the loop's state ahead of a turn -/
def J8 (L Ds Dc : Addr) (lc lx o1 o2 o3 : Obj) (tl : List (Addr × Obj)) (vr : Value) (m : Str → Option Value) (nw : List (Addr × Obj)) : Prop :=
  ∃ o4 o5 v4 v5, m (Str.ofString "spaces") = some (.ref Ds) ∧ m (Str.ofString "reach") = some vr ∧ o4.data = .cell v4 ∧ o5.data = .cell v5 ∧
    nw = (Dc, lc) :: (Ds, lx) :: (L + 1 + 1 + 1 + 1 + 1, o5) :: (L + 1 + 1 + 1 + 1, o4) :: (L + 1 + 1 + 1, o3) :: (L + 1 + 1, o2) :: (L + 1, o1) :: tl
theorem J8.mk {L Ds Dc : Addr} {lc lx o1 o2 o3 o4 o5 : Obj} {v4 v5 : Option Value} {tl : List (Addr × Obj)} {vr : Value} {m : Str → Option Value} (h1 : m (Str.ofString "spaces") = some (.ref Ds)) (h2 : m (Str.ofString "reach") = some vr) (h4 : o4.data = .cell v4) (h5 : o5.data = .cell v5) :
    J8 L Ds Dc lc lx o1 o2 o3 tl vr m ((Dc, lc) :: (Ds, lx) :: (L + 1 + 1 + 1 + 1 + 1, o5) :: (L + 1 + 1 + 1 + 1, o4) :: (L + 1 + 1 + 1, o3) :: (L + 1 + 1, o2) :: (L + 1, o1) :: tl) := ⟨o4, o5, v4, v5, h1, h2, h4, h5, rfl⟩
theorem J8.elim {L Ds Dc : Addr} {lc lx o1 o2 o3 : Obj} {tl : List (Addr × Obj)} {vr : Value} {m : Str → Option Value} {nw : List (Addr × Obj)} {C : Prop} (h : J8 L Ds Dc lc lx o1 o2 o3 tl vr m nw)
    (k : ∀ o4 o5 v4 v5, m (Str.ofString "spaces") = some (.ref Ds) → m (Str.ofString "reach") = some vr → o4.data = .cell v4 → o5.data = .cell v5 →
      nw = (Dc, lc) :: (Ds, lx) :: (L + 1 + 1 + 1 + 1 + 1, o5) :: (L + 1 + 1 + 1 + 1, o4) :: (L + 1 + 1 + 1, o3) :: (L + 1 + 1, o2) :: (L + 1, o1) :: tl → C) : C := by
  obtain ⟨o4, o5, v4, v5, h1, h2, h3, h4, h5⟩ := h
  exact k o4 o5 v4 v5 h1 h2 h3 h4 h5
theorem pick8 {C : Prop} {P : Params} {i rc : Nat} {x0 x1 c0 c1 : Addr} {tl : List (Addr × Obj)} {st0 st1 : WS} {y0 y1 : List Value} (hi : i < 2)
    (w0 : WsL P tl x0 st0) (w1 : WsL P tl x1 st1) (m0 : (c0, LCg.lst y0) ∈ tl) (m1 : (c1, LCg.lst y1) ∈ tl) (i0 : IntsAre y0 (lv st0 rc)) (i1 : IntsAre y1 (lv st1 rc))
    (r01 : reachOf st0 st1 = rc) (r10 : reachOf st1 st0 = rc) (e01 : decide (st0.cnt = st1.cnt ∧ st0.b = st1.b) = decide (lv st0 rc = lv st1 rc)) (e10 : decide (st1.cnt = st0.cnt ∧ st1.b = st0.b) = decide (lv st0 rc = lv st1 rc))
    (l01 : lessF st0 st1 = decide (trips (fun a b => decide (b ≤ a)) (level st0) (level st1) rc = [])) (l10 : lessF st1 st0 = decide (trips (fun a b => decide (b ≤ a)) (level st1) (level st0) rc = []))
    (k : ∀ x y st su cx cy yx yy, [Value.ref x0, Value.ref x1].toArray[((i : Int)).toNat]? = some (Value.ref x) → [Value.ref x0, Value.ref x1].toArray[(1 - (i : Int)).toNat]? = some (Value.ref y) →
        [Value.ref c0, Value.ref c1].toArray[((i : Int)).toNat]? = some (Value.ref cx) → [Value.ref c0, Value.ref c1].toArray[(1 - (i : Int)).toNat]? = some (Value.ref cy) → WsL P tl x st → WsL P tl y su → (cx, LCg.lst yx) ∈ tl → (cy, LCg.lst yy) ∈ tl → IntsAre yx (lv st rc) → IntsAre yy (lv su rc) →
        reachOf st su = rc → decide (st.cnt = su.cnt ∧ st.b = su.b) = decide (lv st0 rc = lv st1 rc) → lessF st su = decide (trips (fun a b => decide (b ≤ a)) (level st) (level su) rc = []) → C) : C := by
  rcases i with _ | _ | i
  · exact k x0 x1 st0 st1 c0 c1 y0 y1 rfl rfl rfl rfl w0 w1 m0 m1 i0 i1 r01 e01 l01
  · exact k x1 x0 st1 st0 c1 c0 y1 y0 rfl rfl rfl rfl w1 w0 m1 m0 i1 i0 r10 e10 l10
  · omega
theorem WsL.two {C : Prop} {P : Params} {l : List (Addr × Obj)} {x : Addr} {st : WS} (W : WsL P l x st)
    (k : ∀ (dx T : Addr) k1 k2 k3 k4 k5 tn tt raw, (x, instObj 83 dx) ∈ l → (dx, dictOf (wsEs P k1 k2 k3 k4 k5 raw (.int (st.n : Int) tn) (.int (st.nt : Int) tt) (.ref T) (.bool (decide ((st.cnt.length : Int) ≤ 1)))) 5) ∈ l → C) : C := by
  obtain ⟨dx, T, T2, cvs, k1, k2, k3, k4, k5, tb, tn, tt, raw, e1, e2, t1, t2, r⟩ := W
  exact k dx T k1 k2 k3 k4 k5 tn tt raw e1 e2
/-- the state of the table's comprehension -/
def J8b (L Ds Dc I x : Addr) (oI lc lx o1 o2 o3 : Obj) (vk : Value) (tl : List (Addr × Obj)) (st su : WS) (j : Nat) (ys : List Value) (nw : List (Addr × Obj)) : Prop :=
  ∃ oA oB tl', oA.data = Data.cell (some (Value.ref x)) ∧ oB.data = Data.cell (some vk) ∧ nw = (I, oI) :: (Dc, lc) :: (Ds, lx) :: (L + 1 + 1 + 1 + 1 + 1, oA) :: (L + 1 + 1 + 1 + 1, oB) :: (L + 1 + 1 + 1, o3) :: (L + 1 + 1, o2) :: (L + 1, o1) :: tl' ∧
    (∀ p ∈ tl, p ∈ tl') ∧ TripsIn tl' ys (trips (fun _ _ => true) (level st) (level su) j)
theorem J8b.mk {L Ds Dc I x : Addr} {oI lc lx o1 o2 o3 oA oB : Obj} {vk : Value} {tl tl' : List (Addr × Obj)} {st su : WS} {j : Nat} {ys : List Value} (h1 : oA.data = Data.cell (some (Value.ref x))) (h2 : oB.data = Data.cell (some vk)) (h3 : ∀ p ∈ tl, p ∈ tl') (h4 : TripsIn tl' ys (trips (fun _ _ => true) (level st) (level su) j)) :
    J8b L Ds Dc I x oI lc lx o1 o2 o3 vk tl st su j ys ((I, oI) :: (Dc, lc) :: (Ds, lx) :: (L + 1 + 1 + 1 + 1 + 1, oA) :: (L + 1 + 1 + 1 + 1, oB) :: (L + 1 + 1 + 1, o3) :: (L + 1 + 1, o2) :: (L + 1, o1) :: tl') := ⟨oA, oB, tl', h1, h2, rfl, h3, h4⟩
theorem J8b.elim {L Ds Dc I x : Addr} {oI lc lx o1 o2 o3 : Obj} {vk : Value} {tl : List (Addr × Obj)} {st su : WS} {j : Nat} {ys : List Value} {nw : List (Addr × Obj)} {C : Prop} (h : J8b L Ds Dc I x oI lc lx o1 o2 o3 vk tl st su j ys nw)
    (k : ∀ oA oB tl', oA.data = Data.cell (some (Value.ref x)) → oB.data = Data.cell (some vk) → nw = (I, oI) :: (Dc, lc) :: (Ds, lx) :: (L + 1 + 1 + 1 + 1 + 1, oA) :: (L + 1 + 1 + 1 + 1, oB) :: (L + 1 + 1 + 1, o3) :: (L + 1 + 1, o2) :: (L + 1, o1) :: tl' →
      (∀ p ∈ tl, p ∈ tl') → TripsIn tl' ys (trips (fun _ _ => true) (level st) (level su) j) → C) : C := by
  obtain ⟨oA, oB, tl', h1, h2, h3, h4, h5⟩ := h
  exact k oA oB tl' h1 h2 h3 h4 h5

theorem law8 {w : World} {A : Around} {s : Shared} {p : Program} {loose : List Str} {mean : ExcName → Option Value} {mg mb : Str → Option Value} {L f Ds Dc x0 x1 c0 c1 : Addr} {cd : Value} {base : Heap} {m : Str → Option Value} {rc nx nc : Nat} {tr : Tok} {o1 o2 o3 o4 o5 : Obj} {v4 v5 : Option Value} {tl : List (Addr × Obj)} {st0 st1 : WS} {y0 y1 : List Value} {Q : Flow → Shared → Prop}
    (X : (Mine.hd.heap_39 w.params).In base) (T : Top p loose mean mg mb base) (hh : A.handled = none) (hd : A.depth + 20 < recursionLimit) (hu : A.units + 100 < cLine)
    (F : Fr base L s.heap m) (N : News base L s.heap ((Dc, W.listOf [Value.ref c0, Value.ref c1].toArray nc) :: (Ds, W.listOf [Value.ref x0, Value.ref x1].toArray nx) :: (L + 1 + 1 + 1 + 1 + 1, o5) :: (L + 1 + 1 + 1 + 1, o4) :: (L + 1 + 1 + 1, o3) :: (L + 1 + 1, o2) :: (L + 1, o1) :: tl))
    (hms : m (Str.ofString "spaces") = some (.ref Ds)) (hmr : m (Str.ofString "reach") = some (.int (rc : Int) tr)) (d2 : o2.data = .cell (some (.ref Dc))) (d4 : o4.data = .cell v4) (d5 : o5.data = .cell v5)
    (q1 : @LT.lt Nat _ (L + 1 + 1 + 1 + 1 + 1) Ds) (q2 : @LT.lt Nat _ Ds Dc) (hrc : rc ≤ 4) (z4 : ∀ p ∈ tl, p.1 ≠ L + 1 + 1 + 1 + 1) (z5 : ∀ p ∈ tl, p.1 ≠ L + 1 + 1 + 1 + 1 + 1)
    (w0 : WsL w.params tl x0 st0) (w1 : WsL w.params tl x1 st1) (m0 : (c0, LCg.lst y0) ∈ tl) (m1 : (c1, LCg.lst y1) ∈ tl) (i0 : IntsAre y0 (lv st0 rc)) (i1 : IntsAre y1 (lv st1 rc))
    (r01 : reachOf st0 st1 = rc) (r10 : reachOf st1 st0 = rc) (e01 : decide (st0.cnt = st1.cnt ∧ st0.b = st1.b) = decide (lv st0 rc = lv st1 rc)) (e10 : decide (st1.cnt = st0.cnt ∧ st1.b = st0.b) = decide (lv st0 rc = lv st1 rc))
    (l01 : lessF st0 st1 = decide (trips (fun a b => decide (b ≤ a)) (level st0) (level st1) rc = [])) (l10 : lessF st1 st0 = decide (trips (fun a b => decide (b ≤ a)) (level st1) (level st0) rc = []))
    (h : ∀ h' tk m', Fr base L h' m' → Q .next { s with heap := h', toks := tk }) :
    wpAny (model Challenge.rw_mr0203_01.row.prog w) A (exec law8P.1 (lawEnv L f cd)) Q (fun _ _ => False) s := by
  revert X
  k_fill
  intro X
  have F₀ := fr_see [(Str.ofString "spaces", .ref Ds), (Str.ofString "reach", .int (rc : Int) tr)] F (allc hms (all1 hmr))
  clear F
  show wpAny _ _ (exec (Stmt.For _ _ _ [] _) _) _ _ _
  refine wpAny_For ?_ (by intro _; rfl)
  k_steps
  rename IsRange _ _ _ _ _ _ _ _ => hr
  rename Fr _ _ _ _ => F'
  rename News _ _ _ _ => N'
  refine lpT_range (n := 2) (fun _ => J8 L Ds Dc (W.listOf [Value.ref c0, Value.ref c1].toArray nc) (W.listOf [Value.ref x0, Value.ref x1].toArray nx) o1 o2 o3 tl (.int (rc : Int) tr))
    hh hr (by decide) (by decide) F' N' (J8.mk rfl rfl d4 d5) ?_ ?_
  · intro i t m₁ news₁ h₂ tk₂ I oI hi hJ hI F₂ N₂
    refine hJ.elim ?_
    intro o4' o5' v4' v5' hs' hr' d4' d5' en
    clear F' N' hr hJ
    rw [en] at hI N₂
    clear en
    refine pick8 hi w0 w1 m0 m1 i0 i1 r01 r10 e01 e10 l01 l10 ?_
    intro x y st su cx cy yx yy hx hy hcx hcy wx wy mx my ix iy hre heq hle
    have hIx : ∀ p ∈ tl, p.1 ≠ I := fun p hp => hI p (.tail _ (.tail _ (.tail _ (.tail _ (.tail _ (.tail _ (.tail _ hp)))))))
    have hIc : True → @Ne Nat Dc I := fun _ => hI _ (.head _)
    have hIs : True → @Ne Nat Ds I := fun _ => hI _ (.tail _ (.head _))
    have hI3 : True → @Ne Nat (L + 1 + 1 + 1) I := fun _ => hI (L + 1 + 1 + 1, o3) (.tail _ (.tail _ (.tail _ (.tail _ (.head _)))))
    have hI2 : True → @Ne Nat (L + 1 + 1) I := fun _ => hI (L + 1 + 1, o2) (.tail _ (.tail _ (.tail _ (.tail _ (.tail _ (.head _))))))
    have hI1 : True → @Ne Nat (L + 1) I := fun _ => hI (L + 1, o1) (.tail _ (.tail _ (.tail _ (.tail _ (.tail _ (.tail _ (.head _)))))))
    have hI4 : @Ne Nat (L + 1 + 1 + 1 + 1) I := hI (L + 1 + 1 + 1 + 1, o4') (.tail _ (.tail _ (.tail _ (.head _))))
    have hI5 : @Ne Nat (L + 1 + 1 + 1 + 1 + 1) I := hI (L + 1 + 1 + 1 + 1 + 1, o5') (.tail _ (.tail _ (.head _)))
    replace F₂ : Fr base L h₂ _ := fr_see [(Str.ofString "spaces", .ref Ds), (Str.ofString "reach", .int (rc : Int) tr)] F₂ (allc hs' (all1 hr'))
    replace N₂ : News base L h₂ _ := N₂
    refine wx.two ?_
    intro dx T1 k1 k2 k3 k4 k5 tn tt raw wx1 wx2
    rw [Int.zero_add]
    generalize hTE : TurnEnd _ _ _ _ _ _ _ = TE
    k_steps
    unfold Stop
    rename Fr _ _ _ _ => F₃
    k_dflt (refine LCg.ListComp_U (F₀ := F₃) (cl := _) (by with_unfolding_all rfl) (by decide) (by rfl) (by decide) (by rfl) ?_)
    k_steps
    rename Fr _ _ _ _ => F₄
    rename News _ _ _ _ => N₄
    rename IsRange _ _ _ _ _ _ _ _ => hr
    clear hI
    refine LCg.CompSrc.range hh F₄ N₄ hr (small_one (by omega) (by omega) (by omega) (by omega)) (range_from1 rc) (Nat.le_trans hrc (by decide)) ?_
    intro g0
    refine rest_keep (fun j y => ∃ t, y = Value.int (level st (j + 1) : Int) t) trivial ?_ ?_
    · rintro j v I' oI' C oC D' oD' m₂ h tk2 hj hv' hC hx F₇ N₇
      obtain ⟨tz, rfl⟩ := hv'
      rw [show (1 : Int) + (j : Int) = ((j + 1 : Nat) : Int) by omega] at hx
      clear F₄ N₄ hr
      k_steps
      rename Fr _ _ _ _ => F₈
      rename News _ _ _ _ => N₈
      exact ⟨_, _, rfl, F₈, N₈, _, rfl⟩
    · intro ys hlen hR D' h3 tk3 F₇ N₇ off
      have hint : IntsAre ys (lv st rc) := ints_of hlen hR
      clear F₄ N₄ hr
      k_steps
      unfold Stop
      rename Fr _ _ _ _ => F₈
      rename News _ _ _ _ => N₈
      refine ne_ints (News.isList N₈ (.head _)) hint (News.isList N₈ (by (repeat (first | exact mx | refine List.Mem.tail _ ?_)))) ix (by omega) ?_
      rw [decide_eq_true rfl, Bool.not_true]
      k_steps
      unfold Stop
      replace N₈ := News.pick N₈ (fun p hp => .tail _ (.tail _ hp))
      clear off
      rename Obj.data _ = Data.cell (some (Value.ref x)) => dOne
      rename Obj.data _ = Data.cell (some (Value.int (i : Int) t)) => dK
      k_dflt (refine LCg.Assign_ListComp_U (F₀ := F₈) (cl := _) (by rfl) (by with_unfolding_all rfl) (by with_unfolding_all rfl) (by decide) (by rfl) (by decide) (by rfl) (by rfl) (by rfl) ?_)
      k_steps
      rename Fr _ _ _ _ => F₉
      rename News _ _ _ _ => N₉
      rename IsRange _ _ _ _ _ _ _ _ => hr2
      refine LCg.CompSrc.range hh F₉ N₉ hr2 (small_one (by omega) (by omega) (by omega) (by omega)) (range_from1 rc) (Nat.le_trans hrc (by decide)) ?_
      intro g1
      refine rest_inv (J8b L Ds Dc I x oI (W.listOf [Value.ref c0, Value.ref c1].toArray nc) (W.listOf [Value.ref x0, Value.ref x1].toArray nx) o1 o2 o3 (Value.int (i : Int) t) tl st su) (fun _ _ _ _ => trivial) ?_ ?_ rc 0 [] _ (Nat.zero_add _) (J8b.mk dOne dK (fun _ h => h) .nil)
      · intro j ys' nw v I' oI' C oC D₁ m₂ h tk2 hj hv' hJ hC hx F₁ N₁ off hne
        refine hJ.elim ?_
        intro oA oB tl' dA dB en hsub htr
        rw [en] at N₁ off
        clear en hJ
        obtain ⟨tz, rfl⟩ := hv'
        rw [show (1 : Int) + (j : Int) = ((j + 1 : Nat) : Int) by omega] at hx
        clear F₉ N₉ hr2 dOne dK
        have mx' := hsub _ mx
        have my' := hsub _ my
        k_steps
        rename Fr _ _ _ _ => F₅
        rename News _ _ _ _ => N₅
        rename _ < _ ∧ _ => hl
        rename_i ta tb Tn hn
        obtain ⟨b1, b2, b3, b4, b5, b6, b7, b8, bt⟩ := off
        have ej : (((j + 1 : Nat) : Int) - 1).toNat = j := by omega
        have g1 : (lv st rc).getD (((j + 1 : Nat) : Int) - 1).toNat 0 = (level st (j + 1) : Int) := by rw [ej, List.getD_eq_getElem?_getD, lv_get hj]; rfl
        have g2 : (lv su rc).getD (((j + 1 : Nat) : Int) - 1).toNat 0 = (level su (j + 1) : Int) := by rw [ej, List.getD_eq_getElem?_getD, lv_get hj]; rfl
        rw [g1, g2] at N₅
        refine ⟨_, _, (I, oI) :: (Dc, W.listOf [Value.ref c0, Value.ref c1].toArray nc) :: (Ds, W.listOf [Value.ref x0, Value.ref x1].toArray nx) :: (L + 1 + 1 + 1 + 1 + 1, oA) :: (L + 1 + 1 + 1 + 1, oB) :: (L + 1 + 1 + 1, o3) :: (L + 1 + 1, o2) :: (L + 1, o1) :: (Tn, tripObj (j + 1, level st (j + 1), level su (j + 1)) tz ta tb) :: tl', rfl, F₅, News.pick N₅ ?_, ⟨b1, b2, b3, b4, b5, b6, b7, b8, ⟨?_, ?_, ?_⟩, bt⟩, J8b.mk dA dB (fun p hp => .tail _ (hsub p hp)) ?_⟩
        · exact pull [_, _, _, _, _, _, _, _, _, _, _]
        · dsimp only; omega
        · dsimp only; omega
        · dsimp only; omega
        · rw [trips_pos rfl]
          exact TripsIn.snoc (.head _) (htr.mono fun p hp => .tail _ hp)
      · intro ys' nw hJ D₁ h4 tk4 F₁ N₁ off
        refine hJ.elim ?_
        intro oA oB tl' dA dB en hsub htr
        rw [en] at N₁
        clear hJ off en
        have hK := And.intro wx (And.intro wy (And.intro wx1 (And.intro wx2 (And.intro m0 m1))))
        clear F₉ N₉ hr2 dOne dK m0 m1
        have wx' := wx.mono hsub
        have wy' := wy.mono hsub
        have wx1' := hsub _ wx1
        have wx2' := hsub _ wx2
        clear wx wy wx1 wx2
        k_steps
        unfold Stop
        rename_i hq tq Dw rvw nw' lw hmw htw F₂ N₂
        rw [hre] at htw
        have htab := htr.mono (l' := tl' ++ lw) (fun p hp => List.mem_append_left _ hp)
        replace htw := htw.mono (l' := tl' ++ lw) (fun p hp => List.mem_append_right _ hp)
        replace hmw : _ ∈ tl' ++ lw := List.mem_append_right _ hmw
        have hsub2 : ∀ p ∈ tl, p ∈ tl' ++ lw := fun p hp => List.mem_append_left _ (hsub p hp)
        clear htr hsub wx' wy' wx1' wx2'
        generalize tl' ++ lw = tl2 at *
        k_dflt (refine LCt.ListComp_T (F₀ := F₂) (cl := _) (by with_unfolding_all rfl) (by decide) (by rfl) (by decide) (by rfl) ?_)
        k_steps
        rename Fr _ _ _ _ => F₃
        rename News _ _ _ _ => N₃
        refine LCt.CompSrcT.ledger hh F₃ N₃ (.head _) (by rw [List.size_toArray, htab.len, trips_alllen]; exact Nat.le_trans hrc (by decide)) ?_
        intro g2
        rw [List.size_toArray, htab.len, trips_alllen]
        refine rest_T (fun j zs => TripsIn tl2 zs (trips (fun a b => a != b) (level st) (level su) j)) (.inr ⟨_, .head _, rfl, _, rfl⟩) ?_ ?_ rc 0 [] (Nat.zero_add _) .nil
        · rintro j zs v I' oI' C oC D₂ m₂ h tk2 hj hv hz hC hx F₄ N₄
          obtain ⟨T, t1, t2, t3, rfl, hT⟩ := htab.get j v _ (by simpa using hv) (trips_all _ _ rc j hj).1
          clear F₃ N₃
          k_steps
          · rename _ ≠ _ => hcmp
            exact ⟨_, _, rfl, F₄, N₄, by rw [trips_pos (show (level st (j + 1) != level su (j + 1)) = true by simp; omega)]; exact TripsIn.snoc hT hz⟩
          · rename _ = _ => hcmp
            exact ⟨_, _, rfl, F₄, N₄, by rw [trips_neg (show (level st (j + 1) != level su (j + 1)) = false by simp; omega)]; exact hz⟩
        · intro zs hz D₂ h5 tk5 F₄ N₄ off
          clear F₃ N₃ off
          k_steps
          unfold Stop
          rename Fr _ _ _ _ => F₅
          rename News _ _ _ _ => N₅
          refine ne_trips (News.isList N₅ (by (repeat (first | exact hmw | refine List.Mem.tail _ ?_)))) ((htw.mono (by (intro p hp; repeat (first | exact hp | refine List.Mem.tail _ ?_)))).at N₅) (News.isList N₅ (.head _)) ((hz.mono (by (intro p hp; repeat (first | exact hp | refine List.Mem.tail _ ?_)))).at N₅) (by omega) ?_
          rw [decide_eq_true rfl, Bool.not_true]
          replace N₅ := News.pick N₅ (fun p hp => .tail _ hp)
          obtain ⟨kx, ky, kx1, kx2, km0, km1⟩ := id hK
          have wx' := kx.mono hsub2
          have wy' := ky.mono hsub2
          have wx1' := hsub2 _ kx1
          have wx2' := hsub2 _ kx2
          clear kx ky kx1 kx2 km0 km1
          k_steps
          unfold Stop
          rename_i hq tq Dw' rvw' nw2 lw' hmw' htw' F₆ N₆
          rw [hre] at htw'
          have htab' := htab.mono (l' := tl2 ++ lw') (fun p hp => List.mem_append_left _ hp)
          replace htw' := htw'.mono (l' := tl2 ++ lw') (fun p hp => List.mem_append_right _ hp)
          replace hmw' : _ ∈ tl2 ++ lw' := List.mem_append_right _ hmw'
          have hsub3 : ∀ p ∈ tl, p ∈ tl2 ++ lw' := fun p hp => List.mem_append_left _ (hsub2 p hp)
          clear htab hsub2 wx' wy' wx1' wx2' hmw htw hz
          generalize tl2 ++ lw' = tl3 at *
          k_dflt (refine LCt.ListComp_T (F₀ := F₆) (cl := _) (by with_unfolding_all rfl) (by decide) (by rfl) (by decide) (by rfl) ?_)
          k_steps
          rename Fr _ _ _ _ => F₃
          rename News _ _ _ _ => N₃
          refine LCt.CompSrcT.ledger hh F₃ N₃ (.head _) (by rw [List.size_toArray, htab'.len, trips_alllen]; exact Nat.le_trans hrc (by decide)) ?_
          intro g3
          rw [List.size_toArray, htab'.len, trips_alllen]
          refine rest_T (fun j zs => TripsIn tl3 zs (trips (fun a b => decide (b ≤ a)) (level st) (level su) j)) (.inr ⟨_, .head _, rfl, _, rfl⟩) ?_ ?_ rc 0 [] (Nat.zero_add _) .nil
          · rintro j zs v I' oI' C oC D₂ m₂ h tk2 hj hv hz hC hx F₄ N₄
            obtain ⟨T, t1, t2, t3, rfl, hT⟩ := htab'.get j v _ (by simpa using hv) (trips_all _ _ rc j hj).1
            clear F₃ N₃
            k_steps
            · rename _ ≤ _ => hcmp
              exact ⟨_, _, rfl, F₄, N₄, by rw [trips_pos (show decide (level su (j + 1) ≤ level st (j + 1)) = true by simp; omega)]; exact TripsIn.snoc hT hz⟩
            · rename _ < _ => hcmp
              exact ⟨_, _, rfl, F₄, N₄, by rw [trips_neg (show decide (level su (j + 1) ≤ level st (j + 1)) = false by simp; omega)]; exact hz⟩
          · intro zs hz D₂ h5 tk5 F₄ N₄ off
            clear F₃ N₃ off
            k_steps
            unfold Stop
            rename Fr _ _ _ _ => F₅
            rename News _ _ _ _ => N₅
            refine ne_trips (News.isList N₅ (by (repeat (first | exact hmw' | refine List.Mem.tail _ ?_)))) ((htw'.mono (by (intro p hp; repeat (first | exact hp | refine List.Mem.tail _ ?_)))).at N₅) (News.isList N₅ (.head _)) ((hz.mono (by (intro p hp; repeat (first | exact hp | refine List.Mem.tail _ ?_)))).at N₅) (by omega) ?_
            rw [decide_eq_true rfl, Bool.not_true]
            replace N₅ := News.pick N₅ (fun p hp => .tail _ hp)
            obtain ⟨kx, ky, kx1, kx2, km0, km1⟩ := id hK
            have wx' := kx.mono hsub3
            have wy' := ky.mono hsub3
            have wx1' := hsub3 _ kx1
            have wx2' := hsub3 _ kx2
            have km0' := hsub3 _ km0
            have km1' := hsub3 _ km1
            have hc0 : [Value.ref c0, Value.ref c1].toArray[Int.toNat 0]? = some (Value.ref c0) := rfl
            have hc1 : [Value.ref c0, Value.ref c1].toArray[Int.toNat 1]? = some (Value.ref c1) := rfl
            clear kx ky kx1 kx2 km0 km1 htw' hmw' hz
            k_steps
            unfold Stop
            rename Fr _ _ _ _ => F₇
            rename News _ _ _ _ => N₇
            refine eq_ints (News.isList N₇ (by (repeat (first | exact km0' | refine List.Mem.tail _ ?_)))) i0 (News.isList N₇ (by (repeat (first | exact km1' | refine List.Mem.tail _ ?_)))) i1 (by omega) ?_
            rw [heq]
            k_steps
            unfold Stop
            refine ne_bool_same (by omega) ?_
            k_steps
            unfold Stop
            rename Fr _ _ _ _ => F₆
            k_dflt (refine LCt.ListComp_T (F₀ := F₆) (cl := _) (by with_unfolding_all rfl) (by decide) (by rfl) (by decide) (by rfl) ?_)
            clear wx' wy' wx1' wx2' km0' km1' hc0 hc1
            k_steps
            rename Fr _ _ _ _ => F₃
            rename News _ _ _ _ => N₃
            refine LCt.CompSrcT.ledger hh F₃ N₃ (.head _) (by rw [List.size_toArray, htab'.len, trips_alllen]; exact Nat.le_trans hrc (by decide)) ?_
            intro g4
            rw [List.size_toArray, htab'.len, trips_alllen]
            refine rest_T (fun j zs => TripsIn tl3 zs (trips (fun a b => decide (b ≤ a)) (level st) (level su) j)) (.inr ⟨_, .head _, rfl, _, rfl⟩) ?_ ?_ rc 0 [] (Nat.zero_add _) .nil
            · rintro j zs v I' oI' C oC D₂ m₂ h tk2 hj hv hz hC hx F₄ N₄
              obtain ⟨T, t1, t2, t3, rfl, hT⟩ := htab'.get j v _ (by simpa using hv) (trips_all _ _ rc j hj).1
              clear F₃ N₃
              k_steps
              · rename _ ≤ _ => hcmp
                exact ⟨_, _, rfl, F₄, N₄, by rw [trips_pos (show decide (level su (j + 1) ≤ level st (j + 1)) = true by simp; omega)]; exact TripsIn.snoc hT hz⟩
              · rename _ < _ => hcmp
                exact ⟨_, _, rfl, F₄, N₄, by rw [trips_neg (show decide (level su (j + 1) ≤ level st (j + 1)) = false by simp; omega)]; exact hz⟩
            · intro zs hz D₃ h6 tk6 F₄ N₄ off
              clear F₃ N₃ off
              k_steps
              unfold Stop
              rename Fr _ _ _ _ => F₅
              rename News _ _ _ _ => N₅
              refine eq_trips (News.isList N₅ (.tail _ (.head _))) ((hz.mono (by (intro p hp; repeat (first | exact hp | refine List.Mem.tail _ ?_)))).at N₅) (vs' := []) (News.isList N₅ (.head _)) .nil (by omega) ?_
              rw [hle]
              k_steps
              unfold Stop
              refine ne_bool_same (by omega) ?_
              k_steps
              rename Fr _ _ _ _ => F₈
              rename News _ _ _ _ => N₈
              subst hTE
              exact TurnEnd.next F₈ (News.pick N₈ (sub_tail (sub_tail (sub_tail (sub_same (sub_same (sub_same (sub_same (sub_same (sub_same (sub_same (sub_same hsub3)))))))))))) (ne_cons (hIc trivial) (ne_cons (hIs trivial) (ne_cons hI5 (ne_cons hI4 (ne_cons (hI3 trivial) (ne_cons (hI2 trivial) (ne_cons (hI1 trivial) hIx))))))) (J8.mk rfl rfl dB dA)
  · intro m₁ news₁ h₂ tk₂ hJ F₂ N₂
    exact h h₂ tk₂ m₁ F₂
end part_C15
end Mine
end group_C9
section part_Pl1
open PySem PySem.W PySem.Calls PyProof.Rows
set_option Elab.async false
set_option maxRecDepth 100000
namespace Mine
def lvN (st : WS) (rc : Nat) : List Nat := (List.range rc).map fun i => level st (i + 1)
def okPair (st su : WS) (rc : Nat) : Bool :=
  (reachOf st su == rc) && (decide (st.cnt = su.cnt ∧ st.b = su.b) == decide (lvN st rc = lvN su rc)) && (lessF st su == (trips (fun a b => decide (b ≤ a)) (level st) (level su) rc).isEmpty)
def top6 (a b c d e g : Nat) : Nat := max (max (max (max (max a b) c) d) e) g + 1
def four (P : Nat → Bool) : Bool := P 0 && P 1 && P 2 && P 3
def okTest (k k' a : Nat) : Bool :=
  four fun b => four fun c => four fun d => four fun e => four fun g => okPair (wsOf (lead k a b c ++ [120])) (wsOf (lead k' d e g ++ [120])) (top6 a b c d e g)
set_option maxHeartbeats 4000000
theorem ok000 : okTest 0 0 0 = true := by decide +kernel
theorem ok001 : okTest 0 0 1 = true := by decide +kernel
theorem ok002 : okTest 0 0 2 = true := by decide +kernel
theorem ok003 : okTest 0 0 3 = true := by decide +kernel
theorem ok010 : okTest 0 1 0 = true := by decide +kernel
theorem ok011 : okTest 0 1 1 = true := by decide +kernel
theorem ok012 : okTest 0 1 2 = true := by decide +kernel
theorem ok013 : okTest 0 1 3 = true := by decide +kernel
theorem ok100 : okTest 1 0 0 = true := by decide +kernel
theorem ok101 : okTest 1 0 1 = true := by decide +kernel
theorem ok102 : okTest 1 0 2 = true := by decide +kernel
theorem ok103 : okTest 1 0 3 = true := by decide +kernel
theorem four_all {P : Nat → Bool} (h : four P = true) : ∀ a, a ≤ 3 → P a = true := by
  simp only [four, Bool.and_eq_true] at h
  intro a ha
  rcases a with _ | _ | _ | _ | a
  · exact h.1.1.1
  · exact h.1.1.2
  · exact h.1.2
  · exact h.2
  · omega
theorem ok_of {k k' a : Nat} (h : okTest k k' a = true) {b c d e g : Nat} (hb : b ≤ 3) (hc : c ≤ 3) (hd : d ≤ 3) (he : e ≤ 3) (hg : g ≤ 3) :
    okPair (wsOf (lead k a b c ++ [120])) (wsOf (lead k' d e g ++ [120])) (top6 a b c d e g) = true :=
  four_all (four_all (four_all (four_all (four_all h b hb) c hc) d hd) e he) g hg
theorem ok_all {k k' a b c d e g : Nat} (hk : k + k' ≤ 1) (ha : a ≤ 3) (hb : b ≤ 3) (hc : c ≤ 3) (hd : d ≤ 3) (he : e ≤ 3) (hg : g ≤ 3) :
    okPair (wsOf (lead k a b c ++ [120])) (wsOf (lead k' d e g ++ [120])) (top6 a b c d e g) = true := by
  rcases k with _ | _ | k
  · rcases k' with _ | _ | k'
    · rcases a with _ | _ | _ | _ | a
      · exact ok_of ok000 hb hc hd he hg
      · exact ok_of ok001 hb hc hd he hg
      · exact ok_of ok002 hb hc hd he hg
      · exact ok_of ok003 hb hc hd he hg
      · omega
    · rcases a with _ | _ | _ | _ | a
      · exact ok_of ok010 hb hc hd he hg
      · exact ok_of ok011 hb hc hd he hg
      · exact ok_of ok012 hb hc hd he hg
      · exact ok_of ok013 hb hc hd he hg
      · omega
    · omega
  · have : k' = 0 := by omega
    subst this
    rcases a with _ | _ | _ | _ | a
    · exact ok_of ok100 hb hc hd he hg
    · exact ok_of ok101 hb hc hd he hg
    · exact ok_of ok102 hb hc hd he hg
    · exact ok_of ok103 hb hc hd he hg
    · omega
  · omega
def okLead (k : Nat) : Bool := four fun a => four fun b => four fun c => four fun i => decide (prLen (i + 1) (lead k a b c) = level (wsOf (lead k a b c ++ [120])) (i + 1) ∧ prLen (i + 1) (lead k a b c) < 24)
theorem okL0 : okLead 0 = true := by decide +kernel
theorem okL1 : okLead 1 = true := by decide +kernel
theorem okL {k a b c i : Nat} (hk : k ≤ 1) (ha : a ≤ 3) (hb : b ≤ 3) (hc : c ≤ 3) (hi : i ≤ 3) : prLen (i + 1) (lead k a b c) = level (wsOf (lead k a b c ++ [120])) (i + 1) ∧ prLen (i + 1) (lead k a b c) < 24 := by
  rcases k with _ | _ | k
  · exact of_decide_eq_true (four_all (four_all (four_all (four_all okL0 a ha) b hb) c hc) i hi)
  · exact of_decide_eq_true (four_all (four_all (four_all (four_all okL1 a ha) b hb) c hc) i hi)
  · omega
end Mine
end part_Pl1
section part_Pl2
open PySem PySem.W PySem.Calls PyProof.Rows
set_option Elab.async false
set_option maxRecDepth 100000
namespace Mine
theorem xor_and_add : ∀ (x y : Nat), (x ^^^ y) + 2 * (x &&& y) = x + y := by
  intro x
  induction x using Nat.strongRecOn with
  | _ x ih =>
    intro y
    by_cases hx : x = 0
    · subst hx; simp
    · have h := ih (x / 2) (by omega) (y / 2)
      have e1 : (x ^^^ y) / 2 = x / 2 ^^^ y / 2 := Nat.xor_div_two
      have e2 : (x &&& y) / 2 = x / 2 &&& y / 2 := Nat.and_div_two
      have e3 : (x ^^^ y) % 2 = (x % 2) ^^^ (y % 2) := by simpa using Nat.xor_mod_two_pow (a := x) (b := y) (n := 1)
      have e4 : (x &&& y) % 2 = (x % 2) &&& (y % 2) := by simpa using Nat.and_mod_two_pow (a := x) (b := y) (n := 1)
      rw [← e1, ← e2] at h
      clear e1 e2 ih
      generalize x ^^^ y = u at *
      generalize x &&& y = v at *
      rcases Nat.mod_two_eq_zero_or_one x with a | a <;> rcases Nat.mod_two_eq_zero_or_one y with b | b <;> rw [a, b] at e3 e4 <;> simp at e3 e4 <;> omega
theorem bxor_nat (x y : Nat) : Builtin.bitXor (x : Int) (y : Int) = ((x ^^^ y : Nat) : Int) := by
  rw [bitXor_and, bitAnd_pp (Int.natCast_nonneg x) (Int.natCast_nonneg y), Int.toNat_natCast, Int.toNat_natCast]
  have := xor_and_add x y
  omega
def gN (x : Nat) : Nat := if x % 2 = 1 then (x / 2) ^^^ 3988292384 else x / 2
def bN (x : Nat) : Nat := if 0 < x / 2147483648 then 2 * (x ^^^ 3988292384) + 1 else 2 * x
theorem genStep_nat (x : Nat) : genStep (x : Int) = (gN x : Int) := by
  unfold genStep gN
  rw [bitAnd_m1]
  have e : (x : Int).fdiv (2 ^ Int.toNat 1) = ((x / 2 : Nat) : Int) := by
    have := fdiv_nat x 2
    simpa using this
  rw [e]
  by_cases h : x % 2 = 1
  · rw [if_pos (by omega), if_pos h]
    exact bxor_nat (x / 2) 3988292384
  · rw [if_neg (by omega), if_neg h]
theorem backStep_nat (x : Nat) : backStep (x : Int) = (bN x : Int) := by
  unfold backStep bN
  have e : (x : Int).fdiv (2 ^ Int.toNat 31) = ((x / 2147483648 : Nat) : Int) := by
    have := fdiv_nat x 2147483648
    simpa using this
  rw [e]
  by_cases h : 0 < x / 2147483648
  · rw [if_pos (by omega), if_pos h]
    have := bxor_nat x 3988292384
    rw [show Builtin.bitXor (x : Int) 3988292384 = ((x ^^^ 3988292384 : Nat) : Int) from this]
    omega
  · rw [if_neg (by omega), if_neg h]
    omega
theorem gN_lt {x : Nat} (h : x < 4294967296) : gN x < 4294967296 := by
  unfold gN
  split
  · exact Nat.xor_lt_two_pow (n := 32) (by omega) (by decide)
  · omega
theorem bN_gN {x : Nat} (h : x < 4294967296) : bN (gN x) = x := by
  unfold gN
  by_cases hx : x % 2 = 1
  · rw [if_pos hx]
    unfold bN
    have hy : x / 2 < 2147483648 := by omega
    have ht : ((x / 2) ^^^ 3988292384).testBit 31 = true := by
      rw [Nat.testBit_xor, Nat.testBit_lt_two_pow (show x / 2 < 2 ^ 31 by omega)]
      decide
    have hge : 2 ^ 31 ≤ (x / 2) ^^^ 3988292384 := Nat.ge_two_pow_of_testBit ht
    rw [if_pos (by omega), Nat.xor_assoc, Nat.xor_self, Nat.xor_zero]
    omega
  · rw [if_neg hx]
    unfold bN
    rw [if_neg (by omega)]
    omega
def gNs (x : Nat) : Nat → Nat
  | 0 => x
  | n + 1 => gN (gNs x n)
theorem genIt_nat (x : Nat) : ∀ n, genIt (x : Int) n = (gNs x n : Int)
  | 0 => rfl
  | n + 1 => by rw [genIt, genIt_nat x n, genStep_nat]; rfl
theorem gNs_lt {x : Nat} (h : x < 4294967296) : ∀ n, gNs x n < 4294967296
  | 0 => h
  | n + 1 => gN_lt (gNs_lt h n)
theorem backIt_in (c : Int) : ∀ n, backIt c (n + 1) = backIt (backStep c) n
  | 0 => rfl
  | n + 1 => by rw [backIt, backIt_in c n]; rfl
theorem back_gen {x : Nat} (h : x < 4294967296) : ∀ n, backIt (gNs x n : Int) n = (x : Int)
  | 0 => rfl
  | n + 1 => by rw [backIt_in, gNs, backStep_nat, bN_gN (gNs_lt h n)]; exact back_gen h n
theorem back_undo {r o : Nat} (hr : r < 4294967296) (ho : o < 256) : back (gen (Builtin.bitXor (r : Int) (o : Int))) (o : Int) = (r : Int) := by
  unfold back gen
  rw [bxor_nat, genIt_nat, back_gen (Nat.xor_lt_two_pow (n := 32) (by omega) (by omega)), bxor_nat, Nat.xor_assoc, Nat.xor_self, Nat.xor_zero]
theorem fwd_small : ∀ n : Fin 24, fwd (List.replicate n.val 32) = ((fwd (List.replicate n.val 32)).toNat : Int) ∧ (fwd (List.replicate n.val 32)).toNat < 4294967296 ∧ col (fwd (List.replicate n.val 32)) = (n.val : Int) := by decide +kernel
theorem told_one {n o : Nat} (hn : n < 24) (ho : o < 256) : col (back (fwd (List.replicate n 32 ++ [(o : Int)])) (o : Int)) = (n : Int) := by
  obtain ⟨h1, h2, h3⟩ := fwd_small ⟨n, hn⟩
  dsimp only at h1 h2 h3
  rw [fwd_snoc, h1, back_undo h2 ho, ← h1, h3]
end Mine
end part_Pl2
section part_C16
open PySem PySem.W PySem.Calls PyProof.Rows
set_option Elab.async false
set_option maxRecDepth 100000
set_option maxHeartbeats 4000000
namespace Mine
theorem off_C16 : True := by
  w_top off
  trivial
theorem law9 {w : World} {A : Around} {s : Shared} {L f : Addr} {cd : Value} {Q : Flow → Shared → Prop} (h : ∀ tk, Q (.ret (.bool true)) { s with toks := tk }) :
    wpAny (model Challenge.rw_mr0203_01.row.prog w) A (exec law9P.1 (lawEnv L f cd)) Q (fun _ _ => False) s := by
  show wpAny _ _ (exec (Stmt.Return _ _) _) _ _ _
  k_steps
  exact h _
theorem told_is {k a b c rc oc : Nat} (hk : k ≤ 1) (ha : a ≤ 3) (hb : b ≤ 3) (hc : c ≤ 3) (hrc : rc ≤ 4) (ho : oc < 256) : told (lead k a b c) (oc : Int) rc = lv (wsOf (lead k a b c ++ [120])) rc := by
  unfold told lv
  refine List.map_congr_left fun i hi => ?_
  have hi' : i < rc := List.mem_range.mp hi
  obtain ⟨h1, h2⟩ := okL hk ha hb hc (show i ≤ 3 by omega)
  rw [told_one h2 ho, h1]
theorem lv_lvN (st : WS) (rc : Nat) : lv st rc = (lvN st rc).map fun (c : Nat) => (c : Int) := by simp [lv, lvN]
theorem ok_parts {st su : WS} {rc : Nat} (h : okPair st su rc = true) :
    reachOf st su = rc ∧ decide (st.cnt = su.cnt ∧ st.b = su.b) = decide (lv st rc = lv su rc) ∧ lessF st su = decide (trips (fun a b => decide (b ≤ a)) (level st) (level su) rc = []) := by
  simp only [okPair, Bool.and_eq_true, beq_iff_eq] at h
  obtain ⟨⟨h1, h2⟩, h3⟩ := h
  refine ⟨h1, ?_, ?_⟩
  · rw [h2]
    exact decide_eq_decide.mpr (by rw [lv_lvN, lv_lvN, natInts_inj])
  · rw [h3, Bool.eq_iff_iff]
    simp [List.isEmpty_iff]
theorem top6_swap (a b c d e g : Nat) : top6 d e g a b c = top6 a b c d e g := by
  unfold top6
  rw [show max (max (max (max (max d e) g) a) b) c = max (max (max d e) g) (max (max a b) c) by simp only [Nat.max_assoc],
    Nat.max_comm, show max (max (max (max (max a b) c) d) e) g = max (max (max a b) c) (max (max d e) g) by simp only [Nat.max_assoc]]
theorem lv_symm (st su : WS) (rc : Nat) : decide (lv su rc = lv st rc) = decide (lv st rc = lv su rc) := decide_eq_decide.mpr eq_comm
theorem fmod4 (x : Int) : ∃ n : Nat, x.fmod 4 = (n : Int) ∧ n ≤ 3 := ⟨(x.fmod 4).toNat, by rw [Int.fmod_eq_emod_of_nonneg _ (by decide)]; omega, by rw [Int.fmod_eq_emod_of_nonneg _ (by decide)]; omega⟩
theorem fmod3 (x : Int) : ∃ n : Nat, x.fmod 3 = (n : Int) ∧ n ≤ 2 := ⟨(x.fmod 3).toNat, by rw [Int.fmod_eq_emod_of_nonneg _ (by decide)]; omega, by rw [Int.fmod_eq_emod_of_nonneg _ (by decide)]; omega⟩
theorem fmod256 (x : Int) : ∃ n : Nat, x.fmod 256 = (n : Int) ∧ n < 256 := ⟨(x.fmod 256).toNat, by rw [Int.fmod_eq_emod_of_nonneg _ (by decide)]; omega, by rw [Int.fmod_eq_emod_of_nonneg _ (by decide)]; omega⟩
theorem clip3 (x : Int) : ∃ n : Nat, max 0 (min 3 x) = (n : Int) ∧ n ≤ 3 := ⟨(max 0 (min 3 x)).toNat, by omega, by omega⟩
theorem eight : ∀ (l : List Int), l.length = 8 → ∃ r0 r1 r2 r3 r4 r5 r6 r7, l = [r0, r1, r2, r3, r4, r5, r6, r7]
  | [r0, r1, r2, r3, r4, r5, r6, r7], _ => ⟨r0, r1, r2, r3, r4, r5, r6, r7, rfl⟩
theorem row_len (ns : List Int) : (ns.take 8 ++ [(0 : Int), 2, 1, 3, 1, 0, 0, 120].drop ns.length).length = 8 := by
  simp only [List.length_append, List.length_take, List.length_drop, List.length_cons, List.length_nil]; omega
theorem lst_cell {ys : List Value} {o : Obj} {v : Option Value} (d : o.data = .cell v) : LCg.lst ys ≠ o := fun e => by rw [← e] at d; cases d
theorem listOf_cell {a : Array Value} {n : Nat} {o : Obj} {v : Option Value} (d : o.data = .cell v) : W.listOf a n ≠ o := fun e => by rw [← e] at d; cases d
end Mine
end part_C16
section part_C17
open PySem PySem.W PySem.Calls PyProof.Rows
set_option Elab.async false
set_option maxRecDepth 100000
set_option maxHeartbeats 4000000
namespace Mine
theorem max_up (a b : Nat) : ((max a b : Nat) : Int) = max (a : Int) b := by omega
theorem top6_int (a b c d e g : Nat) : max (max (max (max (max (a : Int) b) c) d) e) g + 1 = ((top6 a b c d e g : Nat) : Int) := by
  unfold top6
  rw [Int.natCast_add, max_up, max_up, max_up, max_up, max_up]
  rfl
theorem two_ok {C : Prop} {P : Params} {oc : Int} {rc : Nat} {tl : List (Addr × Obj)} {xs cs : List Value} {l1 l2 : List Nat} (sp : SpOk P tl xs [l1, l2]) (co : ColOk oc rc tl cs [l1, l2])
    (k : ∀ x0 x1 c0 c1 y0 y1, xs = [.ref x0, .ref x1] → cs = [.ref c0, .ref c1] → WsL P tl x0 (wsOf (l1 ++ [120])) → WsL P tl x1 (wsOf (l2 ++ [120])) → (c0, LCg.lst y0) ∈ tl → (c1, LCg.lst y1) ∈ tl → IntsAre y0 (told l1 oc rc) → IntsAre y1 (told l2 oc rc) → C) : C := by
  cases sp with
  | cons w0 sp =>
  cases sp with
  | cons w1 sp =>
  cases sp
  cases co with
  | cons m0 i0 co =>
  cases co with
  | cons m1 i1 co =>
  cases co
  exact k _ _ _ _ _ _ rfl rfl w0 w1 m0 m1 i0 i1
theorem law_pro {w : World} {A : Around} {s : Shared} {p : Program} {loose : List Str} {mean : ExcName → Option Value} {mg mb : Str → Option Value} {L f l : Addr} {cd : Value} {base : Heap} {m : Str → Option Value} {vs : List Value} {ns : List Int} {o1 o2 o3 o4 o5 : Obj} {v1 v2 v3 v4 v5 : Option Value} {Q : Flow → Shared → Prop}
    (X : (Mine.hd.heap_39 w.params).In base) (T : Top p loose mean mg mb base) (hh : A.handled = none) (hd : A.depth + 20 < recursionLimit) (hu : A.units + 200 < cLine)
    (hl : base.IsList l vs.toArray) (hi : IntsAre vs ns) (hlen : ns.length ≤ 63) (F : Fr base L s.heap m) (hm : m (Str.ofString "script") = some (.ref l)) (N : News base L s.heap [(L + 1 + 1 + 1 + 1 + 1, o5), (L + 1 + 1 + 1 + 1, o4), (L + 1 + 1 + 1, o3), (L + 1 + 1, o2), (L + 1, o1)])
    (d1 : o1.data = .cell v1) (d2 : o2.data = .cell v2) (d3 : o3.data = .cell v3) (d4 : o4.data = .cell v4) (d5 : o5.data = .cell v5)
    (h : ∀ h' tk m', Fr base L h' m' → Q (.ret (.bool true)) { s with heap := h', toks := tk }) :
    wpAny (model Challenge.rw_mr0203_01.row.prog w) A (execs lawBody (lawEnv L f cd)) Q (fun _ _ => False) s := by
  rw [law_whole]
  refine wpAny_execs_cons (law0 X T hh hd hu hl hi hlen F hm N fun Dr rvs h1 tk1 m1 hI F1 hm1 N1 => ?_)
  obtain ⟨r0, r1, r2, r3, r4, r5, r6, r7, hr⟩ := eight _ (row_len ns)
  rw [hr] at hI
  obtain ⟨a, ha, ha3⟩ := fmod4 r0
  obtain ⟨b, hb, hb3⟩ := fmod4 r1
  obtain ⟨c, hc, hc3⟩ := fmod4 r2
  obtain ⟨fr, hfr, hfr2⟩ := fmod3 r6
  obtain ⟨oc, hoc, hoc2⟩ := fmod256 r7
  refine wpAny_execs_cons (law1 X T hh F1 N1 hm1 (.head _) hI fun Dn ta tb tc h2 tk2 F2 N2 off2 => ?_)
  rw [ha, hb, hc] at N2
  refine wpAny_execs_cons (law2 X T hh F2 N2 (if_pos rfl) (.head _) fun Dt h3 tk3 F3 N3 lt3 => ?_)
  refine wpAny_execs_cons (law3 X T hh F3 N3 (Dr := Dr) ((if_neg (by decide)).trans ((if_neg (by decide)).trans hm1)) (if_pos rfl) (.tail _ (.tail _ (.head _))) hI (.head _) fun Do td te tg h4 tk4 F4 N4 lt4 => ?_)
  obtain ⟨d, hd', hd3⟩ := clip3 ((b : Int) + [0, 1, 0, -1].getD (r3.fmod 4).toNat 0)
  obtain ⟨e, he', he3⟩ := clip3 ((a : Int) + [0, 1, 0, -1].getD (r4.fmod 4).toNat 0)
  obtain ⟨g, hg', hg3⟩ := clip3 ((c : Int) + [0, 1, 0, -1].getD (r5.fmod 4).toNat 0)
  rw [hd', he', hg'] at N4
  replace N4 := News.pick N4 (sub_cons (.head _) fun p hp => .tail _ (.tail _ hp))
  have n1 : @Ne Nat Dr (L + 1) := news_ne N4 (.tail _ (.tail _ (.head _))) (.tail _ (.tail _ (.tail _ (.tail _ (.tail _ (.tail _ (.tail _ (.head _)))))))) (listOf_cell d1)
  have n2 : @Ne Nat Dn (L + 1) := news_ne N4 (.tail _ (.head _)) (.tail _ (.tail _ (.tail _ (.tail _ (.tail _ (.tail _ (.tail _ (.head _)))))))) (lst_cell d1)
  have n3 : @Ne Nat Do (L + 1) := news_ne N4 (.head _) (.tail _ (.tail _ (.tail _ (.tail _ (.tail _ (.tail _ (.tail _ (.head _)))))))) (lst_cell d1)
  have u1 : @Ne Nat Dr (L + 1 + 1) := news_ne N4 (.tail _ (.tail _ (.head _))) (.tail _ (.tail _ (.tail _ (.tail _ (.tail _ (.tail _ (.head _))))))) (listOf_cell d2)
  have u2 : @Ne Nat Dn (L + 1 + 1) := news_ne N4 (.tail _ (.head _)) (.tail _ (.tail _ (.tail _ (.tail _ (.tail _ (.tail _ (.head _))))))) (lst_cell d2)
  have u3 : @Ne Nat Do (L + 1 + 1) := news_ne N4 (.head _) (.tail _ (.tail _ (.tail _ (.tail _ (.tail _ (.tail _ (.head _))))))) (lst_cell d2)
  refine law45 X T hh F4 N4 ((if_neg (by decide)).trans ((if_neg (by decide)).trans ((if_neg (by decide)).trans hm1))) ((if_neg (by decide)).trans ((if_neg (by decide)).trans (if_pos rfl))) (if_pos rfl) hI d1 n1 n2 n3 fun o1' t h5 tk5 m5 d1' F5 hmr5 hmn5 hmo5 hre5 N5 => ?_
  obtain ⟨tr, hre5⟩ := hre5
  rw [top6_int] at hre5
  rw [hoc] at d1'
  refine wpAny_execs_cons (law6 X T hh F5 N5 d2 u1 u2 u3 fun Ds Dc o2' h6 tk6 d2' F6 lt6 hsc N6 => ?_)
  obtain ⟨_, _, _, l5, _⟩ := lt6
  have hrc : top6 a b c d e g ≤ 4 := by unfold top6; omega
  refine wpAny_execs_cons (law7 X T hh hd F6 N6 ((if_neg (by decide)).trans hmr5) ((if_neg (by decide)).trans hmn5) ((if_neg (by decide)).trans hmo5) (if_pos rfl) ((if_neg (by decide)).trans hre5) hI hfr d1' d2' d3 l5 hsc ha3 hb3 hc3 hd3 he3 hg3 hfr2 hrc
    fun xs cs tl nx nc o3' v3' h7 tk7 m7 F7 hs7 hr7 d3' sp co z4 z5 N7 => ?_)
  refine two_ok sp co ?_
  intro x0 x1 c0 c1 y0 y1 exs ecs w0 w1 m0 m1 i0 i1
  rw [exs, ecs] at N7
  rw [told_is (show fr / 2 ≤ 1 by omega) ha3 hb3 hc3 hrc hoc2] at i0
  rw [told_is (show fr % 2 ≤ 1 by omega) hd3 he3 hg3 hrc hoc2] at i1
  obtain ⟨p1, p2, p3⟩ := ok_parts (ok_all (show fr / 2 + fr % 2 ≤ 1 by omega) ha3 hb3 hc3 hd3 he3 hg3)
  obtain ⟨q1, q2, q3⟩ := ok_parts (ok_all (show fr % 2 + fr / 2 ≤ 1 by omega) hd3 he3 hg3 ha3 hb3 hc3)
  rw [top6_swap] at q1 q2 q3
  rw [lv_symm] at q2
  refine wpAny_execs_cons (law8 X T hh hd (by omega) F7 N7 hs7 hr7 d2' d4 d5 l5 hsc hrc z4 z5 w0 w1 m0 m1 i0 i1 p1 q1 p2 q2 p3 q3 fun h8 tk8 m8 F8 => ?_)
  exact wpAny_execs_cons (law9 fun tk => h h8 tk m8 F8)
end Mine
end part_C17
open PySem PySem.W PySem.Calls PyProof.Rows
set_option Elab.async false
set_option maxRecDepth 100000
set_option maxHeartbeats 8000000
theorem PySem.Challenge.cw_mr0203_01_holds : PySem.Challenge.rw_mr0203_01.Holds := by
  refine Mine.hd ?_
  k_go0
  all_goals try k_fold
  rename Fr _ _ _ _ => F
  rename News _ _ _ _ => N0
  rename Top _ _ _ _ _ _ => T
  rename Frag.In _ _ => KX
  rename Heap.IsList _ _ _ => hL
  rename IntsAre _ _ => hI
  rename ¬ (_ < _) => hcond
  show wpAny _ _ (execs Mine.lawBody (envOfC (Str.ofString "law") (Mine.scopeOf Mine.lawStmt) _ _ _)) _ _ _
  rw [Mine.lawEnv_is]
  refine wpAny_mono (Mine.law_pro KX T ?hh ?hd ?hu hL hI (by omega) F ?hm N0 (by assumption) (by assumption) (by assumption) (by assumption) (by assumption) ?h) (fun f s' q => q) (fun _ _ q => q.elim)
  case hh => rfl
  case hd => rw [depth_deeper]; decide
  case hu => rw [units_deeper]; decide
  case hm => rfl
  case h =>
    intro h' tk m' F'
    wrow_close
