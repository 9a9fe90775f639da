import PyProof.Rows.All
import Wide.All
import OpenK.AllK
import Wide.FinOn
import PySem.Challenge.RW_pd0042_01
set_option Elab.async false
set_option maxRecDepth 100000
set_option maxHeartbeats 8000000
set_option compiler.extract_closed false
namespace Mine
-- Hd
open PySem PySem.W PyProof.Rows
open_top hd for PySem.Challenge.rw_pd0042_01
-- Base
open PySem.Calls
/-- the place of a call: nothing is handled -/
abbrev AA (dp un : Nat) (fr : Option (List Env)) (gd : Option (List Code)) : Around := { handled := none, depth := dp, frames := fr, guards := gd, units := un }
section
variable {prog : Program} {w : World} {A : Around} {s : Shared} {K : Frag} {p : Program} {loose : List Str} {mean : ExcName → Option Value} {mg mb : Str → Option Value}
/-- a call of a def, entered: what is in `g` stays, what is in `news` may be changed -/
theorem enter {g : Heap} {news : List (Addr × Obj)} {R : Result → Shared → Prop}
    {name qual : Str} {params : Arguments} {body : List Stmt} {scope : Scope} {dV kV doc pm cdv ct oc : Value} {an od : Option Addr} {osl : Array (Option Value)} {f : Addr} {args : Args} {binds : List (Str × Value)}
    (hg : g.StaysIn s.heap) (hgs : g.objs.size ≤ s.heap.objs.size) (hn : ∀ p ∈ news, s.heap.get? p.1 = some p.2 ∧ g.get? p.1 = none)
    (X : K.In g) (T : Top p loose mean mg mb g)
    (ho : K.lookup f = some ⟨oc, od, .func (fnOf name qual params body scope dV kV doc pm an cdv ct), osl⟩) (hcd : codeIn K cdv qual = true) (hroom : A.depth < recursionLimit)
    (hbind : BindsTo s (fnOf name qual params body scope dV kV doc pm an cdv ct) args binds) (hloc : ∀ y ∈ binds, scope.names.lookup y.1 = some .local)
    (hcell : ∀ x ∈ scope.names, x.2 ≠ .cell)
    (h : ∀ L' h₁, Fr g L' h₁ (fun y => binds.reverse.lookup y) → News g L' h₁ news → (∀ p ∈ news, p.1 < L') →
      wpAny (model prog w) (A.deeper (envOf qual scope L' f cdv)) (execs body (envOf qual scope L' f cdv))
        (fun fl s' => R (.ok (.ret (match fl with | .ret v => v | _ => .none))) s')
        (fun _ _ => False)
        { s with heap := h₁, toks := s.toks + binds.length })
    (hco : scope.isCoroutine = false := by rfl) (hgen : scope.isGenerator = false := by rfl) (hk : scope.kind = .function := by rfl) :
    codeAny (model prog w) A (.call (.ref f) args) R s := by
  refine codeAny_call_def (fd := fnOf name qual params body scope dV kV doc pm an cdv ct) (body := body) (binds := binds) hroom (X.keeps hg _ _ ho) rfl (T.nolimit.keeps hg) (codeRec_of (X.keeps hg) hcd) rfl hbind hcell hloc (fun h₁ hns hk₁ => ?_) hco hgen hk
  refine wpAny_mono (h _ h₁ ⟨hns, fun b o e => hk₁ b o (hg b o e), hgs⟩ (fun p hp => ⟨hk₁ _ _ (hn p hp).1, Nat.ne_of_lt (Heap.lt_size (hn p hp).1), (hn p hp).2⟩) (fun p hp => Heap.lt_size (hn p hp).1)) (fun _ _ y => y) fun _ _ y => y.elim
end
-- Base2
open PySem.Spec
section
variable {prog : Program} {w : World} {A : Around} {E : Value → Shared → Prop} {s : Shared} {env : Env} {h₀ : Heap} {x : Str} {body : List Stmt} {Q : Flow → Shared → Prop}
/-- what a turn of a for over a list of the ledger must end in -/
def TurnEnd (h₀ : Heap) (L I l : Addr) (oI ol : Obj) (J : (Str → Option Value) → List (Addr × Obj) → Prop) (s₁ : Shared) (Q : Flow → Shared → Prop) (f : Flow) (s₂ : Shared) : Prop :=
  match f with
  | .ret v => Q (.ret v) s₂
  | .brk => Q .next s₂
  | _ => ∃ h' tk m' news', s₂ = { s₁ with heap := h', toks := tk } ∧ Fr h₀ L h' m' ∧ News h₀ L h' ((I, oI) :: (l, ol) :: news') ∧ (∀ p ∈ news', p.1 ≠ I) ∧ J m' news'
theorem iter_list {l : Addr} {ol : Obj} {vs : List Value} {n : Nat} {m₀ : Str → Option Value} {news rest : List (Addr × Obj)} (J : Nat → (Str → Option Value) → List (Addr × Obj) → Prop)
    (hh : A.handled = none) (hc : ol.cls = .type "list") (hd : ol.data = .seq vs.toArray n) (F : Fr h₀ env.locals s.heap m₀) (N : News h₀ env.locals s.heap rest) (hl : (l, ol) ∈ rest) (hs : ∀ p ∈ news, p ∈ rest) (hj : J 0 m₀ news)
    (turn : ∀ i v m₁ news₁ h tk I oI, vs[i]? = some v → J i m₁ news₁ → (∀ p ∈ rest, p.1 < I) → (∀ p ∈ news₁, p.1 ≠ I) → Fr h₀ env.locals h (fun y => if y = x then some v else m₁ y) → News h₀ env.locals h ((I, oI) :: (l, ol) :: news₁) →
      wpAny (model prog w) A (execs body env) (TurnEnd h₀ env.locals I l oI ol (J (i + 1)) { s with heap := h, toks := tk } Q) E { s with heap := h, toks := tk })
    (done : ∀ m₁ news₁ h tk, J vs.length m₁ news₁ → Fr h₀ env.locals h m₁ → News h₀ env.locals h news₁ → Q .next { s with heap := h, toks := tk }) :
    wpAny (model prog w) A (pyIter (.ref l)) (fun it s₂ => LoopAtV prog w A h₀ env x body Q E it s₂) E s := by
  have hol := (N _ hl).1
  have hls : s.heap.IsList l vs.toArray := ⟨ol, hol, hc, n, hd⟩
  have hlt : l < s.heap.objs.size := Heap.lt_size hol
  have hne : l ≠ s.heap.objs.size := Nat.ne_of_lt hlt
  refine wpAny_pyIter_list hls ?_
  have W := Walks.list (prog := prog) (w := w) hh s.heap.objs.size l hne vs.toArray
  have hlen : vs.toArray.size = vs.length := by simp
  rw [hlen] at W
  -- the list stays as it is: it is said in the invariant
  let J' : Nat → (Str → Option Value) → List (Addr × Obj) → Prop := fun i m₁ news₁ => ∃ nw, news₁ = (l, ol) :: nw ∧ J i m₁ nw
  refine ⟨_, _, _, vs.length, _, _, m₀, (l, ol) :: news, J', rfl, W, ?_, ?_, ?_, ⟨⟨_, Heap.get?_push_size _ rfl, rfl, rfl⟩, hls.at fun o e => Heap.get?_push_of_some _ e⟩, F.push _, (fun p hp => ?_), ⟨news, rfl, hj⟩, ?_, ?_⟩
  · intro hm
    rcases List.mem_cons.mp hm with e | hm
    · exact absurd F.ns.lt (e ▸ Nat.lt_irrefl _)
    · exact (N _ hl).2.1 (List.mem_singleton.mp hm).symm
  · intro b hb
    rw [List.mem_singleton.mp hb]
    exact next_is_new F
  · intro p hp hI
    rcases List.mem_cons.mp hp with rfl | hp
    · exact absurd hlt ((List.mem_singleton.mp hI) ▸ Nat.lt_irrefl _)
    · exact absurd (Heap.lt_size (N p (hs p hp)).1) ((List.mem_singleton.mp hI) ▸ Nat.lt_irrefl _)
  · rcases List.mem_cons.mp hp with rfl | hp
    · exact ⟨Heap.get?_push_of_some _ (N _ hl).1, (N _ hl).2⟩
    · exact ⟨Heap.get?_push_of_some _ (N p (hs p hp)).1, (N p (hs p hp)).2⟩
  · rintro i v m₁ news₁ s₁ own ⟨hh', tk', rfl⟩ hin hP ⟨nw, rfl, hJ⟩ hoff hown hget hall hst F₁ N₁
    obtain ⟨⟨oI, hoI, hIc⟩, _⟩ := hst
    have hIn : h₀.get? s.heap.objs.size = none := next_is_new F
    have hIo : (s.heap.objs.size, oI) ∈ own := hall _ (by simp) hIn oI hoI
    have N₂ : News h₀ env.locals hh' ((s.heap.objs.size, oI) :: (l, ol) :: nw) := fun p hp => by
      rcases List.mem_cons.mp hp with rfl | hp
      · exact N₁ _ (List.mem_append_left _ hIo)
      · exact N₁ p (List.mem_append_right _ hp)
    refine wpAny_mono (turn i v m₁ nw hh' tk' s.heap.objs.size oI (by simpa using hP) hJ (fun p hp => Heap.lt_size (N p hp).1) (fun p hp e => hoff p (.tail _ hp) (by simp [e])) F₁ N₂) (fun f s₂ p => ?_) fun _ _ e => e
    have ownIn : ∀ p ∈ own, p = (s.heap.objs.size, oI) ∨ p = (l, ol) := fun p hp => by
      have h1 := hget p hp
      rcases List.mem_cons.mp (hown p hp) with e | e
      · left; dsimp only at h1; rw [e, hoI] at h1; cases h1; rw [← e]
      · right
        have e' := List.mem_singleton.mp e
        have h2 := (N₁ (l, ol) (List.mem_append_right _ (.head _))).1
        dsimp only at h1
        rw [e', h2] at h1
        cases h1
        rw [← e']
    have fin : (∃ h' tk m' news', s₂ = { s with heap := h', toks := tk } ∧ Fr h₀ env.locals h' m' ∧ News h₀ env.locals h' ((s.heap.objs.size, oI) :: (l, ol) :: news') ∧ (∀ p ∈ news', p.1 ≠ s.heap.objs.size) ∧ J (i + 1) m' news') →
        LoopStepU h₀ env.locals [s.heap.objs.size] own (J' (i + 1)) { s with heap := hh', toks := tk' } .next s₂ := by
      rintro ⟨h', tk, m', news', e, F', N', hn, hJ'⟩
      refine ⟨rfl, h', tk, m', (l, ol) :: news', e, F', fun p hp => ?_, fun p hp hq => ?_, news', rfl, hJ'⟩
      · rcases List.mem_append.mp hp with hp | hp
        · rcases ownIn p hp with rfl | rfl
          · exact N' _ (.head _)
          · exact N' _ (.tail _ (.head _))
        · exact N' _ (.tail _ hp)
      · rcases List.mem_cons.mp hp with rfl | hp
        · exact hne (List.mem_singleton.mp hq)
        · exact hn p hp (List.mem_singleton.mp hq)
    cases f with
    | ret v => exact .ret p
    | brk => exact .brk p
    | next => exact .next (fin p)
    | cont => exact .cont (fin p)
  · rintro h' tk m' news' F' N' _ ⟨nw, rfl, hJ⟩
    exact done m' nw h' tk hJ F' (fun p hp => N' p (.tail _ hp))
theorem TurnEnd.next {L I l : Addr} {oI ol : Obj} {J : (Str → Option Value) → List (Addr × Obj) → Prop} {s₁ : Shared} {h' : Heap} {tk : Nat} {m' : Str → Option Value} {news' rest : List (Addr × Obj)}
    (F : Fr h₀ L h' m') (N : News h₀ L h' rest) (hI : (I, oI) ∈ rest) (hl : (l, ol) ∈ rest) (hs : ∀ p ∈ news', p ∈ rest) (hn : ∀ p ∈ news', p.1 ≠ I) (hJ : J m' news') :
    TurnEnd h₀ L I l oI ol J s₁ Q .next { s₁ with heap := h', toks := tk } :=
  ⟨h', tk, m', news', rfl, F, fun p hp => by
    rcases List.mem_cons.mp hp with rfl | hp
    · exact N _ hI
    · rcases List.mem_cons.mp hp with rfl | hp
      · exact N _ hl
      · exact N _ (hs p hp), hn, hJ⟩
theorem TurnEnd.cont {L I l : Addr} {oI ol : Obj} {J : (Str → Option Value) → List (Addr × Obj) → Prop} {s₁ : Shared} {h' : Heap} {tk : Nat} {m' : Str → Option Value} {news' rest : List (Addr × Obj)}
    (F : Fr h₀ L h' m') (N : News h₀ L h' rest) (hI : (I, oI) ∈ rest) (hl : (l, ol) ∈ rest) (hs : ∀ p ∈ news', p ∈ rest) (hn : ∀ p ∈ news', p.1 ≠ I) (hJ : J m' news') :
    TurnEnd h₀ L I l oI ol J s₁ Q .cont { s₁ with heap := h', toks := tk } := TurnEnd.next (Q := Q) F N hI hl hs hn hJ
end
-- Lines
local macro_rules | `(tactic| walk_at $s:str) => `(tactic| k_extra $s)
theorem pick_upto_neg1 (vs : List Value) : (slicePick vs.toArray none (some (-1)) none).toList = vs.dropLast := by
  have e : sliceBounds none (some (-1)) none vs.toArray.size = (((0 : Nat) : Int), ((vs.toArray.size - 1 : Nat) : Int), 1) := by
    simp only [sliceBounds, Option.getD_none, show (1 : Int) > 0 by decide, if_true, if_pos (show (-1 : Int) < 0 by decide)]
    congr 1
    congr 1
    omega
  rw [kmk_pick_nat _ e]
  simp [List.dropLast_eq_take]
theorem strs_dropLast : ∀ {vs : List Value} {ys : List Str}, StrsAre vs ys → StrsAre vs.dropLast ys.dropLast := by
  intro vs ys h
  rw [List.dropLast_eq_take, List.dropLast_eq_take, h.length]
  exact h.take' _
-- a size: by the lengths in the context
theorem words_Lines_16 : True := by
  k_with "m_size" => (simp only [List.size_toArray, List.toList_toArray, List.length_append, List.length_cons, List.length_nil, List.length_map, List.length_dropLast, List.length_take, List.length_drop, sizeLine_eq]; omega)
  trivial
theorem words_Lines_20 : True := by
  k_with "subscriptTail Name Slice ref ref" => (k_here; (with_reducible show wpAny _ _ (subscriptTail _ (PySem.Expr.Slice none (some _) none _) (Value.ref _) (Value.ref _)) _ _ _); k_dflt (refine kmk_slice_lit (by k_asm) (by k_asm) (by kmk_list) (by kmk_part) (by kmk_part) (by exact pick_upto_neg1 _) ?_ (by with_unfolding_all rfl) (by kmk_pure) (by walk_at "m_size")); intro Dz9 hz9 Fz9 Nz9 lz9; (try k_lt lz9); (try k_sweep))
  k_with "binaryOp Add ref ref" => (k_here; (with_reducible show wpAny _ _ (binaryOp _ (Value.ref _) (Value.ref _)) _ _ _); k_dflt (refine kmk_add_lit (by k_asm) (by k_asm) (by kmk_list) (by kmk_list) (by exact rfl) ?_ (by walk_at "m_size")); intro Dz9 hz9 Fz9 Nz9 lz9; (try k_lt lz9); (try k_sweep))
  k_with "last eval Name" => (k_here; k_dflt (refine ld (by k_asm) (by assumption) ?_; k_whole))
  trivial
/-- a place where the walk is to wait -/
def Wait (P : Prop) : Prop := P
theorem Wait.out {P : Prop} (h : Wait P) : P := h
theorem Wait.mk {P : Prop} (h : P) : Wait P := h
local macro_rules | `(tactic| walk_at "pyIter ref") => `(tactic| ((with_reducible show wpAny _ _ (pyIter (Value.ref _)) (CompPost _ _ _ _ _ _ _ _ _) _ _); refine Wait.out ?_))
-- Base3
section
variable {prog : Program} {w : World} {A : Around} {E : Value → Shared → Prop} {s₁ : Shared} {h₀ : Heap} {L : Addr} {m : Str → Option Value} {news : List (Addr × Obj)}
theorem strs_paired {pz : Str → Bool} {p : Value → Bool} {f : Str → Str} : ∀ {vs : List Value} {as : List Str} {ys : List Value}, StrsAre vs as → (∀ a t, p (.str a t) = pz a) →
    Paired (fun v r => ∃ a t t', v = .str a t ∧ r = .str (f a) t') (vs.filter p) ys → StrsAre ys ((as.filter pz).map f) := by
  intro vs as ys h hp
  induction h generalizing ys with
  | nil => intro hF; cases hF; exact .nil
  | cons y t hs ih =>
    intro hF
    rw [List.filter_cons, hp] at hF
    rw [List.filter_cons]
    cases hpz : pz y with
    | false => rw [hpz] at hF; simp only [Bool.false_eq_true, if_false] at hF ⊢; exact ih hF
    | true =>
      rw [hpz] at hF
      simp only [if_true] at hF ⊢
      cases hF with
      | cons h1 h2 =>
        obtain ⟨a, t1, t2, e1, e2⟩ := h1
        cases e1
        subst e2
        exact .cons _ _ (ih h2)
/-- a comprehension over a list of texts, its element a text -/
theorem comp_strs {env : Env} {elt : Expr} {x : Str} {ifs : List Expr} {scope : Scope} {Q : Value → Shared → Prop} {l : Addr} {vs : List Value} {as : List Str} {pz : Str → Bool} {f : Str → Str}
    (hh : A.handled = none) (hl : s₁.heap.IsList l vs.toArray) (hi : StrsAre vs as) (F : Fr h₀ L s₁.heap m) (N : News h₀ L s₁.heap news)
    (g1 : ∀ C a t s₂ m₂ E', a ∈ as → s₂.heap.Ns (compEnv scope C env).locals m₂ → m₂ x = some (.str a t) →
        wpAny (model prog w) A (forIn ifs true fun c r => if r = true then do let ok ← isTrue c (compEnv scope C env) (eval c (compEnv scope C env)); pure (ForInStep.yield ok) else pure (ForInStep.yield r))
          (fun ok s₃ => ok = pz a ∧ Keeps s₂ s₃) E' s₂)
    (g2 : ∀ C a t s₂ m₂ E', a ∈ as → pz a = true → s₂.heap.Ns (compEnv scope C env).locals m₂ → m₂ x = some (.str a t) → wpAny (model prog w) A (eval elt (compEnv scope C env)) (fun r s₃ => (∃ t', r = .str (f a) t') ∧ Keeps s₂ s₃) E' s₂)
    (g3 : ∀ D (zs : List Value) n h' tk, Fr h₀ L h' m → News h₀ L h' ((D, W.listOf (List.toArray zs) n) :: news) → (∀ p ∈ news, p.1 ≠ D) → StrsAre zs ((as.filter pz).map f) → Q (.ref D) { s₁ with heap := h', toks := tk })
    (hsz : as.length ≤ sizeLine) :
    wpAny (model prog w) A (pyIter (.ref l)) (CompPost prog w A env scope x ifs elt Q) E s₁ := by
  have hlt : l < s₁.heap.objs.size := by obtain ⟨_, e, _⟩ := hl; exact Heap.lt_size e
  refine wpAny_pyIter_list hl ?_
  have up : ∀ (h' : Heap), (∀ b o', b ∉ [s₁.heap.objs.size] → (s₁.heap.push { cls := .type "list_iterator", data := .fields #[.ref l, .int 0 0] }).get? b = some o' → h'.get? b = some o') → ∀ b o', s₁.heap.get? b = some o' → h'.get? b = some o' :=
    fun h' hk b o' e => hk b o' (not_iter_of_old e) (Heap.get?_push_of_some _ e)
  refine ⟨fun v => match v with | .str a _ => pz a | _ => false, fun v r => ∃ a t t', v = .str a t ∧ r = .str (f a) t', s₁.heap.objs.size, [s₁.heap.objs.size, l], [s₁.heap.objs.size], vs.toArray.size, _, _, rfl, Walks.list hh _ l (Nat.ne_of_lt hlt) vs.toArray, (by rw [List.size_toArray, hi.length]; exact hsz),
    ⟨⟨_, Heap.get?_push_size _ rfl, rfl, rfl⟩, hl.at fun o e => Heap.get?_push_of_some _ e⟩, ?_, ⟨?_, ?_⟩, ?_⟩
  · intro b hb
    show b < (s₁.heap.push _).objs.size
    rw [Heap.size_push]
    rcases List.mem_cons.mp hb with rfl | hb
    · exact Nat.lt_succ_self _
    · rw [List.mem_singleton.mp hb]; exact Nat.lt_succ_of_lt hlt
  · intro C i v s₃ m₃ E' hP hn hm _ htk
    obtain ⟨a, t, rfl, ha⟩ := hi.item i v (by simpa using hP)
    exact g1 C a t s₃ m₃ E' (List.mem_of_getElem? ha) hn hm
  · intro C i v s₃ m₃ E' hP hp hn hm _ htk
    obtain ⟨a, t, rfl, ha⟩ := hi.item i v (by simpa using hP)
    exact wpAny_mono (g2 C a t s₃ m₃ E' (List.mem_of_getElem? ha) hp hn hm) (fun r s₄ h₄ => ⟨let ⟨t', e⟩ := h₄.1; ⟨a, t, t', rfl, e⟩, h₄.2⟩) fun _ _ e => e
  · intro D h' tk ys vs' hnew hlD hplD hlen hP hF hk
    have e' : vs' = vs := by simpa using walked_is hlen hP
    subst e'
    have F' := F.keeps (up h' hk)
    have N' := N.grown (up h' hk)
    have hne : ∀ p ∈ news, p.1 ≠ D := fun p hp e => by rw [← e, Heap.get?_push_of_some _ (N p hp).1] at hnew; cases hnew
    have hD0 : h₀.get? D = none := by
      cases e : h₀.get? D with
      | none => rfl
      | some o' => rw [Heap.get?_push_of_some _ (F.keep _ _ e)] at hnew; cases hnew
    have hnp : NewPlain h' news D ys := ⟨hplD, hne⟩
    have hDL : D ≠ L := hnp.ne_locals F'
    obtain ⟨n, hD⟩ := hplD
    refine g3 D ys.toList n h' tk F' (fun p hp => ?_) hne (strs_paired hi (fun _ _ => rfl) hF)
    rcases List.mem_cons.mp hp with rfl | hp
    · exact ⟨by rw [Array.toArray_toList]; exact hD, hDL, hD0⟩
    · exact N' p hp
/-- «'/' + name» -/
theorem elt_slash {env : Env} {scope : Scope} {C : Addr} {y x a : Str} {t : Tok} {p1 p2 p3 : Pos} {s₂ : Shared} {m₂ : Str → Option Value} {E' : Value → Shared → Prop}
    (hn : s₂.heap.Ns (compEnv scope C env).locals m₂) (hm : m₂ x = some (.str a t)) (hk : scope.kind = .function := by rfl) (hl : (compEnv scope C env).kindOf x = some .local := by rfl) (hd : (x == ("__debug__" : Str)) = false := by decide)
    (hsz : y.length + a.length ≤ sizeLine) :
    wpAny (model prog w) A (eval (.BinOp (.Constant (.str y) 0 p1) .Add (.Name x p2) p3) (compEnv scope C env)) (fun r s₃ => (∃ t', r = .str (y ++ a) t') ∧ Keeps s₂ s₃) E' s₂ := by
  refine wpAny_BinOp ?_
  walk1
  refine wpAny_Name (wpAny_loadName_local hk hl hn hm ?_) hd
  exact PyProof.Rows.add_str (fun t' tk => ⟨⟨t', rfl⟩, ⟨_, _, rfl, fun _ _ e => e⟩⟩) hsz
theorem no_tests {env : Env} {scope : Scope} {C : Addr} {s₂ : Shared} {E' : Value → Shared → Prop} :
    wpAny (model prog w) A (forIn ([] : List Expr) true fun c r => if r = true then do let ok ← isTrue c (compEnv scope C env) (eval c (compEnv scope C env)); pure (ForInStep.yield ok) else pure (ForInStep.yield r))
      (fun ok s₃ => ok = true ∧ Keeps s₂ s₃) E' s₂ := by
  simp only [List.forIn_nil]
  exact wpAny_pure ⟨rfl, _, _, rfl, fun _ _ e => e⟩
theorem elt_name {env : Env} {scope : Scope} {C : Addr} {x a : Str} {t : Tok} {p2 : Pos} {s₂ : Shared} {m₂ : Str → Option Value} {E' : Value → Shared → Prop}
    (hn : s₂.heap.Ns (compEnv scope C env).locals m₂) (hm : m₂ x = some (.str a t)) (hk : scope.kind = .function := by rfl) (hl : (compEnv scope C env).kindOf x = some .local := by rfl) (hd : (x == ("__debug__" : Str)) = false := by decide) :
    wpAny (model prog w) A (eval (.Name x p2) (compEnv scope C env)) (fun r s₃ => (∃ t', r = .str a t') ∧ Keeps s₂ s₃) E' s₂ :=
  wpAny_Name (wpAny_loadName_local hk hl hn hm ⟨⟨t, rfl⟩, _, _, rfl, fun _ _ e => e⟩) hd
theorem one_test {env : Env} {scope : Scope} {C : Addr} {c : Expr} {b : Bool} {s₂ : Shared} {E' : Value → Shared → Prop}
    (h : wpAny (model prog w) A (isTrue c (compEnv scope C env) (eval c (compEnv scope C env))) (fun ok s₃ => ok = b ∧ Keeps s₂ s₃) E' s₂) :
    wpAny (model prog w) A (forIn [c] true fun c r => if r = true then do let ok ← isTrue c (compEnv scope C env) (eval c (compEnv scope C env)); pure (ForInStep.yield ok) else pure (ForInStep.yield r))
      (fun ok s₃ => ok = b ∧ Keeps s₂ s₃) E' s₂ := by
  simp only [List.forIn_cons, List.forIn_nil, if_true]
  refine wpAny_bind (wpAny_bind (wpAny_mono h (fun ok s₃ h₃ => wpAny_pure (wpAny_pure h₃)) fun _ _ e => e))
theorem truthyS {Q : Bool → Shared → Prop} {s : Shared} {a : Str} {t : Tok} (hl : a.length ≤ 100000000) (h : Q (a != Str.ofString "") { s with toks := s.toks + 1 + 1 }) : wpAny (model prog w) A (truthy (.str a t)) Q E s := by
  refine SBL.truthy (by omega) ?_
  have e : ((a.length : Int) != 0) = (a != Str.ofString "") := by
    show (!((a.length : Int) == 0)) = !(a == Str.ofString "")
    rw [beq_emptyS_eq_lenZ]
  rw [e]
  exact h
/-- «p and p != '.'» -/
theorem test_and {env : Env} {scope : Scope} {C : Addr} {x a : Str} {t : Tok} {p1 p2 p3 p4 p5 : Pos} {s₂ : Shared} {m₂ : Str → Option Value} {E' : Value → Shared → Prop}
    (hn : s₂.heap.Ns (compEnv scope C env).locals m₂) (hm : m₂ x = some (.str a t)) (hk : scope.kind = .function := by rfl) (hl : (compEnv scope C env).kindOf x = some .local := by rfl) (hsz : a.length ≤ 100000000) (hd : (x == ("__debug__" : Str)) = false := by decide) :
    wpAny (model prog w) A (isTrue (.BoolOp .And [.Name x p1, .Compare (.Name x p2) [.NotEq] [.Constant (.str (Str.ofString ".")) 0 p3] p4] p5) (compEnv scope C env) (eval (.BoolOp .And [.Name x p1, .Compare (.Name x p2) [.NotEq] [.Constant (.str (Str.ofString ".")) 0 p3] p4] p5) (compEnv scope C env)))
      (fun ok s₃ => ok = (a != Str.ofString "" && a != Str.ofString ".") ∧ Keeps s₂ s₃) E' s₂ := by
  walk1
  walk1
  refine wpAny_Name (wpAny_loadName_local hk hl hn hm ?_) hd
  refine truthyS hsz ?_
  rcases hb : (a != Str.ofString "") with _ | _
  · simp only [Bool.false_eq_true, if_false, Bool.false_and]
    exact ⟨trivial, _, _, rfl, fun _ _ e => e⟩
  · simp only [if_true, Bool.true_and]
    walk1
    walk1
    refine wpAny_Name (wpAny_loadName_local hk hl hn hm ?_) hd
    walk1
    walk1
    walk1
    rcases hb2 : (a != Str.ofString ".") with _ | _
    · simp only [Bool.false_eq_true, if_false]
      exact ⟨trivial, _, _, rfl, fun _ _ e => e⟩
    · simp only [if_true]
      walk1
      exact ⟨rfl, _, _, rfl, fun _ _ e => e⟩
/-- «p != '' and p != '.'» -/
theorem test_and2 {env : Env} {scope : Scope} {C : Addr} {x a : Str} {t : Tok} {p0 p1 p2 p3 p4 p5 p6 : Pos} {s₂ : Shared} {m₂ : Str → Option Value} {E' : Value → Shared → Prop}
    (hn : s₂.heap.Ns (compEnv scope C env).locals m₂) (hm : m₂ x = some (.str a t)) (hk : scope.kind = .function := by rfl) (hl : (compEnv scope C env).kindOf x = some .local := by rfl) (hd : (x == ("__debug__" : Str)) = false := by decide) :
    wpAny (model prog w) A (isTrue (.BoolOp .And [.Compare (.Name x p0) [.NotEq] [.Constant (.str (Str.ofString "")) 0 p1] p6, .Compare (.Name x p2) [.NotEq] [.Constant (.str (Str.ofString ".")) 0 p3] p4] p5) (compEnv scope C env) (eval (.BoolOp .And [.Compare (.Name x p0) [.NotEq] [.Constant (.str (Str.ofString "")) 0 p1] p6, .Compare (.Name x p2) [.NotEq] [.Constant (.str (Str.ofString ".")) 0 p3] p4] p5) (compEnv scope C env)))
      (fun ok s₃ => ok = (a != Str.ofString "" && a != Str.ofString ".") ∧ Keeps s₂ s₃) E' s₂ := by
  walk1
  walk1
  refine wpAny_Name (wpAny_loadName_local hk hl hn hm ?_) hd
  walk1
  walk1
  walk1
  rcases hb : (a != Str.ofString "") with _ | _
  · simp only [Bool.false_eq_true, if_false, Bool.false_and]
    exact ⟨trivial, _, _, rfl, fun _ _ e => e⟩
  · simp only [if_true, Bool.true_and]
    walk1
    walk1
    refine wpAny_Name (wpAny_loadName_local hk hl hn hm ?_) hd
    walk1
    walk1
    walk1
    rcases hb2 : (a != Str.ofString ".") with _ | _
    · simp only [Bool.false_eq_true, if_false]
      exact ⟨trivial, _, _, rfl, fun _ _ e => e⟩
    · simp only [if_true]
      walk1
      exact ⟨rfl, _, _, rfl, fun _ _ e => e⟩
end
-- Plain
theorem sl_is : Str.ofString "/" = ⟨#[47]⟩ := by decide +kernel
theorem em_is : Str.ofString "" = Str.empty := by decide +kernel
theorem sl_len : (Str.ofString "/").length = 1 := by decide +kernel
/-- no slash in it -/
def NoSl (p : Str) : Prop := 47 ∉ p.cps.toList
/-- pieces, a slash ahead of each -/
def pathOf : List Str → Str
  | [] => Str.empty
  | p :: ps => Str.ofString "/" ++ p ++ pathOf ps
theorem pathOf_append : ∀ ps qs, pathOf (ps ++ qs) = pathOf ps ++ pathOf qs
  | [], qs => (Str.empty_append _).symm
  | p :: ps, qs => by
    show Str.ofString "/" ++ p ++ pathOf (ps ++ qs) = (Str.ofString "/" ++ p ++ pathOf ps) ++ pathOf qs
    rw [pathOf_append ps qs, Str.append_assoc (Str.ofString "/" ++ p)]
theorem join_em : ∀ ps : List Str, Str.join (Str.ofString "") (ps.map fun p => Str.ofString "/" ++ p) = pathOf ps
  | [] => rfl
  | [p] => (Str.append_empty _).symm
  | p :: q :: ps => by
    show Str.ofString "/" ++ p ++ Str.ofString "" ++ Str.join (Str.ofString "") ((q :: ps).map _) = _
    rw [join_em (q :: ps), em_is, Str.append_empty]
    rfl
theorem txt_join_em (ps : List Str) : Txt.join (Str.ofString "") (ps.map fun p => Str.ofString "/" ++ p) = pathOf ps :=
  (StrLaws.glued_eq_join _ _).trans (join_em ps)
theorem join_sl : ∀ (ps : List Str) (p : Str), Str.join (Str.ofString "/") (p :: ps) = p ++ pathOf ps
  | [], p => (Str.append_empty p).symm
  | q :: ps, p => by
    show p ++ Str.ofString "/" ++ Str.join (Str.ofString "/") (q :: ps) = p ++ (Str.ofString "/" ++ q ++ pathOf ps)
    rw [join_sl ps q, Str.append_assoc, Str.append_assoc]
theorem txt_join_sl (ps : List Str) (p : Str) : Txt.join (Str.ofString "/") (p :: ps) = p ++ pathOf ps :=
  (StrLaws.glued_eq_join _ _).trans (join_sl ps p)
theorem head_eq {p q r r' : List Nat} (hp : 47 ∉ p) (hq : 47 ∉ q) (h : p ++ 47 :: r = q ++ 47 :: r') : p = q ∧ r = r' := by
  have tk : ∀ (p r : List Nat), 47 ∉ p → (p ++ 47 :: r).takeWhile (· != 47) = p := fun p r hp => by
    rw [List.takeWhile_append_of_pos (fun a ha => by simpa using fun e : a = 47 => hp (e ▸ ha))]
    simp
  have e : p = q := by rw [← tk p r hp, h, tk q r' hq]
  subst e
  exact ⟨rfl, by simpa using h⟩
theorem pathOf_toList (p : Str) (ps : List Str) : (pathOf (p :: ps)).cps.toList = 47 :: (p.cps.toList ++ (pathOf ps).cps.toList) := by
  show (Str.ofString "/" ++ p ++ pathOf ps).cps.toList = _
  rw [sl_is]
  simp [Str.cps_append]
theorem str_ext {a b : Str} (h : a.cps.toList = b.cps.toList) : a = b := Str.ext' (Array.toList_inj.mp h)
theorem cat_inj : ∀ (ps qs : List Str) (p q : Str), NoSl p → NoSl q → (∀ a ∈ ps, NoSl a) → (∀ a ∈ qs, NoSl a) → p ++ pathOf ps = q ++ pathOf qs → p = q ∧ ps = qs := by
  intro ps
  induction ps with
  | nil =>
    intro qs p q hp hq _ hqs h
    cases qs with
    | nil => exact ⟨by simpa [pathOf, Str.append_empty] using h, rfl⟩
    | cons b qs =>
      exfalso
      have h' := congrArg (fun x : Str => x.cps.toList) h
      simp only [Str.cps_append, Array.toList_append, pathOf_toList] at h'
      have e : (pathOf []).cps.toList = [] := rfl
      rw [e, List.append_nil] at h'
      exact hp (by rw [h']; simp)
  | cons a ps ih =>
    intro qs p q hp hq hps hqs h
    cases qs with
    | nil =>
      exfalso
      have h' := congrArg (fun x : Str => x.cps.toList) h
      simp only [Str.cps_append, Array.toList_append, pathOf_toList] at h'
      have e : (pathOf []).cps.toList = [] := rfl
      rw [e, List.append_nil] at h'
      exact hq (by rw [← h']; simp)
    | cons b qs =>
      have h' := congrArg (fun x : Str => x.cps.toList) h
      simp only [Str.cps_append, Array.toList_append, pathOf_toList] at h'
      obtain ⟨e1, e2⟩ := head_eq hp hq h'
      have e3 : a ++ pathOf ps = b ++ pathOf qs := str_ext (by simpa [Str.cps_append] using e2)
      obtain ⟨e4, e5⟩ := ih qs a b (hps a (.head _)) (hqs b (.head _)) (fun c hc => hps c (.tail _ hc)) (fun c hc => hqs c (.tail _ hc)) e3
      exact ⟨str_ext e1, by rw [e4, e5]⟩
theorem split_noSl (x : Str) : ∀ p ∈ Txt.split x (Str.ofString "/"), NoSl p := by
  rw [sl_is]
  exact StrLaws.split_free x 47
/-- split, told by what it is joined to -/
theorem split_cat (p : Str) (ps : List Str) (hp : NoSl p) (hps : ∀ a ∈ ps, NoSl a) : Txt.split (p ++ pathOf ps) (Str.ofString "/") = p :: ps := by
  have hn := split_noSl (p ++ pathOf ps)
  have hj := StrLaws.join_split (p ++ pathOf ps) (Str.ofString "/")
  have hl := split_pos (p ++ pathOf ps) (Str.ofString "/")
  cases hs : Txt.split (p ++ pathOf ps) (Str.ofString "/") with
  | nil => rw [hs] at hl; simp at hl
  | cons q qs =>
    rw [hs] at hn hj
    rw [join_sl] at hj
    obtain ⟨e1, e2⟩ := cat_inj qs ps q p (hn q (.head _)) hp (fun a ha => hn a (.tail _ ha)) hps hj
    rw [e1, e2]
theorem em_noSl : NoSl (Str.ofString "") := by rw [em_is]; exact fun h => by simp [Str.empty] at h
theorem split_path (ps : List Str) (hps : ∀ a ∈ ps, NoSl a) : Txt.split (pathOf ps) (Str.ofString "/") = Str.ofString "" :: ps := by
  have h := split_cat (Str.ofString "") ps em_noSl hps
  rwa [em_is, Str.empty_append, ← em_is] at h
/-- the pile -/
def stepP (st : List Str) (p : Str) : List Str := if p == Str.ofString ".." then st.dropLast else if p != Str.ofString "" && p != Str.ofString "." then st ++ [p] else st
def stk (ps : List Str) : List Str := ps.foldl stepP []
theorem stk_snoc (ps : List Str) (p : Str) : stk (ps ++ [p]) = stepP (stk ps) p := by
  unfold stk; rw [List.foldl_append]; rfl
theorem stk_append (ps qs : List Str) : stk (ps ++ qs) = qs.foldl stepP (stk ps) := by
  unfold stk; rw [List.foldl_append]
theorem stepP_len (st : List Str) (p : Str) : (stepP st p).length ≤ st.length + 1 := by
  unfold stepP
  split
  · rw [List.length_dropLast]; omega
  · split
    · rw [List.length_append]; simp
    · omega
theorem stepP_mem {st : List Str} {p a : Str} (h : a ∈ stepP st p) : a ∈ st ∨ (a = p ∧ p ≠ Str.ofString ".." ∧ p ≠ Str.ofString "" ∧ p ≠ Str.ofString ".") := by
  unfold stepP at h
  split at h
  · exact .inl (List.dropLast_subset _ h)
  · rename_i h1
    split at h
    · rename_i h2
      rcases List.mem_append.mp h with h | h
      · exact .inl h
      · simp only [Bool.and_eq_true, bne_iff_ne, ne_eq] at h2
        exact .inr ⟨by simpa using h, by simpa using h1, h2.1, h2.2⟩
    · exact .inl h
/-- a name that may lie on the pile -/
def Plainly (ps : List Str) (a : Str) : Prop := a ∈ ps ∧ a ≠ Str.ofString ".." ∧ a ≠ Str.ofString "" ∧ a ≠ Str.ofString "."
theorem foldl_mem : ∀ (ps st : List Str) (a : Str), a ∈ ps.foldl stepP st → a ∈ st ∨ Plainly ps a
  | [], _, _, h => .inl h
  | p :: ps, st, a, h => by
    rcases foldl_mem ps (stepP st p) a h with h | h
    · rcases stepP_mem h with h | ⟨rfl, h1, h2, h3⟩
      · exact .inl h
      · exact .inr ⟨.head _, h1, h2, h3⟩
    · exact .inr ⟨.tail _ h.1, h.2⟩
theorem stk_mem {ps : List Str} {a : Str} (h : a ∈ stk ps) : Plainly ps a := (foldl_mem ps [] a h).resolve_left (by simp)
theorem foldl_len : ∀ (ps st : List Str), (ps.foldl stepP st).length ≤ st.length + ps.length
  | [], _ => Nat.le_refl _
  | p :: ps, st => by
    have h1 := foldl_len ps (stepP st p)
    have h2 := stepP_len st p
    rw [List.foldl_cons, List.length_cons]
    omega
theorem stk_len (ps : List Str) : (stk ps).length ≤ ps.length := by simpa [stk] using foldl_len ps []
/-- the place of a text -/
def placeT (x : Str) : Str := pathOf (stk (Txt.split x (Str.ofString "/")))
theorem sum_len_le {B : Nat} (l : List Str) (h : ∀ a ∈ l, a.length ≤ B) : (l.map (·.length)).sum ≤ l.length * B := StrLaws.sumLen_le l h
-- Place
theorem place_ok {w : World} {dp un : Nat} {fr : Option (List Env)} {gd : Option (List Code)} {s : Shared} {R : Result → Shared → Prop} {mean : ExcName → Option Value} {mg mb : Str → Option Value} {x : Str} {t : Tok}
   (X : (hd.heap_39 w.params).In s.heap) (T : Top hd.view_39 (looseW hd.view_39 [Str.ofString "normpath_posixpath", Str.ofString "normpath_posixpath2"]) mean mg mb s.heap)
   (hdp : dp < 900) (hx : x.length ≤ 1000)
   (h : ∀ t' h' tk', s.heap.StaysIn h' → R (.ok (.ret (.str (placeT x) t'))) {s with heap := h', toks := tk'}) :
   codeAny (model PySem.Challenge.rw_pd0042_01.row.prog w) (AA dp un fr gd) (.call (.ref 153) ⟨[.str x t], []⟩) R s := by
  have hh : (AA dp un fr gd).handled = none := rfl
  revert X; k_fill; intro X
  refine' enter (news := []) (binds := [(Str.ofString "path", .str x t)]) ?e1 ?e2 ?e3 X T ?e6 ?e7 ?e8 ?e9 ?e10 ?e11 ?_ ?e12 ?e13 ?e14
  case e1 => exact fun _ _ e => e
  case e2 => exact Nat.le_refl _
  case e3 => exact fun _ h => nomatch h
  case e6 => k_is
  case e7 => k_is
  case e8 => show dp < 1000; omega
  case e9 => exact BindsTo.of_eq rfl
  case e10 => exact locs rfl
  case e11 => decide
  case e12 => exact rfl
  case e13 => exact rfl
  case e14 => exact rfl
  w_on
  intro L' h1 F' N' l1
  (try dsimp only)
  k_fold
  k_steps
  rename_i la h2 l1' h2' F2 N2 l2 h3 k3 hsp hsv hle hil F3 N3
  dsimp only at *
  have hlen := len_le_of_split hsp
  have hLv : (strValues l2).length = l2.length := by simp [strValues]
  refine iter_list (fun i m news => ∃ a n vs, news = [(a, W.listOf (List.toArray vs) n)] ∧ a ≠ h2'.objs.size ∧ StrsAre vs (stk ((l2.map (·.1)).take i)) ∧ vs.length ≤ i ∧
     m (Str.ofString "names") = some (Value.ref a)) (news := [(la, W.listOf #[] 0)]) rfl rfl rfl F3 N3 (.head _) (fun p hp => .tail _ hp) ?_ ?_ ?_
  · exact ⟨la, 0, [], rfl, Nat.ne_of_lt (Heap.lt_size (N2 _ (.head _)).1), .nil, Nat.le_refl _, rfl⟩
  · rintro i v m₁ news₁ h tk I oI hv ⟨a, n, zs, rfl, ha, hz, hzl, hm⟩ hI hI2 F4 N4
    obtain ⟨p, tp, rfl, hp⟩ := hsv.item _ _ hv
    have hilt : i < l2.length := by simpa using (List.getElem?_eq_some_iff.mp hp).1
    have hst : stk ((l2.map (·.1)).take (i + 1)) = stepP (stk ((l2.map (·.1)).take i)) p := by
      rw [List.take_add_one, hp]
      exact stk_snoc _ _
    have hIs : h2'.objs.size < I := hI _ (.head _)
    have haI : a ≠ I := hI2 _ (.head _)
    show wpAny _ _ _ _ _ _
    k_fold
    k_steps
    · rename Fr _ _ _ _ => F9
      rename News _ _ _ _ => N9
      rename (p == Str.ofString "..") = true => hc
      rename (_ < _ ∧ _ < _ ∧ _ < _) => hlt
      refine TurnEnd.next F9 N9 (.tail _ (.head _)) (.tail _ (.tail _ (.head _))) (news' := [_]) (fun p hp => by rw [List.mem_singleton.mp hp]; exact .head _) (fun p hp => by rw [List.mem_singleton.mp hp]; exact Nat.ne_of_gt hlt.1) ⟨_, _, _, rfl, Nat.ne_of_gt hlt.2.1, ?_, ?_, rfl⟩
      · rw [hst]; unfold stepP; rw [if_pos hc]; exact strs_dropLast hz
      · rw [List.length_dropLast]; omega
    · rename Fr _ _ _ _ => F9
      rename News _ _ _ _ => N9
      rename (p == Str.ofString "..") = false => hc
      rename (p != Str.ofString "") = true => hc1
      rename (p != Str.ofString ".") = true => hc2
      rename (_ < _ ∧ _ < _ ∧ _ < _ ∧ _ < _) => hlt
      refine TurnEnd.next F9 N9 (.tail _ (.tail _ (.head _))) (.tail _ (.tail _ (.tail _ (.head _)))) (news' := [_]) (fun p hp => by rw [List.mem_singleton.mp hp]; exact .head _) (fun p hp => by rw [List.mem_singleton.mp hp]; exact Nat.ne_of_gt hlt.2.1) ⟨_, _, _, rfl, Nat.ne_of_gt hlt.2.2.1, ?_, ?_, rfl⟩
      · rw [hst]; unfold stepP; rw [hc, hc1, hc2]; exact hz.append' (.cons _ _ .nil)
      · show (zs ++ [Value.str p tp]).length ≤ _
        rw [List.length_append]; simp; omega
    · rename (p == Str.ofString "..") = false => hc
      rename (p != Str.ofString "") = true => hc1
      rename (p != Str.ofString ".") = false => hc2
      refine TurnEnd.next F4 N4 (.head _) (.tail _ (.head _)) (news' := [_]) (fun p hp => .tail _ (.tail _ hp)) hI2 ⟨_, _, _, rfl, ha, ?_, by omega, hm⟩
      rw [hst]; unfold stepP; rw [hc, hc1, hc2]; exact hz
    · rename (p == Str.ofString "..") = false => hc
      rename (p != Str.ofString "") = false => hc1
      refine TurnEnd.next F4 N4 (.head _) (.tail _ (.head _)) (news' := [_]) (fun p hp => .tail _ (.tail _ hp)) hI2 ⟨_, _, _, rfl, ha, ?_, by omega, hm⟩
      rw [hst]; unfold stepP; rw [hc, hc1]; exact hz
  · rintro m₁ news₁ h4 tk ⟨a, n, zs, rfl, ha, hz, hzl, hm⟩ F4 N4
    rw [hLv, show l2.length = (l2.map (·.1)).length by simp, List.take_length, hsp] at hz
    have hmem : ∀ a ∈ stk (Txt.split x (Str.ofString "/")), a.length ≤ 1000 := fun a ha => Nat.le_trans (hle a (hsp ▸ (stk_mem ha).1)) hx
    have hzs := hz.length
    k_steps
    refine Wait.mk ?_
    refine comp_strs (pz := fun _ => true) (f := fun p => Str.ofString "/" ++ p) rfl (News.isList N4 (.head _)) hz F4 N4 ?_ ?_ ?_ ?_
    · intros; exact no_tests
    · intro C a t s₂ m₂ E' ha _ hn hm
      have := hmem a ha
      exact elt_slash hn hm (hsz := by rw [sl_len, sizeLine_eq]; omega)
    · intro D zs' n' h' tk' F5 N5 hD hz'
      rw [show (stk (Txt.split x (Str.ofString "/"))).filter (fun _ => true) = stk (Txt.split x (Str.ofString "/")) by simp] at hz'
      k_steps
      refine join_list (News.isList N5 (.head _)) hz' ?_ ?_
      · have h1 := sum_len_le (B := 1001) ((stk (Txt.split x (Str.ofString "/"))).map fun p => Str.ofString "/" ++ p) (fun a ha => by
          obtain ⟨b, hb, rfl⟩ := List.mem_map.mp ha
          have := hmem b hb
          rw [Str.length_append, sl_len]; omega)
        have h2 : (Str.ofString "").length = 0 := by decide +kernel
        rw [List.length_map] at h1 ⊢
        rw [h2]; omega
      · intro t' k
        rw [txt_join_em]
        exact h _ _ _ F5.keep
    · rw [sizeLine_eq]; omega
-- Base4
section
variable {prog : Program} {w : World} {A : Around} {E : Value → Shared → Prop} {s : Shared} {K : Frag} {h₀ : Heap} {L : Addr} {m : Str → Option Value} {news : List (Addr × Obj)} {p : Program} {loose : List Str} {mean : ExcName → Option Value} {mg mb : Str → Option Value}
/-- a call told by a contract that leaves everything as it is -/
theorem use_pure {f : Addr} {vs : List Value} {Q : Value → Shared → Prop} (v : Tok → Value) (F : Fr h₀ L s.heap m) (N : News h₀ L s.heap news)
    (c : ∀ R : Result → Shared → Prop, (∀ t' h' tk', s.heap.StaysIn h' → R (.ok (.ret (v t'))) { s with heap := h', toks := tk' }) → codeAny (model prog w) A (.call (.ref f) ⟨vs, []⟩) R s)
    (h : ∀ t' h' tk', Fr h₀ L h' m → News h₀ L h' news → Q (v t') { s with heap := h', toks := tk' }) : wpAny (model prog w) A (call (.ref f) vs) Q E s :=
  wpAny_call (c _ fun t' h' tk' k => h t' h' tk' (F.keeps k) (N.grown k))
/-- a call told by a contract that makes one object and leaves everything else as it is -/
theorem use_new {f : Addr} {vs : List Value} {Q : Value → Shared → Prop} (o : Obj → Prop) (F : Fr h₀ L s.heap m) (N : News h₀ L s.heap news)
    (c : ∀ R : Result → Shared → Prop, (∀ D ob h' tk', s.heap.StaysIn h' → s.heap.get? D = none → h'.get? D = some ob → o ob → R (.ok (.ret (.ref D))) { s with heap := h', toks := tk' }) → codeAny (model prog w) A (.call (.ref f) ⟨vs, []⟩) R s)
    (h : ∀ D ob h' tk', o ob → Fr h₀ L h' m → News h₀ L h' ((D, ob) :: news) → (∀ p ∈ news, p.1 ≠ D) → Q (.ref D) { s with heap := h', toks := tk' }) : wpAny (model prog w) A (call (.ref f) vs) Q E s := by
  refine wpAny_call (c _ fun D ob h' tk' k hn hD ho => ?_)
  refine h D ob h' tk' ho (F.keeps k) (fun p hp => ?_) (fun p hp e => by rw [← e, (N p hp).1] at hn; cases hn)
  rcases List.mem_cons.mp hp with rfl | hp
  · refine ⟨hD, fun e => ?_, ?_⟩
    · obtain ⟨oL, _, _, hL, _⟩ := F.ns
      dsimp only at e
      rw [e, hL] at hn; cases hn
    · cases e : h₀.get? D with
      | none => rfl
      | some o' => rw [F.keep _ _ e] at hn; cases hn
  · exact (N.grown k) p hp
theorem raw_peekA {α : Type} {M : Model} {Q : α → Shared → Prop} {o : Obj} (X : K.In s.heap) :
    ∀ (t : Sem α) (g : Addr → Sem α), peekA K ⟨M.prog, M.w.params⟩ t = some (o, g) →
      wpAny M A (g s.heap.objs.size) Q E { s with heap := s.heap.push o } → wpAny M A t Q E s := by
  intro t
  induction t with
  | rule _ k ih => intro g e q Γ p hΓ; exact ih () g e q Γ p hΓ
  | point _ k ih => intro g e q Γ p hΓ; exact ih () g e q Γ p hΓ
  | ask k ih => intro g e q Γ p hΓ; exact ih _ g e q Γ p hΓ
  | load a _ k ih =>
    intro g e q Γ p hΓ
    simp only [peekA] at e
    split at e
    · rename_i ob ho; exact ⟨ob, X _ _ ho, ih ob g e q Γ p hΓ⟩
    · cases e
  | alloc ob k _ =>
    intro g e q
    have e : some (ob, k) = some (o, g) := e
    obtain ⟨e1, e2⟩ := Prod.mk.inj (Option.some.inj e)
    subst e1
    subst e2
    show wpAny M A (alloc ob >>= k) Q E s
    exact wpAny_bind (wpAny_alloc q)
  | _ => intro g e; cases e
/-- a call of «def f(*args, **kwargs)» without keywords -/
theorem enter_both {R : Result → Shared → Prop}
    {name qual : Str} {params : Arguments} {body : List Stmt} {scope : Scope} {dV kV doc pm cdv ct oc : Value} {an od : Option Addr} {osl : Array (Option Value)} {f : Addr} {args : Args} {vs : List Value} {nr nm : Str}
    {g₁ : Addr → Sem (List (Str × Value))} {g₂ : Addr → Addr → Sem (List (Str × Value))}
    (X : K.In s.heap) (T : Top p loose mean mg mb s.heap)
    (ho : K.lookup f = some ⟨oc, od, .func (fnOf name qual params body scope dV kV doc pm an cdv ct), osl⟩) (hcd : codeIn K cdv qual = true) (hroom : A.depth < recursionLimit)
    (hp : peekA K ⟨prog, w.params⟩ (bindArgs (fnOf name qual params body scope dV kV doc pm an cdv ct) args) = some (({ cls := .type "tuple", data := .seq vs.toArray } : Obj), g₁))
    (hp₂ : ∀ D, peekA K ⟨prog, w.params⟩ (g₁ D) = some (dictOf [] 0, g₂ D))
    (hk₂ : ∀ C D, g₂ C D = pure [(nr, Value.ref C), (nm, Value.ref D)])
    (hloc : ∀ C D, ∀ y ∈ [(nr, Value.ref C), (nm, Value.ref D)], scope.names.lookup y.1 = some .local)
    (hcell : ∀ x ∈ scope.names, x.2 ≠ .cell)
    (h : ∀ C D L' h₁ tk, Fr s.heap L' h₁ (fun y => [(nm, Value.ref D), (nr, Value.ref C)].lookup y) → News s.heap L' h₁ [(D, dictOf [] 0), (C, ({ cls := .type "tuple", data := .seq vs.toArray } : Obj))] → C < D → (D == sysModules) = false →
      wpAny (model prog w) (A.deeper (envOf qual scope L' f cdv)) (execs body (envOf qual scope L' f cdv))
        (fun fl s' => R (.ok (.ret (match fl with | .ret v => v | _ => .none))) s')
        (fun _ _ => False)
        { s with heap := h₁, toks := tk })
    (hco : scope.isCoroutine = false := by rfl) (hgen : scope.isGenerator = false := by rfl) (hk : scope.kind = .function := by rfl) :
    codeAny (model prog w) A (.call (.ref f) args) R s := by
  refine codeAny_call_function (fd := fnOf name qual params body scope dV kV doc pm an cdv ct) (body := body) hroom (X _ _ ho) rfl hco hgen rfl (codeRec_of X hcd) ?_
  refine raw_peekA (M := model prog w) X _ g₁ hp ?_
  refine raw_peekA (M := model prog w) (s := { s with heap := s.heap.push _ }) (X.keeps fun _ _ e => Heap.get?_push_of_some _ e) _ (g₂ s.heap.objs.size) (hp₂ _) ?_
  rw [hk₂]
  refine wpAny_pure ?_
  refine wpAny_newFunctionEnv hcell (hloc _ _) (fun h₁ hns hsb => ?_) hk
  have k0 : ∀ b o, s.heap.get? b = some o → ((s.heap.push ({ cls := .type "tuple", data := .seq vs.toArray } : Obj)).push (dictOf [] 0)).get? b = some o := fun b o e => Heap.get?_push_of_some _ (Heap.get?_push_of_some _ e)
  have k1 : ∀ b o, ((s.heap.push ({ cls := .type "tuple", data := .seq vs.toArray } : Obj)).push (dictOf [] 0)).get? b = some o → h₁.get? b = some o := fun b o e => hsb.extBut b o (Nat.ne_of_lt (Heap.lt_size e)) (Heap.get?_push_of_some _ e)
  have nn : ∀ b, s.heap.objs.size ≤ b → s.heap.get? b = none := fun b hb => by
    cases e : s.heap.get? b with
    | none => rfl
    | some o => exact absurd (Heap.lt_size e) (Nat.not_lt.mpr hb)
  refine ⟨((T.nolimit.keeps k0).fresh _ hsb), codeAny_func ?_⟩
  refine wpAny_mono (h s.heap.objs.size (s.heap.push ({ cls := .type "tuple", data := .seq vs.toArray } : Obj)).objs.size ((s.heap.push ({ cls := .type "tuple", data := .seq vs.toArray } : Obj)).push (dictOf [] 0)).objs.size h₁ _
    ⟨hns, fun b o e => k1 b o (k0 b o e), ?_⟩ (fun p hp => ?_) ?_ ?_) (fun _ _ y => y) (fun _ _ y => y.elim)
  · rw [Heap.size_push, Heap.size_push]; omega
  · rcases List.mem_cons.mp hp with rfl | hp
    · refine ⟨k1 _ _ (Heap.get?_push_size _ rfl), ?_, nn _ ?_⟩
      · dsimp only; rw [Heap.size_push, Heap.size_push, Heap.size_push]; exact Nat.ne_of_lt (Nat.lt_succ_self _)
      · dsimp only; rw [Heap.size_push]; exact Nat.le_succ _
    · rw [List.mem_singleton.mp hp]
      refine ⟨k1 _ _ (Heap.get?_push_of_some _ (Heap.get?_push_size _ rfl)), ?_, nn _ (Nat.le_refl _)⟩
      dsimp only; rw [Heap.size_push, Heap.size_push]; exact Nat.ne_of_lt (Nat.lt_succ_of_lt (Nat.lt_succ_self _))
  · rw [Heap.size_push]; exact Nat.lt_succ_self _
  · rw [Heap.size_push]; exact beq_eq_false_iff_ne.mpr (Nat.ne_of_gt (Nat.lt_succ_of_lt (modules_low T.nolimit)))
end
-- Plain2
section
variable {prog : Program} {w : World} {A : Around} {E : Value → Shared → Prop} {s : Shared} {env : Env} {h₀ : Heap} {x : Str} {body : List Stmt} {Q : Flow → Shared → Prop}
theorem map_set {m₁ m₀ : Str → Option Value} {x : Str} (v : Option Value) (h : ∀ y, y ≠ x → m₁ y = m₀ y) : (fun y => if y = x then v else m₁ y) = fun y => if y = x then v else m₀ y := by
  funext y
  by_cases e : y = x
  · simp [e]
  · simp only [if_neg e]; exact h y e
theorem map_self {m₁ m₀ : Str → Option Value} {x : Str} (h : ∀ y, y ≠ x → m₁ y = m₀ y) : m₁ = fun y => if y = x then m₁ x else m₀ y := by
  funext y
  by_cases e : y = x
  · simp [e]
  · simp only [if_neg e]; exact h y e
/-- a for over a list of the ledger whose turns store no name but the loop's own -/
theorem iter_listS {l : Addr} {ol : Obj} {vs : List Value} {n : Nat} {m₀ : Str → Option Value} {news rest : List (Addr × Obj)} (J : Nat → List (Addr × Obj) → Prop)
    (hh : A.handled = none) (hc : ol.cls = .type "list") (hd : ol.data = .seq vs.toArray n) (F : Fr h₀ env.locals s.heap m₀) (N : News h₀ env.locals s.heap rest) (hl : (l, ol) ∈ rest) (hs : ∀ p ∈ news, p ∈ rest) (hj : J 0 news)
    (turn : ∀ i v news₁ h tk I oI, vs[i]? = some v → J i news₁ → (∀ p ∈ rest, p.1 < I) → (∀ p ∈ news₁, p.1 ≠ I) → Fr h₀ env.locals h (fun y => if y = x then some v else m₀ y) → News h₀ env.locals h ((I, oI) :: (l, ol) :: news₁) →
      wpAny (model prog w) A (execs body env) (TurnEnd h₀ env.locals I l oI ol (fun m' nw => (∀ y, y ≠ x → m' y = m₀ y) ∧ J (i + 1) nw) { s with heap := h, toks := tk } Q) E { s with heap := h, toks := tk })
    (done : ∀ u news₁ h tk, J vs.length news₁ → Fr h₀ env.locals h (fun y => if y = x then u else m₀ y) → News h₀ env.locals h news₁ → Q .next { s with heap := h, toks := tk }) :
    wpAny (model prog w) A (pyIter (.ref l)) (fun it s₂ => LoopAtV prog w A h₀ env x body Q E it s₂) E s := by
  refine iter_list (fun i m nw => (∀ y, y ≠ x → m y = m₀ y) ∧ J i nw) hh hc hd F N hl hs ⟨fun _ _ => rfl, hj⟩ ?_ ?_
  · rintro i v m₁ news₁ h tk I oI hv ⟨hm, hJ⟩ h1 h2 F₁ N₁
    rw [map_set _ hm] at F₁
    exact turn i v news₁ h tk I oI hv hJ h1 h2 F₁ N₁
  · rintro m₁ news₁ h tk ⟨hm, hJ⟩ F₁ N₁
    rw [map_self hm] at F₁
    exact done _ news₁ h tk hJ F₁ N₁
end
theorem len_toList (x : Str) : x.length = x.cps.toList.length := by simp [Str.length]
theorem slice_head {x : Str} {c : Nat} {r : List Nat} (h : x.cps.toList = c :: r) : Txt.slice x none (some 1) = ⟨#[c]⟩ := by
  have hl : x.length = r.length + 1 := by rw [len_toList, h]; rfl
  rw [beq_iff_eq.mp (slice_closes_toL (x := x) (j := 1) (by decide) (by omega)), h]
  rfl
theorem slice_tail {x : Str} {c : Nat} {r : List Nat} (h : x.cps.toList = c :: r) : Txt.slice x (some 1) none = ⟨r.toArray⟩ := by
  have hl : x.length = r.length + 1 := by rw [len_toList, h]; rfl
  rw [slice_from_eq (x := x) (i := 1) (b := x.length) (by decide) (by omega) rfl, h, hl]
  simp
theorem slice_second {x : Str} {c : Nat} {r : List Nat} (h : x.cps.toList = c :: r) : Txt.slice x (some 1) (some 2) = ⟨(r.take 1).toArray⟩ := by
  have hl : x.length = r.length + 1 := by rw [len_toList, h]; rfl
  cases r with
  | nil =>
    have e : Builtin.Str.strSliceIndices (some 1) (some 2) 1 x.length = [] := by rw [hl]; decide
    unfold Txt.slice
    rw [e, hl]
    rfl
  | cons d r =>
    rw [beq_iff_eq.mp (slice_closesL (x := x) (i := 1) (j := 2) (by decide) (by decide) (by rw [hl, List.length_cons]; omega)), h]
    simp
theorem path_head (q : Str) (qs : List Str) : (Txt.slice (pathOf (q :: qs)) none (some 1) != Str.ofString "/") = false := by
  rw [slice_head (pathOf_toList q qs), sl_is]; rfl
theorem path_tail (q : Str) (qs : List Str) : Txt.slice (pathOf (q :: qs)) (some 1) none = q ++ pathOf qs := by
  rw [slice_tail (pathOf_toList q qs)]
  exact str_ext (by simp [Str.cps_append])
theorem path_second {q : Str} {qs : List Str} (hq : NoSl q) (h : q ≠ Str.ofString "" ∨ qs = []) : (Txt.slice (pathOf (q :: qs)) (some 1) (some 2) != Str.ofString "/") = true := by
  rw [slice_second (pathOf_toList q qs), sl_is, bne_iff_ne]
  intro e
  have e' := congrArg (fun x : Str => x.cps.toList) e
  cases hc : q.cps.toList with
  | cons c r =>
    rw [hc] at e'
    simp at e'
    exact hq (by rw [hc, e']; exact .head _)
  | nil =>
    rcases h with h | h
    · exact h (by rw [em_is]; exact str_ext hc)
    · subst h
      rw [hc] at e'
      have e0 : (pathOf []).cps.toList = [] := rfl
      rw [e0] at e'
      simp at e'
/-- what normpath makes of pieces behind a slash -/
def normT (ps : List Str) : Str := Str.ofString "/" ++ Str.join (Str.ofString "/") (stk ps)
-- Split
theorem splitroot_ok {w : World} {dp un : Nat} {fr : Option (List Env)} {gd : Option (List Code)} {s : Shared} {R : Result → Shared → Prop} {mean : ExcName → Option Value} {mg mb : Str → Option Value} {x : Str} {t : Tok}
   (X : (hd.heap_39 w.params).In s.heap) (T : Top hd.view_39 (looseW hd.view_39 [Str.ofString "normpath_posixpath", Str.ofString "normpath_posixpath2"]) mean mg mb s.heap)
   (hdp : dp < 950) (hx : x.length ≤ 1000)
   (hs1 : (Txt.slice x none (some 1) != Str.ofString "/") = false) (hs2 : (Txt.slice x (some 1) (some 2) != Str.ofString "/") = true)
   (h : ∀ D ob h' tk', s.heap.StaysIn h' → s.heap.get? D = none → h'.get? D = some ob → (∃ t1 t2 t3, ob = ({ cls := .type "tuple", data := .seq #[.str (Str.ofString "") t1, .str (Str.ofString "/") t2, .str (Txt.slice x (some 1) none) t3] } : Obj)) → R (.ok (.ret (.ref D))) { s with heap := h', toks := tk' }) :
   codeAny (model PySem.Challenge.rw_pd0042_01.row.prog w) (AA dp un fr gd) (.call (.ref 42) ⟨[.str x t], []⟩) R s := by
  have hh : (AA dp un fr gd).handled = none := rfl
  revert X; k_fill; intro X
  refine' enter (news := []) (binds := [(Str.ofString "p", .str x t)]) ?e1 ?e2 ?e3 X T ?e6 ?e7 ?e8 ?e9 ?e10 ?e11 ?_ ?e12 ?e13 ?e14
  case e1 => exact fun _ _ e => e
  case e2 => exact Nat.le_refl _
  case e3 => exact fun _ h => nomatch h
  case e6 => k_is
  case e7 => k_is
  case e8 => show dp < 1000; omega
  case e9 => exact BindsTo.of_eq rfl
  case e10 => exact locs rfl
  case e11 => decide
  case e12 => exact rfl
  case e13 => exact rfl
  case e14 => exact rfl
  w_on
  intro L' h1 F' N' l1
  (try dsimp only)
  k_fold
  k_steps
  all_goals first
    | (rename (Txt.slice x none (some 1) != Str.ofString "/") = true => hq; rw [hs1] at hq; cases hq)
    | (rename (Txt.slice x (some 1) (some 2) != Str.ofString "/") = false => hq; rw [hs2] at hq; cases hq)
    | (rename Fr _ _ _ _ => F9
       rename News _ _ _ _ => N9
       exact h _ _ _ _ F9.keep (N9 _ (.head _)).2.2 (N9 _ (.head _)).1 ⟨_, _, _, rfl⟩)
-- Lines2
theorem nil_or_snoc {α : Type} (l : List α) : l = [] ∨ ∃ ys y, l = ys ++ [y] := by
  rcases List.eq_nil_or_concat l with h | ⟨ys, y, h⟩
  · exact .inl h
  · exact .inr ⟨ys, y, by rw [h, List.concat_eq_append]⟩
section
variable {prog : Program} {w : World} {A : Around} {E : Value → Shared → Prop} {s : Shared} {l : Addr} {vs : List Value} {y : Value}
theorem truthy_nil {Q : Bool → Shared → Prop} (hl : s.heap.IsList l ([] : List Value).toArray) (h : Q false { s with toks := s.toks + 1 + 1 }) : wpAny (model prog w) A (truthy (.ref l)) Q E s :=
  wpAny_truthy_list hl (by decide) h
theorem truthy_snoc {Q : Bool → Shared → Prop} (hl : s.heap.IsList l (vs ++ [y]).toArray) (hz : (vs ++ [y]).toArray.size ≤ sizeLine) (h : Q true { s with toks := s.toks + 1 + 1 }) : wpAny (model prog w) A (truthy (.ref l)) Q E s := by
  refine wpAny_truthy_list hl ?_ ?_
  · rw [sizeLine_eq] at hz; omega
  · have e : (!(vs ++ [y]).toArray.isEmpty) = true := by simp
    rw [e]; exact h
theorem truthy_wait {Q : Bool → Shared → Prop} (_hl : s.heap.IsList l vs.toArray) (h : Wait (wpAny (model prog w) A (truthy (.ref l)) Q E s)) : wpAny (model prog w) A (truthy (.ref l)) Q E s := h
theorem item_last {value slice : Expr} {u : Tok} {Q : Value → Shared → Prop} (hl : s.heap.IsList l (vs ++ [y]).toArray) (h : Q y s)
    (hs : subscripted slice false (.ref l) (.int (-1) u) = operate [.ref l, .int (-1) u] (getItem (.ref l) (.int (-1) u)) := by with_unfolding_all rfl) :
    wpAny (model prog w) A (subscriptTail value slice (.ref l) (.int (-1) u)) Q E s := by
  refine tail_any hl.typeIs slot_list_getitem.lookup (wpAny_getItem_list_neg (x := y) hl (by decide) ?_ (by decide) ?_ h) hs
  · simp; omega
  · have e : (-1 + (((vs ++ [y]).toArray.size : Nat) : Int)).toNat = vs.length := by simp; omega
    rw [e]; simp
end
theorem words_Lines2_22 : True := by
  k_with "truthy ref" => (k_here; (with_reducible show wpAny _ _ (truthy (Value.ref _)) _ _ _); k_dflt (first | (refine truthy_snoc (by kmk_list) (by walk_at "m_size") ?_; k_whole) | (refine truthy_nil (by kmk_list) ?_; k_whole) | (refine truthy_wait (by kmk_list) ?_; k_whole)))
  k_with "subscriptTail Name UnaryOp ref int" => (k_here; (with_reducible show wpAny _ _ (subscriptTail _ _ (Value.ref _) (Value.int (-1) _)) _ _ _); k_dflt (refine item_last (by kmk_list) ?_ (by with_unfolding_all rfl); k_whole))
  k_with "call builtin:list.append" => (k_here; k_dflt (show wpAny _ _ (call (Value.builtin "list.append") [Value.ref _, _]) _ _ _); k_dflt (refine append_K (by k_asm) (by k_asm) (by k_upd) ?_ (by walk_at "m_size"); k_whole); intro hz9 Fz9 Nz9; (try k_sweep))
  trivial
local macro_rules | `(tactic| walk_at "call builtin:list.pop") => `(tactic| (k_here; k_dflt (show wpAny _ _ (call (Value.builtin "list.pop") [Value.ref _]) _ _ _); k_dflt (refine' kl_pop ?F ?N ?e ?U ?z ?_; (case F => k_asm); (case N => k_asm); (case U => k_upd); (case e => exact kpa_last _ _); (case z => walk_at "m_size"); k_whole); intro h' F' N'; (try k_sweep)))
-- Norm
theorem norm_ok {w : World} {dp un : Nat} {fr : Option (List Env)} {gd : Option (List Code)} {s : Shared} {R : Result → Shared → Prop} {mean : ExcName → Option Value} {mg mb : Str → Option Value} {q : Str} {qs : List Str} {t : Tok}
   (X : (hd.heap_39 w.params).In s.heap) (T : Top hd.view_39 (looseW hd.view_39 [Str.ofString "normpath_posixpath", Str.ofString "normpath_posixpath2"]) mean mg mb s.heap)
   (hdp : dp < 940) (hq : NoSl q) (hqs : ∀ a ∈ qs, NoSl a) (hc : q ≠ Str.ofString "" ∨ qs = []) (hx : (pathOf (q :: qs)).length ≤ 1000)
   (h : ∀ t' h' tk', s.heap.StaysIn h' → R (.ok (.ret (.str (normT (q :: qs)) t'))) { s with heap := h', toks := tk' }) :
   codeAny (model PySem.Challenge.rw_pd0042_01.row.prog w) (AA dp un fr gd) (.call (.ref 49) ⟨[.str (pathOf (q :: qs)) t], []⟩) R s := by
  have hs1 := path_head q qs
  have hs2 := path_second hq hc
  have hs3 := path_tail q qs
  have hx0 : 1 ≤ (pathOf (q :: qs)).length := by rw [len_toList, pathOf_toList]; simp
  generalize hxd : pathOf (q :: qs) = x at *
  have hh : (AA dp un fr gd).handled = none := rfl
  revert X; k_fill; intro X
  refine' enter (news := []) (binds := [(Str.ofString "path", .str x t)]) ?e1 ?e2 ?e3 X T ?e6 ?e7 ?e8 ?e9 ?e10 ?e11 ?_ ?e12 ?e13 ?e14
  case e1 => exact fun _ _ e => e
  case e2 => exact Nat.le_refl _
  case e3 => exact fun _ h => nomatch h
  case e6 => k_is
  case e7 => k_is
  case e8 => show dp < 1000; omega
  case e9 => exact BindsTo.of_eq rfl
  case e10 => exact locs rfl
  case e11 => decide
  case e12 => exact rfl
  case e13 => exact rfl
  case e14 => exact rfl
  w_on
  intro L' h1 F' N' l1
  (try dsimp only)
  k_fold
  k_steps
  case' _ => skip
  · rename Fr _ _ _ _ => F9
    rename News _ _ _ _ => N9
    refine use_new _ F9 N9 (fun R hR => splitroot_ok (X.keeps F9.keep) (T.keeps F9.keep) (by show dp + 1 < 950; omega) hx hs1 hs2 hR) ?_
    rintro D ob h9 tk9 ⟨t1, t2, t3, rfl⟩ F10 N10 hne
    rw [hs3] at N10
    have hyl : (q ++ pathOf qs).length ≤ 1000 := by rw [← hs3]; exact Nat.le_trans (Txt.slice_le _ _ _) hx
    have hys := split_cat q qs hq hqs
    clear hs3 hs1 hs2
    generalize hyd : q ++ pathOf qs = y at *
    clear hyd hxd hq hqs hc
    have hys := PySem.Flt.Hid.mk hys
    k_steps
    rename Fr _ _ _ _ => F15
    rename News _ _ _ _ => N15
    rename_i h11 l2 h12 k12 hsp hsv hle hil h13 la h14 l1' h15
    have hlen := len_le_of_split hsp
    have hLv : (strValues l2).length = l2.length := by simp [strValues]
    refine iter_listS (fun i news => ∃ n vs, news = [(la, W.listOf (List.toArray vs) n)] ∧ StrsAre vs (stk ((l2.map (·.1)).take i)) ∧ vs.length ≤ i) (news := [(la, W.listOf #[] 0)]) rfl rfl rfl F15 N15 (.tail _ (.head _)) (fun p hp => by rw [List.mem_singleton.mp hp]; exact .head _) ?_ ?_ ?_
    · exact ⟨0, [], rfl, .nil, Nat.le_refl _⟩
    · rintro i v news₁ h tk I oI hv ⟨n, zs, rfl, hz, hzl⟩ hI hI2 F4 N4
      obtain ⟨p, tp, rfl, hp⟩ := hsv.item _ _ hv
      have hilt : i < l2.length := by simpa using (List.getElem?_eq_some_iff.mp hp).1
      have hst : stk ((l2.map (·.1)).take (i + 1)) = stepP (stk ((l2.map (·.1)).take i)) p := by
        rw [List.take_add_one, hp]
        exact stk_snoc _ _
      have hIs : h11.objs.size < I := hI _ (.tail _ (.head _))
      have haI : la < I := hI _ (.head _)
      have hpl : p.length ≤ 1000 := Nat.le_trans (hle p (List.mem_of_getElem? hp)) hyl
      have hIs := ltN hIs
      have haI := ltN haI
      show wpAny _ _ _ _ _ _
      k_fold
      k_steps
      · rename (p == Str.ofString ".") = true => hc1
        refine TurnEnd.cont F4 N4 (.head _) (.tail _ (.head _)) (news' := [_]) (fun p hp => .tail _ (.tail _ hp)) hI2 ⟨fun y hy => if_neg hy, _, _, rfl, ?_, by omega⟩
        rw [hst, beq_iff_eq.mp hc1]; exact hz
      · rename Fr _ _ _ _ => F9
        rename News _ _ _ _ => N9
        rename (p == Str.ofString ".") = false => hc1
        rename (p != Str.ofString "..") = true => hc2
        rename ((p.length : Int) ≠ 0) => hc0
        rw [List.push_toArray] at N9
        refine TurnEnd.next F9 N9 (.head _) (.tail _ (.head _)) (news' := [_]) (fun p hp => .tail _ (.tail _ hp)) (fun p hp => by rw [List.mem_singleton.mp hp]; exact Nat.ne_of_lt haI) ⟨fun y hy => if_neg hy, _, _, rfl, ?_, ?_⟩
        · rw [hst]
          have e0 : (p == Str.ofString "") = false := by rw [beq_emptyS_eq_lenZ]; simpa using hc0
          have e2 : (p == Str.ofString "..") = false := by simpa using hc2
          have e : stepP (stk ((l2.map (·.1)).take i)) p = stk ((l2.map (·.1)).take i) ++ [p] := by
            unfold stepP; rw [e2, bne, e0, bne, hc1]; rfl
          rw [e]
          exact hz.append' (.cons _ _ .nil)
        · rw [List.length_append]; simp; omega
      · refine Wait.mk ?_
        rename (p != Str.ofString "..") = false => hc2
        have e2 : (p == Str.ofString "..") = true := by simpa using hc2
        have e3 : stepP (stk ((l2.map (·.1)).take i)) p = (stk ((l2.map (·.1)).take i)).dropLast := by unfold stepP; rw [e2]; rfl
        rcases nil_or_snoc zs with rfl | ⟨ys, yl, rfl⟩
        · k_steps
          refine TurnEnd.next F4 N4 (.head _) (.tail _ (.head _)) (news' := [_]) (fun p hp => .tail _ (.tail _ hp)) hI2 ⟨fun y hy => if_neg hy, _, _, rfl, ?_, by omega⟩
          rw [hst, e3]; exact strs_dropLast hz
        · obtain ⟨b, tb, rfl, hb⟩ := hz.item ys.length yl (by simp)
          have hb2 : (b == Str.ofString "..") = false := by simpa using (stk_mem (List.mem_of_getElem? hb)).2.1
          have hyl2 : ys.length + 1 ≤ i := by simpa using hzl
          k_steps
          rename Fr _ _ _ _ => F9
          rename News _ _ _ _ => N9
          refine TurnEnd.next F9 N9 (.head _) (.tail _ (.head _)) (news' := [_]) (fun p hp => .tail _ (.tail _ hp)) (fun p hp => by rw [List.mem_singleton.mp hp]; exact Nat.ne_of_lt haI) ⟨fun y hy => if_neg hy, _, _, rfl, ?_, ?_⟩
          · rw [hst, e3]
            have h9 := strs_dropLast hz
            rwa [List.dropLast_concat] at h9
          · rw [List.length_append] at hzl; simp at hzl; omega
      · rename ((p.length : Int) = 0) => hc1
        refine TurnEnd.cont F4 N4 (.head _) (.tail _ (.head _)) (news' := [_]) (fun p hp => .tail _ (.tail _ hp)) hI2 ⟨fun y hy => if_neg hy, _, _, rfl, ?_, by omega⟩
        have e0 : (p == Str.ofString "") = true := by rw [beq_emptyS_eq_lenZ]; simpa using hc1
        rw [hst, beq_iff_eq.mp e0]; exact hz
    · rintro u news₁ h4 tk ⟨n, zs, rfl, hz, hzl⟩ F4 N4
      rw [hLv, show l2.length = (l2.map (·.1)).length by simp, List.take_length, hsp, hys.out] at hz
      have hmem : ∀ a ∈ stk (q :: qs), a.length ≤ 1000 := fun a ha => by
        have h8 := (stk_mem ha).1
        rw [← hys.out, ← hsp] at h8
        exact Nat.le_trans (hle a h8) hyl
      have hql : (q :: qs).length ≤ 1002 := by rw [← hys.out, ← hsp, List.length_map]; omega
      have hsl := stk_len (q :: qs)
      have hsum := sum_len_le (B := 1000) (stk (q :: qs)) hmem
      k_steps
      rename Fr _ _ _ _ => F9
      rename News _ _ _ _ => N9
      refine join_list (News.isList N9 (.head _)) hz ?_ ?_
      · rw [sl_len]; omega
      intro t' k
      have hjl := StrLaws.join_length_le (Str.ofString "/") (stk (q :: qs))
      rw [sl_len] at hjl
      rw [show Txt.join (Str.ofString "/") (stk (q :: qs)) = Str.join (Str.ofString "/") (stk (q :: qs)) from StrLaws.glued_eq_join _ _]
      have hJ : normT (q :: qs) = Str.ofString "/" ++ Str.join (Str.ofString "/") (stk (q :: qs)) := rfl
      have hJl : (Str.join (Str.ofString "/") (stk (q :: qs))).length ≤ 2000000 := by omega
      generalize Str.join (Str.ofString "/") (stk (q :: qs)) = jn at *
      clear hjl hsum hmem hz hle hsp hsv
      k_steps
      rename Fr _ _ _ _ => F11
      rw [hJ] at h
      exact h _ _ _ F11.keep
  · exfalso; omega
-- Hide
theorem stays_hide {h₀ h : Heap} {L : Addr} {m : Str → Option Value} {news : List (Addr × Obj)} (F : Fr h₀ L h m) (N : News h₀ L h news) {as : List Addr} (hs : ∀ a ∈ as, ∃ o, (a, o) ∈ news) : h₀.StaysIn (hideAll h as) :=
  fun b o e => hideAll_get _ (F.keep b o e) fun hb => by
    obtain ⟨o', h'⟩ := hs b hb
    have := (N _ h').2.2
    dsimp only at this
    rw [e] at this; cases this
theorem stays_of_hide {h h' : Heap} {as : List Addr} (k : (hideAll h as).StaysIn h') (ha : ∀ a ∈ as, ∀ o, h.get? a = some o → h'.get? a = some o) : h.StaysIn h' := fun b o e => by
  by_cases hb : b ∈ as
  · exact ha b hb o e
  · exact k b o (hideAll_get _ e hb)
theorem hide_stays (h : Heap) (as : List Addr) : (hideAll h as).StaysIn h := fun _ _ e => of_hideAll as e
-- Norm3
theorem kind_ok {w : World} {dp un : Nat} {fr : Option (List Env)} {gd : Option (List Code)} {s : Shared} {R : Result → Shared → Prop} {mean : ExcName → Option Value} {mg mb : Str → Option Value} {n x : Str} {tn t : Tok}
   (X : (hd.heap_39 w.params).In s.heap) (T : Top hd.view_39 (looseW hd.view_39 [Str.ofString "normpath_posixpath", Str.ofString "normpath_posixpath2"]) mean mg mb s.heap)
   (hdp : dp < 950)
   (h : ∀ t' h' tk', s.heap.StaysIn h' → R (.ok (.ret (.str (Str.ofString "") t'))) { s with heap := h', toks := tk' }) :
   codeAny (model PySem.Challenge.rw_pd0042_01.row.prog w) (AA dp un fr gd) (.call (.ref 28) ⟨[.str n tn, .str x t], []⟩) R s := by
  have hh : (AA dp un fr gd).handled = none := rfl
  revert X; k_fill; intro X
  refine' enter (news := []) (binds := [(Str.ofString "name", .str n tn), (Str.ofString "x", .str x t)]) ?e1 ?e2 ?e3 X T ?e6 ?e7 ?e8 ?e9 ?e10 ?e11 ?_ ?e12 ?e13 ?e14
  case e1 => exact fun _ _ e => e
  case e2 => exact Nat.le_refl _
  case e3 => exact fun _ h => nomatch h
  case e6 => k_is
  case e7 => k_is
  case e8 => show dp < 1000; omega
  case e9 => exact BindsTo.of_eq rfl
  case e10 => exact locs rfl
  case e11 => decide
  case e12 => exact rfl
  case e13 => exact rfl
  case e14 => exact rfl
  w_on
  intro L' h1 F' N' l1
  (try dsimp only)
  k_fold
  k_steps
  rename Fr _ _ _ _ => F9
  exact h _ _ _ F9.keep
theorem cpath_ok {w : World} {dp un : Nat} {fr : Option (List Env)} {gd : Option (List Code)} {s : Shared} {R : Result → Shared → Prop} {mean : ExcName → Option Value} {mg mb : Str → Option Value} {a b c x : Str} {ta tb tc t : Tok} {C D : Addr}
   (X : (hd.heap_39 w.params).In (hideAll s.heap [D, C])) (T : Top hd.view_39 (looseW hd.view_39 [Str.ofString "normpath_posixpath", Str.ofString "normpath_posixpath2"]) mean mg mb (hideAll s.heap [D, C]))
   (hdp : dp < 940) (hCD : C < D) (hDm : (D == sysModules) = false)
   (hD : s.heap.get? D = some (dictOf [] 0)) (hC : s.heap.get? C = some ({ cls := .type "tuple", data := .seq #[.str x t] } : Obj))
   (h : ∀ (t' : Tok) h' tk', s.heap.StaysIn h' → R (.ok (.ret (.str x t))) { s with heap := h', toks := tk' }) :
   codeAny (model PySem.Challenge.rw_pd0042_01.row.prog w) (AA dp un fr gd) (.call (.ref 35) ⟨[.str a ta, .str b tb, .str c tc, .ref C, .ref D], []⟩) R s := by
  have hh : (AA dp un fr gd).handled = none := rfl
  revert X; k_fill; intro X
  refine' enter (news := [(D, dictOf [] 0), (C, ({ cls := .type "tuple", data := .seq #[.str x t] } : Obj))]) (binds := [(Str.ofString "name", .str a ta), (Str.ofString "cname", .str b tb), (Str.ofString "argname", .str c tc), (Str.ofString "args", .ref C), (Str.ofString "kwargs", .ref D)]) ?e1 ?e2 ?e3 X T ?e6 ?e7 ?e8 ?e9 ?e10 ?e11 ?_ ?e12 ?e13 ?e14
  case e1 => exact hide_stays _ _
  case e2 => exact Nat.le_of_eq (hideAll_size _ _)
  case e3 =>
    intro p hp
    rcases List.mem_cons.mp hp with rfl | hp
    · exact ⟨hD, hideAll_none _ (.head _)⟩
    · rw [List.mem_singleton.mp hp]
      exact ⟨hC, hideAll_none _ (.tail _ (.head _))⟩
  case e6 => k_is
  case e7 => k_is
  case e8 => show dp < 1000; omega
  case e9 => exact BindsTo.of_eq rfl
  case e10 => exact locs rfl
  case e11 => decide
  case e12 => exact rfl
  case e13 => exact rfl
  case e14 => exact rfl
  w_on
  intro L' h1 F' N' l1
  (try dsimp only)
  k_fold
  k_steps
  rename Fr _ _ _ _ => F9
  rename News _ _ _ _ => N9
  refine wpAny_truthy_dict (knd := strKind _ _) (kvs := []) hDm ⟨_, #[], 0, (N9 _ (.head _)).1, ⟨rfl, rfl, rfl⟩, rfl, by intro e he; simp at he, .nil, by simp⟩ (by decide) ?_
  k_steps
  rename Fr _ _ _ _ => F10
  rename News _ _ _ _ => N10
  refine use_pure (fun t' => .str (Str.ofString "") t') F10 N10 (fun R hR => kind_ok (X.keeps F10.keep) (T.keeps F10.keep) (by show dp + 1 < 950; omega) hR) ?_
  intro t' h11 tk11 F11 N11
  k_steps
  rename Fr _ _ _ _ => F12
  rename News _ _ _ _ => N12
  refine h tk11 _ _ (stays_of_hide F12.keep ?_)
  intro a ha o e
  rcases List.mem_cons.mp ha with rfl | ha
  · rw [hD] at e; cases e; exact (N12 _ (.head _)).1
  · rw [List.mem_singleton.mp ha] at e ⊢
    rw [hC] at e; cases e; exact (N12 _ (.tail _ (.head _))).1
theorem normpath_ok {w : World} {dp un : Nat} {fr : Option (List Env)} {gd : Option (List Code)} {s : Shared} {R : Result → Shared → Prop} {mean : ExcName → Option Value} {mg mb : Str → Option Value} {q : Str} {qs : List Str} {t : Tok}
   (X : (hd.heap_39 w.params).In s.heap) (T : Top hd.view_39 (looseW hd.view_39 [Str.ofString "normpath_posixpath", Str.ofString "normpath_posixpath2"]) mean mg mb s.heap)
   (hdp : dp < 930) (hq : NoSl q) (hqs : ∀ a ∈ qs, NoSl a) (hc : q ≠ Str.ofString "" ∨ qs = []) (hx : (pathOf (q :: qs)).length ≤ 1000)
   (h : ∀ t' h' tk', s.heap.StaysIn h' → R (.ok (.ret (.str (normT (q :: qs)) t'))) { s with heap := h', toks := tk' }) :
   codeAny (model PySem.Challenge.rw_pd0042_01.row.prog w) (AA dp un fr gd) (.call (.ref 56) ⟨[.str (pathOf (q :: qs)) t], []⟩) R s := by
  revert X; k_fill; intro X
  refine' enter_both (vs := [.str (pathOf (q :: qs)) t]) (nr := Str.ofString "args") (nm := Str.ofString "kwargs") X T ?e6 ?e7 ?e8 ?e9 ?e10 ?e11 ?e12 ?e13 ?_ ?e14 ?e15 ?e16
  case e6 => k_is
  case e7 => k_is
  case e8 => show dp < 1000; omega
  case e9 => exact rfl
  case e10 => exact fun _ => rfl
  case e11 => exact fun _ _ => rfl
  case e12 => exact fun _ _ => locs rfl
  case e13 => decide
  case e14 => exact rfl
  case e15 => exact rfl
  case e16 => exact rfl
  w_on
  intro C D L' h1 tk1 F' N' hCD hDm
  (try dsimp only)
  k_fold
  k_steps
  rename Fr _ _ _ _ => F9
  rename News _ _ _ _ => N9
  have hst := stays_hide F9 N9 (as := [D, C]) (fun a ha => by
    rcases List.mem_cons.mp ha with rfl | ha
    · exact ⟨_, .head _⟩
    · rw [List.mem_singleton.mp ha]; exact ⟨_, .tail _ (.head _)⟩)
  refine use_pure (fun _ => .str (pathOf (q :: qs)) t) F9 N9 (fun R hR => cpath_ok (X.keeps hst) (T.keeps hst) (by show dp + 1 < 940; omega) hCD hDm (N9 _ (.head _)).1 (N9 _ (.tail _ (.head _))).1 hR) ?_
  intro t' h10 tk10 F10 N10
  k_steps
  refine use_pure (fun t' => .str (normT (q :: qs)) t') F10 N10 (fun R hR => norm_ok (X.keeps F10.keep) (T.keeps F10.keep) (by show dp + 1 < 940; omega) hq hqs hc hx hR) ?_
  intro t' h11 tk11 F11 N11
  exact h _ _ _ F11.keep
-- IsSub
theorem kind_isn : builtinKind "issubclass.nested" = none := by decide +kernel
theorem plain_isn : plainId "issubclass.nested" = true := by decide +kernel
theorem args_isn (a b c : Value) : argsOk "issubclass.nested" ⟨[a, b, c], []⟩ := by unfold argsOk; kernel_rfl
theorem sub_str : isSubtype (.type "str") (.type "str") = pure true := by rw [isSubtype_type]; kernel_rfl
section
variable {prog : Program} {w : World} {A : Around} {E : Value → Shared → Prop} {s : Shared}
theorem isn_self {dep : Int} {tk : Tok} {Q : Fin → Shared → Prop} (hq : Q (.done (.ret (.bool true))) s) :
    wpAny (model prog w) A (Builtin.«issubclass.nested» ⟨[.type "str", .type "str", .int dep tk], []⟩) Q E s := by
  have hm : (Value.type "type" == Value.type "type") = true := by decide
  have hself := sub_str
  have ht : typeOf (.type "str") = pure (.type "type") := rfl
  repeat (any_goals (first | assumption | (rw [if_pos hm]) | (rw [hself]) | wp_step))
theorem isn_items {dep : Int} {cs : List Value} {s : Shared} {Q : Option Fin × Unit → Shared → Prop} (h : Q (some (.done (.ret (.bool true))), ()) s) :
    wpAny (model prog w) A (forIn (.type "str" :: cs) ((none : Option Fin), ()) fun c _ => do
      if ← truthy (← call (.builtin "issubclass.nested") [.type "str", c, rawInt (dep + 1)]) then
        let r ← ret (.bool true)
        pure (ForInStep.done (some r, ()))
      else pure (ForInStep.yield (none, ()))) Q E s := by
  rw [List.forIn_cons]
  refine wpAny_bind (wpAny_bind (call_function_entry kind_isn plain_isn F.entry_issubclass_nested (args_isn _ _ _) (isn_self ⟨_, rfl, ?_⟩)))
  refine wpAny_bind (m := truthy (.bool true)) (wpAny_pure ?_)
  exact wpAny_bind (wpAny_pure (wpAny_pure (wpAny_pure h)))
theorem isn_tuple {tp : Addr} {tk : Tok} {n : Nat} {cs : List Value} {Q : Fin → Shared → Prop} {s : Shared} (htp : s.heap.get? tp = some { cls := .type "tuple", data := .seq cs.toArray n }) (hcs : cs = [.type "str", .type "bytes"])
    (hq : Q (.done (.ret (.bool true))) s) : wpAny (model prog w) A (Builtin.«issubclass.nested» ⟨[.type "str", .ref tp, .int 0 tk], []⟩) Q E s := by
  obtain ⟨h, g, d, t, os⟩ := s
  have hT2 : (⟨h, g, d, t, os⟩ : Shared).TypeIs (.ref tp) "tuple" := ⟨_, htp, rfl⟩
  have f1 := F.isi_sub_tuple
  repeat (any_goals (first | assumption | wp_step))
  refine wpAny_arrayLoop ?_
  simp only [Option.getD_some, List.toList_toArray]
  rw [hcs]
  refine isn_items (dep := 0) ?_
  repeat (any_goals (first | assumption | wp_step))
theorem call_isub {D : Addr} {Q : Value → Shared → Prop} (hD : s.heap.get? D = some ({ cls := .type "tuple", data := .seq #[.type "str", .type "bytes"] } : Obj)) (h : Q (.bool true) s) :
    wpAny (model prog w) A (call (.builtin "issubclass") [.type "str", .ref D]) Q E s :=
  call_issubclass (S := fun _ R s => s.heap.get? D = some ({ cls := .type "tuple", data := .seq #[.type "str", .type "bytes"] } : Obj) ∧ R (.ok (.ret (.bool true))) s)
    (fun _ _ _ _ _ hs => issubclass_outer (isn_tuple (cs := [.type "str", .type "bytes"]) hs.1 rfl hs.2)) ⟨hD, h⟩
end
-- Norm4
theorem fspath_ok {w : World} {dp un : Nat} {fr : Option (List Env)} {gd : Option (List Code)} {s : Shared} {R : Result → Shared → Prop} {mean : ExcName → Option Value} {mg mb : Str → Option Value} {x : Str} {t : Tok}
   (X : (hd.heap_39 w.params).In s.heap) (T : Top hd.view_39 (looseW hd.view_39 [Str.ofString "normpath_posixpath", Str.ofString "normpath_posixpath2"]) mean mg mb s.heap)
   (hdp : dp < 950)
   (h : ∀ (t' : Tok) h' tk', s.heap.StaysIn h' → R (.ok (.ret (.str x t))) { s with heap := h', toks := tk' }) :
   codeAny (model PySem.Challenge.rw_pd0042_01.row.prog w) (AA dp un fr gd) (.call (.ref 134) ⟨[.str x t], []⟩) R s := by
  have hh : (AA dp un fr gd).handled = none := rfl
  revert X; k_fill; intro X
  refine' enter (news := []) (binds := [(Str.ofString "path", .str x t)]) ?e1 ?e2 ?e3 X T ?e6 ?e7 ?e8 ?e9 ?e10 ?e11 ?_ ?e12 ?e13 ?e14
  case e1 => exact fun _ _ e => e
  case e2 => exact Nat.le_refl _
  case e3 => exact fun _ h => nomatch h
  case e6 => k_is
  case e7 => k_is
  case e8 => show dp < 1000; omega
  case e9 => exact BindsTo.of_eq rfl
  case e10 => exact locs rfl
  case e11 => decide
  case e12 => exact rfl
  case e13 => exact rfl
  case e14 => exact rfl
  w_on
  intro L' h1 F' N' l1
  (try dsimp only)
  k_fold
  k_steps
  rename Fr _ _ _ _ => F9
  rename News _ _ _ _ => N9
  refine call_isub (N9 _ (.head _)).1 ?_
  k_steps
  rename Fr _ _ _ _ => F10
  exact h 0 _ _ F10.keep
theorem splitroot2_ok {w : World} {dp un : Nat} {fr : Option (List Env)} {gd : Option (List Code)} {s : Shared} {R : Result → Shared → Prop} {mean : ExcName → Option Value} {mg mb : Str → Option Value} {x : Str} {t : Tok}
   (X : (hd.heap_39 w.params).In s.heap) (T : Top hd.view_39 (looseW hd.view_39 [Str.ofString "normpath_posixpath", Str.ofString "normpath_posixpath2"]) mean mg mb s.heap)
   (hdp : dp < 940) (hx : x.length ≤ 1000)
   (hs1 : (Txt.slice x none (some 1) != Str.ofString "/") = false) (hs2 : (Txt.slice x (some 1) (some 2) != Str.ofString "/") = true)
   (h : ∀ D ob h' tk', s.heap.StaysIn h' → s.heap.get? D = none → h'.get? D = some ob → (∃ t1 t2 t3, ob = ({ cls := .type "tuple", data := .seq #[.str (Str.ofString "") t1, .str (Str.ofString "/") t2, .str (Txt.slice x (some 1) none) t3] } : Obj)) → R (.ok (.ret (.ref D))) { s with heap := h', toks := tk' }) :
   codeAny (model PySem.Challenge.rw_pd0042_01.row.prog w) (AA dp un fr gd) (.call (.ref 141) ⟨[.str x t], []⟩) R s := by
  have hh : (AA dp un fr gd).handled = none := rfl
  revert X; k_fill; intro X
  refine' enter (news := []) (binds := [(Str.ofString "p", .str x t)]) ?e1 ?e2 ?e3 X T ?e6 ?e7 ?e8 ?e9 ?e10 ?e11 ?_ ?e12 ?e13 ?e14
  case e1 => exact fun _ _ e => e
  case e2 => exact Nat.le_refl _
  case e3 => exact fun _ h => nomatch h
  case e6 => k_is
  case e7 => k_is
  case e8 => show dp < 1000; omega
  case e9 => exact BindsTo.of_eq rfl
  case e10 => exact locs rfl
  case e11 => decide
  case e12 => exact rfl
  case e13 => exact rfl
  case e14 => exact rfl
  w_on
  intro L' h1 F' N' l1
  (try dsimp only)
  k_fold
  k_steps
  rename Fr _ _ _ _ => F7
  rename News _ _ _ _ => N7
  refine use_pure (fun _ => .str x t) F7 N7 (fun R hR => fspath_ok (X.keeps F7.keep) (T.keeps F7.keep) (by show dp + 1 < 950; omega) hR) ?_
  intro t' h8 tk8 F8 N8
  k_steps
  all_goals first
    | (rename (Txt.slice x none (some 1) != Str.ofString "/") = true => hq; rw [hs1] at hq; cases hq)
    | (rename (Txt.slice x (some 1) (some 2) != Str.ofString "/") = false => hq; rw [hs2] at hq; cases hq)
    | (rename Fr _ _ _ _ => F9
       rename News _ _ _ _ => N9
       exact h _ _ _ _ F9.keep (N9 _ (.head _)).2.2 (N9 _ (.head _)).1 ⟨_, _, _, rfl⟩)
theorem norm2_ok {w : World} {dp un : Nat} {fr : Option (List Env)} {gd : Option (List Code)} {s : Shared} {R : Result → Shared → Prop} {mean : ExcName → Option Value} {mg mb : Str → Option Value} {q : Str} {qs : List Str} {t : Tok}
   (X : (hd.heap_39 w.params).In s.heap) (T : Top hd.view_39 (looseW hd.view_39 [Str.ofString "normpath_posixpath", Str.ofString "normpath_posixpath2"]) mean mg mb s.heap)
   (hdp : dp < 930) (hq : NoSl q) (hqs : ∀ a ∈ qs, NoSl a) (hc : q ≠ Str.ofString "" ∨ qs = []) (hx : (pathOf (q :: qs)).length ≤ 1000)
   (h : ∀ t' h' tk', s.heap.StaysIn h' → R (.ok (.ret (.str (normT (q :: qs)) t'))) { s with heap := h', toks := tk' }) :
   codeAny (model PySem.Challenge.rw_pd0042_01.row.prog w) (AA dp un fr gd) (.call (.ref 148) ⟨[.str (pathOf (q :: qs)) t], []⟩) R s := by
  have hs1 := path_head q qs
  have hs2 := path_second hq hc
  have hs3 := path_tail q qs
  have hx0 : 1 ≤ (pathOf (q :: qs)).length := by rw [len_toList, pathOf_toList]; simp
  generalize hxd : pathOf (q :: qs) = x at *
  have hh : (AA dp un fr gd).handled = none := rfl
  revert X; k_fill; intro X
  refine' enter (news := []) (binds := [(Str.ofString "path", .str x t)]) ?e1 ?e2 ?e3 X T ?e6 ?e7 ?e8 ?e9 ?e10 ?e11 ?_ ?e12 ?e13 ?e14
  case e1 => exact fun _ _ e => e
  case e2 => exact Nat.le_refl _
  case e3 => exact fun _ h => nomatch h
  case e6 => k_is
  case e7 => k_is
  case e8 => show dp < 1000; omega
  case e9 => exact BindsTo.of_eq rfl
  case e10 => exact locs rfl
  case e11 => decide
  case e12 => exact rfl
  case e13 => exact rfl
  case e14 => exact rfl
  w_on
  intro L' h1 F' N' l1
  (try dsimp only)
  k_fold
  k_steps
  rename Fr _ _ _ _ => F7
  rename News _ _ _ _ => N7
  refine use_pure (fun _ => .str x t) F7 N7 (fun R hR => fspath_ok (X.keeps F7.keep) (T.keeps F7.keep) (by show dp + 1 < 950; omega) hR) ?_
  intro t' h8 tk8 F8 N8
  k_steps
  case' _ => skip
  · rename Fr _ _ _ _ => F9
    rename News _ _ _ _ => N9
    refine use_new _ F9 N9 (fun R hR => splitroot2_ok (X.keeps F9.keep) (T.keeps F9.keep) (by show dp + 1 < 940; omega) hx hs1 hs2 hR) ?_
    rintro D ob h9 tk9 ⟨t1, t2, t3, rfl⟩ F10 N10 hne
    rw [hs3] at N10
    have hyl : (q ++ pathOf qs).length ≤ 1000 := by rw [← hs3]; exact Nat.le_trans (Txt.slice_le _ _ _) hx
    have hys := split_cat q qs hq hqs
    clear hs3 hs1 hs2
    generalize hyd : q ++ pathOf qs = y at *
    clear hyd hxd hq hqs hc
    have hys := PySem.Flt.Hid.mk hys
    k_steps
    rename Fr _ _ _ _ => F15
    rename News _ _ _ _ => N15
    rename_i h11 l2 h12 k12 hsp hsv hle hil h13 la h14 l1' h15
    have hlen := len_le_of_split hsp
    have hLv : (strValues l2).length = l2.length := by simp [strValues]
    refine iter_listS (fun i news => ∃ n vs, news = [(la, W.listOf (List.toArray vs) n)] ∧ StrsAre vs (stk ((l2.map (·.1)).take i)) ∧ vs.length ≤ i) (news := [(la, W.listOf #[] 0)]) rfl rfl rfl F15 N15 (.tail _ (.head _)) (fun p hp => by rw [List.mem_singleton.mp hp]; exact .head _) ?_ ?_ ?_
    · exact ⟨0, [], rfl, .nil, Nat.le_refl _⟩
    · rintro i v news₁ h tk I oI hv ⟨n, zs, rfl, hz, hzl⟩ hI hI2 F4 N4
      obtain ⟨p, tp, rfl, hp⟩ := hsv.item _ _ hv
      have hilt : i < l2.length := by simpa using (List.getElem?_eq_some_iff.mp hp).1
      have hst : stk ((l2.map (·.1)).take (i + 1)) = stepP (stk ((l2.map (·.1)).take i)) p := by
        rw [List.take_add_one, hp]
        exact stk_snoc _ _
      have hIs : h11.objs.size < I := hI _ (.tail _ (.head _))
      have haI : la < I := hI _ (.head _)
      have hpl : p.length ≤ 1000 := Nat.le_trans (hle p (List.mem_of_getElem? hp)) hyl
      have hIs := ltN hIs
      have haI := ltN haI
      show wpAny _ _ _ _ _ _
      k_fold
      k_steps
      · rename (p == Str.ofString ".") = true => hc1
        refine TurnEnd.cont F4 N4 (.head _) (.tail _ (.head _)) (news' := [_]) (fun p hp => .tail _ (.tail _ hp)) hI2 ⟨fun y hy => if_neg hy, _, _, rfl, ?_, by omega⟩
        rw [hst, beq_iff_eq.mp hc1]; exact hz
      · rename Fr _ _ _ _ => F9
        rename News _ _ _ _ => N9
        rename (p == Str.ofString ".") = false => hc1
        rename (p != Str.ofString "..") = true => hc2
        rename ((p.length : Int) ≠ 0) => hc0
        rw [List.push_toArray] at N9
        refine TurnEnd.next F9 N9 (.head _) (.tail _ (.head _)) (news' := [_]) (fun p hp => .tail _ (.tail _ hp)) (fun p hp => by rw [List.mem_singleton.mp hp]; exact Nat.ne_of_lt haI) ⟨fun y hy => if_neg hy, _, _, rfl, ?_, ?_⟩
        · rw [hst]
          have e0 : (p == Str.ofString "") = false := by rw [beq_emptyS_eq_lenZ]; simpa using hc0
          have e2 : (p == Str.ofString "..") = false := by simpa using hc2
          have e : stepP (stk ((l2.map (·.1)).take i)) p = stk ((l2.map (·.1)).take i) ++ [p] := by
            unfold stepP; rw [e2, bne, e0, bne, hc1]; rfl
          rw [e]
          exact hz.append' (.cons _ _ .nil)
        · rw [List.length_append]; simp; omega
      · refine Wait.mk ?_
        rename (p != Str.ofString "..") = false => hc2
        have e2 : (p == Str.ofString "..") = true := by simpa using hc2
        have e3 : stepP (stk ((l2.map (·.1)).take i)) p = (stk ((l2.map (·.1)).take i)).dropLast := by unfold stepP; rw [e2]; rfl
        rcases nil_or_snoc zs with rfl | ⟨ys, yl, rfl⟩
        · k_steps
          refine TurnEnd.next F4 N4 (.head _) (.tail _ (.head _)) (news' := [_]) (fun p hp => .tail _ (.tail _ hp)) hI2 ⟨fun y hy => if_neg hy, _, _, rfl, ?_, by omega⟩
          rw [hst, e3]; exact strs_dropLast hz
        · obtain ⟨b, tb, rfl, hb⟩ := hz.item ys.length yl (by simp)
          have hb2 : (b == Str.ofString "..") = false := by simpa using (stk_mem (List.mem_of_getElem? hb)).2.1
          have hyl2 : ys.length + 1 ≤ i := by simpa using hzl
          k_steps
          rename Fr _ _ _ _ => F9
          rename News _ _ _ _ => N9
          refine TurnEnd.next F9 N9 (.head _) (.tail _ (.head _)) (news' := [_]) (fun p hp => .tail _ (.tail _ hp)) (fun p hp => by rw [List.mem_singleton.mp hp]; exact Nat.ne_of_lt haI) ⟨fun y hy => if_neg hy, _, _, rfl, ?_, ?_⟩
          · rw [hst, e3]
            have h9 := strs_dropLast hz
            rwa [List.dropLast_concat] at h9
          · rw [List.length_append] at hzl; simp at hzl; omega
      · rename ((p.length : Int) = 0) => hc1
        refine TurnEnd.cont F4 N4 (.head _) (.tail _ (.head _)) (news' := [_]) (fun p hp => .tail _ (.tail _ hp)) hI2 ⟨fun y hy => if_neg hy, _, _, rfl, ?_, by omega⟩
        have e0 : (p == Str.ofString "") = true := by rw [beq_emptyS_eq_lenZ]; simpa using hc1
        rw [hst, beq_iff_eq.mp e0]; exact hz
    · rintro u news₁ h4 tk ⟨n, zs, rfl, hz, hzl⟩ F4 N4
      rw [hLv, show l2.length = (l2.map (·.1)).length by simp, List.take_length, hsp, hys.out] at hz
      have hmem : ∀ a ∈ stk (q :: qs), a.length ≤ 1000 := fun a ha => by
        have h8 := (stk_mem ha).1
        rw [← hys.out, ← hsp] at h8
        exact Nat.le_trans (hle a h8) hyl
      have hql : (q :: qs).length ≤ 1002 := by rw [← hys.out, ← hsp, List.length_map]; omega
      have hsl := stk_len (q :: qs)
      have hsum := sum_len_le (B := 1000) (stk (q :: qs)) hmem
      k_steps
      rename Fr _ _ _ _ => F9
      rename News _ _ _ _ => N9
      refine join_list (News.isList N9 (.head _)) hz ?_ ?_
      · rw [sl_len]; omega
      intro t' k
      have hjl := StrLaws.join_length_le (Str.ofString "/") (stk (q :: qs))
      rw [sl_len] at hjl
      rw [show Txt.join (Str.ofString "/") (stk (q :: qs)) = Str.join (Str.ofString "/") (stk (q :: qs)) from StrLaws.glued_eq_join _ _]
      have hJ : normT (q :: qs) = Str.ofString "/" ++ Str.join (Str.ofString "/") (stk (q :: qs)) := rfl
      have hJl : (Str.join (Str.ofString "/") (stk (q :: qs))).length ≤ 2000000 := by omega
      generalize Str.join (Str.ofString "/") (stk (q :: qs)) = jn at *
      clear hjl hsum hmem hz hle hsp hsv
      k_steps
      rename Fr _ _ _ _ => F11
      rw [hJ] at h
      exact h _ _ _ F11.keep
  · exfalso; omega
-- Lines3
open PyProof.V
section
variable {prog : Program} {w : World} {A : Around} {E : Value → Shared → Prop} {s : Shared} {d : Addr} {D : List (PyData × PyData)}
theorem get_str {x P e : Str} {t u : Tok} {Q : Value → Shared → Prop} (T : StrTab prog w s.heap d D) (hl : (lookup (.str x) D).getD (.str e) = .str P)
    (h : ∀ t', Q (.str P t') { s with toks := s.toks + 1 }) : wpAny (model prog w) A (call (.builtin "dict.get") [.ref d, .str x t, .str e u]) Q E s :=
  call_get2_strTab T (Flat.str e u) fun v hv => by
    rw [hl] at hv
    obtain ⟨t', rfl⟩ := hv.str_inv
    exact h t'
theorem item_str {value slice : Expr} {x P : Str} {t : Tok} {Q : Value → Shared → Prop} (T : StrTab prog w s.heap d D) (hl : lookup (.str x) D = some (.str P))
    (h : ∀ t', Q (.str P t') { s with toks := s.toks + 1 })
    (hs : subscripted slice false (.ref d) (.str x t) = operate [.ref d, .str x t] (getItem (.ref d) (.str x t)) := by with_unfolding_all rfl) :
    wpAny (model prog w) A (subscriptTail value slice (.ref d) (.str x t)) Q E s :=
  tab_tail T (getItem_tab same_str (strKind_is prog w x t) T hl fun v hv => by
    obtain ⟨t', rfl⟩ := hv.str_inv
    exact h t') hs
theorem lookup_put (k n : Str) (dv : PyData) (D : List (PyData × PyData)) : lookup (.str k) (putD (.str n) dv D) = if k = n then some dv else lookup (.str k) D := lookup_putK keyEnc_str k n dv D
theorem putD_len (n : Str) (dv : PyData) (D : List (PyData × PyData)) : (putD (.str n) dv D).length ≤ D.length + 1 := by
  cases h : (lookup (.str n) D) with
  | none => rw [putD_absent h]; simp
  | some v => rw [putD_present (by rw [h]; rfl)]; simp
end
theorem words_Lines3_22 : True := by
  k_with "call builtin:dict.get" => (k_here; k_dflt (show wpAny _ _ (call (Value.builtin "dict.get") [Value.ref _, Value.str _ _, Value.str _ _]) _ _ _); k_dflt (refine get_str (by k_tabat) (by assumption) ?_; k_whole); intro tz9)
  k_with "setItem ref str" => (k_here; k_dflt (refine setItem_K PyProof.V.same_str (strKind_is _ _ _ _) (by k_flat) (by k_asm) (by k_asm) (by k_updF) (by k_asm) (by k_asm) ?_ (by (simp only [sizeLine_eq]; omega))); intro hz9 oz9 Fz9 Nz9 hdz9 hfz9; (try dsimp only at Nz9); (try k_sweep))
  trivial
-- Base5
section
variable {prog : Program} {w : World} {A : Around} {E : Value → Shared → Prop} {s : Shared} {h₀ : Heap} {L l sl v : Addr} {m : Str → Option Value} {news : List (Addr × Obj)} {g : Obj → List (Addr × Obj)}
theorem mapSeq_any (f : Array Value → Array Value) (its : Array Value) (n : Nat) : ∃ n', Obj.mapSeq f { cls := .type "list", data := .seq its n } = W.listOf (f its) n' := by
  unfold Obj.mapSeq
  exact ⟨_, rfl⟩
theorem mid_bounds (k : Nat) : sliceBounds (some 1) (some (-1)) none (k + 2) = (((1 : Nat) : Int), ((k + 1 : Nat) : Int), 1) := by
  simp only [sliceBounds, Option.getD_none, show (1 : Int) > 0 by decide, if_true, if_pos (show (-1 : Int) < 0 by decide), if_neg (show ¬ (1 : Int) < 0 by decide)]
  refine Prod.ext ?_ (Prod.ext ?_ rfl)
  · dsimp only; omega
  · dsimp only; omega
/-- «xs[1:-1] = ys» -/
theorem setItem_mid {its new : List Value} {n : Nat} {a b : Value} {t1 t2 : Tok} {Q : Unit → Shared → Prop} (F : Fr h₀ L s.heap m) (N : News h₀ L s.heap news) (U : UpdF l (W.listOf (a :: (its ++ [b])).toArray n) news g)
    (hs : s.heap.IsSliceOf sl (.int 1 t1) (.int (-1) t2) .none) (hv : s.heap.IsList v new.toArray) (hne : l ≠ v) (hsz : its.length + 2 + new.length ≤ sizeLine)
    (h : ∀ h' n', Fr h₀ L h' m → News h₀ L h' (g (W.listOf (a :: (new ++ [b])).toArray n')) → Q () { s with heap := h' }) : wpAny (model prog w) A (setItem (.ref l) (.ref sl) (.ref v)) Q E s := by
  obtain ⟨pre, post, rfl, hg, ha, hb⟩ := U.split
  have z := N (l, W.listOf (a :: (its ++ [b])).toArray n) (List.mem_append.mpr (.inr (.head _)))
  have hl : s.heap.IsList l (a :: (its ++ [b])).toArray := ⟨_, z.1, rfl, n, rfl⟩
  obtain ⟨ov, hov, hcv, nv, hdv⟩ := id hv
  obtain ⟨os, hos, hcs, hds⟩ := id hs
  have hTs : s.TypeIs (.ref sl) "slice" := ⟨os, hos, hcs⟩
  have hTv : s.TypeIs (.ref v) "list" := ⟨ov, hov, hcv⟩
  unfold setItem
  try with_reducible refine wpAny_holding ?_
  first | refine wpAny_bind (wpAny_pure ?_) | skip
  refine wpAny_bind (wpAny_sequenceKey hl.typeIs (by decide) ?_)
  refine wpAny_bind (wpAny_callSpecial?_slot (name := Str.ofString "__setitem__") hl.typeIs slot_list_setitem
    (wpAny_call_entry slot_list_setitem hl.typeIs entry_list_setitem ?_ (args_list_setitem _ _ _)))
  show wpAny _ _ (Builtin.List.listSubscript? (.ref sl) >>= _) _ _ s
  refine wpAny_bind ?_
  unfold Builtin.List.listSubscript?
  refine wpAny_bind (wpAny_specialOf hTs slice_no_index ?_)
  simp only [Option.isNone_none, if_true]
  refine wpAny_pure ?_
  show wpAny _ _ (typeOf (.ref sl) >>= _) _ _ s
  refine wpAny_bind (wpAny_typeOf hTs ?_)
  rw [if_neg (by decide)]
  rw [listSliceParts_eq]
  refine wpAny_bind (wpAny_bind (wpAny_field hos hds (x := .none) rfl (wpAny_bind (wpAny_listPart .none ?_))))
  rw [if_neg (show ¬ ((rawPart none == rawInt 0) = true) from Bool.false_ne_true)]
  refine wpAny_bind (wpAny_field hos hds (x := .int 1 t1) rfl (wpAny_bind (wpAny_listPart (.int 1 t1) ?_)))
  refine wpAny_bind (wpAny_field hos hds (x := .int (-1) t2) rfl (wpAny_bind (wpAny_listPart (.int (-1) t2) (wpAny_pure ?_))))
  have e0 : Builtin.List.listSameRef (.ref l) (.ref v) = false := by simpa [Builtin.List.listSameRef] using hne
  rw [e0]
  simp only [Bool.false_eq_true, if_false]
  refine wpAny_bind ?_
  unfold Builtin.List.listAllItems
  refine wpAny_bind (wpAny_typeOf hTv ?_)
  rw [if_pos (by decide)]
  unfold Builtin.List.listItems
  refine wpAny_bind (wpAny_seqItems hov hdv (wpAny_pure ?_))
  refine wpAny_bind (wpAny_bind (wpAny_seqItems z.1 rfl (wpAny_pure ?_)))
  refine wpAny_bind (wpAny_of_eq (sliceIndices_raw (some 1) (some (-1)) none _ (by simp)) ?_)
  have hlen : (a :: (its ++ [b])).toArray.size = its.length + 2 := by simp
  rw [hlen, mid_bounds]
  rw [if_pos (show (((1 : Int) == 1) = true) from rfl)]
  have hbig : Builtin.List.listTooLong (its.length + 2 + new.toArray.size) = false := by
    simp [Builtin.List.listTooLong]; omega
  rw [hbig]
  simp only [Bool.false_eq_true, if_false]
  have e1 : (((1 : Nat) : Int)).toNat = 1 := rfl
  have e2 : (max ((1 : Nat) : Int) ((its.length + 1 : Nat) : Int)).toNat = its.length + 1 := by omega
  rw [e1, e2]
  have e3 : (a :: (its ++ [b])).toArray.extract 0 1 ++ new.toArray ++ (a :: (its ++ [b])).toArray.extract (its.length + 1) = (a :: (new ++ [b])).toArray := by
    apply Array.toList_inj.mp
    simp
  refine wpAny_bind (wpAny_rule ?_)
  refine wpAny_bind ?_
  unfold Builtin.List.listUpdate
  dsimp only
  refine wpAny_updateSeq z.1 rfl ?_ (by rw [hlen]; omega) (by rw [e3]; simp; omega)
  refine wpAny_bind (wpAny_letGo ?_)
  refine wpAny_pure ⟨_, rfl, wpAny_pure ?_⟩
  obtain ⟨n', en⟩ := mapSeq_any (fun xs => xs.extract 0 1 ++ new.toArray ++ xs.extract (its.length + 1)) (a :: (its ++ [b])).toArray n
  have en' := en.trans (congrArg (fun z => W.listOf z n') e3)
  refine h _ n' (F.change (Heap.SameBut.update ..) z.2.1 z.2.2) ?_
  rw [hg]
  refine news_set N ha hb (Heap.SameBut.update ..) ?_
  rw [Heap.get?_update_self _ z.1 (by rw [en]; rfl)]
  exact congrArg some en'
/-- «del xs[1]» -/
theorem delItem_1 {its : List Value} {n : Nat} {a x : Value} {u : Tok} {Q : Unit → Shared → Prop} (F : Fr h₀ L s.heap m) (N : News h₀ L s.heap news) (U : UpdF l (W.listOf (a :: x :: its).toArray n) news g)
    (hsz : its.length + 2 ≤ sizeLine) (h : ∀ h' n', Fr h₀ L h' m → News h₀ L h' (g (W.listOf (a :: its).toArray n')) → Q () { s with heap := h' }) : wpAny (model prog w) A (delItem (.ref l) (.int 1 u)) Q E s := by
  obtain ⟨pre, post, rfl, hg, ha, hb⟩ := U.split
  have z := N (l, W.listOf (a :: x :: its).toArray n) (List.mem_append.mpr (.inr (.head _)))
  refine delItem_at (k := 1) z.1 (by decide) ?_ (fun h' hs ho' => ?_) (by simp; omega)
  · have e : (a :: x :: its).toArray.size = its.length + 2 := by simp
    rw [e]
    simp only [seqIndex?, if_neg (show ¬ (1 : Int) < 0 by decide)]
    rw [if_pos]
    · rfl
    · simp; omega
  · refine h h' (n + 1) (F.change hs z.2.1 z.2.2) ?_
    rw [hg]
    exact news_set N ha hb hs ho'
theorem item_1 {value slice : Expr} {its : List Value} {a x : Value} {u : Tok} {Q : Value → Shared → Prop} (hl : s.heap.IsList l (a :: x :: its).toArray) (h : Q x s)
    (hs : subscripted slice false (.ref l) (.int 1 u) = operate [.ref l, .int 1 u] (getItem (.ref l) (.int 1 u)) := by with_unfolding_all rfl) :
    wpAny (model prog w) A (subscriptTail value slice (.ref l) (.int 1 u)) Q E s :=
  tail_any hl.typeIs slot_list_getitem.lookup (wpAny_getItem_list hl (by decide) (by decide) (by simp) h) hs
end
theorem ne_dict {prog : Program} {w : World} {K : Type} [DecidableEq K] {knd : KeyKind prog w K} {kvs : List (K × Value)} {h₀ h : Heap} {L l d : Addr} {o : Obj} {news : List (Addr × Obj)} {xs : Array Value} {n : Nat} (N : News h₀ L h news) (h1 : (l, W.listOf xs n) ∈ news) (h2 : (d, o) ∈ news) (ho : o.IsDictOf knd kvs) : @Ne Nat d l := by
  intro e
  have a := (N _ h1).1
  have b := (N _ h2).1
  dsimp only at a b
  rw [e, a] at b
  cases b
  obtain ⟨es, ep, _, hd, _⟩ := ho
  cases hd
theorem strs_cons_inv {vs : List Value} {a : Str} {as : List Str} (h : StrsAre vs (a :: as)) : ∃ t ws, vs = .str a t :: ws ∧ StrsAre ws as := by
  cases h with
  | cons _ t hs => exact ⟨t, _, rfl, hs⟩
theorem strs_snoc_inv : ∀ {as : List Str} {vs : List Value} {b : Str}, StrsAre vs (as ++ [b]) → ∃ t ws, vs = ws ++ [.str b t] ∧ StrsAre ws as
  | [], vs, b, h => by
    obtain ⟨t, ws, rfl, h2⟩ := strs_cons_inv h
    cases h2
    exact ⟨t, [], rfl, .nil⟩
  | a :: as, vs, b, h => by
    obtain ⟨t, ws, rfl, h2⟩ := strs_cons_inv h
    obtain ⟨t2, ws2, rfl, h3⟩ := strs_snoc_inv h2
    exact ⟨t2, .str a t :: ws2, rfl, .cons _ _ h3⟩
theorem pick_mid (a b : Value) (its : List Value) : slicePick (a :: (its ++ [b])).toArray (some 1) (some (-1)) none = its.toArray := by
  have hlen : (a :: (its ++ [b])).toArray.size = its.length + 2 := by simp
  have e : sliceBounds (some 1) (some (-1)) none (a :: (its ++ [b])).toArray.size = (((1 : Nat) : Int), ((its.length + 1 : Nat) : Int), 1) := by rw [hlen]; exact mid_bounds _
  rw [kmk_pick_nat _ e]
  simp
def keepP (p : Str) : Bool := p != Str.ofString "" && p != Str.ofString "."
theorem pathOf_snoc (ps : List Str) (p : Str) : pathOf ps ++ Str.ofString "/" ++ p = pathOf (ps ++ [p]) := by
  rw [pathOf_append]
  show _ = pathOf ps ++ (Str.ofString "/" ++ p ++ pathOf [])
  rw [show pathOf [] = Str.empty from rfl, Str.append_empty, Str.append_assoc]
theorem mem_len {ps : List Str} {p : Str} (h : p ∈ ps) : p.length + 1 ≤ (pathOf ps).length := by
  induction ps with
  | nil => cases h
  | cons a ps ih =>
    have e : (pathOf (a :: ps)).length = 1 + a.length + (pathOf ps).length := by
      show (Str.ofString "/" ++ a ++ pathOf ps).length = _
      rw [Str.length_append, Str.length_append, sl_len]
    rcases List.mem_cons.mp h with rfl | h
    · omega
    · have := ih h; omega
theorem path_len (ps : List Str) : (pathOf ps).length = (ps.map (·.length)).sum + ps.length := by
  induction ps with
  | nil => rfl
  | cons a ps ih =>
    have e : (pathOf (a :: ps)).length = 1 + a.length + (pathOf ps).length := by
      show (Str.ofString "/" ++ a ++ pathOf ps).length = _
      rw [Str.length_append, Str.length_append, sl_len]
    rw [e, ih]
    simp; omega
theorem path_len_append (ps qs : List Str) : (pathOf (ps ++ qs)).length = (pathOf ps).length + (pathOf qs).length := by
  rw [pathOf_append, Str.length_append]
theorem path_len_one (p : Str) : (pathOf [p]).length = p.length + 1 := by
  rw [path_len]; simp
theorem stepP_plen (st : List Str) (p : Str) : (pathOf (stepP st p)).length ≤ (pathOf st).length + (p.length + 1) := by
  unfold stepP
  split
  · rcases nil_or_snoc st with rfl | ⟨ys, y, rfl⟩
    · exact Nat.le_add_right _ _
    · rw [List.dropLast_concat, path_len_append]; omega
  · split
    · rw [path_len_append, path_len_one]; exact Nat.le_refl _
    · omega
theorem foldl_plen : ∀ (ps st : List Str), (pathOf (ps.foldl stepP st)).length ≤ (pathOf st).length + (pathOf ps).length
  | [], _ => Nat.le_add_right _ _
  | p :: ps, st => by
    have h1 := foldl_plen ps (stepP st p)
    have h2 := stepP_plen st p
    have h3 := path_len_append [p] ps
    rw [List.singleton_append, path_len_one] at h3
    rw [List.foldl_cons]
    omega
theorem stk_plen (ps : List Str) : (pathOf (stk ps)).length ≤ (pathOf ps).length := by
  have h := foldl_plen ps []
  have e : (pathOf []).length = 0 := rfl
  rw [e] at h
  unfold stk
  omega
theorem path_ends {ys : List Str} {y : Str} (h1 : NoSl y) (h2 : y ≠ Str.ofString "") : Txt.endswith (pathOf (ys ++ [y])) (Str.ofString "/") = false := by
  have hy : 1 ≤ y.length := by
    rcases Nat.eq_zero_or_pos y.length with h | h
    · exact absurd (by rw [em_is]; exact str_ext (by rw [len_toList] at h; exact List.length_eq_zero_iff.mp h)) h2
    · exact h
  rw [← pathOf_snoc, KAf.ends_right (by rw [sl_len]; exact hy), sl_is]
  cases e : Txt.endswith y ⟨#[47]⟩ with
  | false => rfl
  | true =>
    exfalso
    unfold Txt.endswith at e
    rw [Nat.zero_add, Bool.and_eq_true, decide_eq_true_eq] at e
    have hl1 : (⟨#[47]⟩ : Str).length = 1 := rfl
    have h3 := (StrLaws.subAt_one y 47 (y.length - (⟨#[47]⟩ : Str).length)).mp ⟨by rw [hl1]; omega, e.2⟩
    exact h1 (List.mem_of_getElem? h3)
theorem normT_nil {ps : List Str} (h : stk ps = []) : normT ps = Str.ofString "/" := by
  unfold normT
  rw [h]
  exact Str.append_empty _
theorem normT_cons {ps : List Str} (h : stk ps ≠ []) : normT ps = pathOf (stk ps) := by
  unfold normT
  cases e : stk ps with
  | nil => exact absurd e h
  | cons a as =>
    rw [join_sl]
    show _ = Str.ofString "/" ++ a ++ pathOf as
    rw [Str.append_assoc]
-- Lines4
section
variable {prog : Program} {w : World} {A : Around} {E : Value → Shared → Prop} {s : Shared} {h₀ : Heap} {L l v : Addr} {m : Str → Option Value} {news : List (Addr × Obj)} {g : Obj → List (Addr × Obj)}
theorem setItem_midP {its new : List Value} {n : Nat} {a b : Value} {t1 t2 : Tok} {Q : Unit → Shared → Prop} (F : Fr h₀ L s.heap m) (N : News h₀ L s.heap news) (U : UpdF l (W.listOf (a :: (its ++ [b])).toArray n) news g)
    (hv : s.heap.IsList v new.toArray) (hne : l ≠ v) (hsz : its.length + 2 + new.length ≤ sizeLine)
    (h : ∀ h' n', Fr h₀ L h' m → News h₀ L h' (g (W.listOf (a :: (new ++ [b])).toArray n')) → Q () { s with heap := h' }) :
    wpAny (model prog w) A (setItem (.ref l) (.ref s.heap.objs.size) (.ref v)) Q E { s with heap := s.heap.push { cls := .type "slice", data := .fields #[.int 1 t1, .int (-1) t2, .none] } } :=
  setItem_mid (s := { s with heap := s.heap.push _ }) (F.push _) (News.pushKeep N _) U (Heap.IsSliceOf.new _ _ _ _) (hv.push _) hne hsz h
end
theorem words_Lines4_8 : True := by
  k_with "subscriptTail Name Slice ref ref" => (k_here; (with_reducible show wpAny _ _ (subscriptTail _ (PySem.Expr.Slice (some _) (some _) none _) (Value.ref _) (Value.ref _)) _ _ _); k_dflt (refine kmk_slice_lit (by k_asm) (by k_asm) (by kmk_list) (by kmk_part) (by kmk_part) (by exact congrArg Array.toList (pick_mid _ _ _)) ?_ (by with_unfolding_all rfl) (by kmk_pure) (by walk_at "m_size")); intro Dz9 hz9 Fz9 Nz9 lz9; (try k_lt lz9); (try k_sweep))
  k_with "setItem ref ref" => (k_here; k_dflt (refine setItem_midP (by k_asm) (by k_asm) (by k_updF) (by kmk_list) (by first | assumption | omega) (by walk_at "m_size") ?_); intro hz9 nz9 Fz9 Nz9; (try dsimp only at Nz9); (try k_sweep))
  k_with "delItem ref int" => (k_here; k_dflt (refine delItem_1 (by k_asm) (by k_asm) (by k_updF) (by walk_at "m_size") ?_); intro hz9 nz9 Fz9 Nz9; (try dsimp only at Nz9); (try k_sweep))
  k_with "subscriptTail Name Constant ref int" => (k_here; (with_reducible show wpAny _ _ (subscriptTail _ _ (Value.ref _) (Value.int 1 _)) _ _ _); k_dflt (refine item_1 (by kmk_list) ?_ (by with_unfolding_all rfl); k_whole))
  k_with "call builtin:str.join" => (k_here; k_dflt (show wpAny _ _ (call (Value.builtin "str.join") [Value.str _ _, Value.ref _]) _ _ _); k_dflt (refine join_list (by kmk_list) (by assumption) (by assumption) ?_); intro tz9 kz9')
  trivial
def NameIs (v : Value) (nm : Str) : Prop := if nm = Str.ofString "." then v = .none else ∃ t, v = .str nm t
def shiftS (ss : List Str) (nm : Str) : Str := if nm = Str.ofString "" then pathOf (stk (ss ++ [nm])) ++ Str.ofString "/" else pathOf (stk (ss ++ [nm]))
theorem len_zero {a : Str} (h : (a.length : Int) = 0) : a = Str.ofString "" := by
  have e : (a == Str.ofString "") = true := by rw [beq_emptyS_eq_lenZ]; simpa using h
  exact beq_iff_eq.mp e
theorem len_nz {a : Str} (h : (a.length : Int) ≠ 0) : a ≠ Str.ofString "" := by
  have e : (a == Str.ofString "") = false := by rw [beq_emptyS_eq_lenZ]; simpa using h
  exact beq_eq_false_iff_ne.mp e
-- Shift
theorem shift_ok {w : World} {dp un : Nat} {fr : Option (List Env)} {gd : Option (List Code)} {s : Shared} {R : Result → Shared → Prop} {mean : ExcName → Option Value} {mg mb : Str → Option Value} {d : Addr} {o : Obj} {kvs : List (Str × Value)} {DD : List (PyData × PyData)} {ini ss rest : List Str} {la nm : Str}
   (X : (hd.heap_39 w.params).In (hideAll s.heap [d])) (T : Top hd.view_39 (looseW hd.view_39 [Str.ofString "normpath_posixpath", Str.ofString "normpath_posixpath2"]) mean mg mb (hideAll s.heap [d]))
   (hdp : dp < 920) (hd0 : s.heap.get? d = some o) (hdm : (d == sysModules) = false)
   (ho : o.IsDictOf (strKind PySem.Challenge.rw_pd0042_01.row.prog w) kvs) (hf : FlatPairs PyData.str kvs DD) (hDl : DD.length ≤ 100)
   (hP : (lookup (.str (Str.ofString "PATH_INFO")) DD).getD (.str (Str.ofString "")) = .str (pathOf (ini ++ [la])))
   (hS : (lookup (.str (Str.ofString "SCRIPT_NAME")) DD).getD (.str (Str.ofString "")) = .str (pathOf ss))
   (hPl : (pathOf (ini ++ [la])).length ≤ 500) (hSl : (pathOf ss).length ≤ 400)
   (hnm : ini.filter keepP ++ [la] = nm :: rest) (hn1 : ∀ a ∈ ini ++ [la], NoSl a) (hn2 : ∀ a ∈ ss, NoSl a) (hn3 : ∀ a ∈ ss.head?, a ≠ Str.ofString "")
   (h : ∀ v h' o' kvs' tk', (hideAll s.heap [d]).StaysIn h' → h'.get? d = some o' → o'.IsDictOf (strKind PySem.Challenge.rw_pd0042_01.row.prog w) kvs' →
      FlatPairs PyData.str kvs' (putD (.str (Str.ofString "PATH_INFO")) (.str (pathOf rest)) (putD (.str (Str.ofString "SCRIPT_NAME")) (.str (shiftS ss nm)) DD)) → NameIs v nm → R (.ok (.ret v)) { s with heap := h', toks := tk' }) :
   codeAny (model PySem.Challenge.rw_pd0042_01.row.prog w) (AA dp un fr gd) (.call (.ref 61) ⟨[.ref d], []⟩) R s := by
  have hP0 : 1 ≤ (pathOf (ini ++ [la])).length := by rw [path_len_append, path_len_one]; omega
  have hsp0 := split_path _ hn1
  have hsp0 := PySem.Flt.Hid.mk hsp0
  generalize hxd : pathOf (ini ++ [la]) = x at *
  have hh : (AA dp un fr gd).handled = none := rfl
  revert X; k_fill; intro X
  refine' enter (news := [(d, o)]) (binds := [(Str.ofString "environ", .ref d)]) ?e1 ?e2 ?e3 X T ?e6 ?e7 ?e8 ?e9 ?e10 ?e11 ?_ ?e12 ?e13 ?e14
  case e1 => exact hide_stays _ _
  case e2 => exact Nat.le_of_eq (hideAll_size _ _)
  case e3 =>
    intro p hp
    rw [List.mem_singleton.mp hp]
    exact ⟨hd0, hideAll_none _ (.head _)⟩
  case e6 => k_is
  case e7 => k_is
  case e8 => show dp < 1000; omega
  case e9 => exact BindsTo.of_eq rfl
  case e10 => exact locs rfl
  case e11 => decide
  case e12 => exact rfl
  case e13 => exact rfl
  case e14 => exact rfl
  w_on
  intro L' h1 F' N' l1
  (try dsimp only)
  k_fold
  k_steps
  case' _ => skip
  · refine Wait.mk ?_
    rename Fr _ _ _ _ => F9
    rename News _ _ _ _ => N9
    rename StrsAre _ _ => hsv
    rename (List.map _ _ = Txt.split _ _) => hsp
    rename (∀ a ∈ List.map _ _, _) => hle
    rename Heap.IsList _ _ _ => hil
    rename List (Str × Tok) => l2
    rw [hsp, hsp0.out] at hsv
    rw [hsp, hsp0.out] at hle
    obtain ⟨t0, ws0, e0, hz0⟩ := strs_cons_inv hsv
    obtain ⟨t1, ws, e1, hz⟩ := strs_snoc_inv hz0
    rw [e1] at e0
    rw [e0] at N9 hil hsv
    rw [pick_mid] at N9
    have hwl := hz.length
    have hsum := path_len (ini ++ [la])
    rw [hxd, List.length_append, List.length_singleton] at hsum
    clear e0 e1 hz0 hsp
    refine comp_strs (pz := keepP) (f := fun p => p) rfl (News.isList N9 (.head _)) hz F9 N9 ?_ ?_ ?_ ?_
    · intro C a t s₂ m₂ E' ha hn hm
      have := hle a (.tail _ (List.mem_append_left _ ha))
      exact one_test (test_and hn hm (hsz := by omega))
    · intro C a t s₂ m₂ E' ha _ hn hm
      exact elt_name hn hm
    · intro D zs' n' h' tk' F5 N5 hD hz'
      rw [List.map_id'] at hz'
      have hkl : (ini.filter keepP).length ≤ ini.length := List.length_filter_le _ _
      have hzl := hz'.length
      have N6 : News _ L' h' [(D, _), (_, W.listOf _ 0), (d, o)] := fun p hp => N5 p (by
        rcases List.mem_cons.mp hp with rfl | hp
        · exact .head _
        · exact .tail _ (.tail _ hp))
      have q1 := ne_dict N6 (.head _) (.tail _ (.tail _ (.head _))) ho
      have q2 := ne_dict N6 (.tail _ (.head _)) (.tail _ (.tail _ (.head _))) ho
      have q3 := neN (hD _ (.tail _ (.head _)))
      dsimp only at q3
      clear N5 N9 hD hil hsv
      k_steps
      rename Fr _ _ _ _ => F7
      rename News _ _ _ _ => N7
      have hz7 := hz'.append' (.cons la t1 .nil)
      rw [hnm] at hz7
      obtain ⟨t5, rs, e5, hr⟩ := strs_cons_inv hz7
      rw [e5] at N7
      have hrl := hr.length
      have hrl2 := congrArg List.length hnm
      rw [List.length_append, List.length_singleton, List.length_cons] at hrl2
      have hnml : nm ∈ ini ++ [la] := by
        have h8 : nm ∈ ini.filter keepP ++ [la] := by rw [hnm]; exact .head _
        rcases List.mem_append.mp h8 with h8 | h8
        · exact List.mem_append_left _ (List.mem_filter.mp h8).1
        · exact List.mem_append_right _ h8
      have hnl := hle nm (.tail _ hnml)
      have hrle : ∀ a ∈ rest, a.length ≤ x.length := fun a ha => hle a (.tail _ (by
        have h8 : a ∈ ini.filter keepP ++ [la] := by rw [hnm]; exact .tail _ ha
        rcases List.mem_append.mp h8 with h8 | h8
        · exact List.mem_append_left _ (List.mem_filter.mp h8).1
        · exact List.mem_append_right _ h8))
      have hst : StrsAre (Value.str (Str.ofString "") t0 :: rs) (Str.ofString "" :: rest) := .cons _ _ hr
      have hjo : Txt.join (Str.ofString "/") (Str.ofString "" :: rest) = pathOf rest := by rw [txt_join_sl, em_is, Str.empty_append]
      have hjz : ((Str.ofString "" :: rest).map (·.length)).sum + (Str.ofString "" :: rest).length * (Str.ofString "/").length ≤ 16777216 := by
        have h1 := sum_len_le (B := 500) rest (fun a ha => Nat.le_trans (hrle a ha) hPl)
        have h2 : (Str.ofString "").length = 0 := by decide +kernel
        rw [List.map_cons, List.sum_cons, List.length_cons, h2, sl_len]; omega
      clear hz7 e5 hle hz hz' hwl
      k_steps
      rename Fr _ _ _ _ => F10
      rename News _ _ _ _ => N10
      rw [pathOf_snoc]
      have hpl := path_len_append ss [nm]
      rw [path_len_one] at hpl
      have hN : ∃ q qs, ss ++ [nm] = q :: qs ∧ (q ≠ Str.ofString "" ∨ qs = []) ∧ NoSl q ∧ (∀ a ∈ qs, NoSl a) := by
        have hnn := hn1 nm hnml
        cases ss with
        | nil => exact ⟨nm, [], rfl, .inr rfl, hnn, by simp⟩
        | cons b bs =>
          refine ⟨b, bs ++ [nm], rfl, .inl (hn3 b rfl), hn2 b (.head _), fun a ha => ?_⟩
          rcases List.mem_append.mp ha with ha | ha
          · exact hn2 a (.tail _ ha)
          · rw [List.mem_singleton.mp ha]; exact hnn
      obtain ⟨q, qs, eq, hq1, hq2, hq3⟩ := hN
      have hsS : shiftS ss nm = if nm = Str.ofString "" then pathOf (stk (ss ++ [nm])) ++ Str.ofString "/" else pathOf (stk (ss ++ [nm])) := rfl
      rw [eq] at hpl hsS ⊢
      refine use_pure (fun t' => .str (normT (q :: qs)) t') F10 N10 (fun R hR => normpath_ok (X.keeps F10.keep) (T.keeps F10.keep) (by show dp + 1 < 930; omega) hq2 hq3 hq1 (by omega) hR) ?_
      intro t8 h11 tk11 F11 N11
      have hsl := stk_plen (q :: qs)
      have hsmem := fun a (ha : a ∈ stk (q :: qs)) => stk_mem ha
      rcases nil_or_snoc (stk (q :: qs)) with e6 | ⟨ys, y, e6⟩
      · rw [normT_nil e6]
        rw [e6, show pathOf [] = Str.ofString "" from em_is.symm] at hsS
        k_steps
        all_goals
          rename Fr _ _ _ _ => F20
          rename News _ _ _ _ => N20
          rename (Obj.IsDictOf _ _ _) => hd20
          rename (FlatPairs _ _ _) => hf20
          rw [hjo] at hd20 hf20
          refine h _ _ _ _ _ F20.keep (N20 _ (.tail _ (.tail _ (.head _)))).1 hd20 ?_ ?_
          · rw [hsS]
            first
            | (rename ((nm.length : Int) = 0) => hc; rw [if_pos (len_zero hc)]; exact hf20)
            | (rename ((nm.length : Int) ≠ 0) => hc; rw [if_neg (len_nz hc)]; exact hf20)
          · unfold NameIs
            first
            | (rename ((nm == Str.ofString ".") = true) => hc; rw [if_pos (beq_iff_eq.mp hc)]; done)
            | (rename ((nm == Str.ofString ".") = false) => hc; rw [if_neg (beq_eq_false_iff_ne.mp hc)]; exact ⟨_, rfl⟩)
      · have hne : stk (q :: qs) ≠ [] := by rw [e6]; simp
        rw [normT_cons hne]
        have hy := hsmem y (by rw [e6]; simp)
        have hyn : NoSl y := by
          rcases List.mem_cons.mp hy.1 with h9 | h9
          · rw [h9]; exact hq2
          · exact hq3 _ h9
        have hend : Txt.endswith (pathOf (stk (q :: qs))) (Str.ofString "/") = false := by rw [e6]; exact path_ends hyn hy.2.2.1
        generalize pathOf (stk (q :: qs)) = z at *
        k_steps
        all_goals
          rename Fr _ _ _ _ => F20
          rename News _ _ _ _ => N20
          rename (Obj.IsDictOf _ _ _) => hd20
          rename (FlatPairs _ _ _) => hf20
          rw [hjo] at hd20 hf20
          refine h _ _ _ _ _ F20.keep (N20 _ (.tail _ (.tail _ (.head _)))).1 hd20 ?_ ?_
          · rw [hsS]
            first
            | (rename ((nm.length : Int) = 0) => hc; rw [if_pos (len_zero hc)]; exact hf20)
            | (rename ((nm.length : Int) ≠ 0) => hc; rw [if_neg (len_nz hc)]; exact hf20)
          · unfold NameIs
            first
            | (rename ((nm == Str.ofString ".") = true) => hc; rw [if_pos (beq_iff_eq.mp hc)]; done)
            | (rename ((nm == Str.ofString ".") = false) => hc; rw [if_neg (beq_eq_false_iff_ne.mp hc)]; exact ⟨_, rfl⟩)
    · rw [sizeLine_eq]; omega
  · exfalso; omega
-- Shift0
theorem shift_none {w : World} {dp un : Nat} {fr : Option (List Env)} {gd : Option (List Code)} {s : Shared} {R : Result → Shared → Prop} {mean : ExcName → Option Value} {mg mb : Str → Option Value} {d : Addr} {o : Obj} {kvs : List (Str × Value)} {DD : List (PyData × PyData)}
   (X : (hd.heap_39 w.params).In (hideAll s.heap [d])) (T : Top hd.view_39 (looseW hd.view_39 [Str.ofString "normpath_posixpath", Str.ofString "normpath_posixpath2"]) mean mg mb (hideAll s.heap [d]))
   (hdp : dp < 920) (hd0 : s.heap.get? d = some o) (hdm : (d == sysModules) = false)
   (ho : o.IsDictOf (strKind PySem.Challenge.rw_pd0042_01.row.prog w) kvs) (hf : FlatPairs PyData.str kvs DD) (hDl : DD.length ≤ 100)
   (hP : (lookup (.str (Str.ofString "PATH_INFO")) DD).getD (.str (Str.ofString "")) = .str (Str.ofString ""))
   (h : ∀ h' tk', (hideAll s.heap [d]).StaysIn h' → h'.get? d = some o → R (.ok (.ret .none)) { s with heap := h', toks := tk' }) :
   codeAny (model PySem.Challenge.rw_pd0042_01.row.prog w) (AA dp un fr gd) (.call (.ref 61) ⟨[.ref d], []⟩) R s := by
  have hh : (AA dp un fr gd).handled = none := rfl
  revert X; k_fill; intro X
  refine' enter (news := [(d, o)]) (binds := [(Str.ofString "environ", .ref d)]) ?e1 ?e2 ?e3 X T ?e6 ?e7 ?e8 ?e9 ?e10 ?e11 ?_ ?e12 ?e13 ?e14
  case e1 => exact hide_stays _ _
  case e2 => exact Nat.le_of_eq (hideAll_size _ _)
  case e3 =>
    intro p hp
    rw [List.mem_singleton.mp hp]
    exact ⟨hd0, hideAll_none _ (.head _)⟩
  case e6 => k_is
  case e7 => k_is
  case e8 => show dp < 1000; omega
  case e9 => exact BindsTo.of_eq rfl
  case e10 => exact locs rfl
  case e11 => decide
  case e12 => exact rfl
  case e13 => exact rfl
  case e14 => exact rfl
  w_on
  intro L' h1 F' N' l1
  (try dsimp only)
  k_fold
  k_steps
  rename Fr _ _ _ _ => F20
  rename News _ _ _ _ => N20
  exact h _ _ F20.keep (N20 _ (.head _)).1
-- Lines5
section
variable {prog : Program} {w : World} {A : Around} {E : Value → Shared → Prop} {s : Shared} {l : Addr}
theorem join_int {t : Sem Value} {Q : Value → Shared → Prop} (P : Int → Prop) (h1 : wpAny (model prog w) A t (fun v s' => ∃ k u tk, v = .int k u ∧ P k ∧ s' = { s with toks := tk }) E s)
    (h2 : ∀ k u tk, P k → Q (.int k u) { s with toks := tk }) : wpAny (model prog w) A t Q E s :=
  wpAny_mono h1 (fun _ _ ⟨k, u, tk, e1, e2, e3⟩ => by rw [e1, e3]; exact h2 k u tk e2) fun _ _ e => e
theorem item_all {value slice : Expr} {vs : List Value} {k : Int} {u : Tok} {Q : Value → Shared → Prop} (P : Value → Prop) (hl : s.heap.IsList l vs.toArray) (h0 : 0 ≤ k) (h1 : k < vs.length) (h2 : vs.length ≤ 1000) (hp : ∀ v ∈ vs, P v) (h : ∀ v, P v → Q v s)
    (hs : subscripted slice false (.ref l) (.int k u) = operate [.ref l, .int k u] (getItem (.ref l) (.int k u)) := by with_unfolding_all rfl) :
    wpAny (model prog w) A (subscriptTail value slice (.ref l) (.int k u)) Q E s := by
  have hlt : k.toNat < vs.length := by omega
  exact tail_any hl.typeIs slot_list_getitem.lookup (wpAny_getItem_list hl h0 (by omega) (x := vs[k.toNat]) (by simp [hlt]) (h _ (hp _ (List.getElem_mem hlt)))) hs
end
def PieceOk (p : Str) : Prop := NoSl p ∧ p.length ≤ 5 ∧ PyData.strOk p = true
def IsPiece (v : Value) : Prop := ∃ p t, v = .str p t ∧ PieceOk p
theorem pieceOk_lit {p : Str} (h : (p.cps.toList.contains 47 || !decide (p.length ≤ 5) || !PyData.strOk p) = false) : PieceOk p := by
  rw [Bool.or_eq_false_iff, Bool.or_eq_false_iff] at h
  refine ⟨fun hm => ?_, by simpa using h.1.2, by simpa using h.2⟩
  have h9 := List.contains_iff_mem.mpr hm
  rw [h.1.1] at h9; cases h9
theorem strOk_one {c : Nat} (h : c < 0x110000) : PyData.strOk ⟨#[c]⟩ = true := by
  unfold PyData.strOk
  simpa using h
theorem piece_lit {p : Str} {t : Tok} (h : (p.cps.toList.contains 47 || !decide (p.length ≤ 5) || !PyData.strOk p) = false) : IsPiece (.str p t) := ⟨p, t, rfl, pieceOk_lit h⟩
theorem words_Lines5_22 : True := by
  k_with "eval IfExp" => (k_here; (with_reducible show wpAny _ _ (eval (Expr.IfExp (Expr.Compare (Expr.Name _ _) [CmpOp.Lt] _ _) _ _ _) _) _ _ _); refine Wait.out ?_)
  k_with "subscriptTail Name BinOp ref int" => (k_here; (with_reducible show wpAny _ _ (subscriptTail _ _ (Value.ref _) (Value.int _ _)) _ _ _); refine Wait.out ?_)
  trivial
-- Piece
theorem piece_ok {w : World} {dp un : Nat} {fr : Option (List Env)} {gd : Option (List Code)} {s : Shared} {R : Result → Shared → Prop} {mean : ExcName → Option Value} {mg mb : Str → Option Value} {n : Int} {t : Tok}
   (X : (hd.heap_39 w.params).In s.heap) (T : Top hd.view_39 (looseW hd.view_39 [Str.ofString "normpath_posixpath", Str.ofString "normpath_posixpath2"]) mean mg mb s.heap)
   (hdp : dp < 920)
   (h : ∀ p t' h' tk', s.heap.StaysIn h' → PieceOk p → R (.ok (.ret (.str p t'))) { s with heap := h', toks := tk' }) :
   codeAny (model PySem.Challenge.rw_pd0042_01.row.prog w) (AA dp un fr gd) (.call (.ref 160) ⟨[.int n t], []⟩) R s := by
  have hh : (AA dp un fr gd).handled = none := rfl
  revert X; k_fill; intro X
  refine' enter (news := []) (binds := [(Str.ofString "number", .int n t)]) ?e1 ?e2 ?e3 X T ?e6 ?e7 ?e8 ?e9 ?e10 ?e11 ?_ ?e12 ?e13 ?e14
  case e1 => exact fun _ _ e => e
  case e2 => exact Nat.le_refl _
  case e3 => exact fun _ h => nomatch h
  case e6 => k_is
  case e7 => k_is
  case e8 => show dp < 1000; omega
  case e9 => exact BindsTo.of_eq rfl
  case e10 => exact locs rfl
  case e11 => decide
  case e12 => exact rfl
  case e13 => exact rfl
  case e14 => exact rfl
  w_on
  intro L' h1 F' N' l1
  (try dsimp only)
  k_fold
  k_steps
  rename Fr _ _ _ _ => F9
  rename News _ _ _ _ => N9
  have ha : 0 ≤ (n.fdiv 9).fmod 1112063 ∧ (n.fdiv 9).fmod 1112063 < 1112063 := ⟨Int.fmod_nonneg_of_pos _ (by decide), Int.fmod_lt_of_pos _ (by decide)⟩
  generalize (n.fdiv 9).fmod 1112063 = c at *
  refine Wait.mk (join_int (fun k => PySem.Flt.Hid (0 ≤ k ∧ k ≤ 1112063 ∧ k ≠ 47)) ?_ ?_)
  · refine wpAny_IfExp ?_
    k_steps
    all_goals first
      | exact PySem.Flt.Hid.mk (by omega)
      | exact ⟨_, _, _, rfl, PySem.Flt.Hid.mk (by omega), rfl⟩
  intro k u tk9 hk
  have hk := hk.out
  k_steps
  refine Wait.mk (join_int (fun k => PySem.Flt.Hid (0 ≤ k ∧ k ≤ 1114111 ∧ k ≠ 47 ∧ (k < 55296 ∨ 57344 ≤ k))) ?_ ?_)
  · refine wpAny_IfExp ?_
    k_steps
    all_goals first
      | exact PySem.Flt.Hid.mk (by omega)
      | exact ⟨_, _, _, rfl, PySem.Flt.Hid.mk (by omega), rfl⟩
  intro k2 u2 tk10 hk2
  have hk2 := hk2.out
  k_steps
  refine Wait.mk ?_
  rename Fr _ _ _ _ => F9
  rename News _ _ _ _ => N9
  have h9 : 0 ≤ n.fmod 9 ∧ n.fmod 9 < 9 := ⟨Int.fmod_nonneg_of_pos _ (by decide), Int.fmod_lt_of_pos _ (by decide)⟩
  refine item_all IsPiece (News.isList N9 (.head _)) h9.1 h9.2 (by simp) ?_ ?_
  · intro v hv
    simp only [List.mem_cons, List.not_mem_nil, or_false] at hv
    rcases hv with rfl | rfl | rfl | rfl | rfl | rfl | rfl | rfl | rfl
    · exact piece_lit (by decide +kernel)
    · exact piece_lit (by decide +kernel)
    · exact piece_lit (by decide +kernel)
    · exact piece_lit (by decide +kernel)
    · exact piece_lit (by decide +kernel)
    · exact piece_lit (by decide +kernel)
    · exact piece_lit (by decide +kernel)
    · exact piece_lit (by decide +kernel)
    · refine ⟨_, _, rfl, ?_, ?_, ?_⟩
      · intro hm
        have hm := List.mem_singleton.mp hm
        omega
      · show 1 ≤ 5
        omega
      · exact strOk_one (by omega)
  · rintro v ⟨p, t9, rfl, hp1⟩
    exact h p _ _ _ F9.keep hp1
-- Plain3
theorem ne_em_dd : Str.ofString "" ≠ Str.ofString ".." := by decide +kernel
theorem stepP_em (st : List Str) : stepP st (Str.ofString "") = st := by
  unfold stepP
  rw [show (Str.ofString "" == Str.ofString "..") = false by decide +kernel, show (Str.ofString "" != Str.ofString "") = false by decide +kernel]
  rfl
theorem stepP_dot (st : List Str) : stepP st (Str.ofString ".") = st := by
  unfold stepP
  rw [show (Str.ofString "." == Str.ofString "..") = false by decide +kernel, show (Str.ofString "." != Str.ofString "") = true by decide +kernel, show (Str.ofString "." != Str.ofString ".") = false by decide +kernel]
  rfl
theorem stepP_drop {st : List Str} {p : Str} (h : keepP p = false) : stepP st p = st := by
  unfold keepP at h
  by_cases h1 : p = Str.ofString ""
  · rw [h1]; exact stepP_em st
  · by_cases h2 : p = Str.ofString "."
    · rw [h2]; exact stepP_dot st
    · exfalso
      rw [bne_iff_ne.mpr h1, bne_iff_ne.mpr h2] at h
      cases h
theorem foldl_filter : ∀ (ps st : List Str), (ps.filter keepP).foldl stepP st = ps.foldl stepP st
  | [], _ => rfl
  | p :: ps, st => by
    rw [List.filter_cons]
    cases h : keepP p with
    | true => simp only [if_true, List.foldl_cons]; exact foldl_filter ps _
    | false => simp only [Bool.false_eq_true, if_false, List.foldl_cons]; rw [stepP_drop h]; exact foldl_filter ps _
theorem stk_filter (a ini : List Str) (la : Str) : stk (a ++ (ini.filter keepP ++ [la])) = stk (a ++ (ini ++ [la])) := by
  rw [stk_append, stk_append, List.foldl_append, List.foldl_append, foldl_filter]
theorem foldl_plain : ∀ (qs st : List Str), (∀ a ∈ qs, a ≠ Str.ofString ".." ∧ a ≠ Str.ofString "" ∧ a ≠ Str.ofString ".") → qs.foldl stepP st = st ++ qs
  | [], st, _ => by simp
  | q :: qs, st, h => by
    obtain ⟨h1, h2, h3⟩ := h q (.head _)
    have e : stepP st q = st ++ [q] := by
      unfold stepP
      rw [beq_eq_false_iff_ne.mpr h1, bne_iff_ne.mpr h2, bne_iff_ne.mpr h3]; rfl
    rw [List.foldl_cons, e, foldl_plain qs _ (fun a ha => h a (.tail _ ha)), List.append_assoc]; rfl
theorem stk_idem (ps : List Str) : stk (stk ps) = stk ps := by
  show (stk ps).foldl stepP [] = stk ps
  rw [foldl_plain _ _ (fun a ha => (stk_mem ha).2)]
  rfl
theorem stk_congr {a b : List Str} (h : stk a = stk b) (c : List Str) : stk (a ++ c) = stk (b ++ c) := by
  rw [stk_append, stk_append, h]
theorem stk_em (ps : List Str) : stk (Str.ofString "" :: ps) = stk ps := by
  show ps.foldl stepP (stepP [] (Str.ofString "")) = _
  rw [stepP_em]; rfl
theorem stk_dot (ps : List Str) : stk (Str.ofString "." :: ps) = stk ps := by
  show ps.foldl stepP (stepP [] (Str.ofString ".")) = _
  rw [stepP_dot]; rfl
theorem place_path {ps : List Str} (h : ∀ a ∈ ps, NoSl a) : placeT (pathOf ps) = pathOf (stk ps) := by
  unfold placeT
  rw [split_path ps h, stk_em]
/-- the pieces of the script name behind a shift -/
def shiftL (ss : List Str) (nm : Str) : List Str := if nm = Str.ofString "" then stk (ss ++ [nm]) ++ [Str.ofString ""] else stk (ss ++ [nm])
theorem pathOf_em : pathOf [Str.ofString ""] = Str.ofString "/" := by
  show Str.ofString "/" ++ Str.ofString "" ++ Str.empty = _
  rw [em_is, Str.append_empty, Str.append_empty]
theorem pathOf_shiftL (ss : List Str) (nm : Str) : shiftS ss nm = pathOf (shiftL ss nm) := by
  unfold shiftS shiftL
  by_cases h : nm = Str.ofString ""
  · rw [if_pos h, if_pos h, pathOf_append, pathOf_em]
  · rw [if_neg h, if_neg h]
theorem stk_shiftL (ss : List Str) (nm : Str) : stk (shiftL ss nm) = stk (ss ++ [nm]) := by
  unfold shiftL
  by_cases h : nm = Str.ofString ""
  · rw [if_pos h, stk_snoc, stepP_em, stk_idem]
  · rw [if_neg h, stk_idem]
theorem shiftL_mem {ss : List Str} {nm a : Str} (h : a ∈ shiftL ss nm) : a = Str.ofString "" ∨ Plainly (ss ++ [nm]) a := by
  unfold shiftL at h
  by_cases h0 : nm = Str.ofString ""
  · rw [if_pos h0] at h
    rcases List.mem_append.mp h with h | h
    · exact .inr (stk_mem h)
    · exact .inl (List.mem_singleton.mp h)
  · rw [if_neg h0] at h
    exact .inr (stk_mem h)
theorem shiftL_noSl {ss : List Str} {nm : Str} (h1 : ∀ a ∈ ss, NoSl a) (h2 : NoSl nm) : ∀ a ∈ shiftL ss nm, NoSl a := fun a ha => by
  rcases shiftL_mem ha with h | h
  · rw [h]; exact em_noSl
  · rcases List.mem_append.mp h.1 with h | h
    · exact h1 a h
    · rw [List.mem_singleton.mp h]; exact h2
theorem shiftL_head {ss : List Str} {nm : Str} (h : nm ≠ Str.ofString "") : ∀ a ∈ (shiftL ss nm).head?, a ≠ Str.ofString "" := fun a ha => by
  unfold shiftL at ha
  rw [if_neg h] at ha
  exact (stk_mem (List.mem_of_mem_head? ha)).2.2.1
theorem shiftL_len (ss : List Str) (nm : Str) : (pathOf (shiftL ss nm)).length ≤ (pathOf ss).length + (nm.length + 1) := by
  unfold shiftL
  by_cases h : nm = Str.ofString ""
  · rw [if_pos h, path_len_append, stk_snoc, h, stepP_em]
    have h1 := stk_plen ss
    have h2 : (pathOf [Str.ofString ""]).length = 1 := by rw [pathOf_em]; exact sl_len
    omega
  · rw [if_neg h]
    have h1 := stk_plen (ss ++ [nm])
    rw [path_len_append, path_len_one] at h1
    exact h1
theorem names_len {ini rest : List Str} {la nm : Str} (h : ini.filter keepP ++ [la] = nm :: rest) : (pathOf rest).length + (nm.length + 1) ≤ (pathOf (ini ++ [la])).length := by
  have e : (pathOf (nm :: rest)).length = (nm.length + 1) + (pathOf rest).length := by
    have := path_len_append [nm] rest
    rw [path_len_one] at this
    exact this
  have h1 : ∀ l : List Str, (pathOf (l.filter keepP)).length ≤ (pathOf l).length := by
    intro l
    induction l with
    | nil => exact Nat.le_refl _
    | cons a l ih =>
      have e1 := path_len_append [a] l
      rw [path_len_one, List.singleton_append] at e1
      rw [List.filter_cons]
      cases keepP a with
      | true =>
        have e2 := path_len_append [a] (l.filter keepP)
        rw [path_len_one, List.singleton_append] at e2
        simp only [if_true]
        omega
      | false => simp only [Bool.false_eq_true, if_false]; omega
  have h2 := h1 ini
  have h3 := path_len_append (ini.filter keepP) [la]
  have h4 := path_len_append ini [la]
  rw [h] at h3
  omega
/-- the words that a turn's due place is told by -/
def SameName (X nm : Str) : Prop := X = nm ∨ (X = Str.ofString "." ∧ (nm = Str.ofString "" ∨ nm = Str.ofString "."))
theorem stk_same {X nm : Str} (ss : List Str) (h : SameName X nm) : stk (ss ++ [X]) = stk (ss ++ [nm]) := by
  rcases h with h | ⟨h, h2 | h2⟩
  · rw [h]
  · rw [h, h2, stk_snoc, stk_snoc, stepP_dot, stepP_em]
  · rw [h, h2]
theorem dot_noSl : NoSl (Str.ofString ".") := by unfold NoSl; decide +kernel
theorem same_noSl {X nm : Str} (h : SameName X nm) (hn : NoSl nm) : NoSl X := by
  rcases h with h | ⟨h, _⟩
  · rw [h]; exact hn
  · rw [h]; exact dot_noSl
def tailOf (nm : Str) : Str := if nm = Str.ofString "" then Str.ofString "/" else Str.ofString ""
theorem shiftS_tail (ss : List Str) (nm : Str) : shiftS ss nm = pathOf (stk (ss ++ [nm])) ++ tailOf nm := by
  unfold shiftS tailOf
  by_cases h : nm = Str.ofString ""
  · rw [if_pos h, if_pos h]
  · rw [if_neg h, if_neg h, em_is, Str.append_empty]
theorem append_noSl {ss : List Str} {X : Str} (h1 : ∀ a ∈ ss, NoSl a) (h2 : NoSl X) : ∀ a ∈ ss ++ [X], NoSl a := fun a ha => by
  rcases List.mem_append.mp ha with h | h
  · exact h1 a h
  · rw [List.mem_singleton.mp h]; exact h2
/-- the first check of a turn -/
theorem check_1 {ss : List Str} {nm X : Str} (h1 : ∀ a ∈ ss, NoSl a) (hn : NoSl nm) (h : SameName X nm) :
    shiftS ss nm = placeT (pathOf ss ++ Str.ofString "/" ++ X) ++ tailOf nm := by
  rw [pathOf_snoc, place_path (append_noSl h1 (same_noSl h hn)), stk_same ss h]
  exact shiftS_tail ss nm
/-- the third check of a turn -/
theorem dotted (a b : List Str) : Str.ofString "/." ++ pathOf a ++ pathOf b = pathOf (Str.ofString "." :: (a ++ b)) := by
  show _ = Str.ofString "/" ++ Str.ofString "." ++ pathOf (a ++ b)
  rw [pathOf_append, ← Str.append_assoc]
  rw [show Str.ofString "/." = Str.ofString "/" ++ Str.ofString "." by decide +kernel]
theorem check_3 {ps qs : List Str} (h : stk ps = stk qs) : normT (Str.ofString "." :: ps) = if pathOf (stk qs) = Str.ofString "" then Str.ofString "/" else pathOf (stk qs) := by
  have e : stk (Str.ofString "." :: ps) = stk qs := by rw [stk_dot, h]
  by_cases h0 : stk qs = []
  · rw [normT_nil (e.trans h0), h0, if_pos (show pathOf [] = Str.ofString "" from em_is.symm)]
  · rw [normT_cons (by rw [e]; exact h0), e, if_neg ?_]
    cases hq : stk qs with
    | nil => exact absurd hq h0
    | cons a as =>
      intro he
      have h1 := congrArg Str.length he
      have h2 := path_len_append [a] as
      rw [path_len_one, List.singleton_append] at h2
      rw [h2, em_is] at h1
      have h3 : Str.empty.length = 0 := rfl
      omega
-- Lines6
section
variable {prog : Program} {w : World} {A : Around} {E : Value → Shared → Prop} {s : Shared} {h₀ : Heap} {L d : Addr} {m : Str → Option Value} {news : List (Addr × Obj)} {g : Obj → List (Addr × Obj)} {o : Obj}
/-- a call told by a contract that changes one object of the ledger -/
theorem use_change {f : Addr} {vs : List Value} {Q : Value → Shared → Prop} (P : Value → Obj → Prop) (F : Fr h₀ L s.heap m) (N : News h₀ L s.heap news) (U : UpdF d o news g)
    (c : ∀ R : Result → Shared → Prop, (∀ v h' o' tk', (hideAll s.heap [d]).StaysIn h' → h'.get? d = some o' → P v o' → R (.ok (.ret v)) { s with heap := h', toks := tk' }) → codeAny (model prog w) A (.call (.ref f) ⟨vs, []⟩) R s)
    (h : ∀ v o' h' tk', P v o' → Fr h₀ L h' m → News h₀ L h' (g o') → Q v { s with heap := h', toks := tk' }) : wpAny (model prog w) A (call (.ref f) vs) Q E s := by
  obtain ⟨pre, post, rfl, hg, ha, hb⟩ := U.split
  have z := N (d, o) (List.mem_append.mpr (.inr (.head _)))
  refine wpAny_call (c _ fun v h' o' tk' k hd ho => ?_)
  have kk : ∀ b ob, b ≠ d → s.heap.get? b = some ob → h'.get? b = some ob := fun b ob hb e => k b ob (hideAll_get _ e (fun hm => hb (List.mem_singleton.mp hm)))
  refine h v o' h' tk' ho ?_ ?_
  · obtain ⟨oL, a1, a2, hL, a3⟩ := F.ns
    refine ⟨⟨oL, a1, a2, kk _ _ (fun e => z.2.1 e.symm) hL, a3⟩, fun b ob e => kk b ob (fun hb => ?_) (F.keep b ob e), F.above⟩
    have := z.2.2
    dsimp only at this
    rw [hb, this] at e
    cases e
  · rw [hg]
    intro p hp
    rcases List.mem_append.mp hp with hp | hp
    · have q := N p (List.mem_append.mpr (.inl hp))
      exact ⟨kk _ _ (ha p hp) q.1, q.2⟩
    · rcases List.mem_cons.mp hp with rfl | hp
      · exact ⟨hd, z.2⟩
      · have q := N p (List.mem_append.mpr (.inr (.tail _ hp)))
        exact ⟨kk _ _ (hb p hp) q.1, q.2⟩
def toldD (nm : Str) : PyData := if nm = Str.ofString "." then .none else .str nm
theorem toldD_cases (nm : Str) : toldD nm = .none ∨ toldD nm = .str nm := by
  unfold toldD
  by_cases h : nm = Str.ofString "."
  · rw [if_pos h]; exact .inl rfl
  · rw [if_neg h]; exact .inr rfl
theorem told_canLay : ∀ ns : List Str, (∀ a ∈ ns, PyData.strOk a = true) → PyData.canLayAll0 (ns.map toldD) = true
  | [], _ => rfl
  | n :: ns, hn => by
    rw [List.map_cons]
    have h1 := hn n (.head _)
    have h2 := told_canLay ns fun a ha => hn a (.tail _ ha)
    rcases toldD_cases n with h | h <;> rw [h] <;> simp [PyData.canLayAll0, PyData.canLay0, h1, h2]
theorem told_depth : ∀ ns : List Str, PyData.depthAll (ns.map toldD) ≤ 1
  | [] => by simp [PyData.depthAll]
  | n :: ns => by
    have := told_depth ns
    rw [List.map_cons]
    rcases toldD_cases n with h | h <;> rw [h] <;> simp only [PyData.depthAll, PyData.depth] <;> omega
theorem told_shaped (ns : List Str) (hn : ∀ a ∈ ns, PyData.strOk a = true) : SeqAt.shaped (.list (ns.map toldD)) = true := by
  have h1 := told_depth ns
  have h2 : PyData.depth (.list (ns.map toldD)) ≤ 64 := by simp only [PyData.depth]; omega
  show (PyData.canLay0 (.list (ns.map toldD)) && decide (PyData.depth (.list (ns.map toldD)) ≤ 64)) = true
  rw [Bool.and_eq_true]
  exact ⟨by simp only [PyData.canLay0]; exact told_canLay ns hn, decide_eq_true h2⟩
theorem told_eqv : ∀ ns : List Str, PyData.eqvAll (ns.map toldD) (ns.map toldD) = true
  | [] => by simp [PyData.eqvAll]
  | n :: ns => by
    rw [List.map_cons]
    rcases toldD_cases n with h | h <;> rw [h] <;> simp [PyData.eqvAll, PyData.eqv, told_eqv ns]
theorem ne_told {a b : Addr} {xs ys : List Value} {ns : List Str} {Q : Value → Shared → Prop} (ha : s.heap.IsList a xs.toArray) (hb : s.heap.IsList b ys.toArray) (hi : CarriedAll xs (ns.map toldD)) (hj : CarriedAll ys (ns.map toldD)) (hn : ∀ a ∈ ns, PyData.strOk a = true) (hu : A.units + 64 < cLine)
    (h : Q (.bool false) s) : wpAny (model prog w) A (compareOp .NotEq (.ref a) (.ref b)) Q E s :=
  ne_dataH (reads_newData ha hi) (reads_newData hb hj) (told_shaped ns hn) (told_shaped ns hn) hu (by
    have e : PyData.eqv (.list (ns.map toldD)) (.list (ns.map toldD)) = true := by simp only [PyData.eqv]; exact told_eqv ns
    rw [e]; exact h)
theorem carried_append {vs us : List Value} {ds es : List PyData} (h : CarriedAll vs ds) (h2 : CarriedAll us es) : CarriedAll (vs ++ us) (ds ++ es) := by
  induction h with
  | nil => exact h2
  | cons c _ ih => exact .cons c ih
theorem carried_name {v : Value} {nm : Str} (h : NameIs v nm) : Carried v (toldD nm) := by
  unfold NameIs at h
  unfold toldD
  by_cases e : nm = Str.ofString "."
  · rw [if_pos e] at h ⊢; rw [h]; exact .none
  · rw [if_neg e] at h ⊢; obtain ⟨t, h⟩ := h; rw [h]; exact .str _ _
theorem carried_strs {vs : List Value} {ns : List Str} (h : StrsAre vs ns) (hn : ∀ a ∈ ns, a ≠ Str.ofString ".") : CarriedAll vs (ns.map toldD) := by
  induction h with
  | nil => exact .nil
  | cons y t _ ih =>
    refine .cons ?_ (ih fun a ha => hn a (.tail _ ha))
    unfold toldD
    rw [if_neg (hn _ (.head _))]
    exact .str _ _
theorem pick_from (vs : List Value) (k : Nat) (h : k ≤ vs.length) : (slicePick vs.toArray (some (k : Int)) none none).toList = vs.drop k := by
  have e : sliceBounds (some (k : Int)) none none vs.toArray.size = ((k : Int), (vs.toArray.size : Int), 1) := by
    simp only [sliceBounds, Option.getD_none, show (1 : Int) > 0 by decide, if_true, if_neg (show ¬ (k : Int) < 0 by omega)]
    refine Prod.ext ?_ (Prod.ext ?_ rfl)
    · dsimp only; simp; omega
    · dsimp only
  rw [kmk_pick_nat _ e]
  have h2 : (vs.drop k).length ≤ vs.length - k := by simp
  simp [List.take_of_length_le h2]
theorem pick_from_last (vs : List Value) (v : Value) : (slicePick (vs ++ [v]).toArray (some (-1)) none none).toList = [v] := by
  have hs : (vs ++ [v]).toArray.size = vs.length + 1 := by simp
  have e : sliceBounds (some (-1)) none none (vs ++ [v]).toArray.size = ((vs.length : Int), ((vs.length + 1 : Nat) : Int), 1) := by
    rw [hs]
    simp only [sliceBounds, Option.getD_none, show (1 : Int) > 0 by decide, if_true, if_pos (show (-1 : Int) < 0 by decide)]
    refine Prod.ext ?_ (Prod.ext ?_ rfl)
    · dsimp only; omega
    · dsimp only
  rw [kmk_pick_nat _ e]
  simp
theorem strs_drop {vs : List Value} {ys : List Str} (h : StrsAre vs ys) : ∀ k, StrsAre (vs.drop k) (ys.drop k) := by
  induction h with
  | nil => intro k; simp; exact .nil
  | cons y t hs ih =>
    intro k
    cases k with
    | zero => exact .cons y t hs
    | succ k => simpa using ih k
/-- a text comes of it, and nothing else happens -/
def JoinS (P : Str → Prop) (s : Shared) (v : Value) (s' : Shared) : Prop := ∃ x u tk, v = .str x u ∧ P x ∧ s' = { s with toks := tk }
theorem JoinS.mk {P : Str → Prop} {s : Shared} {x : Str} {u : Tok} {tk : Nat} (h : P x) : JoinS P s (.str x u) { s with toks := tk } := ⟨x, u, tk, rfl, h, rfl⟩
theorem join_str {t : Sem Value} {Q : Value → Shared → Prop} (P : Str → Prop) (h1 : wpAny (model prog w) A t (JoinS P s) E s)
    (h2 : ∀ x u tk, P x → Q (.str x u) { s with toks := tk }) : wpAny (model prog w) A t Q E s :=
  wpAny_mono h1 (fun _ _ ⟨x, u, tk, e1, e2, e3⟩ => by rw [e1, e3]; exact h2 x u tk e2) fun _ _ e => e
end
/-- the environ's pairs -/
def rowH : PyData × PyData := (.str (Str.ofString "HTTP_HOST"), .str (Str.ofString "h"))
def rowS (x : Str) : PyData × PyData := (.str (Str.ofString "SCRIPT_NAME"), .str x)
def rowP (x : Str) : PyData × PyData := (.str (Str.ofString "PATH_INFO"), .str x)
/-- the environ: without a script name; with one -/
def EnvD (D : List (PyData × PyData)) (S : Option Str) (P : Str) : Prop :=
  (S = none ∧ D = [rowH, rowP P]) ∨ ∃ x, S = some x ∧ (D = [rowH, rowS x, rowP P] ∨ D = [rowH, rowP P, rowS x])
def GivenD (D : List (PyData × PyData)) (S : Option Str) : Prop := (S = none ∧ D = [rowH]) ∨ ∃ x, S = some x ∧ D = [rowH, rowS x]
def sOf (S : Option Str) : Str := S.getD (Str.ofString "")
-- EnvD
theorem ss (a b : Str) : PySem.Spec.same (.str a) (.str b) = decide (a = b) := PyProof.V.same_str a b
theorem lookup_cons (k n : Str) (v : PyData) (r : List (PyData × PyData)) : lookup (.str k) ((.str n, v) :: r) = if n = k then some v else lookup (.str k) r := by
  by_cases h : n = k
  · simp [PySem.Spec.lookup, ss, h]
  · simp [PySem.Spec.lookup, ss, h]
theorem nHS : Str.ofString "HTTP_HOST" ≠ Str.ofString "SCRIPT_NAME" := by decide +kernel
theorem nHP : Str.ofString "HTTP_HOST" ≠ Str.ofString "PATH_INFO" := by decide +kernel
theorem nSP : Str.ofString "SCRIPT_NAME" ≠ Str.ofString "PATH_INFO" := by decide +kernel
theorem nSH : Str.ofString "SCRIPT_NAME" ≠ Str.ofString "HTTP_HOST" := nHS.symm
theorem nPH : Str.ofString "PATH_INFO" ≠ Str.ofString "HTTP_HOST" := nHP.symm
theorem nPS : Str.ofString "PATH_INFO" ≠ Str.ofString "SCRIPT_NAME" := nSP.symm
theorem EnvD.path {D S P} (h : EnvD D S P) : lookup (.str (Str.ofString "PATH_INFO")) D = some (.str P) := by
  rcases h with ⟨_, rfl⟩ | ⟨x, _, rfl | rfl⟩
  · unfold rowH rowP; rw [lookup_cons, if_neg nHP, lookup_cons, if_pos rfl]
  · unfold rowH rowP rowS; rw [lookup_cons, if_neg nHP, lookup_cons, if_neg nSP, lookup_cons, if_pos rfl]
  · unfold rowH rowP; rw [lookup_cons, if_neg nHP, lookup_cons, if_pos rfl]
theorem EnvD.script {D S P} (h : EnvD D S P) : lookup (.str (Str.ofString "SCRIPT_NAME")) D = S.map .str := by
  rcases h with ⟨rfl, rfl⟩ | ⟨x, rfl, rfl | rfl⟩
  · unfold rowH rowP; rw [lookup_cons, if_neg nHS, lookup_cons, if_neg (Ne.symm nSP)]; rfl
  · unfold rowH rowP rowS; rw [lookup_cons, if_neg nHS, lookup_cons, if_pos rfl]; rfl
  · unfold rowH rowP rowS; rw [lookup_cons, if_neg nHS, lookup_cons, if_neg (Ne.symm nSP), lookup_cons, if_pos rfl]; rfl
theorem sOf_map (S : Option Str) : (S.map PyData.str).getD (.str (Str.ofString "")) = .str (sOf S) := by cases S <;> rfl
theorem EnvD.len {D S P} (h : EnvD D S P) : D.length ≤ 3 := by
  rcases h with ⟨rfl, rfl⟩ | ⟨x, rfl, rfl | rfl⟩ <;> simp
theorem EnvD.put {D S P} (h : EnvD D S P) (S' P' : Str) : EnvD (putD (.str (Str.ofString "PATH_INFO")) (.str P') (putD (.str (Str.ofString "SCRIPT_NAME")) (.str S') D)) (some S') P' := by
  refine .inr ⟨S', rfl, ?_⟩
  rcases h with ⟨rfl, rfl⟩ | ⟨x, rfl, rfl | rfl⟩
  · right; simp [putD, ss, rowH, rowP, rowS, nHS, nHP, nSP, nSH, nPH, nPS]
  · left; simp [putD, ss, rowH, rowP, rowS, nHS, nHP, nSP, nSH, nPH, nPS]
  · right; simp [putD, ss, rowH, rowP, rowS, nHS, nHP, nSP, nSH, nPH, nPS]
theorem GivenD.put {D S} (h : GivenD D S) (P : Str) : EnvD (putD (.str (Str.ofString "PATH_INFO")) (.str P) D) S P := by
  rcases h with ⟨rfl, rfl⟩ | ⟨x, rfl, rfl⟩
  · left; exact ⟨rfl, by simp [putD, ss, rowH, rowP, nHP]⟩
  · right; exact ⟨x, rfl, .inl (by simp [putD, ss, rowH, rowP, rowS, nHP, nSP])⟩
theorem GivenD.len {D S} (h : GivenD D S) : D.length ≤ 2 := by
  rcases h with ⟨rfl, rfl⟩ | ⟨x, rfl, rfl⟩ <;> simp
theorem eqv_str (a : Str) : PyData.eqv (.str a) (.str a) = true := by simp [PyData.eqv]
theorem EnvD.rows {D P x} (h : EnvD D (some x) P) : KeqRows [rowH, rowS x, rowP P] D true ∧ D.length = 3 := by
  have l1 : lookup (.str (Str.ofString "HTTP_HOST")) [rowH, rowS x, rowP P] = some (.str (Str.ofString "h")) := by
    unfold rowH; rw [lookup_cons, if_pos rfl]
  have l2 : lookup (.str (Str.ofString "SCRIPT_NAME")) [rowH, rowS x, rowP P] = some (.str x) := by
    unfold rowH rowS; rw [lookup_cons, if_neg nHS, lookup_cons, if_pos rfl]
  have l3 : lookup (.str (Str.ofString "PATH_INFO")) [rowH, rowS x, rowP P] = some (.str P) := by
    unfold rowH rowS rowP; rw [lookup_cons, if_neg nHP, lookup_cons, if_neg nSP, lookup_cons, if_pos rfl]
  have k1 : ∀ {r b}, KeqRows [rowH, rowS x, rowP P] r b → KeqRows [rowH, rowS x, rowP P] (rowH :: r) b := fun hr => by
    have := KeqRows.hit (v := .str (Str.ofString "h")) l1 hr
    rwa [eqv_str, Bool.true_and] at this
  have k2 : ∀ {r b}, KeqRows [rowH, rowS x, rowP P] r b → KeqRows [rowH, rowS x, rowP P] (rowS x :: r) b := fun hr => by
    have := KeqRows.hit (v := .str x) l2 hr
    rwa [eqv_str, Bool.true_and] at this
  have k3 : ∀ {r b}, KeqRows [rowH, rowS x, rowP P] r b → KeqRows [rowH, rowS x, rowP P] (rowP P :: r) b := fun hr => by
    have := KeqRows.hit (v := .str P) l3 hr
    rwa [eqv_str, Bool.true_and] at this
  rcases h with ⟨e, _⟩ | ⟨y, e, hD⟩
  · cases e
  · cases e
    rcases hD with rfl | rfl
    · exact ⟨k1 (k2 (k3 .nil)), rfl⟩
    · exact ⟨k1 (k3 (k2 .nil)), rfl⟩
-- Lines7
section
variable {prog : Program} {w : World} {A : Around} {E : Value → Shared → Prop} {s : Shared}
theorem pick_last_arr (vs : List Value) (v : Value) : slicePick (vs ++ [v]).toArray (some (-1)) none none = [v].toArray := Array.toList_inj.mp ((pick_from_last vs v).trans rfl)
theorem join_path {D : Addr} {t : Tok} {items : Array Value} {ps : List Str} {Q : Value → Shared → Prop} (hl : s.heap.IsList D items) (hi : StrsAre items.toList (ps.map fun p => Str.ofString "/" ++ p)) (hz : (pathOf ps).length ≤ 1000)
    (h : ∀ t' k, Q (.str (pathOf ps) t') { s with toks := k }) : wpAny (model prog w) A (call (.builtin "str.join") [.str (Str.ofString "") t, .ref D]) Q E s := by
  refine join_list hl hi ?_ (fun t' k => by rw [txt_join_em]; exact h t' k)
  have h2 : (Str.ofString "").length = 0 := by decide +kernel
  have h3 : ∀ ps : List Str, ((ps.map fun p => Str.ofString "/" ++ p).map (·.length)).sum = (pathOf ps).length := by
    intro ps
    induction ps with
    | nil => rfl
    | cons a ps ih =>
      have e := path_len_append [a] ps
      rw [path_len_one, List.singleton_append] at e
      rw [List.map_cons, List.map_cons, List.sum_cons, ih, e, Str.length_append, sl_len]
      omega
  rw [h3, h2]; omega
end
theorem words_Lines7_18 : True := by
  k_with "eval ListComp" => (k_here; (first | (with_reducible show wpAny _ _ (eval (Expr.ListComp (Expr.Name _ _) _ _ _) _) _ _ _) | (with_reducible show wpAny _ _ (eval (Expr.ListComp (Expr.BinOp _ _ _ _) _ _ _) _) _ _ _)); (with_reducible apply ListComp_rowsP); (case hfree => decide); (case hcell => decide); (case hkind => with_unfolding_all rfl); (case hnames => decide); (case hx => with_unfolding_all rfl); (case hs => intro _; with_unfolding_all rfl))
  k_with "subscriptTail Name Slice ref ref" => (k_here; (with_reducible show wpAny _ _ (subscriptTail _ (PySem.Expr.Slice (some (Expr.Call _ _ _ _)) none none _) (Value.ref _) (Value.ref _)) _ _ _); k_dflt (refine kmk_slice_lit (by k_asm) (by k_asm) (by kmk_list) (by kmk_part) (by kmk_part) (by exact pick_from _ _ (by (simp only [Array.size_push, List.size_toArray]); omega)) ?_ (by with_unfolding_all rfl) (by kmk_pure) (by walk_at "m_size")); intro Dz9 hz9 Fz9 Nz9 lz9; (try k_lt lz9); (try k_sweep))
  k_with "call type:dict" => (k_here; (with_reducible show wpAny _ _ (call (Value.type "dict") [Value.ref _]) _ _ _); k_dflt (refine kt_dict_K (knd := PySem.strKind _ _) (enc := PyData.str) (by k_asm) (by k_asm) (by exact Top.nolimit (by k_asm)) (by exact TabAt.ofFr (by with_reducible assumption) (by k_asm)) (by (simp only [sizeLine_eq]; omega)) ?_); intro dz9 hz9 oz9 kvsz9 Fz9 Nz9 lz9 loz9 hdz9 hfz9; (try k_lt lz9))
  k_with "eval IfExp" => (k_here; (first | (with_reducible show wpAny _ _ (eval (Expr.IfExp (Expr.Name _ _) _ _ _) _) _ _ _) | (with_reducible show wpAny _ _ (eval (Expr.IfExp (Expr.Compare _ [CmpOp.Eq] _ _) _ _ _) _) _ _ _)); refine Wait.out ?_)
  k_with "subscriptTail Name Constant ref str" => (k_here; k_dflt (refine item_str (by k_tabat) (by assumption) ?_ (by with_unfolding_all rfl); k_whole); intro tz9)
  k_with "call builtin:str.join" => (k_here; k_dflt (show wpAny _ _ (call (Value.builtin "str.join") [Value.str _ _, Value.ref _]) _ _ _); k_dflt (refine join_path (by kmk_list) (by assumption) (by omega) ?_); intro tz9 kz9')
  trivial
-- PlainSt
def nmsOf (ini : List Str) (la : Str) : List Str := ini.filter keepP ++ [la]
theorem nmsOf_len (ini : List Str) (la : Str) : (nmsOf ini la).length = (ini.filter keepP).length + 1 := by unfold nmsOf; simp
theorem nmsOf_mem {ini : List Str} {la a : Str} (h : a ∈ nmsOf ini la) : a ∈ ini ++ [la] := by
  rcases List.mem_append.mp h with h | h
  · exact List.mem_append_left _ (List.mem_filter.mp h).1
  · exact List.mem_append_right _ h
/-- what holds between the turns -/
def St (ss0 ini : List Str) (la : Str) (k : Nat) (S : Option Str) (ss : List Str) (P : Str) : Prop :=
  sOf S = pathOf ss ∧ (∀ a ∈ ss, NoSl a) ∧ stk ss = stk (ss0 ++ (nmsOf ini la).take k) ∧ (pathOf ss).length + P.length ≤ 240 ∧
  ((k < (nmsOf ini la).length ∧ (∀ a ∈ ss.head?, a ≠ Str.ofString "") ∧ ∃ ini' la', P = pathOf (ini' ++ [la']) ∧ ini'.filter keepP ++ [la'] = (nmsOf ini la).drop k ∧ ∀ a ∈ ini' ++ [la'], NoSl a) ∨
   (k = (nmsOf ini la).length ∧ P = Str.ofString "" ∧ S = some (pathOf (stk (ss0 ++ nmsOf ini la)) ++ tailOf la)))
theorem St.start {ss0 ini : List Str} {la : Str} {S : Option Str} (hS : sOf S = pathOf ss0) (h0 : ∀ a ∈ ss0, NoSl a) (h1 : ∀ a ∈ ss0.head?, a ≠ Str.ofString "") (h2 : ∀ a ∈ ini ++ [la], NoSl a) (hl : (pathOf ss0).length + (pathOf (ini ++ [la])).length ≤ 240) :
    St ss0 ini la 0 S ss0 (pathOf (ini ++ [la])) := by
  refine ⟨hS, h0, by simp, hl, .inl ⟨?_, h1, ini, la, rfl, by simp [nmsOf], h2⟩⟩
  rw [nmsOf_len]; omega
theorem drop_cons {ns : List Str} {k : Nat} {nm : Str} {rest : List Str} (h : ns.drop k = nm :: rest) : ns.drop (k + 1) = rest ∧ ns.take (k + 1) = ns.take k ++ [nm] ∧ nm ∈ ns ∧ k < ns.length := by
  have hk : k < ns.length := by
    rcases Nat.lt_or_ge k ns.length with h1 | h1
    · exact h1
    · rw [List.drop_eq_nil_of_le h1] at h; cases h
  rw [List.drop_eq_getElem_cons hk] at h
  obtain ⟨h1, h2⟩ := List.cons.inj h
  refine ⟨h2, ?_, h1 ▸ List.getElem_mem hk, hk⟩
  rw [List.take_succ_eq_append_getElem hk, h1]
theorem pathOf_nil : pathOf [] = Str.ofString "" := em_is.symm
theorem St.step {ss0 ini ss rest : List Str} {la nm P : Str} {S : Option Str} {k : Nat} (h : St ss0 ini la k S ss P) (hd : (nmsOf ini la).drop k = nm :: rest) (hn : ∀ a ∈ ini ++ [la], NoSl a) (hlen : (pathOf rest).length + (nm.length + 1) ≤ P.length) :
    St ss0 ini la (k + 1) (some (shiftS ss nm)) (shiftL ss nm) (pathOf rest) := by
  obtain ⟨_, h1, h2, h3, _⟩ := h
  obtain ⟨e1, e2, e3, e4⟩ := drop_cons hd
  have hnn : NoSl nm := hn nm (nmsOf_mem e3)
  have hst : stk (ss ++ [nm]) = stk (ss0 ++ (nmsOf ini la).take (k + 1)) := by
    rw [e2, ← List.append_assoc]
    exact stk_congr h2 [nm]
  refine ⟨pathOf_shiftL ss nm, shiftL_noSl h1 hnn, by rw [stk_shiftL, hst], ?_, ?_⟩
  · have := shiftL_len ss nm
    omega
  · rcases Nat.lt_or_ge (k + 1) (nmsOf ini la).length with hk | hk
    · left
      have hk2 := hk
      rw [nmsOf_len] at hk2
      have hk1 : k < (ini.filter keepP).length := by omega
      have hnm : keepP nm = true := by
        have e5 : (nmsOf ini la).drop k = (ini.filter keepP).drop k ++ [la] := by
          unfold nmsOf; exact List.drop_append_of_le_length (by omega)
        rw [e5, List.drop_eq_getElem_cons hk1] at hd
        have e6 := (List.cons.inj hd).1
        rw [← e6]
        exact (List.mem_filter.mp (List.getElem_mem hk1)).2
      refine ⟨hk, shiftL_head (fun e => ?_), (ini.filter keepP).drop (k + 1), la, ?_, ?_, ?_⟩
      · rw [e] at hnm; revert hnm; unfold keepP; decide +kernel
      · rw [← e1]
        unfold nmsOf
        rw [List.drop_append_of_le_length (by omega)]
      · unfold nmsOf
        rw [List.drop_append_of_le_length (by omega), List.filter_eq_self.mpr]
        intro a ha
        exact (List.mem_filter.mp (List.mem_of_mem_drop ha)).2
      · intro a ha
        rcases List.mem_append.mp ha with ha | ha
        · exact hn a (List.mem_append_left _ (List.mem_filter.mp (List.mem_of_mem_drop ha)).1)
        · exact hn a (List.mem_append_right _ ha)
    · right
      have hke : k + 1 = (nmsOf ini la).length := by omega
      have hr : rest = [] := by rw [← e1]; exact List.drop_eq_nil_of_le hk
      have htk : (nmsOf ini la).take (k + 1) = nmsOf ini la := by rw [hke]; exact List.take_length
      have hnl : nm = la := by
        have e5 : nmsOf ini la = (nmsOf ini la).take k ++ [nm] := by rw [← e2, htk]
        have e6 : (ini.filter keepP ++ [la]) = (nmsOf ini la).take k ++ [nm] := e5
        have e7 := congrArg List.getLast? e6
        simp at e7
        exact e7.symm
      refine ⟨hke, by rw [hr]; exact pathOf_nil, ?_⟩
      rw [shiftS_tail, hst, htk, hnl]
theorem St.check2 {ini : List Str} {la nm : Str} {rest : List Str} {k : Nat} (hd : (nmsOf ini la).drop k = nm :: rest) : (nmsOf ini la).drop (k + 1) = rest := (drop_cons hd).1
theorem St.check3 {ss0 ini ss rest : List Str} {la nm P : Str} {S : Option Str} {k : Nat} (h : St ss0 ini la k S ss P) (hd : (nmsOf ini la).drop k = nm :: rest) :
    stk (shiftL ss nm ++ rest) = stk (ss0 ++ (ini ++ [la])) := by
  obtain ⟨_, _, h2, _⟩ := h
  obtain ⟨e1, e2, _, _⟩ := drop_cons hd
  have hst : stk (shiftL ss nm) = stk (ss0 ++ (nmsOf ini la).take (k + 1)) := by
    rw [stk_shiftL, e2, ← List.append_assoc]
    exact stk_congr h2 [nm]
  rw [stk_congr hst, List.append_assoc, ← e1, List.take_append_drop]
  exact stk_filter ss0 ini la
-- HoldsJ
section
variable {prog : Program} {w : World} {A : Around} {E : Value → Shared → Prop} {Q : Flow → Shared → Prop} {s : Shared} {env : Env} {h₀ : Heap} {L : Addr}
/-- what a turn of a while that stores three names must end in -/
def WStep (h₀ : Heap) (L : Addr) (s : Shared) (J : Nat → List (Addr × Obj) → Prop) (Q : Flow → Shared → Prop) (x1 x2 x3 : Str) (m₀ : Str → Option Value) (n : Nat) (f : Flow) (s₃ : Shared) : Prop :=
  match f with
  | .ret v => Q (.ret v) s₃
  | .brk => Q .next s₃
  | _ => ∃ h' tk m₂ news₂ n', s₃ = { s with heap := h', toks := tk } ∧ Fr h₀ L h' m₂ ∧ News h₀ L h' news₂ ∧ n' < n ∧ (∀ y, y ≠ x1 → y ≠ x2 → y ≠ x3 → m₂ y = m₀ y) ∧ J n' news₂
theorem WStep.next {J : Nat → List (Addr × Obj) → Prop} {x1 x2 x3 : Str} {m₀ m₂ : Str → Option Value} {n n' tk : Nat} {h' : Heap} {news₂ rest : List (Addr × Obj)} (F : Fr h₀ L h' m₂) (N : News h₀ L h' rest) (hs : ∀ p ∈ news₂, p ∈ rest) (hn : n' < n)
    (hm : ∀ y, y ≠ x1 → y ≠ x2 → y ≠ x3 → m₂ y = m₀ y) (hJ : J n' news₂) : WStep h₀ L s J Q x1 x2 x3 m₀ n .next { s with heap := h', toks := tk } :=
  ⟨h', tk, m₂, news₂, n', rfl, F, fun p hp => N p (hs p hp), hn, hm, hJ⟩
theorem while_three {test : Expr} {body : List Stmt} {pos : Pos} {m₀ : Str → Option Value} {news : List (Addr × Obj)} {n₀ : Nat} (x1 x2 x3 : Str) (J : Nat → List (Addr × Obj) → Prop) (F : Fr h₀ L s.heap m₀) (N : News h₀ L s.heap news) (hJ : J n₀ news)
    (turn : ∀ n u1 u2 u3 news₁ h₁ tk₁, J n news₁ → Fr h₀ L h₁ (fun y => if y = x1 then u1 else if y = x2 then u2 else if y = x3 then u3 else m₀ y) → News h₀ L h₁ news₁ →
      wpAny (model prog w) A (isTrue test env (eval test env)) (fun b s₂ =>
        if b = true then wpAny (model prog w) A (execs body env) (WStep h₀ L s J Q x1 x2 x3 m₀ n) E s₂ else Q .next s₂) E { s with heap := h₁, toks := tk₁ })
    (hE : PassesOwn (model prog w) A env E := by passes_own) :
    wpAny (model prog w) A (exec (.While test body [] pos) env) Q E s := by
  refine While_inv2 (fun n m nx => (∀ y, y ≠ x1 → y ≠ x2 → y ≠ x3 → m y = m₀ y) ∧ J n nx) F N ⟨fun _ _ _ _ => rfl, hJ⟩ ?_ hE
  rintro n m₁ nx h tk F₁ N₁ ⟨hm, hJ₁⟩
  have em : m₁ = fun y => if y = x1 then m₁ x1 else if y = x2 then m₁ x2 else if y = x3 then m₁ x3 else m₀ y := by
    funext y
    by_cases e1 : y = x1
    · simp [e1]
    · by_cases e2 : y = x2
      · rw [if_neg e1, if_pos e2, e2]
      · by_cases e3 : y = x3
        · rw [if_neg e1, if_neg e2, if_pos e3, e3]
        · rw [if_neg e1, if_neg e2, if_neg e3]; exact hm y e1 e2 e3
  rw [em] at F₁
  refine wpAny_mono (turn n _ _ _ nx h tk hJ₁ F₁ N₁) (fun b s₂ p => ?_) fun _ _ x => x
  cases b with
  | false => simpa using p
  | true =>
    simp only [if_true] at p ⊢
    refine wpAny_mono p (fun f s₃ q => ?_) fun _ _ x => x
    cases f with
    | ret v => exact q
    | brk => exact q
    | next => obtain ⟨h', tk, m₂, n₂, n', e, F', N', hn, hm', hJ'⟩ := q; exact ⟨h', tk, m₂, n₂, n', e, F', N', hn, hm', hJ'⟩
    | cont => obtain ⟨h', tk, m₂, n₂, n', e, F', N', hn, hm', hJ'⟩ := q; exact ⟨h', tk, m₂, n₂, n', e, F', N', hn, hm', hJ'⟩
theorem pick156 {h : Heap} {a b c d e f g : Addr × Obj} (N : News h₀ L h [a, b, c, d, e, f, g]) : News h₀ L h [a, e, f] := fun p hp => N p (by
  rcases List.mem_cons.mp hp with rfl | hp
  · exact .head _
  · rcases List.mem_cons.mp hp with rfl | hp
    · exact .tail _ (.tail _ (.tail _ (.tail _ (.head _))))
    · rw [List.mem_singleton.mp hp]; exact .tail _ (.tail _ (.tail _ (.tail _ (.tail _ (.head _))))))
end
/-- the loop's word -/
def HoldsJ (prog : Program) (w : World) (ss0 ini : List Str) (la : Str) (vz : List Value) (NM TL EN : Addr) (n : Nat) (news : List (Addr × Obj)) : Prop :=
  ∃ k tv nT oE kvsE D S ss P, n + k = (nmsOf ini la).length ∧ news = [(NM, W.listOf (List.toArray vz) 0), (TL, W.listOf (List.toArray tv) nT), (EN, oE)] ∧ oE.IsDictOf (strKind prog w) kvsE ∧ FlatPairs PyData.str kvsE D ∧ EnvD D S P ∧
    CarriedAll tv (((nmsOf ini la).take k).map toldD) ∧ St ss0 ini la k S ss P
theorem HoldsJ.start {prog : Program} {w : World} {ss0 ini : List Str} {la : Str} {vz : List Value} {NM TL EN : Addr} {oE : Obj} {nT : Nat} {kvsE : List (Str × Value)} {D : List (PyData × PyData)} {S : Option Str} {P : Str}
    (h1 : oE.IsDictOf (strKind prog w) kvsE) (h2 : FlatPairs PyData.str kvsE D) (h3 : EnvD D S P) (h4 : St ss0 ini la 0 S ss0 P) :
    HoldsJ prog w ss0 ini la vz NM TL EN (nmsOf ini la).length [(NM, W.listOf (List.toArray vz) 0), (TL, W.listOf #[] nT), (EN, oE)] :=
  ⟨0, [], nT, oE, kvsE, D, S, ss0, P, rfl, rfl, h1, h2, h3, by simp; exact .nil, h4⟩
theorem HoldsJ.next {prog : Program} {w : World} {ss0 ini : List Str} {la : Str} {vz tv : List Value} {NM TL EN : Addr} {oE : Obj} {nT n k : Nat} {kvsE : List (Str × Value)} {D : List (PyData × PyData)} {S : Option Str} {ss : List Str} {P : Str}
    (h0 : n + k = (nmsOf ini la).length) (h1 : oE.IsDictOf (strKind prog w) kvsE) (h2 : FlatPairs PyData.str kvsE D) (h3 : EnvD D S P) (h5 : CarriedAll tv (((nmsOf ini la).take k).map toldD)) (h4 : St ss0 ini la k S ss P) :
    HoldsJ prog w ss0 ini la vz NM TL EN n [(NM, W.listOf (List.toArray vz) 0), (TL, W.listOf (List.toArray tv) nT), (EN, oE)] :=
  ⟨k, tv, nT, oE, kvsE, D, S, ss, P, h0, rfl, h1, h2, h3, h5, h4⟩
theorem path_ne (ps : List Str) (p : Str) : (pathOf (ps ++ [p]) != Str.ofString "") = true := by
  rw [bne_iff_ne]
  intro h
  have h1 := congrArg Str.length h
  rw [path_len_append, path_len_one, em_is] at h1
  have h3 : Str.empty.length = 0 := rfl
  omega
theorem words_HoldsJ_66 : True := by
  k_with "call builtin:len" => (k_here; (with_reducible show wpAny _ _ (call (Value.builtin "len") [Value.ref _]) _ _ _); k_dflt (refine call_len_list (by kmk_list) (by first | omega | (simp only [Array.size_push]; omega)) ?_))
  trivial
section
variable {prog : Program} {w : World} {A : Around} {E : Value → Shared → Prop} {s : Shared}
/-- a value comes of it, and nothing else happens -/
def JoinV (P : Value → Prop) (s : Shared) (v : Value) (s' : Shared) : Prop := P v ∧ ∃ tk, s' = { s with toks := tk }
theorem JoinV.mk {P : Value → Prop} {s : Shared} {v : Value} {tk : Nat} (h : P v) : JoinV P s v { s with toks := tk } := ⟨h, tk, rfl⟩
theorem join_val {t : Sem Value} {Q : Value → Shared → Prop} (P : Value → Prop) (h1 : wpAny (model prog w) A t (JoinV P s) E s)
    (h2 : ∀ v tk, P v → Q v { s with toks := tk }) : wpAny (model prog w) A t Q E s :=
  wpAny_mono h1 (fun _ _ ⟨e1, tk, e2⟩ => by rw [e2]; exact h2 _ tk e1) fun _ _ e => e
end
theorem words_HoldsJ_78 : True := by
  k_with "compareOp NotEq ref ref" => ((with_reducible show wpAny _ _ (compareOp CmpOp.NotEq (Value.ref _) (Value.ref _)) _ _ _); refine Wait.out ?_)
  k_with "compareOp Eq ref ref" => ((with_reducible show wpAny _ _ (compareOp CmpOp.Eq (Value.ref _) (Value.ref _)) _ _ _); refine Wait.out ?_)
  k_with "exec While" => ((with_reducible show wpAny _ _ (exec (Stmt.While _ _ _ _) _) _ _ _); refine Wait.out ?_)
  trivial
-- Holds
theorem holds_ok {w : World} {dp un : Nat} {fr : Option (List Env)} {gd : Option (List Code)} {s : Shared} {R : Result → Shared → Prop} {mean : ExcName → Option Value} {mg mb : Str → Option Value} {G pp : Addr} {DG : List (PyData × PyData)} {S : Option Str} {ss0 ini : List Str} {la : Str} {vs : List Value}
   (X : (hd.heap_39 w.params).In s.heap) (T : Top hd.view_39 (looseW hd.view_39 [Str.ofString "normpath_posixpath", Str.ofString "normpath_posixpath2"]) mean mg mb s.heap)
   (hdp : dp < 890) (hun : un + 100 < cLine)
   (TG : StrTab PySem.Challenge.rw_pd0042_01.row.prog w s.heap G DG) (hG : GivenD DG S) (hS : sOf S = pathOf ss0)
   (hpp : s.heap.IsList pp vs.toArray) (hvs : StrsAre vs (ini ++ [la])) (hok : ∀ a ∈ ini ++ [la], PieceOk a) (hl : ini.length ≤ 20)
   (hs0 : ∀ a ∈ ss0, NoSl a) (hs1 : ∀ a ∈ ss0.head?, a ≠ Str.ofString "") (hs2 : (pathOf ss0).length ≤ 100)
   (h : ∀ h' tk', s.heap.StaysIn h' → R (.ok (.ret (.bool true))) { s with heap := h', toks := tk' }) :
   codeAny (model PySem.Challenge.rw_pd0042_01.row.prog w) (AA dp un fr gd) (.call (.ref 165) ⟨[.ref G, .ref pp], []⟩) R s := by
  have hG2 := hG.len
  have hvl := hvs.length
  have hns := fun a ha => (hok a ha).1
  have hle := fun a ha => (hok a ha).2.1
  have hso := fun a ha => (hok a ha).2.2
  have hol := PySem.Flt.Hid.mk hok
  clear hok
  rw [List.length_append, List.length_singleton] at hvl
  obtain ⟨tl, ws, rfl, hws⟩ := strs_snoc_inv hvs
  have hwl := hws.length
  have hpl : (pathOf (ini ++ [la])).length ≤ 130 := by
    have h1 := sum_len_le (B := 5) (ini ++ [la]) hle
    rw [path_len]
    rw [List.length_append, List.length_singleton] at h1 ⊢
    omega
  have hE := hG.put (pathOf (ini ++ [la]))
  have hEs := (congrArg (fun z => z.getD (PyData.str (Str.ofString ""))) hE.script).trans ((sOf_map S).trans (congrArg PyData.str hS))
  have hh : (AA dp un fr gd).handled = none := rfl
  revert X; k_fill; intro X
  refine' enter (news := []) (binds := [(Str.ofString "given", .ref G), (Str.ofString "pieces", .ref pp)]) ?e1 ?e2 ?e3 X T ?e6 ?e7 ?e8 ?e9 ?e10 ?e11 ?_ ?e12 ?e13 ?e14
  case e1 => exact fun _ _ e => e
  case e2 => exact Nat.le_refl _
  case e3 => exact fun _ h => nomatch h
  case e6 => k_is
  case e7 => k_is
  case e8 => show dp < 1000; omega
  case e9 => exact BindsTo.of_eq rfl
  case e10 => exact locs rfl
  case e11 => decide
  case e12 => exact rfl
  case e13 => exact rfl
  case e14 => exact rfl
  w_on
  intro L' h1 F' N' l1
  (try dsimp only)
  k_fold
  k_steps
  rename Fr _ _ _ _ => F9
  rename News _ _ _ _ => N9
  refine Wait.mk ?_
  refine comp_strs (pz := fun _ => true) (f := fun p => Str.ofString "/" ++ p) rfl (Fr.lst F9 hpp) hvs F9 N9 ?_ ?_ ?_ (by rw [sizeLine_eq]; simp; omega)
  · intros; exact no_tests
  · intro C a t s₂ m₂ E' ha _ hn hm
    have := hle a ha
    exact elt_slash hn hm (hsz := by rw [sl_len, sizeLine_eq]; omega)
  intro D1 zs1 n1 h1' tk1 F10 N10 hD1 hz1
  rw [show (ini ++ [la]).filter (fun _ => true) = ini ++ [la] from List.filter_eq_self.mpr (fun _ _ => rfl)] at hz1
  k_steps
  rename Fr _ _ _ _ => F11
  rename News _ _ _ _ => N11
  rename (FlatPairs _ _ _) => hf11
  rename (Obj.IsDictOf _ _ _) => hd11
  refine Wait.mk ?_
  rw [List.dropLast_concat] at N11
  refine comp_strs (pz := keepP) (f := fun p => p) rfl (News.isList N11 (.head _)) hws F11 N11 ?_ ?_ ?_ (by rw [sizeLine_eq]; omega)
  · intro C a t s₂ m₂ E' _ hn hm
    exact one_test (test_and2 hn hm)
  · intro C a t s₂ m₂ E' ha _ hn hm
    exact elt_name hn hm
  intro D2 zs2 n2 h2' tk2 F12 N12 hD2 hz2
  rw [List.map_id'] at hz2
  have hzl2 := hz2.length
  have hkl : (ini.filter keepP).length ≤ ini.length := List.length_filter_le _ _
  k_steps
  rename News _ _ _ _ => N13
  rw [pick_last_arr] at N13
  k_steps
  rename Fr _ _ _ _ => F14
  rename News _ _ _ _ => N14
  refine Wait.mk ?_
  have N15 := pick156 N14
  rw [← pathOf_append] at F14
  refine while_three (Str.ofString "old") (Str.ofString "name") (Str.ofString "due") (HoldsJ PySem.Challenge.rw_pd0042_01.row.prog w ss0 ini la (zs2 ++ [Value.str la tl]) _ _ _) F14 N15 (HoldsJ.start hd11 hf11 hE (St.start hS hs0 hs1 hns (by omega))) ?_
  rintro n u1 u2 u3 news₁ h₁ tk₁ ⟨k, tv, nT, oE, kvsE, D, S', ss, P, hnk, rfl, hdE, hfE, hE2, htv, hSt⟩ F16 N16
  clear hd11 hf11 N14 N15
  have hpath := hE2.path
  have hDl := hE2.len
  have hscr := (congrArg (fun z => z.getD (PyData.str (Str.ofString ""))) hE2.script).trans ((sOf_map S').trans (congrArg PyData.str hSt.1))
  have htl := htv.length_eq
  rw [List.length_map, List.length_take] at htl
  have hvzl : (zs2 ++ [Value.str la tl]).length = (ini.filter keepP).length + 1 := by rw [List.length_append, hzl2]; rfl
  have htl2 : tv.toArray.size = tv.length := List.size_toArray
  have hvl2 : (ws ++ [Value.str la tl]).toArray.size = ini.length + 1 := by rw [List.size_toArray]; exact hvl
  have hnl := nmsOf_len ini la
  have h240 := hSt.2.2.2.1
  rcases hSt.2.2.2.2 with ⟨hk, hh1, ini', la', rfl, hd', hns'⟩ | ⟨hk, rfl, hS'⟩
  · have hne := path_ne ini' la'
    have hPl : (pathOf (ini' ++ [la'])).length ≤ 240 := by omega
    have htk : tv.length = k := by omega
    cases hd : (nmsOf ini la).drop k with
    | nil => exfalso; have h9 := congrArg List.length hd; rw [List.length_drop, List.length_nil] at h9; omega
    | cons nm rest =>
    rw [hd] at hd'
    have hlen := names_len hd'
    have hnmm := nmsOf_mem (drop_cons hd).2.2.1
    have hnml := hle nm hnmm
    have hdr := (drop_cons hd).1
    k_steps
    rename Fr _ _ _ _ => F17
    rename News _ _ _ _ => N17
    have hst := stays_hide F17 N17 (as := [_]) (fun a ha => by rw [List.mem_singleton.mp ha]; exact ⟨_, .tail _ (.tail _ (.head _))⟩)
    refine use_change (fun v o' => NameIs v nm ∧ ∃ kvs', o'.IsDictOf (strKind PySem.Challenge.rw_pd0042_01.row.prog w) kvs' ∧ FlatPairs PyData.str kvs' (putD (.str (Str.ofString "PATH_INFO")) (.str (pathOf rest)) (putD (.str (Str.ofString "SCRIPT_NAME")) (.str (shiftS ss nm)) D))) F17 N17 (by k_updF)
      (fun R hR => shift_ok (X.keeps hst) (T.keeps hst) (by show dp + 1 < 920; omega) (N17 _ (.tail _ (.tail _ (.head _)))).1 (by assumption) hdE hfE (by omega) (by rw [hpath]; rfl) hscr (by omega) (by omega) hd' hns' hSt.2.1 hh1 (fun v h' o' kvs' tk' hk' hg hd hf hv => hR v h' o' tk' hk' hg ⟨hv, kvs', hd, hf⟩)) ?_
    rintro v oE2 h18 tk18 ⟨hv, kvs2, hd2, hf2⟩ F18 N18
    have hE3 := hE2.put (shiftS ss nm) (pathOf rest)
    have hSt2 := hSt.step hd hns hlen
    have hc3 := hSt.check3 hd
    generalize putD (.str (Str.ofString "PATH_INFO")) (.str (pathOf rest)) (putD (.str (Str.ofString "SCRIPT_NAME")) (.str (shiftS ss nm)) D) = D3 at *
    have hssn := hSt.2.1
    have hnmn := hns nm hnmm
    clear hpath hscr hdE hfE hE2 hst N17
    have hpath3 := hE3.path
    have hscr3 := hE3.script
    have hDl3 := hE3.len
    rw [Option.map_some] at hscr3
    k_steps
    refine Wait.mk (join_str (fun Y => PySem.Flt.Hid (SameName Y nm)) ?_ ?_)
    · refine wpAny_IfExp ?_
      unfold NameIs at hv
      by_cases e : nm = Str.ofString "."
      · rw [if_pos e] at hv
        subst hv
        k_steps
        exact JoinS.mk (PySem.Flt.Hid.mk (.inr ⟨rfl, .inr e⟩))
      · rw [if_neg e] at hv
        obtain ⟨tn, hv⟩ := hv
        subst hv
        k_steps
        all_goals first
          | exact JoinS.mk (PySem.Flt.Hid.mk (.inl rfl))
          | (rename ((nm.length : Int) = 0) => hc; exact JoinS.mk (PySem.Flt.Hid.mk (.inr ⟨rfl, .inl (len_zero hc)⟩)))
    intro Y tY tkY hY
    have hY := hY.out
    have hYl : Y.length ≤ 5 := by
      rcases hY with h9 | ⟨h9, _⟩
      · rw [h9]; exact hnml
      · rw [h9]; decide +kernel
    have hduel : (shiftS ss nm).length ≤ 240 := by rw [pathOf_shiftL]; have := hSt2.2.2.2.1; omega
    k_steps
    rename Fr _ _ _ _ => F19
    rename News _ _ _ _ => N19
    have hYp : (pathOf ss ++ Str.ofString "/" ++ Y).length ≤ 1000 := by rw [Str.length_append, Str.length_append, sl_len]; omega
    have hck1 := check_1 hssn hnmn hY
    refine use_pure (fun t' => .str (placeT (pathOf ss ++ Str.ofString "/" ++ Y)) t') F19 N19 (fun R hR => place_ok (X.keeps F19.keep) (T.keeps F19.keep) (by show dp + 1 < 900; omega) hYp hR) ?_
    intro t20 h20 tk20 F20 N20
    generalize placeT (pathOf ss ++ Str.ofString "/" ++ Y) = due at *
    have hduel2 : due.length ≤ 240 := by
      have h9 := congrArg Str.length hck1
      rw [Str.length_append] at h9
      omega
    have htail : (tailOf nm).length ≤ 1 := by unfold tailOf; split <;> decide +kernel
    clear F19 N19
    k_steps
    refine Wait.mk (join_str (fun Z => PySem.Flt.Hid (Z = tailOf nm)) ?_ ?_)
    · refine wpAny_IfExp ?_
      unfold NameIs at hv
      by_cases e : nm = Str.ofString "."
      · rw [if_pos e] at hv
        subst hv
        have e2 : Str.ofString "" = tailOf nm := by rw [e]; decide +kernel
        k_steps
        exact JoinS.mk (PySem.Flt.Hid.mk e2)
      · rw [if_neg e] at hv
        obtain ⟨tn, hv⟩ := hv
        subst hv
        k_steps
        all_goals first
          | (rename ((nm == Str.ofString "") = true) => hc
             have e2 : Str.ofString "/" = tailOf nm := by unfold tailOf; rw [if_pos (beq_iff_eq.mp hc)]
             exact JoinS.mk (PySem.Flt.Hid.mk e2))
          | (rename ((nm == Str.ofString "") = false) => hc
             have e2 : Str.ofString "" = tailOf nm := by unfold tailOf; rw [if_neg (beq_eq_false_iff_ne.mp hc)]
             exact JoinS.mk (PySem.Flt.Hid.mk e2))
    intro Z tZ tkZ hZ
    have hZ := hZ.out
    subst hZ
    have hck1b : (shiftS ss nm != due ++ tailOf nm) = false := by rw [← hck1]; exact bne_self_eq_false _
    k_steps
    rename Fr _ _ _ _ => F21
    rename News _ _ _ _ => N21
    refine Wait.mk ?_
    rw [show (tv.toArray.push v).size = k + 1 by rw [Array.size_push]; omega] at N21
    have hz21 := strs_drop (hz2.append' (.cons la tl .nil)) (k + 1)
    rw [show (ini.filter keepP ++ [la]).drop (k + 1) = rest from hdr] at hz21
    have hrl : ∀ a ∈ rest, a ∈ ini ++ [la] := fun a ha => nmsOf_mem (List.mem_of_mem_drop (hdr ▸ ha))
    have hrlen := hz21.length
    have hrln : rest.length ≤ 21 := by
      have h9 := congrArg List.length hdr
      rw [List.length_drop] at h9
      omega
    refine comp_strs (pz := fun _ => true) (f := fun p => Str.ofString "/" ++ p) rfl (News.isList N21 (.head _)) hz21 F21 N21 ?_ ?_ ?_ (by rw [sizeLine_eq]; omega)
    · intros; exact no_tests
    · intro C a t s₂ m₂ E' ha _ hn hm
      have := hle a (hrl a ha)
      exact elt_slash hn hm (hsz := by rw [sl_len, sizeLine_eq]; omega)
    intro D22 zs22 n22 h22 tk22 F22 N22 hD22 hz22
    rw [show rest.filter (fun _ => true) = rest from List.filter_eq_self.mpr (fun _ _ => rfl)] at hz22
    have hck2 : (pathOf rest != pathOf rest) = false := bne_self_eq_false _
    k_steps
    rename Fr _ _ _ _ => F23
    rename News _ _ _ _ => N23
    have hdn : ∀ a ∈ shiftL ss nm ++ rest, NoSl a := fun a ha => (List.mem_append.mp ha).elim (shiftL_noSl hssn hnmn a) (fun h9 => hns a (hrl a h9))
    have hprl : (pathOf rest).length ≤ 240 := by omega
    have hdl : (pathOf (Str.ofString "." :: (shiftL ss nm ++ rest))).length ≤ 1000 := by
      rw [← dotted, Str.length_append, Str.length_append, ← pathOf_shiftL, show (Str.ofString "/.").length = 2 by decide +kernel]
      omega
    have hwn : ∀ a ∈ ss0 ++ (ini ++ [la]), NoSl a := fun a ha => (List.mem_append.mp ha).elim (hs0 a) (hns a)
    have hwl : (pathOf (ss0 ++ (ini ++ [la]))).length ≤ 300 := by rw [path_len_append]; omega
    have hwp := stk_plen (ss0 ++ (ini ++ [la]))
    rw [pathOf_shiftL, dotted]
    refine use_pure (fun t' => .str (normT (Str.ofString "." :: (shiftL ss nm ++ rest))) t') F23 N23 (fun R hR => norm2_ok (X.keeps F23.keep) (T.keeps F23.keep) (by show dp + 1 < 930; omega) dot_noSl hdn (.inl (by decide +kernel)) hdl hR) ?_
    intro t24 h24 tk24 F24 N24
    have hck3 := check_3 hc3
    generalize normT (Str.ofString "." :: (shiftL ss nm ++ rest)) = nt at *
    k_steps
    rename Fr _ _ _ _ => F25
    rename News _ _ _ _ => N25
    refine use_pure (fun t' => .str (placeT (pathOf (ss0 ++ (ini ++ [la])))) t') F25 N25 (fun R hR => place_ok (X.keeps F25.keep) (T.keeps F25.keep) (by show dp + 1 < 900; omega) (by omega) hR) ?_
    intro t26 h26 tk26 F26 N26
    rw [place_path hwn]
    generalize pathOf (stk (ss0 ++ (ini ++ [la]))) = wp at hck3 hwp ⊢
    have hcar : CarriedAll (tv ++ [v]) (((nmsOf ini la).take (k + 1)).map toldD) := by
      rw [(drop_cons hd).2.1, List.map_append]
      exact carried_append htv (.cons (carried_name hv) .nil)
    by_cases hw : wp = Str.ofString ""
    · rw [if_pos hw] at hck3
      subst hw
      subst hck3
      k_steps
      rename Fr _ _ _ _ => F29
      rename News _ _ _ _ => N29
      rw [List.push_toArray] at N29
      refine WStep.next (news₂ := [_, _, _]) (n' := n - 1) F29 N29 (fun p hp => .tail _ (.tail _ hp)) (by omega) (fun y h1 h2 h3 => by simp only [if_neg h1, if_neg h2, if_neg h3]) (HoldsJ.next (k := k + 1) (by omega) hd2 hf2 hE3 hcar hSt2)
    · rw [if_neg hw] at hck3
      subst hck3
      have hw1 : 1 ≤ nt.length := by
        rcases Nat.eq_zero_or_pos nt.length with h9 | h9
        · exact absurd (len_zero (by omega)) hw
        · exact h9
      have hck3b : (nt != nt) = false := bne_self_eq_false _
      k_steps
      case' _ => skip
      · rename Fr _ _ _ _ => F29
        rename News _ _ _ _ => N29
        rw [List.push_toArray] at N29
        refine WStep.next (news₂ := [_, _, _]) (n' := n - 1) F29 N29 (fun p hp => .tail _ (.tail _ hp)) (by omega) (fun y h1 h2 h3 => by simp only [if_neg h1, if_neg h2, if_neg h3]) (HoldsJ.next (k := k + 1) (by omega) hd2 hf2 hE3 hcar hSt2)
      · exfalso; omega
  · have hlk : tv.length = (nmsOf ini la).length := by omega
    have hke : k = (nmsOf ini la).length := by omega
    rw [hke, List.take_length] at htv
    k_steps
    refine Wait.mk (join_val (fun v => PySem.Flt.Hid (Carried v (toldD la))) ?_ ?_)
    · refine wpAny_IfExp ?_
      k_steps
      all_goals first
        | (rename ((la == Str.ofString ".") = true) => hc
           have e2 : toldD la = .none := by unfold toldD; rw [if_pos (beq_iff_eq.mp hc)]
           exact JoinV.mk (PySem.Flt.Hid.mk (by rw [e2]; exact .none)))
        | (rename ((la == Str.ofString ".") = false) => hc
           have e2 : toldD la = .str la := by unfold toldD; rw [if_neg (beq_eq_false_iff_ne.mp hc)]
           exact JoinV.mk (PySem.Flt.Hid.mk (by rw [e2]; exact .str _ _)))
    intro v tkv hv
    have hv := hv.out
    k_steps
    rename Fr _ _ _ _ => F30
    rename News _ _ _ _ => N30
    refine Wait.mk ?_
    have hcat : CarriedAll ((zs2 ++ [Value.str la tl]).dropLast.toArray.toList ++ #[v].toList) ((nmsOf ini la).map toldD) := by
      rw [List.dropLast_concat]
      show CarriedAll (zs2 ++ [v]) _
      unfold nmsOf
      rw [List.map_append]
      refine carried_append (carried_strs hz2 fun a ha he => ?_) (.cons hv .nil)
      have h9 := (List.mem_filter.mp ha).2
      rw [he] at h9
      revert h9; unfold keepP; decide +kernel
    refine ne_told (News.isList N30 (.tail _ (.tail _ (.tail _ (.tail _ (.head _)))))) (News.isList N30 (.head _)) htv hcat (fun a ha => hso a (nmsOf_mem ha)) (by rw [units_deeper]; show un + _ + 64 < cLine; omega) ?_
    k_steps
    rename Fr _ _ _ _ => F31
    rename News _ _ _ _ => N31
    have hst := stays_hide F31 N31 (as := [_]) (fun a ha => by rw [List.mem_singleton.mp ha]; exact ⟨_, .tail _ (.tail _ (.tail _ (.tail _ (.tail _ (.head _)))))⟩)
    refine use_change (fun v o' => v = .none ∧ o' = oE) F31 N31 (by k_updF)
      (fun R hR => shift_none (X.keeps hst) (T.keeps hst) (by show dp + 1 < 920; omega) (N31 _ (.tail _ (.tail _ (.tail _ (.tail _ (.tail _ (.head _))))))).1 (by assumption) hdE hfE (by omega) (by rw [hpath]; rfl) (fun h' tk' hk' hg => hR _ h' oE tk' hk' hg ⟨rfl, rfl⟩)) ?_
    rintro v3 oE3 h32 tk32 ⟨rfl, rfl⟩ F32 N32
    k_steps
    rename Fr _ _ _ _ => F33
    rename News _ _ _ _ => N33
    have hwn : ∀ a ∈ ss0 ++ (ini ++ [la]), NoSl a := fun a ha => (List.mem_append.mp ha).elim (hs0 a) (hns a)
    have hwl : (pathOf (ss0 ++ (ini ++ [la]))).length ≤ 300 := by rw [path_len_append]; omega
    have hwp := stk_plen (ss0 ++ (ini ++ [la]))
    refine use_pure (fun t' => .str (placeT (pathOf (ss0 ++ (ini ++ [la])))) t') F33 N33 (fun R hR => place_ok (X.keeps F33.keep) (T.keeps F33.keep) (by show dp + 1 < 900; omega) (by omega) hR) ?_
    intro t34 h34 tk34 F34 N34
    rw [place_path hwn]
    have htail : (tailOf la).length ≤ 1 := by unfold tailOf; split <;> decide +kernel
    k_steps
    refine Wait.mk (join_str (fun Z => PySem.Flt.Hid (Z = tailOf la)) ?_ ?_)
    · refine wpAny_IfExp ?_
      k_steps
      all_goals first
        | (rename ((la == Str.ofString "") = true) => hc
           have e2 : Str.ofString "/" = tailOf la := by unfold tailOf; rw [if_pos (beq_iff_eq.mp hc)]
           exact JoinS.mk (PySem.Flt.Hid.mk e2))
        | (rename ((la == Str.ofString "") = false) => hc
           have e2 : Str.ofString "" = tailOf la := by unfold tailOf; rw [if_neg (beq_eq_false_iff_ne.mp hc)]
           exact JoinS.mk (PySem.Flt.Hid.mk e2))
    intro Z tZ tkZ hZ
    have hZ := hZ.out
    subst hZ
    k_steps
    rename Fr _ _ _ _ => F40
    rename News _ _ _ _ => N40
    rename (Obj.IsDictOf _ _ _) => hd40
    rename (FlatPairs _ _ _) => hf40
    refine Wait.mk ?_
    have hS9 : S' = some (pathOf (stk (ss0 ++ (ini ++ [la]))) ++ tailOf la) := by
      rw [hS']
      unfold nmsOf
      rw [stk_filter]
    rw [hS9] at hE2
    refine keq_tabs (knd := PySem.strKind _ _) (enc := PyData.str) (Db := [rowH, rowS (pathOf (stk (ss0 ++ (ini ++ [la]))) ++ tailOf la), rowP (Str.ofString "")]) PyProof.V.same_str
      (TabAt.ofNews N40 (.tail _ (.tail _ (.tail _ (.tail _ (.tail _ (.tail _ (.head _))))))) (by assumption) hdE hfE) (TabAt.ofNews N40 (.head _) (by assumption) hd40 hf40) hE2.rows.2 (by rw [units_deeper]; show un + _ < cLine; omega) hE2.rows.1 ?_
    exact h _ _ F40.keep
-- LawKit
section
variable {prog : Program} {w : World} {A : Around} {E : Value → Shared → Prop} {s₁ s : Shared} {h₀ : Heap} {L : Addr} {m : Str → Option Value} {news : List (Addr × Obj)}
theorem paired_all {P : Value → Prop} : ∀ {vs ys : List Value}, Paired (fun _ r => P r) vs ys → ys.length = vs.length ∧ ∀ r ∈ ys, P r := by
  intro vs ys h
  induction h with
  | nil => exact ⟨rfl, by simp⟩
  | cons h1 _ ih =>
    refine ⟨by simp [ih.1], fun r hr => ?_⟩
    rcases List.mem_cons.mp hr with rfl | hr
    · exact h1
    · exact ih.2 r hr
/-- a comprehension without a test over a list, its elements told by a word -/
theorem comp_vals {env : Env} {elt : Expr} {x : Str} {scope : Scope} {Q : Value → Shared → Prop} {l : Addr} {vs : List Value} (P : Value → Prop)
    (hh : A.handled = none) (hl : s₁.heap.IsList l vs.toArray) (F : Fr h₀ L s₁.heap m) (N : News h₀ L s₁.heap news)
    (g2 : ∀ C v s₂ m₂ E', v ∈ vs → s₂.heap.Ns (compEnv scope C env).locals m₂ → m₂ x = some v → (∀ b o, s₁.heap.get? b = some o → s₂.heap.get? b = some o) → wpAny (model prog w) A (eval elt (compEnv scope C env)) (fun r s₃ => P r ∧ Keeps s₂ s₃) E' s₂)
    (g3 : ∀ D (zs : List Value) n h' tk, Fr h₀ L h' m → News h₀ L h' ((D, W.listOf (List.toArray zs) n) :: news) → (∀ p ∈ news, p.1 ≠ D) → zs.length = vs.length → (∀ z ∈ zs, P z) → Q (.ref D) { s₁ with heap := h', toks := tk })
    (hsz : vs.length ≤ sizeLine) :
    wpAny (model prog w) A (pyIter (.ref l)) (CompPost prog w A env scope x [] elt Q) E s₁ := by
  have hlt : l < s₁.heap.objs.size := by obtain ⟨_, e, _⟩ := hl; exact Heap.lt_size e
  refine wpAny_pyIter_list hl ?_
  have up : ∀ (h' : Heap), (∀ b o', b ∉ [s₁.heap.objs.size] → (s₁.heap.push { cls := .type "list_iterator", data := .fields #[.ref l, .int 0 0] }).get? b = some o' → h'.get? b = some o') → ∀ b o', s₁.heap.get? b = some o' → h'.get? b = some o' :=
    fun h' hk b o' e => hk b o' (not_iter_of_old e) (Heap.get?_push_of_some _ e)
  refine ⟨fun _ => true, fun _ r => P r, s₁.heap.objs.size, [s₁.heap.objs.size, l], [s₁.heap.objs.size], vs.toArray.size, _, _, rfl, Walks.list hh _ l (Nat.ne_of_lt hlt) vs.toArray, (by rw [List.size_toArray]; exact hsz),
    ⟨⟨_, Heap.get?_push_size _ rfl, rfl, rfl⟩, hl.at fun o e => Heap.get?_push_of_some _ e⟩, ?_, ⟨?_, ?_⟩, ?_⟩
  · intro b hb
    show b < (s₁.heap.push _).objs.size
    rw [Heap.size_push]
    rcases List.mem_cons.mp hb with rfl | hb
    · exact Nat.lt_succ_self _
    · rw [List.mem_singleton.mp hb]; exact Nat.lt_succ_of_lt hlt
  · intro C i v s₃ m₃ E' _ _ _ _ _
    exact no_tests
  · intro C i v s₃ m₃ E' hP _ hn hm hk htk
    exact g2 C v s₃ m₃ E' (List.mem_of_getElem? (by simpa using hP)) hn hm (fun b o e => up _ (by first | exact hk | exact htk) b o e)
  · intro D h' tk ys vs' hnew hlD hplD hlen hP hF hk
    have e' : vs' = vs := by simpa using walked_is hlen hP
    subst e'
    have F' := F.keeps (up h' hk)
    have N' := N.grown (up h' hk)
    have hne : ∀ p ∈ news, p.1 ≠ D := fun p hp e => by rw [← e, Heap.get?_push_of_some _ (N p hp).1] at hnew; cases hnew
    have hD0 : h₀.get? D = none := by
      cases e : h₀.get? D with
      | none => rfl
      | some o' => rw [Heap.get?_push_of_some _ (F.keep _ _ e)] at hnew; cases hnew
    have hnp : NewPlain h' news D ys := ⟨hplD, hne⟩
    have hDL : D ≠ L := hnp.ne_locals F'
    obtain ⟨n, hD⟩ := hplD
    rw [List.filter_eq_self.mpr (fun _ _ => rfl)] at hF
    have hpa := paired_all hF
    refine g3 D ys.toList n h' tk F' (fun p hp => ?_) hne hpa.1 hpa.2
    rcases List.mem_cons.mp hp with rfl | hp
    · exact ⟨by rw [Array.toArray_toList]; exact hD, hDL, hD0⟩
    · exact N' p hp
/-- a for over range(n) whose turns store nothing but the loop's own name -/
theorem iter_range {env : Env} {x : Str} {body : List Stmt} {Q : Flow → Shared → Prop} {r : Addr} {n : Nat} {t₀ u₀ v₀ : Tok} {m₀ : Str → Option Value}
    (hh : A.handled = none) (hr : IsRange s.heap r 0 (n : Int) 1 t₀ u₀ v₀) (hsmall : Builtin.Range.small 0 (n : Int) 1 = true) (hn : Builtin.Range.rangeSize 0 (n : Int) 1 = (n : Int)) (F : Fr h₀ env.locals s.heap m₀) (N : News h₀ env.locals s.heap news)
    (turn : ∀ i t h tk I oI, i < n → (∀ p ∈ news, p.1 < I) → Fr h₀ env.locals h (fun y => if y = x then some (.int ((i : Nat) : Int) t) else m₀ y) → News h₀ env.locals h ((I, oI) :: news) →
      wpAny (model prog w) A (execs body env) (fun f s₂ => match f with | .ret v => Q (.ret v) s₂ | .brk => Q .next s₂ | _ => ∃ h' tk' u, s₂ = { s with heap := h', toks := tk' } ∧ Fr h₀ env.locals h' (fun y => if y = x then u else m₀ y) ∧ News h₀ env.locals h' ((I, oI) :: news)) E { s with heap := h, toks := tk })
    (done : ∀ u h tk, Fr h₀ env.locals h (fun y => if y = x then u else m₀ y) → News h₀ env.locals h news → Q .next { s with heap := h, toks := tk }) :
    wpAny (model prog w) A (pyIter (.ref r)) (fun it s₂ => LoopAtV prog w A h₀ env x body Q E it s₂) E s := by
  refine wpAny_pyIter_range hr hsmall ?_
  have W : Walks prog w A s.heap.objs.size [s.heap.objs.size] [s.heap.objs.size] n (fun i v => ∃ t, v = .int (0 + i * 1) t)
      (fun i h => IsRangeIter h s.heap.objs.size (0 + (i : Nat) * 1) ((n : Int) - (i : Nat)) 1) := Walks.range hh _ 0 1 n
  have offI : ∀ p ∈ news, p.1 ∉ [s.heap.objs.size] := fun p hp hI => absurd (Heap.lt_size (N p hp).1) ((List.mem_singleton.mp hI) ▸ Nat.lt_irrefl _)
  refine ⟨_, _, _, n, _, _, m₀, news, fun _ m₁ nw => (∀ y, y ≠ x → m₁ y = m₀ y) ∧ nw = news, rfl, W, ?_, ?_, offI, (by show IsRangeIter _ _ _ _ _; rw [hn]; simpa using Heap.get?_push_size _ rfl), F.push _, (fun p hp => ⟨Heap.get?_push_of_some _ (N p hp).1, (N p hp).2⟩), ⟨fun _ _ => rfl, rfl⟩, ?_, ?_⟩
  · intro hm
    exact absurd F.ns.lt ((List.mem_singleton.mp hm) ▸ Nat.lt_irrefl _)
  · intro b hb
    rw [List.mem_singleton.mp hb]
    exact next_is_new F
  · rintro i v m₁ nw s₁ own ⟨hh', tk', rfl⟩ hin ⟨t, rfl⟩ ⟨hm, rfl⟩ hoff hown hget hall hst F₁ N₁
    have hI0 : h₀.get? s.heap.objs.size = none := next_is_new F
    obtain ⟨oI, hoI⟩ : ∃ oI, hh'.get? s.heap.objs.size = some oI := ⟨_, hst⟩
    have hIo : (s.heap.objs.size, oI) ∈ own := hall _ (by simp) hI0 oI hoI
    have N₂ : News h₀ env.locals hh' ((s.heap.objs.size, oI) :: nw) := fun p hp => by
      rcases List.mem_cons.mp hp with rfl | hp
      · exact N₁ _ (List.mem_append_left _ hIo)
      · exact N₁ p (List.mem_append_right _ hp)
    have e1 : (0 : Int) + (i : Int) * 1 = (i : Int) := by omega
    rw [e1, map_set _ hm] at F₁
    have ownIn : ∀ p ∈ own, p = (s.heap.objs.size, oI) := fun p hp => by
      have h1 := hget p hp
      have e := List.mem_singleton.mp (hown p hp)
      dsimp only at h1
      rw [e, hoI] at h1
      cases h1
      rw [← e]
    refine wpAny_mono (turn i t hh' tk' s.heap.objs.size oI hin (fun p hp => Heap.lt_size (N p hp).1) F₁ N₂) (fun f s₂ p => ?_) fun _ _ e => e
    have fin : (∃ h' tk' u, s₂ = { s with heap := h', toks := tk' } ∧ Fr h₀ env.locals h' (fun y => if y = x then u else m₀ y) ∧ News h₀ env.locals h' ((s.heap.objs.size, oI) :: nw)) →
        LoopStepU h₀ env.locals [s.heap.objs.size] own (fun m₁ nw' => (∀ y, y ≠ x → m₁ y = m₀ y) ∧ nw' = nw) { s with heap := hh', toks := tk' } .next s₂ := by
      rintro ⟨h', tk, u, e, F', N'⟩
      refine ⟨rfl, h', tk, _, nw, e, F', fun p hp => ?_, offI, fun y hy => if_neg hy, rfl⟩
      rcases List.mem_append.mp hp with hp | hp
      · rw [ownIn p hp]; exact N' _ (.head _)
      · exact N' _ (.tail _ hp)
    cases f with
    | ret v => exact p
    | brk => exact p
    | next => exact fin p
    | cont => exact fin p
  · rintro h' tk m' news' F' N' _ ⟨hm, rfl⟩
    rw [map_self hm] at F'
    exact done _ h' tk F' N'
end
-- LawL
theorem words_LawL_0 : True := by
  k_with "eval ListComp" => (k_here; (with_reducible apply ListComp_rowsP); (case hfree => decide); (case hcell => decide); (case hkind => with_unfolding_all rfl); (case hnames => decide); (case hx => with_unfolding_all rfl); (case hs => intro _; with_unfolding_all rfl))
  trivial
local macro_rules | `(tactic| walk_at "call ref") => `(tactic| ((with_reducible show wpAny _ _ (call (Value.ref _) _) _ _ _); refine Wait.out ?_))
theorem words_LawL_4 : True := by
  k_with "call builtin:max" => ((with_reducible show wpAny _ _ (call (Value.builtin "max") [Value.ref _]) _ _ _); refine Wait.out ?_)
  k_with "exec For Name Call cons nil" => ((with_reducible show wpAny _ _ (exec (Stmt.For _ _ _ _ _) _) _ _ _); refine Wait.out ?_)
  trivial
local macro_rules | `(tactic| walk_at "pyIter ref") => `(tactic| ((with_reducible show wpAny _ _ (pyIter (Value.ref _)) _ _ _); refine Wait.out ?_))
def IsPieceI (v : Value) : Prop := ∃ n t, v = .int n t
theorem ints_mem {vs : List Value} {ns : List Int} (h : IntsAre vs ns) : ∀ v ∈ vs, IsPieceI v := by
  induction h with
  | nil => intro v hv; cases hv
  | cons k t _ ih =>
    intro v hv
    rcases List.mem_cons.mp hv with rfl | hv
    · exact ⟨_, _, rfl⟩
    · exact ih v hv
theorem ints_mem2 {vs : List Value} {ns : List Int} (h : IntsAre vs ns) : ∀ v ∈ vs, ∃ n t, v = .int n t ∧ n ∈ ns := by
  induction h with
  | nil => intro v hv; cases hv
  | cons k t _ ih =>
    intro v hv
    rcases List.mem_cons.mp hv with rfl | hv
    · exact ⟨_, _, rfl, .head _⟩
    · obtain ⟨n, t, e, hn⟩ := ih v hv
      exact ⟨n, t, e, .tail _ hn⟩
theorem news_two {h₀ h : Heap} {L : Addr} {l : List (Addr × Obj)} {a b : Addr × Obj} (N : News h₀ L h l) (h1 : a ∈ l) (h2 : b ∈ l) : News h₀ L h [a, b] := fun p hp => by
  rcases List.mem_cons.mp hp with rfl | hp
  · exact N _ h1
  · rw [List.mem_singleton.mp hp]; exact N _ h2
theorem pick_upto (vs : List Value) (k : Nat) (h : k + 1 ≤ vs.length) : (slicePick vs.toArray none (some ((k : Int) + 1)) none).toList = vs.take (k + 1) := by
  have e : sliceBounds none (some ((k : Int) + 1)) none vs.toArray.size = (((0 : Nat) : Int), ((k + 1 : Nat) : Int), 1) := by
    simp only [sliceBounds, Option.getD_none, show (1 : Int) > 0 by decide, if_true, if_neg (show ¬ ((k : Int) + 1) < 0 by omega)]
    refine Prod.ext ?_ (Prod.ext ?_ rfl)
    · dsimp only; omega
    · dsimp only; simp; omega
  rw [kmk_pick_nat _ e]
  simp
theorem small_n {n : Nat} (h : n ≤ 8) : Builtin.Range.small 0 (n : Int) 1 = true := by
  rcases (by omega : n = 0 ∨ n = 1 ∨ n = 2 ∨ n = 3 ∨ n = 4 ∨ n = 5 ∨ n = 6 ∨ n = 7 ∨ n = 8) with rfl | rfl | rfl | rfl | rfl | rfl | rfl | rfl | rfl <;> decide
theorem size_n (n : Nat) : Builtin.Range.rangeSize 0 (n : Int) 1 = (n : Int) := by
  rw [rangeSize_one]; split <;> omega
/-- a text that is no piece, or one with a slash ahead -/
def Bit (x : Str) : Prop := ∃ l : List Str, x = pathOf l ∧ (∀ a ∈ l, NoSl a) ∧ x.length ≤ 3
def IsBit (v : Value) : Prop := ∃ x t, v = .str x t ∧ Bit x
theorem bit_em : Bit (Str.ofString "") := ⟨[], em_is, by simp, by decide +kernel⟩
theorem bit_one {x a : Str} (h : x = Str.ofString "/" ++ a) (h2 : a.cps.toList.contains 47 = false) (h3 : x.length ≤ 3) : Bit x := by
  refine ⟨[a], by rw [h]; exact (Str.append_empty _).symm, fun b hb => ?_, h3⟩
  rw [List.mem_singleton.mp hb]
  intro hm
  have h9 := List.contains_iff_mem.mpr hm
  rw [h2] at h9; cases h9
theorem join_bits : ∀ xs : List Str, (∀ x ∈ xs, Bit x) → ∃ l, Str.join (Str.ofString "") xs = pathOf l ∧ (∀ a ∈ l, NoSl a) ∧ (pathOf l).length ≤ 3 * xs.length ∧ (xs.map (·.length)).sum ≤ 3 * xs.length
  | [], _ => ⟨[], rfl, by simp, by decide, by simp⟩
  | [x], h => by
    obtain ⟨l, e, h1, h2⟩ := h x (.head _)
    exact ⟨l, e, h1, by rw [← e]; simpa using h2, by simpa using h2⟩
  | x :: y :: r, h => by
    obtain ⟨l, e, h1, h2⟩ := h x (.head _)
    obtain ⟨l2, e2, h3, h4, h5⟩ := join_bits (y :: r) (fun z hz => h z (.tail _ hz))
    refine ⟨l ++ l2, ?_, fun a ha => (List.mem_append.mp ha).elim (h1 a) (h3 a), ?_, ?_⟩
    · show x ++ Str.ofString "" ++ Str.join (Str.ofString "") (y :: r) = _
      rw [e2, em_is, Str.append_empty, e, pathOf_append]
    · rw [path_len_append, ← e]
      simp only [List.length_cons] at h4 ⊢
      omega
    · simp only [List.map_cons, List.sum_cons, List.length_cons] at h5 ⊢
      omega
theorem strs_of {P : Str → Prop} : ∀ {zs : List Value}, (∀ z ∈ zs, ∃ p t, z = .str p t ∧ P p) → ∃ ps, StrsAre zs ps ∧ ∀ p ∈ ps, P p
  | [], _ => ⟨[], .nil, by simp⟩
  | z :: zs, h => by
    obtain ⟨p, t, rfl, hp⟩ := h z (.head _)
    obtain ⟨ps, h1, h2⟩ := strs_of (fun z hz => h z (.tail _ hz))
    refine ⟨p :: ps, .cons _ _ h1, fun q hq => ?_⟩
    rcases List.mem_cons.mp hq with rfl | hq
    · exact hp
    · exact h2 q hq
theorem ints_of {P : Int → Prop} : ∀ {zs : List Value}, (∀ z ∈ zs, ∃ n t, z = .int n t ∧ P n) → ∃ ns, IntsAre zs ns ∧ ∀ n ∈ ns, P n
  | [], _ => ⟨[], .nil, by simp⟩
  | z :: zs, h => by
    obtain ⟨n, t, rfl, hn⟩ := h z (.head _)
    obtain ⟨ns, h1, h2⟩ := ints_of (fun z hz => h z (.tail _ hz))
    refine ⟨n :: ns, .cons _ _ h1, fun q hq => ?_⟩
    rcases List.mem_cons.mp hq with rfl | hq
    · exact hn
    · exact h2 q hq
theorem words_LawL_87 : True := by
  k_with "subscriptTail List cons Name ref int" => ((with_reducible show wpAny _ _ (subscriptTail _ _ (Value.ref _) (Value.int _ _)) _ _ _); refine Wait.out ?_)
  k_with "subscriptTail Name Slice ref ref" => (k_here; (with_reducible show wpAny _ _ (subscriptTail _ (PySem.Expr.Slice none (some (Expr.BinOp _ _ _ _)) none _) (Value.ref _) (Value.ref _)) _ _ _); k_dflt (refine kmk_slice_lit (by k_asm) (by k_asm) (by kmk_list) (by kmk_part) (by kmk_part) (by exact pick_upto _ _ (by omega)) ?_ (by with_unfolding_all rfl) (by kmk_pure) (by walk_at "m_size")); intro Dz9 hz9 Fz9 Nz9 lz9; (try k_lt lz9); (try k_sweep))
  k_with "call type:range" => ((with_reducible show wpAny _ _ (call (Value.type "range") [_]) _ _ _); refine Wait.out ?_)
  k_with "call builtin:str.join" => (k_dflt (show wpAny _ _ (call (Value.builtin "str.join") [Value.str _ _, Value.ref _]) _ _ _); refine Wait.out ?_)
  trivial
-- Law
theorem law_x : PySem.Challenge.rw_pd0042_01.Holds := hd (by
  k_go0
  (all_goals try k_fold)
  k_steps
  refine Wait.mk ?_
  rename Fr _ _ _ _ => F1
  rename News _ _ _ _ => N1
  rename Frag.In _ _ => KX
  rename Top _ _ _ _ _ _ => TT
  rename IntsAre _ (List.take 3 _) => hI3
  have hl3 := hI3.length
  rename ((List.take 3 _).length = min 3 _) => hC3
  refine comp_vals IsPiece rfl (News.isList N1 (.head _)) F1 N1 ?_ ?_ (by rw [sizeLine_eq]; omega)
  · intro C v s₂ m₂ E' hv hn hm hk
    obtain ⟨n, t, rfl⟩ := ints_mem hI3 v hv
    k_steps
    refine Wait.mk ?_
    rename Fr _ _ _ _ => F0
    exact wpAny_call (piece_ok (KX.keeps F0.keep) (TT.keeps F0.keep) (by decide) (fun p t' h' tk' hk' hp => ⟨⟨p, t', rfl, hp⟩, _, _, rfl, hk'⟩))
  intro D1 zs1 n1 h1' tk1 F2 N2 hD1 hzl1 hz1
  k_steps
  refine Wait.mk ?_
  rename Fr _ _ _ _ => F3
  rename News _ _ _ _ => N3
  rename IntsAre _ (_ ++ [0]) => hI9
  rename IntsAre _ (List.map _ (List.take 3 _)) => hI8
  have hl8 := hI8.length
  rw [List.length_map] at hl8
  obtain ⟨ps1, hs1, hok1⟩ := strs_of hz1
  have hps1 := hs1.length
  have hsP := hs1.append' (.cons (Str.ofString "s") tk1 (.cons (Str.ofString "..") (tk1 + 1) (.cons (Str.ofString "") (tk1 + 1 + 1) (.cons (Str.ofString "t") (tk1 + 1 + 1 + 1) (.cons (Str.ofString "") (tk1 + 1 + 1 + 1 + 1) .nil)))))
  have hokP : ∀ a ∈ ps1 ++ [Str.ofString "s", Str.ofString "..", Str.ofString "", Str.ofString "t", Str.ofString ""], PieceOk a := fun a ha => by
    rcases List.mem_append.mp ha with ha | ha
    · exact hok1 a ha
    · simp only [List.mem_cons, List.not_mem_nil, or_false] at ha
      rcases ha with rfl | rfl | rfl | rfl | rfl <;> exact pieceOk_lit (by decide +kernel)
  have hlP : (ps1 ++ [Str.ofString "s", Str.ofString "..", Str.ofString "", Str.ofString "t", Str.ofString ""]).length ≤ 8 := by
    rw [List.length_append]
    show ps1.length + 5 ≤ 8
    omega
  generalize zs1 ++ [Value.str (Str.ofString "s") tk1, Value.str (Str.ofString "..") (tk1 + 1), Value.str (Str.ofString "") (tk1 + 1 + 1), Value.str (Str.ofString "t") (tk1 + 1 + 1 + 1), Value.str (Str.ofString "") (tk1 + 1 + 1 + 1 + 1)] = vsP at N3 hsP
  generalize ps1 ++ [Str.ofString "s", Str.ofString "..", Str.ofString "", Str.ofString "t", Str.ofString ""] = ps at hsP hokP hlP
  have hvP := hsP.length
  have hvP2 : vsP.toArray.size = ps.length := by rw [List.size_toArray]; exact hvP
  refine max_list_N rfl F3 N3 (News.isList N3 (.head _)) hI9 (by simp) ?_
  intro h4 M tM tk4 F4 N4 hM1 hM2
  k_steps
  case' _ => skip
  · rename Fr _ _ _ _ => F5
    rename News _ _ _ _ => N5
    refine Wait.mk ?_
    refine comp_vals IsBit rfl (News.isList N5 (.tail _ (.tail _ (.tail _ (.tail _ (.head _)))))) F5 N5 ?_ ?_ (by rw [sizeLine_eq]; omega)
    · intro C v s₂ m₂ E' hv hn hm hk
      obtain ⟨n, t, rfl, hmem⟩ := ints_mem2 hI8 v hv
      have h06 : 0 ≤ n ∧ n < 6 := by
        obtain ⟨z, _, rfl⟩ := List.mem_map.mp hmem
        exact ⟨Int.fmod_nonneg_of_pos _ (by decide), Int.fmod_lt_of_pos _ (by decide)⟩
      k_steps
      refine wpAny_newList ?_
      have hn2 := hn.push { cls := .type "list", data := .seq [Value.str (Str.ofString "") s₂.toks, Value.str (Str.ofString "/a") (s₂.toks + 1), Value.str (Str.ofString "/..") (s₂.toks + 1 + 1), Value.str (Str.ofString "/.") (s₂.toks + 1 + 1 + 1), Value.str (Str.ofString "/") (s₂.toks + 1 + 1 + 1 + 1), Value.str (Str.ofString "/b") (s₂.toks + 1 + 1 + 1 + 1 + 1)].toArray }
      k_steps
      refine Wait.mk (item_all IsBit ⟨_, Heap.get?_push_size _ rfl, rfl, 0, rfl⟩ h06.1 h06.2 (by simp) ?_ ?_)
      · intro v hv
        simp only [List.mem_cons, List.not_mem_nil, or_false] at hv
        rcases hv with rfl | rfl | rfl | rfl | rfl | rfl
        · exact ⟨_, _, rfl, bit_em⟩
        · exact ⟨_, _, rfl, bit_one (a := Str.ofString "a") (by decide +kernel) (by decide +kernel) (by decide +kernel)⟩
        · exact ⟨_, _, rfl, bit_one (a := Str.ofString "..") (by decide +kernel) (by decide +kernel) (by decide +kernel)⟩
        · exact ⟨_, _, rfl, bit_one (a := Str.ofString ".") (by decide +kernel) (by decide +kernel) (by decide +kernel)⟩
        · exact ⟨_, _, rfl, bit_one (a := Str.ofString "") (by decide +kernel) (by decide +kernel) (by decide +kernel)⟩
        · exact ⟨_, _, rfl, bit_one (a := Str.ofString "b") (by decide +kernel) (by decide +kernel) (by decide +kernel)⟩
      · intro v hP
        exact ⟨hP, _, _, rfl, fun b o e => Heap.get?_push_of_some _ e⟩
    intro D5 zs5 n5 h5 tk5 F20 N20 hD5 hzl5 hz5
    obtain ⟨xs, hxs, hbit⟩ := strs_of hz5
    obtain ⟨lb, hj, hlb, hlbl, hsum⟩ := join_bits xs hbit
    have hxl := hxs.length
    k_steps
    refine Wait.mk ?_
    rename Fr _ _ _ _ => F21
    rename News _ _ _ _ => N21
    have h0l : (Str.ofString "").length = 0 := by decide +kernel
    refine join_list (News.isList N21 (.head _)) hxs (by rw [h0l]; omega) ?_
    intro tj kj
    rw [show Txt.join (Str.ofString "") xs = pathOf lb from (StrLaws.glued_eq_join _ _).trans hj]
    have hlb9 : (pathOf lb).length ≤ 9 := by omega
    have hsl : sOf (some (Str.ofString "/s" ++ pathOf lb)) = pathOf (Str.ofString "s" :: lb) := by
      show Str.ofString "/s" ++ pathOf lb = Str.ofString "/" ++ Str.ofString "s" ++ pathOf lb
      rw [show Str.ofString "/s" = Str.ofString "/" ++ Str.ofString "s" by decide +kernel]
    have hsn : ∀ a ∈ Str.ofString "s" :: lb, NoSl a := fun a ha => by
      rcases List.mem_cons.mp ha with rfl | ha
      · exact (pieceOk_lit (by decide +kernel)).1
      · exact hlb a ha
    have hsh : ∀ a ∈ (Str.ofString "s" :: lb).head?, a ≠ Str.ofString "" := fun a ha => by
      have e9 : Str.ofString "s" = a := Option.some.inj ha
      rw [← e9]
      decide +kernel
    have hsz : (pathOf (Str.ofString "s" :: lb)).length ≤ 100 := by
      have h9 := path_len_append [Str.ofString "s"] lb
      rw [path_len_one, List.singleton_append, show (Str.ofString "s").length = 1 by decide +kernel] at h9
      omega
    have q5 := neN (hD5 _ (.head _))
    dsimp only at q5
    k_steps
    rename Fr _ _ _ _ => F5
    rename News _ _ _ _ => N5
    rename (Obj.IsDictOf _ _ _) => hdG
    rename (FlatPairs _ _ _) => hfG
    refine Wait.mk ?_
    have N6 := news_two N5 (.tail _ (.head _)) (.tail _ (.tail _ (.tail _ (.tail _ (.tail _ (.tail _ (.tail _ (.head _))))))))
    clear N5
    refine For_invVF F5 rfl rfl ?_
    k_steps
    rename Fr _ _ _ _ => F6
    rename News _ _ _ _ => N7
    refine Wait.mk (range1_rows F6 N7 ?_)
    intro h7 tk7 ta ua va R7 F7 N8 k7
    k_steps
    refine Wait.mk ?_
    clear F6 N7
    refine iter_range rfl R7 (small_n (by omega)) (size_n _) F7 N8 ?_ ?_
    · intro i t h tk I oI hi hI F8 N9
      have hik : i + 1 ≤ vsP.length := by omega
      have hpi : i < ps.length := by omega
      have htake := List.take_succ_eq_append_getElem hpi
      have hvt : StrsAre (vsP.take (i + 1)) (ps.take i ++ [ps[i]]) := htake ▸ hsP.take' (i + 1)
      have hokt : ∀ a ∈ ps.take i ++ [ps[i]], PieceOk a := fun a ha => hokP a (List.mem_of_mem_take (htake.symm ▸ ha))
      have hti : (ps.take i).length ≤ 20 := by rw [List.length_take]; omega
      clear F7 N8
      show wpAny _ _ _ _ _ _
      k_fold
      k_steps
      rename Fr _ _ _ _ => F9
      rename News _ _ _ _ => N10
      refine Wait.mk (use_pure (fun _ => .bool true) F9 N10 (fun R hR => holds_ok (S := some (Str.ofString "/s" ++ pathOf lb)) (ss0 := Str.ofString "s" :: lb) (DG := [rowH, rowS (Str.ofString "/s" ++ pathOf lb)]) (KX.keeps F9.keep) (TT.keeps F9.keep) (by decide) (by decide) (TabAt.ofNews N10 (.tail _ (.tail _ (.head _))) (by assumption) hdG hfG) (.inr ⟨_, rfl, rfl⟩) hsl (News.isList N10 (.head _)) hvt hokt hti hsn hsh hsz (fun h' tk' k => hR 0 h' tk' k)) ?_)
      intro t10 h10 tk10 F10 N11
      k_steps
      · exact F10
      · exact fun p hp => N11 p (.tail _ hp)
    · intro u h tk F8 N9
      k_steps
  · --T2
    rename Fr _ _ _ _ => F5
    rename News _ _ _ _ => N5
    rename (Obj.IsDictOf _ _ _) => hdG
    rename (FlatPairs _ _ _) => hfG
    refine Wait.mk ?_
    have N6 := news_two N5 (.head _) (.tail _ (.tail _ (.tail _ (.tail _ (.tail _ (.tail _ (.head _)))))))
    clear N5
    refine For_invVF F5 rfl rfl ?_
    k_steps
    rename Fr _ _ _ _ => F6
    rename News _ _ _ _ => N7
    refine Wait.mk (range1_rows F6 N7 ?_)
    intro h7 tk7 ta ua va R7 F7 N8 k7
    k_steps
    refine Wait.mk ?_
    clear F6 N7
    refine iter_range rfl R7 (small_n (by omega)) (size_n _) F7 N8 ?_ ?_
    · intro i t h tk I oI hi hI F8 N9
      have hik : i + 1 ≤ vsP.length := by omega
      have hpi : i < ps.length := by omega
      have htake := List.take_succ_eq_append_getElem hpi
      have hvt : StrsAre (vsP.take (i + 1)) (ps.take i ++ [ps[i]]) := htake ▸ hsP.take' (i + 1)
      have hokt : ∀ a ∈ ps.take i ++ [ps[i]], PieceOk a := fun a ha => hokP a (List.mem_of_mem_take (htake.symm ▸ ha))
      have hti : (ps.take i).length ≤ 20 := by rw [List.length_take]; omega
      clear F7 N8
      show wpAny _ _ _ _ _ _
      k_fold
      k_steps
      rename Fr _ _ _ _ => F9
      rename News _ _ _ _ => N10
      refine Wait.mk (use_pure (fun _ => .bool true) F9 N10 (fun R hR => holds_ok (S := some (Str.ofString "")) (ss0 := []) (DG := [rowH, rowS (Str.ofString "")]) (KX.keeps F9.keep) (TT.keeps F9.keep) (by decide) (by decide) (TabAt.ofNews N10 (.tail _ (.tail _ (.head _))) (by assumption) hdG hfG) (.inr ⟨_, rfl, rfl⟩) em_is (News.isList N10 (.head _)) hvt hokt hti (by simp) (by simp) (by decide) (fun h' tk' k => hR 0 h' tk' k)) ?_)
      intro t10 h10 tk10 F10 N11
      k_steps
      · exact F10
      · exact fun p hp => N11 p (.tail _ hp)
    · intro u h tk F8 N9
      k_steps
  · --T3
    rename Fr _ _ _ _ => F5
    rename News _ _ _ _ => N5
    rename (Obj.IsDictOf _ _ _) => hdG
    rename (FlatPairs _ _ _) => hfG
    refine Wait.mk ?_
    have N6 := news_two N5 (.tail _ (.tail _ (.head _))) (.tail _ (.tail _ (.tail _ (.tail _ (.tail _ (.head _))))))
    clear N5
    refine For_invVF F5 rfl rfl ?_
    k_steps
    rename Fr _ _ _ _ => F6
    rename News _ _ _ _ => N7
    refine Wait.mk (range1_rows F6 N7 ?_)
    intro h7 tk7 ta ua va R7 F7 N8 k7
    k_steps
    refine Wait.mk ?_
    clear F6 N7
    refine iter_range rfl R7 (small_n (by omega)) (size_n _) F7 N8 ?_ ?_
    · intro i t h tk I oI hi hI F8 N9
      have hik : i + 1 ≤ vsP.length := by omega
      have hpi : i < ps.length := by omega
      have htake := List.take_succ_eq_append_getElem hpi
      have hvt : StrsAre (vsP.take (i + 1)) (ps.take i ++ [ps[i]]) := htake ▸ hsP.take' (i + 1)
      have hokt : ∀ a ∈ ps.take i ++ [ps[i]], PieceOk a := fun a ha => hokP a (List.mem_of_mem_take (htake.symm ▸ ha))
      have hti : (ps.take i).length ≤ 20 := by rw [List.length_take]; omega
      clear F7 N8
      show wpAny _ _ _ _ _ _
      k_fold
      k_steps
      rename Fr _ _ _ _ => F9
      rename News _ _ _ _ => N10
      refine Wait.mk (use_pure (fun _ => .bool true) F9 N10 (fun R hR => holds_ok (S := none) (ss0 := []) (DG := [rowH]) (KX.keeps F9.keep) (TT.keeps F9.keep) (by decide) (by decide) (TabAt.ofNews N10 (.tail _ (.tail _ (.head _))) (by assumption) hdG hfG) (.inl ⟨rfl, rfl⟩) em_is (News.isList N10 (.head _)) hvt hokt hti (by simp) (by simp) (by decide) (fun h' tk' k => hR 0 h' tk' k)) ?_)
      intro t10 h10 tk10 F10 N11
      k_steps
      · exact F10
      · exact fun p hp => N11 p (.tail _ hp)
    · intro u h tk F8 N9
      k_steps)
end Mine
theorem PySem.Challenge.cw_pd0042_01_holds : PySem.Challenge.rw_pd0042_01.Holds := by
  exact Mine.law_x
