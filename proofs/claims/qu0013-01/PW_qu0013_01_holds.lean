import PyProof.Rows.All
import Wide.All
import OpenK.AllK
import Wide.FinOn
import PySem.Challenge.RW_qu0013_01
open PySem PySem.W PyProof.Rows PySem.Calls
set_option Elab.async false
set_option maxRecDepth 100000
set_option maxHeartbeats 8000000

section
namespace Mine
open_top hd for PySem.Challenge.rw_qu0013_01
end Mine
end

section
namespace Mine

/-- a long condition stands behind a name of its own: the walk's terms stay small -/
theorem hide2 {α β : Type} (b : α → β → Prop) : ∃ Q : α → β → Prop, ∀ x y, Q x y ↔ b x y := ⟨b, fun _ _ => Iff.rfl⟩
theorem hide3 {α β γ : Type} (b : α → β → γ → Prop) : ∃ Q : α → β → γ → Prop, ∀ x y z, Q x y z ↔ b x y z := ⟨b, fun _ _ _ => Iff.rfl⟩
theorem code_hide {M : Model} {A : Around} {c : Code} {R : Result → Shared → Prop} {s : Shared} (h : ∀ R' : Result → Shared → Prop, (∀ r s', R r s' → R' r s') → codeAny M A c R' s) : codeAny M A c R s := h R fun _ _ x => x
theorem wp_hide {α : Type} {M : Model} {A : Around} {x : Sem α} {E : Value → Shared → Prop} {Q : α → Shared → Prop} {s : Shared} (h : ∀ Q' : α → Shared → Prop, (∀ r s', Q r s' → Q' r s') → wpAny M A x Q' E s) : wpAny M A x Q E s := h Q fun _ _ x => x

/-- a def of the text is entered; nothing that stands is touched, nothing is raised -/
theorem enter {w : World} {K : Frag} {A : Around} {s : Shared} {R : Result → Shared → Prop} {loose : List PySem.Str} {mean : ExcName → Option Value} {mg mb : PySem.Str → Option Value}
    {name qual : PySem.Str} {params : Arguments} {body : List Stmt} {scope : Scope} {dV kV doc pm cdv ct oc : Value} {an od : Option Addr} {osl : Array (Option Value)} {f : Addr} {args : Args} {binds : List (PySem.Str × Value)}
    (X : K.In s.heap) (T : Top topProg loose mean mg mb s.heap)
    (ho : K.lookup f = some ⟨oc, od, .func (fnOf name qual params body scope dV kV doc pm an cdv ct), osl⟩) (hcd : codeIn K cdv qual = true) (hroom : A.depth < recursionLimit)
    (hbind : BindsTo s (fnOf name qual params body scope dV kV doc pm an cdv ct) args binds) (hloc : ∀ y ∈ binds, scope.names.lookup y.1 = some .local)
    (h : ∀ h₁, Fr s.heap s.heap.objs.size h₁ (fun y => binds.reverse.lookup y) → News s.heap s.heap.objs.size h₁ [] →
      wpAny (model Challenge.rw_qu0013_01.row.prog w) (A.deeper (envOf qual scope s.heap.objs.size f cdv)) (execs body (envOf qual scope s.heap.objs.size f cdv))
        (fun fl s' => R (.ok (.ret (match fl with | .ret v => v | _ => .none))) s') (fun _ _ => False) { s with heap := h₁, toks := s.toks + binds.length })
    (hco : scope.isCoroutine = false) (hgen : scope.isGenerator = false) (hk : scope.kind = .function)
    (hcell : ∀ x ∈ scope.names, x.2 ≠ .cell) : codeAny (model Challenge.rw_qu0013_01.row.prog w) A (.call (.ref f) args) R s := by
  refine codeAny_call_def (fd := fnOf name qual params body scope dV kV doc pm an cdv ct) (body := body) (binds := binds) hroom (X _ _ ho) rfl T.nolimit (codeRec_of X hcd) rfl hbind hcell hloc (fun h₁ hns hk₁ => ?_) hco hgen hk
  exact wpAny_mono (h h₁ ⟨hns, hk₁, Nat.le_refl _⟩ News.nil) (fun _ _ x => x) fun _ _ x => x.elim

/-- what a call hands back: a value, all that stood stays, and what Post says -/
def Gives (s : Shared) (Post : Value → Heap → Prop) (r : Result) (s' : Shared) : Prop :=
  ∃ v h' tk, r = .ok (.ret v) ∧ s' = { s with heap := h', toks := tk } ∧ s.heap.StaysIn h' ∧ Post v h'

theorem Fr.stays {h₀ h h' : Heap} {L : Addr} {m : PySem.Str → Option Value} (F : Fr h₀ L h m) (st : h.StaysIn h') : Fr h₀ L h' m :=
  ⟨F.ns.keeps st, fun b o e => st b o (F.keep b o e), F.above⟩
theorem News.stays {h₀ h h' : Heap} {L : Addr} {news : List (Addr × Obj)} (N : News h₀ L h news) (st : h.StaysIn h') : News h₀ L h' news :=
  fun p hp => ⟨st _ _ (N p hp).1, (N p hp).2⟩
theorem News.add {h₀ h h' : Heap} {L a : Addr} {o : Obj} {m : PySem.Str → Option Value} {news : List (Addr × Obj)} (F : Fr h₀ L h m) (N : News h₀ L h' news) (hn : h.get? a = none) (ha : h'.get? a = some o) : News h₀ L h' ((a, o) :: news) := by
  intro p hp
  rcases List.mem_cons.mp hp with rfl | hp
  · refine ⟨ha, fun q => ?_, ?_⟩
    · obtain ⟨oL, _, _, hL, _⟩ := F.ns
      have q' : a = L := q
      rw [← q', hn] at hL; cases hL
    · cases q : h₀.get? a with
      | none => rfl
      | some o' => have := F.keep _ _ q; rw [hn] at this; cases this
  · exact N p hp
theorem News.sub {h₀ h : Heap} {L : Addr} {news news' : List (Addr × Obj)} (N : News h₀ L h news) (hs : ∀ p ∈ news', p ∈ news) : News h₀ L h news' := fun p hp => N p (hs p hp)

theorem call_con {w : World} {A : Around} {s : Shared} {E : Value → Shared → Prop} {Q : Value → Shared → Prop} {h₀ : Heap} {L f : Addr} {m : PySem.Str → Option Value} {news : List (Addr × Obj)} {args : List Value} {kw : List (PySem.Str × Value)} {Post : Value → Heap → Prop}
    (F : Fr h₀ L s.heap m) (N : News h₀ L s.heap news)
    (C : codeAny (model Challenge.rw_qu0013_01.row.prog w) A (.call (.ref f) ⟨args, kw⟩) (Gives s Post) s)
    (k : ∀ v h' tk, Fr h₀ L h' m → News h₀ L h' news → s.heap.StaysIn h' → Post v h' → Q v { s with heap := h', toks := tk }) :
    wpAny (model Challenge.rw_qu0013_01.row.prog w) A (call (.ref f) args kw) Q E s := by
  refine wpAny_call (codeAny_mono C fun r s' hr => ?_)
  obtain ⟨v, h', tk, rfl, rfl, st, hp⟩ := hr
  exact k v h' tk (Fr.stays F st) (News.stays N st) st hp

/-- as Gives, but what stands at as may turn -/
def GivesBut (s : Shared) (as : List Addr) (Post : Value → Heap → Prop) (r : Result) (s' : Shared) : Prop :=
  ∃ v h' tk, r = .ok (.ret v) ∧ s' = { s with heap := h', toks := tk } ∧ (∀ b o, b ∉ as → s.heap.get? b = some o → h'.get? b = some o) ∧ Post v h'

/-- a def is entered that may turn the objects of news -/
theorem enterH {w : World} {K : Frag} {A : Around} {s : Shared} {h₀ : Heap} {R : Result → Shared → Prop} {loose : List PySem.Str} {mean : ExcName → Option Value} {mg mb : PySem.Str → Option Value}
    {name qual : PySem.Str} {params : Arguments} {body : List Stmt} {scope : Scope} {dV kV doc pm cdv ct oc : Value} {an od : Option Addr} {osl : Array (Option Value)} {f : Addr} {args : Args} {binds : List (PySem.Str × Value)} (news : List (Addr × Obj))
    (X : K.In h₀) (T : Top topProg loose mean mg mb h₀) (hst : h₀.StaysIn s.heap) (hn : ∀ p ∈ news, s.heap.get? p.1 = some p.2 ∧ h₀.get? p.1 = none)
    (ho : K.lookup f = some ⟨oc, od, .func (fnOf name qual params body scope dV kV doc pm an cdv ct), osl⟩) (hcd : codeIn K cdv qual = true) (hroom : A.depth < recursionLimit)
    (hbind : BindsTo s (fnOf name qual params body scope dV kV doc pm an cdv ct) args binds) (hloc : ∀ y ∈ binds, scope.names.lookup y.1 = some .local)
    (h : ∀ g h₁, h₀.StaysIn g → (∀ b o, b ∉ news.map (·.1) → s.heap.get? b = some o → g.get? b = some o) → K.In g → Top topProg loose mean mg mb g → Fr g s.heap.objs.size h₁ (fun y => binds.reverse.lookup y) → News g s.heap.objs.size h₁ news →
      wpAny (model Challenge.rw_qu0013_01.row.prog w) (A.deeper (envOf qual scope s.heap.objs.size f cdv)) (execs body (envOf qual scope s.heap.objs.size f cdv))
        (fun fl s' => R (.ok (.ret (match fl with | .ret v => v | _ => .none))) s') (fun _ _ => False) { s with heap := h₁, toks := s.toks + binds.length })
    (hco : scope.isCoroutine = false) (hgen : scope.isGenerator = false) (hk : scope.kind = .function)
    (hcell : ∀ x ∈ scope.names, x.2 ≠ .cell) : codeAny (model Challenge.rw_qu0013_01.row.prog w) A (.call (.ref f) args) R s := by
  have X' := X.keeps hst
  refine codeAny_call_def (fd := fnOf name qual params body scope dV kV doc pm an cdv ct) (body := body) (binds := binds) hroom (X' _ _ ho) rfl (T.nolimit.keeps hst) (codeRec_of X' hcd) rfl hbind hcell hloc (fun h₁ hns hk₁ => ?_) hco hgen hk
  have sg : h₀.StaysIn (hideAll s.heap (news.map (·.1))) := fun b o e => hideAll_get _ (hst b o e) fun q => by
    obtain ⟨p, hp, rfl⟩ := List.mem_map.mp q
    rw [(hn p hp).2] at e; cases e
  have XX := X.keeps sg
  have TT := T.keeps sg
  exact wpAny_mono (h _ h₁ sg (fun b o hb e => hideAll_get _ e hb) XX TT ⟨hns, fun b o e => hk₁ b o (of_hideAll _ e), Nat.le_of_eq (hideAll_size _ _)⟩
    (fun p hp => ⟨hk₁ _ _ (hn p hp).1, Nat.ne_of_lt (Heap.lt_size (hn p hp).1), hideAll_none _ (List.mem_map_of_mem hp)⟩)) (fun _ _ x => x) fun _ _ x => x.elim

/-- a call that may turn one object of the ledger -/
theorem call_con1 {w : World} {A : Around} {s : Shared} {E : Value → Shared → Prop} {Q : Value → Shared → Prop} {h₀ : Heap} {L f it : Addr} {o : Obj} {m : PySem.Str → Option Value} {news : List (Addr × Obj)} {g : Obj → List (Addr × Obj)} {args : List Value} {kw : List (PySem.Str × Value)} {Post : Value → Heap → Prop}
    (F : Fr h₀ L s.heap m) (N : News h₀ L s.heap news) (U : UpdF it o news g)
    (C : codeAny (model Challenge.rw_qu0013_01.row.prog w) A (.call (.ref f) ⟨args, kw⟩) (GivesBut s [it] Post) s)
    (k : ∀ v h' tk, Fr h₀ L h' m → (∀ o', h'.get? it = some o' → News h₀ L h' (g o')) → (∀ b o, b ≠ it → s.heap.get? b = some o → h'.get? b = some o) → Post v h' → Q v { s with heap := h', toks := tk }) :
    wpAny (model Challenge.rw_qu0013_01.row.prog w) A (call (.ref f) args kw) Q E s := by
  obtain ⟨pre, post, rfl, hg, ha, hb⟩ := U.split
  have hm := N (it, o) (List.mem_append_right _ (.head _))
  refine wpAny_call (codeAny_mono C fun r s' hr => ?_)
  obtain ⟨v, h', tk, rfl, rfl, st, hp⟩ := hr
  have st' : ∀ b o, b ≠ it → s.heap.get? b = some o → h'.get? b = some o := fun b o hne e => st b o (fun q => hne (List.mem_singleton.mp q)) e
  refine k v h' tk ⟨?_, fun b o' e => st' b o' (fun q => ?_) (F.keep b o' e), F.above⟩ (fun o' ho' => ?_) st' hp
  · obtain ⟨oL, es, ep, hL, r⟩ := F.ns
    exact ⟨oL, es, ep, st' _ _ (fun q => hm.2.1 q.symm) hL, r⟩
  · rw [q, hm.2.2] at e; cases e
  · rw [hg]
    intro p hp
    rcases List.mem_append.mp hp with q | q
    · have P := N p (List.mem_append_left _ q); exact ⟨st' _ _ (ha p q) P.1, P.2⟩
    · rcases List.mem_cons.mp q with rfl | q
      · exact ⟨ho', hm.2⟩
      · have P := N p (List.mem_append_right _ (.tail _ q)); exact ⟨st' _ _ (hb p q) P.1, P.2⟩

section
variable {prog : Program} {w : World} {A : Around} {E : Value → Shared → Prop} {s : Shared} {Q : Value → Shared → Prop} {l : Addr} {vs : List Value} {ns : List Int} {n : Nat}
theorem len_at (hl : s.heap.IsList l vs.toArray) (hn : vs.length = n) (hfit : n ≤ 1000000000) (h : Q (.int (n : Nat) (s.toks + 1)) { s with toks := s.toks + 1 + 1 }) :
    wpAny (model prog w) A (call (.builtin "len") [.ref l]) Q E s := by
  subst hn
  have e : (List.toArray vs).size = vs.length := List.size_toArray ..
  exact call_len_list hl (by rw [e]; omega) (by rw [e]; exact h)
theorem len_base {h₀ : Heap} {L : Addr} {m : PySem.Str → Option Value} (F : Fr h₀ L s.heap m) (hl : h₀.IsList l vs.toArray) (hI : IntsAre vs ns) (hfit : ns.length ≤ 1000000000) (h : Q (.int (ns.length : Nat) (s.toks + 1)) { s with toks := s.toks + 1 + 1 }) :
    wpAny (model prog w) A (call (.builtin "len") [.ref l]) Q E s := len_at (hl.at fun o e => F.keep _ _ e) hI.length hfit h
theorem item_at {value slice : PySem.Expr} {k : Nat} {x : Int} {u : Tok} (hl : s.heap.IsList l vs.toArray) (hI : IntsAre vs ns) (hk : ns[k]? = some x) (hfit : k ≤ 1000000000) (h : ∀ t, Q (.int x t) s)
    (hs : subscripted slice false (.ref l) (.int (k : Nat) u) = operate [.ref l, .int (k : Nat) u] (getItem (.ref l) (.int (k : Nat) u)) := by with_unfolding_all rfl) :
    wpAny (model prog w) A (subscriptTail value slice (.ref l) (.int (k : Nat) u)) Q E s := by
  obtain ⟨t, ht⟩ := hI.get k x hk
  exact tail_any hl.typeIs slot_list_getitem.lookup (wpAny_getItem_list hl (by omega) (by omega) (by simpa using ht) (h t)) hs
end

/-- a function object of the heap is called -/
theorem callWith_F {M : Model} {A : Around} {env : Env} {pos : Pos} {f : Addr} {first : List Value} {Q : Value → Shared → Prop} {E : Value → Shared → Prop} {s : Shared} {e : PySem.Expr} {rest : List PySem.Expr} {oc : Value} {od : Option Addr} {fd : FuncData} {osl : Array (Option Value)}
    (h : wpAny M A (spliced (backTo pos (starEach (e :: rest) env))) (fun vs s₁ => s₁.heap.get? f = some ⟨oc, od, .func fd, osl⟩ ∧ wpAny M A (call (.ref f) (first ++ vs)) Q E s₁) E s)
    (he : starEach (e :: rest) env = (false, eval e env) :: starEach rest env := by rfl) (hplain : (backTo pos (starEach rest env)).any (·.1) = false := by rfl) :
    wpAny M A (callWith pos (.ref f) first (backTo pos (starEach (e :: rest) env)) []) Q E s := by
  rw [he] at h ⊢
  exact callWith_of (P := fun h => h.get? f = some ⟨oc, od, .func fd, osl⟩) (by show ((false || (backTo pos (starEach rest env)).any (·.1)) || false) = false; rw [hplain]; rfl) (fun h X => ⟨.frame, .inl rfl, (Looks.ld (part := none) X).andThen .now⟩) (evalArgs_plain h)

theorem app_at {prog : Program} {w : World} {A : Around} {E : Value → Shared → Prop} {s : Shared} {Q : Value → Shared → Prop} {h₀ : Heap} {L D : Addr} {m : PySem.Str → Option Value} {news news' : List (Addr × Obj)} {vs : List Value} {n : Nat} {x : Value}
    (F : Fr h₀ L s.heap m) (N : News h₀ L s.heap news) (U : Upd D (listOf vs.toArray n) (listOf (vs ++ [x]).toArray (n + 1)) news news') (hz : vs.length ≤ 1000000)
    (h : ∀ h', Fr h₀ L h' m → News h₀ L h' news' → Q .none { s with heap := h' }) : wpAny (model prog w) A (call (.builtin "list.append") [.ref D, x]) Q E s := by
  have e : (vs ++ [x]).toArray = vs.toArray.push x := by simp
  rw [e] at U
  exact append_K F N U h (by rw [List.size_toArray, sizeLine_eq]; omega)
theorem IntsAre.snoc {vs : List Value} {ns : List Int} (h : IntsAre vs ns) (x : Int) (t : Tok) : IntsAre (vs ++ [.int x t]) (ns ++ [x]) := IntsAre.append h (.cons x t .nil)
theorem small_nat (n : Nat) (hn : n ≤ 1000000) : Builtin.Range.small 0 (n : Int) 1 = true := small_one (by decide) (by decide) (by omega) (by omega)
theorem size_nat (n : Nat) : Builtin.Range.rangeSize 0 (n : Int) 1 = (n : Int) := by
  rw [rangeSize_one]
  split <;> omega
theorem list_rng {prog : Program} {w : World} {A : Around} {E : Value → Shared → Prop} {s : Shared} {Q : Value → Shared → Prop} {h₀ : Heap} {L r : Addr} {m : PySem.Str → Option Value} {news : List (Addr × Obj)} {n : Nat} {t u v : Tok}
    (hh : A.handled = none) (F : Fr h₀ L s.heap m) (N : News h₀ L s.heap news) (hr : IsRange s.heap r 0 (n : Int) 1 t u v) (hn : n ≤ 1000000)
    (h : ∀ a h' e vs tk, Fr h₀ L h' m → News h₀ L h' ((a, listOf (List.toArray vs) e) :: news) → IntsAre vs ((List.range n).map fun j => ((j : Nat) : Int)) → (∀ p ∈ news, p.1 < a) → Q (.ref a) { s with heap := h', toks := tk }) :
    wpAny (model prog w) A (call (.type "list") [.ref r]) Q E s := by
  refine list_rangeD hh F N hr (small_nat n hn) (size_nat n) (by omega) fun h' tk ys F' N' hk hfr _ ⟨⟨e, hp⟩, _⟩ hc => ?_
  have hI := IntsAre.ofCarried hc
  have e2 : rangeInts 0 1 n = (List.range n).map fun j => ((j : Nat) : Int) := by
    unfold rangeInts
    exact List.map_congr_left fun j _ => by omega
  rw [e2] at hI
  refine h _ h' e ys tk F' (fun p hp' => ?_) hI fun p hp => Heap.lt_size (N p hp).1
  rcases List.mem_cons.mp hp' with rfl | hp'
  · exact ⟨hp, Nat.ne_of_gt F.ns.lt, hfr⟩
  · exact N' p hp'

/-- a turn's end -/
def TurnEnd (h₀ : Heap) (L I : Addr) (o : Obj) (J : (PySem.Str → Option Value) → List (Addr × Obj) → Prop) (s : Shared) (f : Flow) (s₂ : Shared) : Prop :=
  f = .next ∧ ∃ h' tk' m₂ news₂, s₂ = { s with heap := h', toks := tk' } ∧ Fr h₀ L h' m₂ ∧ News h₀ L h' ((I, o) :: news₂) ∧ (∀ p ∈ news₂, p.1 ≠ I) ∧ J m₂ news₂

section
variable {prog : Program} {w : World} {A : Around} {E : Value → Shared → Prop} {s : Shared} {env : Env} {h₀ : Heap} {x : PySem.Str} {body : List Stmt} {Q : Flow → Shared → Prop}

theorem own_one {h : Heap} {I : Addr} {oi : Obj} {own : List (Addr × Obj)} (hsub : ∀ p ∈ own, p.1 ∈ [I]) (hget : ∀ p ∈ own, h.get? p.1 = some p.2) (hi : h.get? I = some oi) : ∀ p ∈ own, p = (I, oi) := by
  intro p hp
  have h1 : p.1 = I := List.mem_singleton.mp (hsub p hp)
  have h2 := hget p hp
  rw [h1, hi] at h2
  exact Prod.ext h1 (Option.some.inj h2).symm

theorem iter_rng {L r : Addr} {a₀ b₀ : Int} {t₀ u₀ v₀ : Tok} {n : Nat} {m₀ : PySem.Str → Option Value} {news : List (Addr × Obj)} (J : Nat → (PySem.Str → Option Value) → List (Addr × Obj) → Prop)
    (hh : A.handled = none) (hr : IsRange s.heap r a₀ b₀ 1 t₀ u₀ v₀) (hsmall : Builtin.Range.small a₀ b₀ 1 = true) (hn : Builtin.Range.rangeSize a₀ b₀ 1 = (n : Int)) (F : Fr h₀ L s.heap m₀) (N : News h₀ L s.heap news) (hj : J 0 m₀ news)
    (turn : ∀ i t m₁ news₁ h tk I o, i < n → J i m₁ news₁ → (∀ p ∈ news₁, p.1 ≠ I) → Fr h₀ L h (fun y => if y = x then some (.int (a₀ + (i : Nat)) t) else m₁ y) → News h₀ L h ((I, o) :: news₁) →
      wpAny (model prog w) A (execs body env) (TurnEnd h₀ L I o (J (i + 1)) s) E { s with heap := h, toks := tk })
    (done : ∀ m₁ news₁ h tk, J n m₁ news₁ → Fr h₀ L h m₁ → News h₀ L h news₁ → Q .next { s with heap := h, toks := tk }) (hEL : env.locals = L := by rfl) :
    wpAny (model prog w) A (pyIter (.ref r)) (fun it s₂ => LoopAtV prog w A h₀ env x body Q E it s₂) E s := by
  subst hEL
  refine wpAny_pyIter_range hr hsmall ?_
  have W : Walks prog w A s.heap.objs.size [s.heap.objs.size] [s.heap.objs.size] n (fun i v => i < n ∧ ∃ t, v = .int (a₀ + i * 1) t)
      (fun i h => IsRangeIter h s.heap.objs.size (a₀ + (i : Nat) * 1) ((n : Int) - (i : Nat)) 1) := (Walks.range hh _ a₀ 1 n).bound
  refine ⟨_, _, _, n, _, _, m₀, news, J, rfl, W, ?_, ?_, ?_, (by show IsRangeIter _ _ _ _ _; rw [hn]; simpa using Heap.get?_push_size _ rfl), F.push _, (fun p hp => ⟨Heap.get?_push_of_some _ (N p hp).1, (N p hp).2⟩), hj, ?_, ?_⟩
  · intro hm
    exact absurd F.ns.lt ((List.mem_singleton.mp hm) ▸ Nat.lt_irrefl _)
  · intro b hb
    rw [List.mem_singleton.mp hb]
    exact next_is_new F
  · intro p hp hI
    exact absurd (Heap.lt_size (N p hp).1) ((List.mem_singleton.mp hI) ▸ Nat.lt_irrefl _)
  · rintro i v m₁ news₁ s₁ own ⟨hh', tk', rfl⟩ hin ⟨_, t, rfl⟩ hJ hoff hsub hget hall hst F₁ N₁
    obtain ⟨oi, hI⟩ : ∃ oi, hh'.get? s.heap.objs.size = some oi := ⟨_, hst⟩
    have hmem := hall s.heap.objs.size (by simp) (next_is_new F) _ hI
    have hone := own_one hsub hget hI
    have e : a₀ + (i : Int) * 1 = a₀ + (i : Int) := by omega
    rw [e] at F₁
    refine wpAny_mono (turn i t m₁ news₁ hh' tk' s.heap.objs.size oi hin hJ (fun p hp q => hoff p hp (by rw [q]; simp)) F₁ (News.sub N₁ fun p hp => ?_)) (fun f s₂ hf => ?_) fun _ _ e => e
    · rcases List.mem_cons.mp hp with rfl | hp
      · exact List.mem_append_left _ hmem
      · exact List.mem_append_right _ hp
    · obtain ⟨rfl, h', tk₂, m₂, news₂, rfl, F₂, N₂, hne, hJ₂⟩ := hf
      refine LoopStepV.next ⟨rfl, h', tk₂, m₂, news₂, rfl, F₂, News.sub N₂ fun p hp => ?_, fun p hp q => hne p hp (List.mem_singleton.mp q), hJ₂⟩
      rcases List.mem_append.mp hp with hp | hp
      · rw [hone p hp]; exact .head _
      · exact .tail _ hp
  · rintro h' tk m' news' F' N' _ hJ
    exact done m' news' h' tk hJ F' N'

theorem iter_lst {L l : Addr} {ol : Obj} {vs : List Value} {m₀ : PySem.Str → Option Value} {news : List (Addr × Obj)} (J : Nat → (PySem.Str → Option Value) → List (Addr × Obj) → Prop)
    (hh : A.handled = none) (hl : s.heap.IsList l vs.toArray) (hol : s.heap.get? l = some ol) (hw : h₀.get? l = some ol ∨ (h₀.get? l = none ∧ l ≠ L ∧ ∀ i m nw, J i m nw → (l, ol) ∈ nw)) (F : Fr h₀ L s.heap m₀) (N : News h₀ L s.heap news) (hj : J 0 m₀ news)
    (turn : ∀ i v m₁ news₁ h tk I o, vs[i]? = some v → J i m₁ news₁ → (∀ p ∈ news₁, p.1 ≠ I) → Fr h₀ L h (fun y => if y = x then some v else m₁ y) → News h₀ L h ((I, o) :: news₁) →
      wpAny (model prog w) A (execs body env) (TurnEnd h₀ L I o (J (i + 1)) s) E { s with heap := h, toks := tk })
    (done : ∀ m₁ news₁ h tk, J vs.length m₁ news₁ → Fr h₀ L h m₁ → News h₀ L h news₁ → Q .next { s with heap := h, toks := tk }) (hEL : env.locals = L := by rfl) :
    wpAny (model prog w) A (pyIter (.ref l)) (fun it s₂ => LoopAtV prog w A h₀ env x body Q E it s₂) E s := by
  subst hEL
  have hlt : l < s.heap.objs.size := Heap.lt_size hol
  have hne : l ≠ s.heap.objs.size := Nat.ne_of_lt hlt
  refine wpAny_pyIter_list hl ?_
  have W := Walks.list (prog := prog) (w := w) hh s.heap.objs.size l hne vs.toArray
  have hlen : vs.toArray.size = vs.length := by simp
  rw [hlen] at W
  refine ⟨_, _, _, vs.length, _, _, m₀, news, J, rfl, W, ?_, ?_, ?_, ⟨⟨_, Heap.get?_push_size _ rfl, rfl, rfl⟩, hl.at fun o e => Heap.get?_push_of_some _ e⟩, F.push _, (fun p hp => ⟨Heap.get?_push_of_some _ (N p hp).1, (N p hp).2⟩), hj, ?_, ?_⟩
  · intro hm
    rcases List.mem_cons.mp hm with e | hm
    · exact absurd F.ns.lt (e ▸ Nat.lt_irrefl _)
    · have e := List.mem_singleton.mp hm
      rcases hw with q | ⟨_, q, _⟩
      · exact absurd (Nat.lt_of_lt_of_le (Heap.lt_size q) F.above) (e ▸ Nat.lt_irrefl _)
      · exact q e.symm
  · intro b hb
    rw [List.mem_singleton.mp hb]
    exact next_is_new F
  · intro p hp hI
    exact absurd (Heap.lt_size (N p hp).1) ((List.mem_singleton.mp hI) ▸ Nat.lt_irrefl _)
  · rintro i v m₁ news₁ s₁ own ⟨hh', tk', rfl⟩ hin hP hJ hoff hsub hget hall hst F₁ N₁
    obtain ⟨⟨oi, hI, _⟩, _⟩ := hst
    have hmem := hall s.heap.objs.size (by simp) (next_is_new F) _ hI
    have hP' : vs[i]? = some v := by simpa using hP
    refine wpAny_mono (turn i v m₁ news₁ hh' tk' s.heap.objs.size oi hP' hJ (fun p hp q => hoff p hp (by rw [q]; simp)) F₁ (News.sub N₁ fun p hp => ?_)) (fun f s₂ hf => ?_) fun _ _ e => e
    · rcases List.mem_cons.mp hp with rfl | hp
      · exact List.mem_append_left _ hmem
      · exact List.mem_append_right _ hp
    · obtain ⟨rfl, h', tk₂, m₂, news₂, rfl, F₂, N₂, hne₂, hJ₂⟩ := hf
      refine LoopStepV.next ⟨rfl, h', tk₂, m₂, news₂, rfl, F₂, News.sub N₂ fun p hp => ?_, fun p hp q => hne₂ p hp (List.mem_singleton.mp q), hJ₂⟩
      rcases List.mem_append.mp hp with hp | hp
      · rcases List.mem_cons.mp (hsub p hp) with h1 | h1
        · have h2 := hget p hp
          rw [h1] at h2
          have h2' : hh'.get? s.heap.objs.size = some p.2 := h2
          rw [hI] at h2'
          have : p = (s.heap.objs.size, oi) := Prod.ext h1 (Option.some.inj h2').symm
          rw [this]; exact .head _
        · have h1 := List.mem_singleton.mp h1
          rcases hw with q | ⟨q, _, hin₂⟩
          · have := (N₁ p (List.mem_append_left _ hp)).2.2
            rw [h1, q] at this; cases this
          · have hl1 := hin₂ i m₁ news₁ hJ
            have h3 := (N₁ _ (List.mem_append_right _ hl1)).1
            have h2 := hget p hp
            rw [h1] at h2
            have h2' : hh'.get? l = some p.2 := h2
            have h3' : hh'.get? l = some ol := h3
            rw [h3'] at h2'
            have : p = (l, ol) := Prod.ext h1 (Option.some.inj h2').symm
            rw [this]; exact .tail _ (hin₂ _ _ _ hJ₂)
      · exact .tail _ hp
  · rintro h' tk m' news' F' N' _ hJ
    exact done m' news' h' tk hJ F' N'
end
end Mine
end

section
namespace Mine
/-- what stands ahead of the last digit -/
def hi (q : Nat) : List Int := if q < 64 then [] else hi (q / 64) ++ [((q / 64 % 64 + 64 : Nat) : Int)]
termination_by q
decreasing_by omega
def addMark (mk : Int) : List Int → List Int
  | [] => []
  | d :: ds => (d + mk) :: ds
def digs (n : Nat) (mk : Int) : List Int := addMark mk (hi n ++ [((n % 64 : Nat) : Int)])

theorem hi_len (q : Nat) : (hi q).length ≤ q := by
  induction q using hi.induct with
  | case1 q h => rw [hi, if_pos h]; simp
  | case2 q h ih => rw [hi, if_neg h]; simp; omega

local macro_rules | `(tactic| walk_at "eval Name") => `(tactic| (k_dflt (refine ld (by with_reducible assumption) (by assumption) ?_)))

theorem digits_spec {w : World} {A : Around} {s : Shared} {loose : List PySem.Str} {mean : ExcName → Option Value} {mg mb : PySem.Str → Option Value} {n : Nat} {mk : Int} {t t' : Tok} :
    (hd.heap_39 w.params).In s.heap → Top topProg loose mean mg mb s.heap → A.depth + 1 < recursionLimit → A.handled = none → n < 2 ^ 20 →
    codeAny (model Challenge.rw_qu0013_01.row.prog w) A (.call (.ref 65) ⟨[.int n t, .int mk t'], []⟩) (Gives s fun v h' => ∃ a e vs, v = .ref a ∧ s.heap.get? a = none ∧ h'.get? a = some (listOf vs.toArray e) ∧ IntsAre vs (digs n mk)) s := by
  w_top off
  k_fill
  intro X T hdep hh hn
  refine code_hide fun RR hPost => ?_
  refine' enter (binds := [(Str.ofString "number", .int n t), (Str.ofString "mark", .int mk t')]) X T ?k6 ?k7 ?k8 ?k9 ?kB ?_ ?c2 ?c3 ?c4 ?c5; (case k6 => k_is); (case k7 => k_is); (case k8 => omega); (case k9 => exact BindsTo.of_eq rfl); (case c5 => decide); (case kB => exact locs rfl); (case c2 => exact rfl); (case c3 => exact rfl); (case c4 => exact rfl)
  intro h₁ F N
  iterate 12 walk1
  rename Addr => a
  rename Fr _ _ _ _ => F1
  rename News _ _ _ _ => N1
  refine wpAny_execs_cons ?_
  obtain ⟨J, hJ⟩ := hide3 (fun (k : Nat) (m : PySem.Str → Option Value) (news : List (Addr × Obj)) => ∃ q t vs e, k = q ∧ q ≤ n ∧ m (Str.ofString "number") = some (.int (q : Nat) t) ∧ m (Str.ofString "mark") = some (.int mk t') ∧ m (Str.ofString "digits") = some (.ref a) ∧
      news = [(a, listOf vs.toArray e)] ∧ (∃ D, IntsAre vs D ∧ 0 < D.length ∧ D.length ≤ n + 1 - q ∧ hi q ++ D = hi n ++ [((n % 64 : Nat) : Int)]))
  refine While_inv J F1 N1 ((hJ _ _ _).mpr ⟨n, _, _, _, rfl, Nat.le_refl _, rfl, rfl, rfl, rfl, _, ?_, by simp, by simp, rfl⟩) ?_
  · show IntsAre [Value.int _ _] _
    have e : ((n : Int).fmod 64) = ((n % 64 : Nat) : Int) := by rw [Int.fmod_eq_emod_of_nonneg _ (by decide)]; omega
    rw [e]
    exact .cons _ _ .nil
  · clear F1 N1 hh
    intro k m news h₁ tk₁ F N hj
    obtain ⟨q, t1, vs, e, rfl, hqn, hm1, hm2, hm3, rfl, D, hI, hD0, hD1, hD⟩ := (hJ _ _ _).mp hj
    clear hj
    iterate 5 walk1
    by_cases hk : (64 : Int) ≤ (k : Int)
    · rw [if_pos (by simpa using hk)]
      iterate 25 walk1
      have hlen : D.length ≤ n + 1 := by have h1 := congrArg List.length hD; have h2 := hi_len n; simp at h1; omega
      refine kl_insert (l := _ :: vs) (by k_asm) (by k_asm) rfl rfl (by k_upd) (by rw [sizeLine_eq, List.toList_toArray, hI.length]; omega) ?_
      intro h2 F2 N2
      have e1 : ((k : Int).fdiv 64) = ((k / 64 : Nat) : Int) := by rw [Int.fdiv_eq_ediv_of_nonneg _ (by decide)]; omega
      have e2 : (((k / 64 : Nat) : Int).fmod 64 + 64) = ((k / 64 % 64 + 64 : Nat) : Int) := by rw [Int.fmod_eq_emod_of_nonneg _ (by decide)]; omega
      rw [e1] at F2 N2
      rw [e2] at N2
      refine wpAny_execs_nil (WhileStep.intro (n' := k / 64) F2 N2 (by omega) ((hJ _ _ _).mpr ⟨k / 64, _, _ :: vs, e + 1, rfl, by omega, rfl, hm2, hm3, rfl, _, .cons _ _ hI, by simp, ?_, ?_⟩))
      · simp; omega
      · rw [← hD, hi.eq_1 k, if_neg (by omega)]; simp
    · rw [if_neg (by simpa using hk)]
      iterate 15 walk1
      rename Fr _ _ _ _ => F3
      rename News _ _ _ _ => N3
      rename IntsAre (vs.set _ _) _ => hI3
      refine hPost _ _ ⟨_, _, _, rfl, rfl, F3.keep, a, e, _, rfl, (N3 _ (.head _)).2.2, (N3 _ (.head _)).1, ?_⟩
      have hk0 : hi k = [] := by rw [hi, if_pos (by omega)]
      rw [hk0, List.nil_append] at hD
      have e3 : D.set (Int.toNat 0) (D.getD (Int.toNat 0) 0 + mk) = digs n mk := by
        unfold digs; rw [← hD]
        cases D with
        | nil => simp at hD0
        | cons d D => rfl
      rw [e3] at hI3
      exact hI3
end Mine
end

section
namespace Mine
/-- a bytes iterator at place i -/
abbrev bIter (b : Array UInt8) (t : Tok) (i : Nat) : Obj := { cls := .type "bytes_iterator", data := .fields #[.bytes b t, .int i 0] }

section
variable {prog : Program} {w : World} {A : Around} {E : Value → Shared → Prop} {s : Shared} {h₀ : Heap} {L it : Addr} {m : PySem.Str → Option Value} {news news' : List (Addr × Obj)} {b : Array UInt8} {t : Tok} {i : Nat} {Q : Value → Shared → Prop}
theorem iter_bytes (F : Fr h₀ L s.heap m) (N : News h₀ L s.heap news)
    (h : ∀ (I : Addr) h', Fr h₀ L h' m → News h₀ L h' ((I, bIter b t 0) :: news) → (∀ p ∈ news, p.1 < I) → Q (.ref I) { s with heap := h' }) :
    wpAny (model prog w) A (call (.builtin "iter") [.bytes b t]) Q E s := by
  refine call_function_entry (by decide +kernel) (by decide +kernel) kdk_entry_iter (kdk_args_iter _) ?_
  unfold Builtin.«iter»
  refine wpAny_bind (m := someArgs "iter" 1 2 _) (wpAny_of_eq (a := [Value.bytes b t]) (by first | rfl | kernel_rfl!) ?_)
  show wpAny _ _ (pyIter (.bytes b t) >>= _) _ _ _
  refine wpAny_bind (KBw.pyIter_bytes ?_)
  exact wpAny_pure ⟨_, rfl, h _ _ (F.push _) (News.push F N _ rfl) (fun q hq => Heap.lt_size (N q hq).1)⟩

theorem next_bytes {c : UInt8} (F : Fr h₀ L s.heap m) (N : News h₀ L s.heap news) (U : Upd it (bIter b t i) (bIter b t (i + 1)) news news') (hx : b[i]? = some c)
    (h : ∀ h' tk, Fr h₀ L h' m → News h₀ L h' news' → Q (.int (c.toNat : Int) s.toks) { s with heap := h', toks := tk }) :
    wpAny (model prog w) A (call (.builtin "next") [.ref it]) Q E s := by
  obtain ⟨pre, post, rfl, rfl, ha, hb⟩ := U.split
  have hm := N (it, bIter b t i) (List.mem_append_right _ (.head _))
  have ho : s.heap.get? it = some (bIter b t i) := hm.1
  have hit : KBw.IsBytesIter s.heap it b t i := ⟨_, ho, rfl, rfl⟩
  refine call_function_entry (by decide +kernel) (by decide +kernel) kdk_entry_next (kdk_args_next _) ?_
  unfold Builtin.«next»
  refine wpAny_bind (m := someArgs "next" 1 2 _) (wpAny_of_eq (a := [Value.ref it]) (by first | rfl | kernel_rfl!) ?_)
  dsimp only
  refine wpAny_bind (wpAny_specialOf (name := PySem.Str.ofString "__next__") (KBw.iter_typeIs hit) KBw.slot_next.lookup ?_)
  refine wpAny_ite_split (fun hab => absurd hab (by decide)) (fun _ => ?_)
  refine wpAny_bind (wpAny_callSpecial?_slot (name := PySem.Str.ofString "__next__") (KBw.iter_typeIs hit) KBw.slot_next
    (wpAny_call_entry KBw.slot_next (KBw.iter_typeIs hit) KBw.entry_next ?_ (KBw.args_next _)))
  show wpAny _ _ (field (.ref it) 0 >>= _) _ _ s
  refine wpAny_bind (wpAny_field ho rfl (x := .bytes b t) rfl ?_)
  show wpAny _ _ (if (Value.bytes b t == Value.none) = true then _ else _) _ _ s
  rw [if_neg (show ¬ ((Value.bytes b t == Value.none) = true) from Bool.false_ne_true)]
  show wpAny _ _ (field (.ref it) 1 >>= _) _ _ s
  refine wpAny_bind (wpAny_field ho rfl (x := .int i 0) rfl ?_)
  refine wpAny_bind (wpAny_of_eq (a := b) rfl ?_)
  simp only [Int.toNat_natCast, hx]
  refine wpAny_bind (wpAny_setField_rec ho (by simp) fun h' ho' hs => wpAny_bind (wpAny_mkInt (wpAny_pure ⟨_, rfl, wpAny_pure ⟨_, rfl, ?_⟩⟩)))
  have ho'' : h'.get? it = some (bIter b t (i + 1)) := ho'
  exact h h' _ (F.change hs hm.2.1 hm.2.2) (news_set N ha hb hs ho'')
end

local macro_rules | `(tactic| walk_at "eval Name") => `(tactic| (k_dflt (refine ld (by with_reducible assumption) (by assumption) ?_)))

theorem from_spec {w : World} {A : Around} {s : Shared} {loose : List PySem.Str} {mean : ExcName → Option Value} {mg mb : PySem.Str → Option Value} {b : Array UInt8} {ks : List Int} {i st : Nat} {t t' : Tok} :
    (hd.heap_39 w.params).In s.heap → Top topProg loose mean mg mb s.heap → A.depth + 1 < recursionLimit → KBw.bInts b = ks → ks.length ≤ 1000000 → st ≤ i → i < ks.length → 128 ≤ ks.getD st 0 → (∀ j, st < j → j ≤ i → ks.getD j 0 < 128) →
    codeAny (model Challenge.rw_qu0013_01.row.prog w) A (.call (.ref 79) ⟨[.bytes b t, .int i t'], []⟩) (Gives s fun v h' => ∃ a b' t', v = .ref a ∧ s.heap.get? a = none ∧ h'.get? a = some (bIter b' t' 0) ∧ KBw.bInts b' = ks.drop st) s := by
  w_top off
  k_fill
  intro X T hdep hk hsz hsi hi hst hlo
  refine' enter (binds := [(Str.ofString "table", .bytes b t), (Str.ofString "octet", .int i t')]) X T ?k6 ?k7 ?k8 ?k9 ?kB ?_ ?c2 ?c3 ?c4 ?c5; (case k6 => k_is); (case k7 => k_is); (case k8 => omega); (case k9 => exact BindsTo.of_eq rfl); (case c5 => decide); (case kB => exact locs rfl); (case c2 => exact rfl); (case c3 => exact rfl); (case c4 => exact rfl)
  intro h₁ F N
  refine wpAny_execs_cons ?_
  refine While_inv (fun k m news => ∃ tq, st ≤ k ∧ k ≤ i ∧ m (Str.ofString "table") = some (.bytes b t) ∧ m (Str.ofString "octet") = some (.int (k : Nat) tq) ∧ news = []) F N ⟨_, hsi, Nat.le_refl _, rfl, rfl, rfl⟩ ?_
  clear F N
  rintro k m news h₁ tk₁ F N ⟨t1, hk1, hk2, hm1, hm2, rfl⟩
  iterate 4 walk1
  refine KBw.item_K hk (by omega) (by omega) (by omega) ?_
  intro t2 tk2 hlo2 hhi2
  iterate 3 walk1
  rw [Int.toNat_natCast] at *
  by_cases hc : ks.getD k 0 < 128
  · rw [if_pos (by simpa using hc)]
    have hne : st ≠ k := by intro e; subst e; omega
    iterate 8 walk1
    rename Fr _ _ _ _ => F2
    rename News _ _ _ _ => N2
    have e1 : ((k : Int) - 1) = ((k - 1 : Nat) : Int) := by omega
    rw [e1] at F2
    exact WhileStep.intro (n' := k - 1) F2 N2 (by omega) ⟨_, by omega, by omega, hm1, rfl, rfl⟩
  · rw [if_neg (by simpa using hc)]
    have hek : k = st := by
      rcases Nat.lt_or_ge st k with h | h
      · exact absurd (hlo k h hk2) hc
      · omega
    subst hek
    iterate 13 walk1
    refine KBc.slice_K (s := ⟨_, _, _, _, _⟩) F N hk (by constructor) (by constructor) (by omega) ?_
    intro h2 t3 tk3 F2 N2 hK
    walk1
    refine iter_bytes F2 N2 ?_
    intro I h3 F3 N3 _
    refine ⟨_, _, _, rfl, rfl, F3.keep, I, _, t3, rfl, (N3 _ (.head _)).2.2, (N3 _ (.head _)).1, ?_⟩
    rw [hK]
    simp [clipAt_nat]
    rw [Nat.min_eq_left (by omega)]
    exact List.take_of_length_le (by simp)
end Mine
end

section
namespace Mine
/-- what the reader makes of what is left: the number, and what is left behind it -/
def rd : List Int → Nat → Int → Option (Nat × List Int)
  | [], val, b => if b / 64 % 2 = 1 then none else some (val, [])
  | c :: r, val, b => if b / 64 % 2 = 1 then rd r (val * 64 + (c % 64).toNat) c else some (val, c :: r)

theorem rd_le : ∀ (l : List Int) (val : Nat) (b : Int) {n : Nat} {rest : List Int}, rd l val b = some (n, rest) → val ≤ n
  | [], val, b, n, rest, h => by
    unfold rd at h
    split at h
    · cases h
    · cases h; exact Nat.le_refl _
  | c :: r, val, b, n, rest, h => by
    unfold rd at h
    split at h
    · have := rd_le r _ c h; omega
    · cases h; exact Nat.le_refl _
theorem and_zero (a b : Nat) (hb : b < 64) : (a * 64) &&& b = 0 := by
  apply Nat.eq_of_testBit_eq
  intro j
  rw [Nat.testBit_and, Nat.zero_testBit, show (64 : Nat) = 2 ^ 6 from rfl, Nat.testBit_mul_two_pow]
  by_cases hj : 6 ≤ j
  · have : b.testBit j = false := Nat.testBit_lt_two_pow (Nat.lt_of_lt_of_le hb (Nat.pow_le_pow_right (n := 2) (by decide) hj))
    rw [this, Bool.and_false]
  · simp [hj]
theorem or_six (a : Nat) (c : Int) : Builtin.bitOr (((a : Nat) : Int) * 2 ^ (6 : Int).toNat) (Builtin.bitAnd c 63) = ((a * 64 + (c % 64).toNat : Nat) : Int) := by
  rw [bitOr_and, bitAnd_m6]
  have h1 : (0 : Int) ≤ c % 64 := Int.emod_nonneg _ (by decide)
  have h2 : c % 64 < 64 := Int.emod_lt_of_pos _ (by decide)
  obtain ⟨d, hd⟩ := Int.eq_ofNat_of_zero_le h1
  have e : ((a : Int) * 2 ^ (6 : Int).toNat) = ((a * 64 : Nat) : Int) := by simp
  rw [e, hd]
  have : Builtin.bitAnd ((a * 64 : Nat) : Int) ((d : Nat) : Int) = 0 := by
    unfold Builtin.bitAnd
    have p1 : decide ((0 : Int) ≤ ((a * 64 : Nat) : Int)) = true := decide_eq_true (Int.natCast_nonneg _)
    have p2 : decide ((0 : Int) ≤ ((d : Nat) : Int)) = true := decide_eq_true (Int.natCast_nonneg _)
    rw [p1, p2]
    show (((((a * 64 : Nat) : Int).toNat &&& ((d : Nat) : Int).toNat : Nat)) : Int) = 0
    rw [Int.toNat_natCast, Int.toNat_natCast, and_zero a d (by omega)]; rfl
  rw [this]
  omega
theorem bit_six (b : Int) : Builtin.bitAnd b 64 = (b / 64 % 2) * 64 := kbt_bit b 6

theorem drop_get {bs : Array UInt8} {i : Nat} {c : Int} {l : List Int} (h : (KBw.bInts bs).drop i = c :: l) : ∃ c8, bs[i]? = some c8 ∧ c = (c8.toNat : Int) ∧ (KBw.bInts bs).drop (i + 1) = l := by
  have h1 : (KBw.bInts bs)[i]? = some c := by
    have := congrArg List.head? h
    simpa using this
  have h2 : (KBw.bInts bs).drop (i + 1) = l := by
    have := congrArg List.tail h
    simpa using this
  unfold KBw.bInts at h1
  rw [List.getElem?_map] at h1
  cases h3 : bs.toList[i]? with
  | none => rw [h3] at h1; cases h1
  | some c8 =>
    rw [h3] at h1
    refine ⟨c8, by simpa using h3, (Option.some.inj h1).symm, h2⟩

local macro_rules | `(tactic| walk_at "eval Name") => `(tactic| (k_dflt (refine ld (by with_reducible assumption) (by assumption) ?_)))
local macro_rules | `(tactic| walk_at "loadName") => `(tactic| (k_dflt (refine ldn (by with_reducible assumption) (by assumption) ?_)))

theorem parse_spec {w : World} {A : Around} {s : Shared} {h₀ : Heap} {loose : List PySem.Str} {mean : ExcName → Option Value} {mg mb : PySem.Str → Option Value} {bs : Array UInt8} {i n : Nat} {t : Tok} {it : Addr} {c : Int} {l rest : List Int} :
    (hd.heap_39 w.params).In h₀ → Top topProg loose mean mg mb h₀ → h₀.StaysIn s.heap → h₀.get? it = none → s.heap.get? it = some (bIter bs t i) → A.depth + 1 < recursionLimit →
    (KBw.bInts bs).drop i = c :: l → rd l (c % 64).toNat c = some (n, rest) → n < 2 ^ 40 → 
    codeAny (model Challenge.rw_qu0013_01.row.prog w) A (.call (.ref 21) ⟨[.ref it], []⟩) (GivesBut s [it] fun v h' => ∃ t' i', v = .int (n : Nat) t' ∧ h'.get? it = some (bIter bs t i') ∧ (KBw.bInts bs).drop i' = rest) s := by
  w_top off
  k_fill
  intro X T hst hit ho hdep hl hr hn
  refine code_hide fun RR hPost => ?_
  refine' enterH (binds := [(Str.ofString "iterator", .ref it)]) [(it, bIter bs t i)] X T hst ?kn ?k6 ?k7 ?k8 ?k9 ?kB ?_ ?c2 ?c3 ?c4 ?c5; (case k6 => k_is); (case k7 => k_is); (case k8 => omega); (case k9 => exact BindsTo.of_eq rfl); (case c5 => decide); (case kB => exact locs rfl); (case c2 => exact rfl); (case c3 => exact rfl); (case c4 => exact rfl); (case kn => intro p hp; cases List.mem_singleton.mp hp; exact ⟨ho, hit⟩)
  intro g h₁ hsg hkeep X' T' F N
  clear X T
  iterate 9 walk1
  obtain ⟨c8, hc8, rfl, hl'⟩ := drop_get hl
  refine next_bytes F N (by k_upd) hc8 ?_
  intro h2 tk2 F2 N2
  iterate 10 walk1
  rename Fr _ _ _ _ => F3
  rename News _ _ _ _ => N3
  have e1 : Builtin.bitAnd ((c8.toNat : Nat) : Int) 63 = ((((c8.toNat : Nat) : Int) % 64).toNat : Int) := by rw [bitAnd_m6]; omega
  rw [e1] at F3
  obtain ⟨J, hJ⟩ := hide3 (fun (k : Nat) (m : PySem.Str → Option Value) (news : List (Addr × Obj)) => ∃ i' val b l tb tv, k = l.length ∧ m (Str.ofString "iterator") = some (.ref it) ∧ m (Str.ofString "val") = some (.int ((val : Nat) : Int) tv) ∧ m (Str.ofString "b") = some (.int b tb) ∧
      news = [(it, bIter bs t i')] ∧ (KBw.bInts bs).drop i' = l ∧ rd l val b = some (n, rest))
  refine While_inv J F3 N3 ((hJ _ _ _).mpr ⟨_, _, _, l, _, _, rfl, rfl, rfl, rfl, rfl, hl', hr⟩) ?_
  clear F3 N3 hl hl' hr e1 hc8
  intro k m news h₁ tk₁ F N hj
  obtain ⟨i', val, b, l, tb, tv, rfl, hm1, hm2, hm3, rfl, hl, hr⟩ := (hJ _ _ _).mp hj
  clear hj
  iterate 6 walk1
  rw [bit_six]
  by_cases hb : b / 64 % 2 = 1
  · rw [if_pos (by rw [hb]; decide)]
    have hv := rd_le _ _ _ hr
    obtain ⟨c, l, rfl⟩ : ∃ c l', l = c :: l' := by
      cases l with
      | nil => unfold rd at hr; rw [if_pos hb] at hr; cases hr
      | cons c l => exact ⟨c, l, rfl⟩
    unfold rd at hr
    rw [if_pos hb] at hr
    obtain ⟨c8, hc8, rfl, hl'⟩ := drop_get hl
    iterate 4 walk1
    refine ilshift_int_small (by decide) (by decide) (by omega) ?_
    iterate 9 walk1
    refine next_bytes (by k_asm) (by k_asm) (by k_upd) hc8 ?_
    intro h2 tk2 F2 N2
    iterate 12 walk1
    rename Fr _ _ _ _ => F4
    rename News _ _ _ _ => N4
    rw [or_six] at F4
    exact WhileStep.intro (n' := l.length) F4 N4 (by simp) ((hJ _ _ _).mpr ⟨_, _, _, l, _, _, rfl, hm1, rfl, rfl, rfl, hl', hr⟩)
  · have hb0 : b / 64 % 2 = 0 := by omega
    rw [if_neg (by rw [hb0]; decide)]
    have hv : val = n ∧ l = rest := by
      cases l with
      | nil => unfold rd at hr; rw [if_neg hb] at hr; cases hr; exact ⟨rfl, rfl⟩
      | cons c l => unfold rd at hr; rw [if_neg hb] at hr; cases hr; exact ⟨rfl, rfl⟩
    obtain ⟨rfl, rfl⟩ := hv
    iterate 3 walk1
    refine hPost _ _ ⟨_, _, _, rfl, rfl, fun b o hb e => F.keep b o (hkeep b o hb e), _, _, rfl, (N _ (.head _)).1, hl⟩
end Mine
end

section
namespace Mine

local macro_rules | `(tactic| walk_at "eval Name") => `(tactic| (k_dflt (refine ld (by with_reducible assumption) (by assumption) ?_)))
local macro_rules | `(tactic| walk_at "loadName") => `(tactic| (k_dflt (refine ldn (by with_reducible assumption) (by assumption) ?_)))

theorem bisect_spec {w : World} {A : Around} {s : Shared} {loose : List PySem.Str} {mean : ExcName → Option Value} {mg mb : PySem.Str → Option Value} {la f : Addr} {vs : List Value} {e n : Nat} {x : Int} {t : Tok} {kf : Nat → Int} {fd : FuncData} {oc : Value} {od : Option Addr} {osl : Array (Option Value)} :
    (hd.heap_39 w.params).In s.heap → Top topProg loose mean mg mb s.heap → A.depth + 1 < recursionLimit → A.handled = none →
    s.heap.get? la = some (listOf vs.toArray e) → IntsAre vs ((List.range n).map fun j => ((j : Nat) : Int)) → n ≤ 1000000 → s.heap.get? f = some ⟨oc, od, .func fd, osl⟩ →
    (∀ (A' : Around) (s' : Shared) (j : Nat) (tj : Tok), A'.depth = A.depth + 1 → A'.handled = none → s.heap.StaysIn s'.heap → j < n → codeAny (model Challenge.rw_qu0013_01.row.prog w) A' (.call (.ref f) ⟨[.int (j : Nat) tj], []⟩) (Gives s' fun v _ => ∃ t', v = .int (kf j) t') s') →
    (∀ i j, i ≤ j → j < n → kf i ≤ kf j) →
    codeAny (model Challenge.rw_qu0013_01.row.prog w) A (.call (.ref 30) ⟨[.ref la, .int x t], [(Str.ofString "key", .ref f)]⟩) (Gives s fun v _ => ∃ (r : Nat) (t' : Tok), v = .int (r : Nat) t' ∧ r ≤ n ∧ (∀ j, j < r → kf j ≤ x) ∧ ∀ j, r ≤ j → j < n → x < kf j) s := by
  w_top off
  k_fill
  intro X T hdep hh hla hI hn hf hkey hmono
  refine code_hide fun RR hPost => ?_
  refine' enter (binds := [(Str.ofString "a", .ref la), (Str.ofString "x", .int x t), (Str.ofString "lo", .int 0 200), (Str.ofString "hi", .none), (Str.ofString "key", .ref f)]) X T ?k6 ?k7 ?k8 ?k9 ?kB ?_ ?c2 ?c3 ?c4 ?c5; (case k6 => k_is); (case k7 => k_is); (case k8 => omega); (case k9 => exact kp_binds X (by intro S; kernel_rfl)); (case c5 => decide); (case kB => exact locs rfl); (case c2 => exact rfl); (case c3 => exact rfl); (case c4 => exact rfl)
  have hL : s.heap.IsList la vs.toArray := ⟨_, hla, rfl, e, rfl⟩
  have hlen : vs.length = n := by rw [hI.length]; simp
  intro h₁ F N
  iterate 27 walk1
  refine len_at (hL.at fun o e => F.keep _ _ e) hlen (by omega) ?_
  iterate 12 walk1
  rename Fr _ _ _ _ => F1
  rename News _ _ _ _ => N1
  obtain ⟨J, hJ⟩ := hide3 (fun (k : Nat) (m : PySem.Str → Option Value) (news : List (Addr × Obj)) => ∃ lo hi tl th, k = hi - lo ∧ lo ≤ hi ∧ hi ≤ n ∧ (∀ j, j < lo → kf j ≤ x) ∧ (∀ j, hi ≤ j → j < n → x < kf j) ∧ m (Str.ofString "a") = some (.ref la) ∧ m (Str.ofString "x") = some (.int x t) ∧ m (Str.ofString "key") = some (.ref f) ∧
      m (Str.ofString "lo") = some (.int ((lo : Nat) : Int) tl) ∧ m (Str.ofString "hi") = some (.int ((hi : Nat) : Int) th) ∧ news = [])
  refine While_inv J F1 N1
      ((hJ _ _ _).mpr ⟨0, n, _, _, rfl, Nat.zero_le _, Nat.le_refl _, fun j hj => absurd hj (Nat.not_lt_zero _), fun j h1 h2 => absurd h1 (by omega), rfl, rfl, rfl, rfl, rfl, rfl⟩) ?_
  clear F1 N1
  intro k m news h₁ tk₁ F N hj
  obtain ⟨lo, hi, tl, th, rfl, hlh, hhn, hA, hB, hm1, hm2, hm3, hm4, hm5, rfl⟩ := (hJ _ _ _).mp hj
  clear hj
  iterate 5 walk1
  by_cases hlt : ((lo : Nat) : Int) < ((hi : Nat) : Int)
  · rw [if_pos (by simpa using hlt)]
    iterate 10 walk1
    rename Fr _ _ _ _ => F2
    rename News _ _ _ _ => N2
    have e1 : (((lo : Nat) : Int) + ((hi : Nat) : Int)).fdiv 2 = (((lo + hi) / 2 : Nat) : Int) := by rw [Int.fdiv_eq_ediv_of_nonneg _ (by decide)]; omega
    rw [e1] at F2
    generalize hmid : (lo + hi) / 2 = mid at F2
    have hmid1 : lo ≤ mid ∧ mid < hi := by omega
    iterate 6 walk1
    refine callWith_F (oc := oc) (od := od) (fd := fd) (osl := osl) ?_
    iterate 4 walk1
    refine item_at (hL.at fun o e => F2.keep _ _ e) hI (x := (mid : Int)) (by rw [List.getElem?_map, List.getElem?_range (by omega)]; rfl) (by omega) ?_
    intro tm
    walk1
    refine call_con F2 N2 (hkey _ _ mid tm rfl hh F2.keep (by omega)) ?_
    rintro v h3 tk3 F3 N3 st3 ⟨t3, rfl⟩
    iterate 2 walk1
    by_cases hc : x < kf mid
    · rw [if_pos (by simpa using hc)]
      iterate 6 walk1
      rename Fr _ _ _ _ => F4
      rename News _ _ _ _ => N4
      exact WhileStep.intro (n' := mid - lo) F4 N4 (by omega) ((hJ _ _ _).mpr ⟨lo, mid, _, _, rfl, by omega, by omega, hA, fun j h1 h2 => Int.lt_of_lt_of_le hc (hmono _ _ h1 h2), hm1, hm2, hm3, hm4, rfl, rfl⟩)
    · rw [if_neg (by simpa using hc)]
      iterate 9 walk1
      rename Fr _ _ _ _ => F4
      rename News _ _ _ _ => N4
      have e2 : ((mid : Nat) : Int) + 1 = ((mid + 1 : Nat) : Int) := by omega
      rw [e2] at F4
      exact WhileStep.intro (n' := hi - (mid + 1)) F4 N4 (by omega) ((hJ _ _ _).mpr ⟨mid + 1, hi, _, _, rfl, by omega, by omega, fun j h1 => Int.le_trans (hmono j mid (by omega) (by omega)) (by omega), hB, hm1, hm2, hm3, rfl, hm5, rfl⟩)
  · rw [if_neg (by simpa using hlt)]
    have hlo : lo = hi := by omega
    subst hlo
    iterate 4 walk1
    refine hPost _ _ ⟨_, _, _, rfl, rfl, F.keep, lo, _, rfl, hhn, hA, hB⟩
end Mine
end

section
namespace Mine
theorem addMark_append (mk : Int) (a b : List Int) (h : a ≠ []) : addMark mk (a ++ b) = addMark mk a ++ b := by
  cases a with
  | nil => exact absurd rfl h
  | cons x a => rfl
theorem addMark_length (mk : Int) (a : List Int) : (addMark mk a).length = a.length := by cases a <;> rfl
theorem digs_length (n : Nat) (mk : Int) : (digs n mk).length = (hi n).length + 1 := by unfold digs; rw [addMark_length]; simp
theorem digs_pos (n : Nat) (mk : Int) : 0 < (digs n mk).length := by rw [digs_length]; omega

theorem hi_mem (n : Nat) : ∀ d ∈ hi n, 64 ≤ d ∧ d < 128 := by
  induction n using hi.induct with
  | case1 q h => intro d hd; rw [hi, if_pos h] at hd; cases hd
  | case2 q h ih =>
    intro d hd
    rw [hi, if_neg h] at hd
    rcases List.mem_append.mp hd with hd | hd
    · exact ih d hd
    · have := List.mem_singleton.mp hd; omega
theorem pre_mem (n : Nat) : ∀ d ∈ hi n ++ [((n % 64 : Nat) : Int)], 0 ≤ d ∧ d < 128 := by
  intro d hd
  rcases List.mem_append.mp hd with hd | hd
  · have := hi_mem n d hd; omega
  · have := List.mem_singleton.mp hd; omega
/-- the first octet bears the mark, the others are small -/
theorem digs_shape (n : Nat) (mk : Int) : ∃ d ds, digs n mk = (d + mk) :: ds ∧ 0 ≤ d ∧ d < 128 ∧ (∀ x ∈ ds, 0 ≤ x ∧ x < 128) := by
  have h := pre_mem n
  unfold digs
  cases e : hi n ++ [((n % 64 : Nat) : Int)] with
  | nil => simp at e
  | cons d ds =>
    rw [e] at h
    exact ⟨d, ds, rfl, (h d (.head _)).1, (h d (.head _)).2, fun x hx => h x (.tail _ hx)⟩

/-- the digits ahead of the last: they are read as n / 64 -/
theorem rd_hi (mk : Int) (hmk : mk = 0 ∨ mk = 128) (n : Nat) : 64 ≤ n → ∀ l : List Int, ∃ c r b, addMark mk (hi n) ++ l = c :: r ∧ rd r (c % 64).toNat c = rd l (n / 64) b ∧ b / 64 % 2 = 1 := by
  induction n using hi.induct with
  | case1 q h => intro h'; omega
  | case2 q h ih =>
    intro _ l
    rw [hi, if_neg h]
    by_cases h2 : q / 64 < 64
    · refine ⟨((q / 64 % 64 + 64 : Nat) : Int) + mk, l, ((q / 64 % 64 + 64 : Nat) : Int) + mk, ?_, ?_, ?_⟩
      · rw [hi, if_pos h2]; rfl
      · have e : ((((q / 64 % 64 + 64 : Nat) : Int) + mk) % 64).toNat = q / 64 := by rcases hmk with rfl | rfl <;> omega
        rw [e]
      · rcases hmk with rfl | rfl <;> omega
    · obtain ⟨c, r, b, e1, e2, e3⟩ := ih (by omega) (((q / 64 % 64 + 64 : Nat) : Int) :: l)
      have hne : hi (q / 64) ≠ [] := by rw [hi, if_neg h2]; simp
      refine ⟨c, r, ((q / 64 % 64 + 64 : Nat) : Int), ?_, ?_, by omega⟩
      · rw [addMark_append _ _ _ hne, List.append_assoc]; exact e1
      · rw [e2, rd, if_pos e3]
        have e : q / 64 / 64 * 64 + (((q / 64 % 64 + 64 : Nat) : Int) % 64).toNat = q / 64 := by omega
        rw [e]
theorem rd_stop (l : List Int) (v : Nat) (b : Int) (h : b / 64 % 2 ≠ 1) : rd l v b = some (v, l) := by
  cases l with
  | nil => rw [rd, if_neg h]
  | cons c l => rw [rd, if_neg h]
/-- a number is read back -/
theorem rd_digs (n : Nat) (mk : Int) (hmk : mk = 0 ∨ mk = 128) (l : List Int) : ∃ c r, digs n mk ++ l = c :: r ∧ rd r (c % 64).toNat c = some (n, l) := by
  unfold digs
  by_cases h : n < 64
  · rw [hi, if_pos h]
    refine ⟨((n % 64 : Nat) : Int) + mk, l, rfl, ?_⟩
    have e : ((((n % 64 : Nat) : Int) + mk) % 64).toNat = n := by rcases hmk with rfl | rfl <;> omega
    rw [e]
    exact rd_stop _ _ _ (by rcases hmk with rfl | rfl <;> omega)
  · have hne : hi n ≠ [] := by rw [hi, if_neg h]; simp
    rw [addMark_append _ _ _ hne, List.append_assoc]
    obtain ⟨c, r, b, e1, e2, e3⟩ := rd_hi mk hmk n (by omega) ([((n % 64 : Nat) : Int)] ++ l)
    refine ⟨c, r, e1, ?_⟩
    rw [e2]
    show rd (((n % 64 : Nat) : Int) :: l) _ _ = _
    rw [rd, if_pos e3]
    have e : n / 64 * 64 + (((n % 64 : Nat) : Int) % 64).toNat = n := by omega
    rw [e]
    exact rd_stop _ _ _ (by omega)

/-- a row of the table -/
structure Row where
  b : Nat
  s : Nat
  g : Nat
  m : Nat
def Row.enc (r : Row) : List Int := digs r.b 128 ++ (digs r.s 0 ++ (digs r.g 0 ++ digs r.m 0))
def encAll (rows : List Row) : List Int := rows.flatMap Row.enc
theorem Row.enc_pos (r : Row) : 0 < r.enc.length := by unfold Row.enc; have := digs_pos r.b 128; simp; omega
theorem Row.enc_shape (r : Row) : ∃ d ds, r.enc = (d + 128) :: ds ∧ 0 ≤ d ∧ d < 128 ∧ (∀ x ∈ ds, 0 ≤ x ∧ x < 128) := by
  obtain ⟨d, ds, e, h1, h2, h3⟩ := digs_shape r.b 128
  refine ⟨d, ds ++ (digs r.s 0 ++ (digs r.g 0 ++ digs r.m 0)), ?_, h1, h2, ?_⟩
  · unfold Row.enc; rw [e]; rfl
  · have zero : ∀ n, ∀ x ∈ digs n 0, 0 ≤ x ∧ x < 128 := fun n x hx => by
      obtain ⟨d, ds, e, h1, h2, h3⟩ := digs_shape n 0
      rw [e] at hx
      rcases List.mem_cons.mp hx with rfl | hx
      · omega
      · exact h3 x hx
    intro x hx
    rcases List.mem_append.mp hx with hx | hx
    · exact h3 x hx
    rcases List.mem_append.mp hx with hx | hx
    · exact zero _ x hx
    rcases List.mem_append.mp hx with hx | hx
    · exact zero _ x hx
    · exact zero _ x hx

/-- the key of an octet: the begin of its row -/
def keyAt : List Row → Nat → Int
  | [], _ => 0
  | r :: rs, j => if j < r.enc.length then (r.b : Int) else keyAt rs (j - r.enc.length)

theorem encAll_cons (r : Row) (rs : List Row) : encAll (r :: rs) = r.enc ++ encAll rs := rfl
theorem encAll_append (a b : List Row) : encAll (a ++ b) = encAll a ++ encAll b := by unfold encAll; exact List.flatMap_append

/-- an octet lies in a row -/
theorem octet_row : ∀ (rows : List Row) (j : Nat), j < (encAll rows).length → ∃ pre r post, rows = pre ++ r :: post ∧ (encAll pre).length ≤ j ∧ j < (encAll pre).length + r.enc.length ∧ keyAt rows j = (r.b : Int) := by
  intro rows
  induction rows with
  | nil => intro j h; exact absurd h (Nat.not_lt_zero _)
  | cons r rs ih =>
    intro j h
    rw [encAll_cons, List.length_append] at h
    by_cases hj : j < r.enc.length
    · exact ⟨[], r, rs, rfl, Nat.zero_le _, by simpa [encAll] using hj, by rw [keyAt, if_pos hj]⟩
    · obtain ⟨pre, r', post, e, h1, h2, h3⟩ := ih (j - r.enc.length) (by omega)
      refine ⟨r :: pre, r', post, by rw [e]; rfl, ?_, ?_, ?_⟩
      · rw [encAll_cons, List.length_append]; omega
      · rw [encAll_cons, List.length_append]; omega
      · rw [keyAt, if_neg hj]; exact h3
/-- a row has an octet -/
theorem row_octet : ∀ (rows pre post : List Row) (r : Row), rows = pre ++ r :: post → keyAt rows (encAll pre).length = (r.b : Int) ∧ (encAll pre).length < (encAll rows).length := by
  intro rows pre
  induction pre generalizing rows with
  | nil =>
    intro post r e
    subst e
    have := r.enc_pos
    refine ⟨?_, ?_⟩
    · show keyAt (r :: post) 0 = _
      rw [keyAt, if_pos this]
    · show 0 < (encAll (r :: post)).length
      rw [encAll_cons, List.length_append]; omega
  | cons p pre ih =>
    intro post r e
    subst e
    obtain ⟨h1, h2⟩ := ih _ post r rfl
    refine ⟨?_, ?_⟩
    · show keyAt (p :: (pre ++ r :: post)) (encAll (p :: pre)).length = _
      rw [encAll_cons, List.length_append, keyAt, if_neg (by omega)]
      have e : p.enc.length + (encAll pre).length - p.enc.length = (encAll pre).length := by omega
      rw [e]; exact h1
    · show (encAll (p :: pre)).length < (encAll (p :: (pre ++ r :: post))).length
      rw [encAll_cons, encAll_cons, List.length_append, List.length_append]; omega
theorem keyAt_mem : ∀ (rows : List Row) (j : Nat), j < (encAll rows).length → ∃ r ∈ rows, keyAt rows j = (r.b : Int) := fun rows j h => by
  obtain ⟨pre, r, post, e, _, _, h3⟩ := octet_row rows j h
  exact ⟨r, by rw [e]; simp, h3⟩
theorem keyAt_mono : ∀ (rows : List Row), rows.Pairwise (fun a b => a.b ≤ b.b) → ∀ i j, i ≤ j → j < (encAll rows).length → keyAt rows i ≤ keyAt rows j := by
  intro rows
  induction rows with
  | nil => intro _ i j _ h; exact absurd h (Nat.not_lt_zero _)
  | cons r rs ih =>
    intro hp i j hij h
    rw [encAll_cons, List.length_append] at h
    obtain ⟨h1, h2⟩ := List.pairwise_cons.mp hp
    by_cases hj : j < r.enc.length
    · rw [keyAt, if_pos (by omega), keyAt, if_pos hj]; exact Int.le_refl _
    · rw [keyAt.eq_def (r :: rs) j]
      simp only [if_neg hj]
      by_cases hi : i < r.enc.length
      · rw [keyAt, if_pos hi]
        obtain ⟨r', hr', e⟩ := keyAt_mem rs (j - r.enc.length) (by omega)
        rw [e]
        have := h1 r' hr'
        omega
      · rw [keyAt, if_neg hi]
        exact ih h2 _ _ (by omega) (by omega)

/-- what a row's octets are like -/
theorem octet_start (pre post : List Row) (r : Row) (j : Nat) (h1 : (encAll pre).length ≤ j) (h2 : j < (encAll pre).length + r.enc.length) :
    128 ≤ (encAll (pre ++ r :: post)).getD (encAll pre).length 0 ∧ (∀ i, (encAll pre).length < i → i ≤ j → (encAll (pre ++ r :: post)).getD i 0 < 128) ∧
    (encAll (pre ++ r :: post)).drop (encAll pre).length = r.enc ++ encAll post := by
  obtain ⟨d, ds, e, d1, d2, d3⟩ := r.enc_shape
  have e0 : encAll (pre ++ r :: post) = encAll pre ++ (r.enc ++ encAll post) := by rw [encAll_append, encAll_cons]
  rw [e0]
  refine ⟨?_, ?_, ?_⟩
  · rw [e]; simp; omega
  · intro i hi1 hi2
    rw [List.getD_eq_getElem?_getD, List.getElem?_append_right (by omega), List.getElem?_append_left (by omega), e]
    obtain ⟨k, hk⟩ : ∃ k, i - (encAll pre).length = k + 1 := ⟨i - (encAll pre).length - 1, by omega⟩
    rw [hk, List.getElem?_cons_succ]
    have hlt : k < ds.length := by rw [e] at h2; simp at h2; omega
    rw [List.getElem?_eq_getElem hlt]
    exact (d3 _ (List.getElem_mem hlt)).2
  · simp

/-- what the look finds -/
def LookIs (rows : List Row) (place : Nat) (res : Option (Nat × Nat)) : Prop :=
  ((∀ r ∈ rows, place < r.b) ∧ res = none) ∨ ∃ pre r post, rows = pre ++ r :: post ∧ r.b ≤ place ∧ (∀ r' ∈ post, place < r'.b) ∧ res = if r.b + r.s ≤ place then none else some (r.g, r.m)
end Mine
end

section
namespace Mine

/-- a def with cells is entered that may turn the objects of news -/
theorem enterHC {w : World} {K : Frag} {A : Around} {s : Shared} {h₀ : Heap} {R : Result → Shared → Prop} {loose : List PySem.Str} {mean : ExcName → Option Value} {mg mb : PySem.Str → Option Value}
    {name qual : PySem.Str} {params : Arguments} {body : List Stmt} {scope : Scope} {dV kV doc pm cdv ct oc : Value} {an od : Option Addr} {osl : Array (Option Value)} {f : Addr} {args : Args} {binds : List (PySem.Str × Value)} (news : List (Addr × Obj))
    (X : K.In h₀) (T : Top topProg loose mean mg mb h₀) (hst : h₀.StaysIn s.heap) (hn : ∀ p ∈ news, s.heap.get? p.1 = some p.2 ∧ h₀.get? p.1 = none)
    (ho : K.lookup f = some ⟨oc, od, .func (fnOf name qual params body scope dV kV doc pm an cdv ct), osl⟩) (hcd : codeIn K cdv qual = true) (hroom : A.depth < recursionLimit)
    (hbind : BindsTo s (fnOf name qual params body scope dV kV doc pm an cdv ct) args binds) (hkind : (binds.all fun y => scope.names.lookup y.1 == some .local || scope.names.lookup y.1 == some .cell) = true)
    (hnd : ((cellsFrom 0 scope.names []).map (·.1)).Nodup)
    (h : ∀ g h₁ tk cells, h₀.StaysIn g → (∀ b o, b ∉ news.map (·.1) → s.heap.get? b = some o → g.get? b = some o) → K.In g → Top topProg loose mean mg mb g → Fr g s.heap.objs.size h₁ (bindL (envOfC qual scope s.heap.objs.size f cdv).kindOf binds fun _ => none) → News g s.heap.objs.size h₁ (cells ++ news) →
      CellsAre (bindC (envOfC qual scope s.heap.objs.size f cdv).kindOf binds fun _ => none) (cellsFrom (s.heap.objs.size + 1) scope.names []) cells →
      wpAny (model Challenge.rw_qu0013_01.row.prog w) (A.deeper (envOfC qual scope s.heap.objs.size f cdv)) (execs body (envOfC qual scope s.heap.objs.size f cdv))
        (fun fl s' => R (.ok (.ret (match fl with | .ret v => v | _ => .none))) s') (fun _ _ => False) { s with heap := h₁, toks := tk })
    (hco : scope.isCoroutine = false) (hgen : scope.isGenerator = false) (hk : scope.kind = .function) :
    codeAny (model Challenge.rw_qu0013_01.row.prog w) A (.call (.ref f) args) R s := by
  have X' := X.keeps hst
  have sg : h₀.StaysIn (hideAll s.heap (news.map (·.1))) := fun b o e => hideAll_get _ (hst b o e) fun q => by
    obtain ⟨p, hp, rfl⟩ := List.mem_map.mp q
    rw [(hn p hp).2] at e; cases e
  have XX := X.keeps sg
  have TT := T.keeps sg
  refine codeAny_call_function (fd := fnOf name qual params body scope dV kV doc pm an cdv ct) hroom (X' _ _ ho) rfl hco hgen rfl (codeRec_of X' hcd) (hbind _ _ _ _ ?_)
  refine wpAny_newFunctionEnv_cells hk (kindsX hkind _) fun env' he s' x => ?_
  subst he
  refine ⟨(T.nolimit.keeps hst).keeps x.toInCall.keep, codeAny_func ?_⟩
  obtain ⟨h₁, tk, rfl, _⟩ := x.done
  have hk₁ := x.toInCall.keep
  obtain ⟨cells, NC, Y⟩ := Cl.news (h₀ := s.heap) (Nat.le_refl _) fun n c hm => ⟨x.cell n c (lookup_of_mem_nodup (cellsFrom_names scope.names 0 (s.heap.objs.size + 1) [] [] rfl ▸ hnd) hm), x.above n c hm⟩
  refine wpAny_mono (h _ h₁ tk cells sg (fun b o hb e => hideAll_get _ e hb) XX TT ⟨x.toInCall.ns, fun b o e => hk₁ b o (of_hideAll _ e), Nat.le_of_eq (hideAll_size _ _)⟩ (fun p hp => ?_) Y) (fun fl s' hl => hl) fun _ _ y => y.elim
  rcases List.mem_append.mp hp with hp | hp
  · refine ⟨(NC p hp).1, (NC p hp).2.1, ?_⟩
    cases q : (hideAll s.heap (news.map (·.1))).get? p.1 with
    | none => rfl
    | some o => have := of_hideAll _ q; rw [(NC p hp).2.2] at this; cases this
  · exact ⟨hk₁ _ _ (hn p hp).1, Nat.ne_of_lt (Heap.lt_size (hn p hp).1), hideAll_none _ (List.mem_map_of_mem hp)⟩

/-- a lambda of the heap is entered -/
theorem enterLam {w : World} {A : Around} {s : Shared} {R : Result → Shared → Prop} {name qual : PySem.Str} {params : Arguments} {body : PySem.Expr} {scope : Scope} {cl : List (PySem.Str × Addr)} {pm ctv : Value} {c' f : Addr} {args : Args} {binds : List (PySem.Str × Value)}
    (hf : s.heap.get? f = some (kla_obj name qual params body scope cl pm c' ctv)) (hcd : s.heap.CodeRec (.ref c') qual) (hlim : s.heap.NoLimit) (hroom : A.depth < recursionLimit)
    (hbind : bindArgs (kla_fn name qual params body scope cl pm (.ref c') ctv) args = pure binds) (hloc : ∀ y ∈ binds, scope.names.lookup y.1 = some .local)
    (h : ∀ h₁, Fr s.heap s.heap.objs.size h₁ (fun y => binds.reverse.lookup y) → News s.heap s.heap.objs.size h₁ [] →
      wpAny (model Challenge.rw_qu0013_01.row.prog w) (A.deeper (envX qual scope s.heap.objs.size f (.ref c') cl)) (eval body (envX qual scope s.heap.objs.size f (.ref c') cl))
        (fun v s' => R (.ok (.ret v)) s') (fun _ _ => False) { s with heap := h₁, toks := s.toks + binds.length })
    (hco : scope.isCoroutine = false) (hgen : scope.isGenerator = false) (hk : scope.kind = .function)
    (hcell : ∀ x ∈ scope.names, x.2 ≠ .cell) : codeAny (model Challenge.rw_qu0013_01.row.prog w) A (.call (.ref f) args) R s := by
  refine kla_callFunE hroom hf rfl hco hgen rfl hcd ?_
  rw [hbind]
  refine wpAny_pure (wpAny_newFunctionEnv hcell hloc (fun h₁ hns hsb => ⟨hlim.fresh _ hsb, ?_⟩) hk)
  show codeAny _ _ (.expr body (envX qual scope s.heap.objs.size f (.ref c') cl)) _ _
  have hk₁ : ∀ b o, s.heap.get? b = some o → h₁.get? b = some o := fun b o e => hsb.extBut b o (Nat.ne_of_lt (Heap.lt_size e)) (Heap.get?_push_of_some _ e)
  exact kla_codeExpr (wpAny_mono (h h₁ ⟨hns, hk₁, Nat.le_refl _⟩ News.nil) (fun v s' hl => hl) fun _ _ y => y.elim)

/-- the table of the code objects of look: none yet, or the lambda's -/
def LamX (qual : PySem.Str) (ps : Array Value) (extra : List (Addr × Obj)) : Prop :=
  (ps = #[] ∧ extra = []) ∨ ∃ c' oc vs t, ps = #[rawInt 121, rawInt 45, .ref c'] ∧ extra = [(c', oc)] ∧ c' ≠ 81 ∧ oc.data = .fields vs ∧ vs[1]? = some (.str qual t)

theorem lam_make {M : Model} {A : Around} {E : Value → Shared → Prop} {s : Shared} {h₀ : Heap} {L a : Addr} {m mg mb : PySem.Str → Option Value} {cn : PySem.Str} {cs : Scope} {ccd : Value} {cl : List (PySem.Str × Addr)} {pre extra : List (Addr × Obj)}
    {p : Program} {loose : List PySem.Str} {mean : ExcName → Option Value} {qual : PySem.Str} {params : Arguments} {body : PySem.Expr} {scope : Scope} {ps : Array Value} {pos : Pos} {clos : List (PySem.Str × Addr)} {Q : Value → Shared → Prop}
    (hq : (envX cn cs L a ccd cl).qual ++ "<lambda>" = qual) (hdef : defaultsOf params (envX cn cs L a ccd cl) = ([], []))
    (F : Fr h₀ L s.heap m) (N : News h₀ L s.heap (pre ++ (81, tabObj ps) :: extra)) (hpre : ∀ q ∈ pre, q.1 ≠ 81) (T : Top p loose mean mg mb h₀) (C : CodeHd h₀ 85 81) (hcd : ccd = .ref 85) (hpl : pos.line = 121) (hpc : pos.col = 45) (hx : LamX qual ps extra)
    (hcl : closureFor scope (envX cn cs L a ccd cl) = pure clos)
    (h : ∀ f c' oc vs t ctv h' tk, Fr h₀ L h' m → News h₀ L h' ((f, kla_obj "<lambda>" qual params body scope clos ((mg "__name__").getD .none) c' ctv) :: (pre ++ [(81, tabObj #[rawInt 121, rawInt 45, .ref c']), (c', oc)])) →
      oc.data = .fields vs → vs[1]? = some (.str qual t) → c' ≠ 81 → (∀ q ∈ extra, q = (c', oc)) → (∀ q ∈ pre, q.1 < f) → 81 < f → c' < f → Q (.ref f) { s with heap := h', toks := tk }) :
    wpAny M A (eval (.Lambda params body scope pos) (envX cn cs L a ccd cl)) Q E s := by
  refine kla_eval hdef ?_
  rw [hq]
  have e1 : rawInt pos.line = rawInt 121 := by rw [hpl]; rfl
  have e2 : rawInt pos.col = rawInt 45 := by rw [hpc]; rfl
  rcases hx with ⟨rfl, rfl⟩ | ⟨c', oc, vs, t, rfl, rfl, hne, hd, hv⟩
  · have U : UpdF 81 (tabObj #[]) (pre ++ [(81, tabObj #[])]) (fun o' => pre ++ [(81, o')]) := by
      clear N h
      induction pre with
      | nil => exact .head fun _ hp => nomatch hp
      | cons q pre ih => exact .tail (hpre q (.head _)) (ih fun q' hq' => hpre q' (.tail _ hq'))
    refine kla_nest (c := 85) (P := 81) F N T C hcd U trivial rfl hcl fun f c' oc vs t ctv h' tk F' N' hd hv l1 l2 => ?_
    rw [e1, e2] at N'
    have l81 : 81 < c' := l1 (81, tabObj #[]) (List.mem_append_right _ (.head _))
    refine h f c' oc vs t ctv h' tk F' (News.sub N' fun q hq => ?_) hd hv (Nat.ne_of_gt l81) (fun _ hq => nomatch hq) (fun q hq => Nat.lt_trans (l1 q (List.mem_append_left _ hq)) l2) (Nat.lt_trans l81 l2) l2
    rcases List.mem_cons.mp hq with rfl | hq
    · exact .head _
    rcases List.mem_append.mp hq with hq | hq
    · exact .tail _ (.tail _ (List.mem_append_left _ hq))
    rcases List.mem_cons.mp hq with rfl | hq
    · exact .tail _ (.tail _ (List.mem_append_right _ (.head _)))
    · cases List.mem_singleton.mp hq; exact .tail _ (.head _)
  · refine kla_hit (c := 85) (P := 81) (c' := c') F N T C hcd (List.mem_append_right _ (.head _)) (by simp [TriplesOk, rawInt]) (by simp [codeAmong, rawInt, hpl, hpc]) hcl fun f ctv h' tk F' N' l1 => ?_
    refine h f c' oc vs t ctv h' tk F' N' hd hv hne (fun q hq => List.mem_singleton.mp hq) (fun q hq => l1 q (List.mem_append_left _ hq)) (l1 (81, _) (List.mem_append_right _ (.head _))) (l1 (c', oc) (List.mem_append_right _ (.tail _ (.head _))))

/-- a look's answer as a value -/
def ResIs (h h' : Heap) (v : Value) : Option (Nat × Nat) → Prop
  | none => v = .none
  | some (g, m) => ∃ a tg tm, v = .ref a ∧ h.get? a = none ∧ h'.get? a = some { cls := .type "tuple", data := .seq #[.int ((g : Nat) : Int) tg, .int ((m : Nat) : Int) tm] }

def lamQual : PySem.Str := Str.ofString "_law_look" ++ ".<locals>." ++ "<lambda>"

local macro_rules | `(tactic| walk_at "eval Name") => `(tactic| (k_dflt (refine' nameX_C ?N ?c ?m ?d ?_ ?a ?b; (case a => rfl); (case b => rfl); (case N => k_asm); (case c => rfl); (case m => k_mem); (case d => k_asm); k_whole)))

theorem look_spec {w : World} {A : Around} {s : Shared} {h₀ : Heap} {loose : List PySem.Str} {mean : ExcName → Option Value} {mg mb : PySem.Str → Option Value} {rows : List Row} {b : Array UInt8} {t tp : Tok} {place : Nat} {ps : Array Value} {extra : List (Addr × Obj)} :
    (hd.heap_39 w.params).In h₀ → Top topProg loose mean mg mb h₀ → CodeHd h₀ 85 81 → h₀.StaysIn s.heap → (∀ p ∈ (81, tabObj ps) :: extra, s.heap.get? p.1 = some p.2 ∧ h₀.get? p.1 = none) → LamX lamQual ps extra →
    A.depth + 4 < recursionLimit → A.handled = none → KBw.bInts b = encAll rows → (encAll rows).length ≤ 1000000 → rows.Pairwise (fun a b => a.b ≤ b.b) → (∀ r ∈ rows, r.b < 2 ^ 20 ∧ r.s < 2 ^ 20 ∧ r.g < 2 ^ 20 ∧ r.m < 2 ^ 20) →
    codeAny (model Challenge.rw_qu0013_01.row.prog w) A (.call (.ref 86) ⟨[.bytes b t, .int (place : Nat) tp], []⟩) (GivesBut s [81] fun v h' => ∃ res ps' extra', LookIs rows place res ∧ ResIs s.heap h' v res ∧ LamX lamQual ps' extra' ∧ (∀ p ∈ (81, tabObj ps') :: extra', h'.get? p.1 = some p.2) ∧ ∀ p ∈ extra', p ∈ extra ∨ s.heap.get? p.1 = none) s := by
  w_top off
  k_fill
  intro X T C hst hne hx hdep hh hb hsz hrows hbnd
  refine code_hide fun R hPost => ?_
  refine' enterHC (binds := [(Str.ofString "table", .bytes b t), (Str.ofString "place", .int (place : Nat) tp)]) _ X T hst hne ?k6 ?k7 ?k8 ?k9 ?kB ?kD ?_ ?c2 ?c3 ?c4; (case k6 => k_is); (case k7 => k_is); (case k8 => omega); (case k9 => exact BindsTo.of_eq rfl); (case kB => exact rfl); (case kD => decide +kernel); (case c2 => exact rfl); (case c3 => exact rfl); (case c4 => exact rfl)
  intro g h₁ tk cells hsg hkeep X' T' F N Y
  have hY := CellsAre.one Y
  obtain ⟨oc, rfl, hoc⟩ := hY
  clear Y
  replace hoc : oc.data = .cell (some (.bytes b t)) := hoc
  simp only [List.cons_append, List.nil_append] at N
  iterate 16 walk1
  refine KBw.len_K hb (by omega) ?_
  iterate 3 walk1
  refine list_rng hh (by k_asm) (by k_asm) (by assumption) (by omega) ?_
  intro la h2 e2 vs2 tk2 F2 N2 hI2 hla
  iterate 13 walk1
  rename Fr _ _ _ _ => F3
  rename News _ _ _ _ => N3
  have l1 : s.heap.objs.size + 1 < la := hla _ (.head _)
  have l2 : 81 < la := hla _ (.tail _ (.head _))
  have l3 : 81 < s.heap.objs.size := Heap.lt_size (hne _ (.head _)).1
  refine lam_make (qual := lamQual) (pre := [(la, _), (_, _)]) rfl rfl F3 N3 ?_ T' (C.keeps hsg) rfl rfl rfl hx rfl ?_
  · intro q hq
    rcases List.mem_cons.mp hq with rfl | hq
    · exact Nat.ne_of_gt l2
    · cases List.mem_singleton.mp hq; exact Nat.ne_of_gt (Nat.lt_succ_of_lt l3)
  intro f c' oc' vs' t' ctv h3 tk3 F4 N4 hd' hv' hc81 hext lf1 lf2 lf3
  iterate 2 walk1
  have hkey : ∀ (A' : Around) (s' : Shared) (j : Nat) (tj : Tok), A'.depth = A.depth + 2 → A'.handled = none → h3.StaysIn s'.heap → j < (encAll rows).length →
      codeAny (model Challenge.rw_qu0013_01.row.prog w) A' (.call (.ref f) ⟨[.int (j : Nat) tj], []⟩) (Gives s' fun v _ => ∃ t', v = .int (keyAt rows j) t') s' := by
    intro A' s' j tj hA' hh' hs' hj
    obtain ⟨pre, r, post, hrow, hp1, hp2, hkj⟩ := octet_row rows j hj
    have hg' : ∀ b o, g.get? b = some o → s'.heap.get? b = some o := fun b o e => hs' b o (F4.keep b o e)
    have X5 := X'.keeps hg'
    have T5 := T'.keeps hg'
    have hfo := hs' _ _ (N4 _ (.head _)).1
    have hco : s'.heap.CodeRec (.ref c') lamQual := ⟨c', oc', vs', t', rfl, hs' _ _ (N4 (c', oc') (.tail _ (.tail _ (.tail _ (.tail _ (.head _)))))).1, hd', hv'⟩
    have hcell := hs' _ _ (N4 (s.heap.objs.size + 1, oc) (.tail _ (.tail _ (.head _)))).1
    clear F4 N4 F3 N3 X' T' X T
    refine enterLam (binds := [(Str.ofString "octet", .int (j : Nat) tj)]) hfo hco T5.nolimit (by omega) rfl (locs rfl) ?_ rfl rfl rfl (by decide)
    intro h5 F5 N5
    iterate 8 walk1
    refine wpAny_Name (wpAny_loadName_free rfl rfl rfl ⟨oc, F5.keep _ _ hcell, hoc⟩ ?_ (by decide)) (by decide)
    walk1
    refine nameX_L F5 rfl ?_
    walk1
    have hstart := octet_start pre post r j hp1 hp2
    rw [← hrow] at hstart
    refine ⟨X5.keeps F5.keep, ?_⟩
    refine call_con F5 N5 (from_spec (X5.keeps F5.keep) (T5.keeps F5.keep) (by simp only [depth_deeper]; omega) hb hsz hp1 hj hstart.1 hstart.2.1) ?_
    rintro v h6 tk6 F6 N6 st6 ⟨a6, b6, t6, rfl, hn6, ha6, hk6⟩
    have N7 := News.add F5 N6 hn6 ha6
    rw [hstart.2.2] at hk6
    obtain ⟨c, l, he1, he2⟩ := rd_digs r.b 128 (.inr rfl) ((digs r.s 0 ++ (digs r.g 0 ++ digs r.m 0)) ++ encAll post)
    have hk7 : (KBw.bInts b6).drop 0 = c :: l := by rw [List.drop_zero, hk6, ← he1]; simp [Row.enc]
    have hrb := hbnd r (by rw [hrow]; simp)
    walk1
    refine ⟨X5.keeps F6.keep, ?_⟩
    refine call_con1 F6 N7 (.head fun _ hp => nomatch hp) (parse_spec X5 T5 F6.keep (N7 _ (.head _)).2.2 ha6 (by simp only [depth_deeper]; omega) hk7 he2 (by omega)) ?_
    rintro v h7 tk7 F7 N8 st7 ⟨t7, i7, rfl, hi7, _⟩
    exact ⟨_, _, _, rfl, rfl, F7.keep, t7, by rw [hkj]⟩
  refine call_con (kw := [(Str.ofString "key", .ref f)]) F4 N4 (bisect_spec (X'.keeps F4.keep) (T'.keeps F4.keep) (by simp only [depth_deeper]; omega) hh (N4 (la, _) (.tail _ (.head _))).1 hI2 hsz (N4 _ (.head _)).1 (fun A' s' j tj h1 => hkey A' s' j tj (by rw [h1, depth_deeper])) (keyAt_mono rows hrows)) ?_
  rintro v h5 tk5 F5 N5 st5 ⟨rr, t5, rfl, hr1, hr2, hr3⟩
  clear F4 N4 F3 N3 hkey
  have N6 : News g s.heap.objs.size h5 [(s.heap.objs.size + 1, oc), (81, tabObj #[rawInt 121, rawInt 45, .ref c']), (c', oc')] :=
    News.sub N5 fun p hp => .tail _ (.tail _ hp)
  have hgc : g.get? c' = none := (N6 (c', oc') (.tail _ (.tail _ (.head _)))).2.2
  have fin : ∀ (h9 : Heap) (m9 : PySem.Str → Option Value) (v : Value) (res : Option (Nat × Nat)) (tk9 : Nat), Fr g s.heap.objs.size h9 m9 → h9.get? 81 = some (tabObj #[rawInt 121, rawInt 45, .ref c']) → h9.get? c' = some oc' → LookIs rows place res → ResIs s.heap h9 v res →
      R (.ok (.ret v)) { s with heap := h9, toks := tk9 } := by
    intro h9 m9 v res tk9 F9 h81 hc9 hl hr
    refine hPost _ _ ⟨v, h9, tk9, rfl, rfl, fun b o hb e => ?_, res, _, [(c', oc')], hl, hr, .inr ⟨c', oc', vs', t', rfl, rfl, hc81, hd', hv'⟩, fun p hp => ?_, fun p hp => ?_⟩
    · by_cases hbe : b ∈ extra.map (·.1)
      · obtain ⟨q, hq, rfl⟩ := List.mem_map.mp hbe
        have e1 := hext q hq
        have e2 := (hne q (.tail _ hq)).1
        rw [e2] at e
        rw [e1] at e ⊢
        rw [← Option.some.inj e]; exact hc9
      · refine F9.keep b o (hkeep b o (fun q => ?_) e)
        rcases List.mem_cons.mp q with q | q
        · exact hb (List.mem_singleton.mpr q)
        · exact hbe q
    · rcases List.mem_cons.mp hp with rfl | hp
      · exact h81
      · cases List.mem_singleton.mp hp; exact hc9
    · cases List.mem_singleton.mp hp
      by_cases hbe : c' ∈ extra.map (·.1)
      · obtain ⟨q, hq, e⟩ := List.mem_map.mp hbe
        exact .inl (hext q hq ▸ hq)
      · right
        cases q : s.heap.get? c' with
        | none => rfl
        | some o =>
          have := hkeep c' o (fun z => ?_) q
          · rw [hgc] at this; cases this
          · rcases List.mem_cons.mp z with z | z
            · exact hc81 z
            · exact hbe z
  clear N5
  iterate 9 walk1
  by_cases h0 : ((rr : Nat) : Int) = 0
  · rw [if_pos (by simpa using h0)]
    iterate 4 walk1
    rename Fr _ _ _ _ => F7
    rename News _ _ _ _ => N7
    have hr0 : rr = 0 := by omega
    subst hr0
    refine fin _ _ _ none _ F7 (N7 (81, _) (.tail _ (.head _))).1 (N7 (c', oc') (.tail _ (.tail _ (.head _)))).1 (.inl ⟨fun r hr => ?_, rfl⟩) rfl
    obtain ⟨pre, post, hrow⟩ := List.append_of_mem hr
    obtain ⟨k1, k2⟩ := row_octet rows pre post r hrow
    have := hr3 _ (Nat.zero_le _) k2
    rw [k1] at this
    omega
  · rw [if_neg (by simpa using h0)]
    iterate 16 walk1
    have hrr : rr - 1 < (encAll rows).length := by omega
    obtain ⟨pre, r, post, hrow, hp1, hp2, hkj⟩ := octet_row rows (rr - 1) hrr
    have hstart := octet_start pre post r (rr - 1) hp1 hp2
    rw [← hrow] at hstart
    have e1 : ((rr : Nat) : Int) - 1 = ((rr - 1 : Nat) : Int) := by omega
    rw [e1]
    rename Fr _ _ _ _ => F7
    rename News _ _ _ _ => N7
    refine call_con F7 N7 (from_spec (X'.keeps F7.keep) (T'.keeps F7.keep) (by simp only [depth_deeper]; omega) hb hsz hp1 hrr hstart.1 hstart.2.1) ?_
    rintro v h8 tk8 F8 N8 st8 ⟨a6, b6, t6, rfl, hn6, ha6, hk6⟩
    have hdist : ∀ p ∈ [(s.heap.objs.size + 1, oc), (81, tabObj #[rawInt 121, rawInt 45, .ref c']), (c', oc')], p.1 ≠ a6 := fun p hp q => by
      have := (N7 p hp).1
      rw [q, hn6] at this; cases this
    have N9 := News.add F7 N8 hn6 ha6
    have hga : g.get? a6 = none := (N9 _ (.head _)).2.2
    clear F7 N7 N8
    rw [hstart.2.2] at hk6
    have hrb := hbnd r (by rw [hrow]; simp)
    obtain ⟨c1, l1', he1, hf1⟩ := rd_digs r.b 128 (.inr rfl) (digs r.s 0 ++ (digs r.g 0 ++ (digs r.m 0 ++ encAll post)))
    have hk1 : (KBw.bInts b6).drop 0 = c1 :: l1' := by rw [List.drop_zero, hk6, ← he1]; simp [Row.enc]
    obtain ⟨c2, l2', he2, hf2⟩ := rd_digs r.s 0 (.inl rfl) (digs r.g 0 ++ (digs r.m 0 ++ encAll post))
    obtain ⟨c3, l3', he3, hf3⟩ := rd_digs r.g 0 (.inl rfl) (digs r.m 0 ++ encAll post)
    obtain ⟨c4, l4', he4, hf4⟩ := rd_digs r.m 0 (.inl rfl) (encAll post)
    iterate 11 walk1
    rename Fr _ _ _ _ => G1
    rename News _ _ _ _ => M1
    refine call_con1 G1 M1 (.head hdist) (parse_spec X' T' G1.keep hga (M1 _ (.head _)).1 (by simp only [depth_deeper]; omega) hk1 hf1 (by omega)) ?_
    rintro v h11 tk11 F11 N11 st11 ⟨t11, i11, rfl, hi11, hd11⟩
    replace N11 := N11 _ hi11
    clear G1 M1
    rw [he2] at hd11
    iterate 11 walk1
    rename Fr _ _ _ _ => G2
    rename News _ _ _ _ => M2
    refine call_con1 G2 M2 (.head hdist) (parse_spec X' T' G2.keep hga (M2 _ (.head _)).1 (by simp only [depth_deeper]; omega) hd11 hf2 (by omega)) ?_
    rintro v h21 tk21 F21 N21 st21 ⟨t21, i21, rfl, hi21, hd21⟩
    replace N21 := N21 _ hi21
    clear G2 M2
    rw [he3] at hd21
    iterate 11 walk1
    rename Fr _ _ _ _ => G3
    rename News _ _ _ _ => M3
    refine call_con1 G3 M3 (.head hdist) (parse_spec X' T' G3.keep hga (M3 _ (.head _)).1 (by simp only [depth_deeper]; omega) hd21 hf3 (by omega)) ?_
    rintro v h31 tk31 F31 N31 st31 ⟨t31, i31, rfl, hi31, hd31⟩
    replace N31 := N31 _ hi31
    clear G3 M3
    rw [he4] at hd31
    iterate 11 walk1
    rename Fr _ _ _ _ => G4
    rename News _ _ _ _ => M4
    refine call_con1 G4 M4 (.head hdist) (parse_spec X' T' G4.keep hga (M4 _ (.head _)).1 (by simp only [depth_deeper]; omega) hd31 hf4 (by omega)) ?_
    rintro v h41 tk41 F41 N41 st41 ⟨t41, i41, rfl, hi41, hd41⟩
    replace N41 := N41 _ hi41
    clear G4 M4
    have hle : r.b ≤ place := by
      have := hr2 (rr - 1) (by omega)
      rw [hkj] at this
      omega
    have hpost : ∀ r' ∈ post, place < r'.b := fun r' hr' => by
      obtain ⟨p1, p2, hpp⟩ := List.append_of_mem hr'
      obtain ⟨k1, k2⟩ := row_octet rows (pre ++ r :: p1) p2 r' (by rw [hrow, hpp]; simp)
      have k3 : rr ≤ (encAll (pre ++ r :: p1)).length := by rw [encAll_append, encAll_cons, List.length_append, List.length_append]; omega
      have := hr3 _ k3 k2
      rw [k1] at this
      omega
    iterate 12 walk1
    by_cases hpl : ((r.b : Nat) : Int) + ((r.s : Nat) : Int) ≤ ((place : Nat) : Int)
    · rw [if_pos (by simpa using hpl)]
      iterate 4 walk1
      rename Fr _ _ _ _ => G9
      rename News _ _ _ _ => M9
      exact fin _ _ _ none _ G9 (M9 (81, _) (.tail _ (.tail _ (.head _)))).1 (M9 (c', oc') (.tail _ (.tail _ (.tail _ (.head _))))).1 (.inr ⟨pre, r, post, hrow, hle, hpost, (if_pos (by omega)).symm⟩) rfl
    · rw [if_neg (by simpa using hpl)]
      iterate 10 walk1
      rename Fr _ _ _ _ => G9
      rename News _ _ _ _ => M9
      refine newTuple_N G9 M9 ?_ (by show 2 ≤ sizeLine; decide)
      intro h12 G10 M10
      refine fin _ _ _ (some (r.g, r.m)) _ G10 (M10 (81, _) (.tail _ (.tail _ (.tail _ (.head _))))).1 (M10 (c', oc') (.tail _ (.tail _ (.tail _ (.tail _ (.head _)))))).1 (.inr ⟨pre, r, post, hrow, hle, hpost, (if_neg (by omega)).symm⟩) ⟨_, t31, t41, rfl, ?_, (M10 _ (.head _)).1⟩
      exact Heap.get?_none_of_le (Nat.le_of_lt G9.ns.lt)
end Mine
end

section
namespace Mine
local macro_rules | `(tactic| walk_at "eval Name") => `(tactic| (k_dflt (refine ld (by with_reducible assumption) (by assumption) ?_)))
local macro_rules | `(tactic| walk_at "loadName") => `(tactic| (k_dflt (refine ldn (by with_reducible assumption) (by assumption) ?_)))
local macro_rules | `(tactic| walk_at "call builtin:len") => `(tactic| (k_dflt (refine' len_base ?F ?L ?I ?z ?_; (case F => with_reducible assumption); (case L => assumption); (case I => assumption); (case z => omega))))

theorem drawn_spec {w : World} {A : Around} {s : Shared} {loose : List PySem.Str} {mean : ExcName → Option Value} {mg mb : PySem.Str → Option Value} {sc bl : Addr} {vsc vb : List Value} {ns bs : List Int} {e : Nat} :
    (hd.heap_39 w.params).In s.heap → Top topProg loose mean mg mb s.heap → A.depth + 1 < recursionLimit → A.handled = none →
    s.heap.IsList sc vsc.toArray → IntsAre vsc ns → ns.length ≤ 63 → s.heap.get? bl = some (listOf vb.toArray e) → IntsAre vb bs → bs.length = 5 → (∀ y ∈ bs, 0 ≤ y ∧ y ≤ 10000) →
    codeAny (model Challenge.rw_qu0013_01.row.prog w) A (.call (.ref 51) ⟨[.ref sc, .ref bl], []⟩) (Gives s fun v h' => ∃ a e' vs ys, v = .ref a ∧ s.heap.get? a = none ∧ h'.get? a = some (listOf (List.toArray vs) e') ∧ IntsAre vs ys ∧ ys.length = 5 ∧ ∀ y ∈ ys, 0 ≤ y ∧ y ≤ 100000000) s := by
  w_top off
  k_fill
  intro X T hdep hh hsc hI hn hbl hB hb5 hbb
  refine code_hide fun RR hPost => ?_
  refine' enter (binds := [(Str.ofString "script", .ref sc), (Str.ofString "base", .ref bl)]) X T ?k6 ?k7 ?k8 ?k9 ?kB ?_ ?c2 ?c3 ?c4 ?c5; (case k6 => k_is); (case k7 => k_is); (case k8 => omega); (case k9 => exact BindsTo.of_eq rfl); (case c5 => decide); (case kB => exact locs rfl); (case c2 => exact rfl); (case c3 => exact rfl); (case c4 => exact rfl)
  intro h₁ F N
  have hL : s.heap.IsList bl vb.toArray := ⟨_, hbl, rfl, e, rfl⟩
  iterate 9 walk1
  rename_i D cD hD FD ND lD
  iterate 3 walk1
  refine For_invV s.heap (by rfl) (by rfl) ?_
  iterate 18 walk1
  refine min_two_N hh (by k_asm) (by k_asm) ?_
  intro h2 tk2 F2 N2
  obtain ⟨n0, hn0, hn1, hn2⟩ : ∃ n0 : Nat, (if (60 : Int) < (ns.length : Int) then (60 : Int) else (ns.length : Int)) = (n0 : Int) ∧ n0 ≤ 60 ∧ n0 ≤ ns.length := by
    by_cases h : (60 : Int) < (ns.length : Int)
    · exact ⟨60, by rw [if_pos h]; rfl, by omega, by omega⟩
    · exact ⟨ns.length, by rw [if_neg h], by omega, by omega⟩
  rw [hn0]
  iterate 2 walk1
  rename Fr _ _ _ _ => F3
  rename News _ _ _ _ => N3
  rename IsRange _ _ _ _ _ _ _ _ => R3
  obtain ⟨J, hJ⟩ := hide3 (fun (i : Nat) (m : PySem.Str → Option Value) (news : List (Addr × Obj)) => ∃ vs ys e, m (Str.ofString "script") = some (.ref sc) ∧ m (Str.ofString "base") = some (.ref bl) ∧ m (Str.ofString "drawn") = some (.ref D) ∧ news = [(D, listOf (List.toArray vs) e)] ∧ IntsAre vs ys ∧ ys.length = 5 ∧ ∀ y ∈ ys, 0 ≤ y ∧ y ≤ 10000 + 1000000 * (i : Int))
  refine iter_rng (n := n0) J
    hh R3 (small_nat n0 (by omega)) (size_nat n0) F3 N3 ((hJ _ _ _).mpr ⟨vb, bs, _, rfl, rfl, rfl, rfl, hB, hb5, fun y hy => by have := hbb y hy; omega⟩) ?_ ?_
  · clear F3 N3 R3
    intro i t m news h tk I o hi hj hIne F N
    obtain ⟨vs, ys, e', hm1, hm2, hm3, rfl, hI3, hy5, hyb⟩ := (hJ _ _ _).mp hj
    clear hj
    rw [Int.zero_add] at F
    iterate 20 walk1
    have hil : i < ns.length := by omega
    refine item_at (hsc.at fun o e => F.keep _ _ e) hI (x := ns[i]) (by simp [hil]) (by omega) ?_
    intro t4
    iterate 14 walk1
    have hID : I ≠ D := fun q => hIne _ (.head _) q.symm
    have e5 : ((i : Nat) : Int).fmod ((bs.length : Nat) : Int) = ((i % 5 : Nat) : Int) := by rw [hb5, Int.fmod_eq_emod_of_nonneg _ (by decide)]; omega
    rw [e5]
    refine ksa_set F N (.tail hID (.head fun _ h => nomatch h)) hI3 (by omega) (by omega) (by omega) ?_
    intro h6 F6 N6 hI6 hl6 _
    rw [Int.toNat_natCast] at N6 hI6 hl6
    have hg : ys.getD (i % 5) 0 ∈ ys := by
      rw [List.getD_eq_getElem?_getD, List.getElem?_eq_getElem (by omega)]; exact List.getElem_mem _
    have hgb := hyb _ hg
    have hm0 : 0 ≤ ns[i].fmod 1000000 ∧ ns[i].fmod 1000000 < 1000000 := by
      rw [Int.fmod_eq_emod_of_nonneg _ (by decide)]
      exact ⟨Int.emod_nonneg _ (by decide), Int.emod_lt_of_pos _ (by decide)⟩
    iterate 1 walk1
    refine ⟨rfl, _, _, _, _, rfl, F6, N6, fun p hp => ?_, (hJ _ _ _).mpr ⟨_, _, e', hm1, hm2, hm3, rfl, hI6, by omega, fun y hy => ?_⟩⟩
    · cases List.mem_singleton.mp hp; exact Ne.symm hID
    · rcases List.mem_or_eq_of_mem_set hy with hy | rfl
      · have := hyb y hy; omega
      · omega
  · intro m news h tk hj F N
    obtain ⟨vs, ys, e', hm1, hm2, hm3, rfl, hI3, hy5, hyb⟩ := (hJ _ _ _).mp hj
    clear hj hJ J F3 N3 R3
    iterate 3 walk1
    exact hPost _ _ ⟨_, _, _, rfl, rfl, F.keep, D, e', vs, ys, rfl, (N _ (.head _)).2.2, (N _ (.head _)).1, hI3, hy5, fun y hy => by have := hyb y hy; omega⟩
end Mine
end

section
namespace Mine
local macro_rules | `(tactic| walk_at "eval Name") => `(tactic| (k_dflt (refine ld (by with_reducible assumption) (by assumption) ?_)))
local macro_rules | `(tactic| walk_at "loadName") => `(tactic| (k_dflt (refine ldn (by with_reducible assumption) (by assumption) ?_)))

/-- the program's lists: which block lies around each piece and each handler -/
structure ProgOk (n : Nat) (inner sizes parents kinds : List Int) : Prop where
  li : inner.length = n
  ls : sizes.length = n
  lk : kinds.length = parents.length
  lp : parents.length ≤ n
  bi : ∀ x ∈ inner, -1 ≤ x ∧ x < parents.length
  bs : ∀ x ∈ sizes, 1 ≤ x ∧ x ≤ 5000
  bp : ∀ (j : Nat) (x : Int), parents[j]? = some x → -1 ≤ x ∧ x < j
  bk : ∀ x ∈ kinds, 0 ≤ x ∧ x < 5
theorem progOk_nil : ProgOk 0 [] [] [] [] := ⟨rfl, rfl, rfl, Nat.le_refl _, by simp, by simp, by simp, by simp⟩
theorem ProgOk.step {n : Nat} {inner sizes parents kinds : List Int} {x z : Int} (h : ProgOk n inner sizes parents kinds) (hx : -1 ≤ x ∧ x < parents.length) (hz : 1 ≤ z ∧ z ≤ 5000) : ProgOk (n + 1) (inner ++ [x]) (sizes ++ [z]) parents kinds :=
  ⟨by simp [h.li], by simp [h.ls], h.lk, Nat.le_succ_of_le h.lp, fun a ha => (List.mem_append.mp ha).elim (h.bi a) fun q => by rw [List.mem_singleton.mp q]; exact hx,
    fun a ha => (List.mem_append.mp ha).elim (h.bs a) fun q => by rw [List.mem_singleton.mp q]; exact hz, h.bp, h.bk⟩
theorem ProgOk.block {n : Nat} {inner sizes parents kinds : List Int} {x k : Int} (h : ProgOk n inner sizes parents kinds) (hp : parents.length < n) (hx : -1 ≤ x ∧ x < parents.length) (hk : 0 ≤ k ∧ k < 5) : ProgOk n inner sizes (parents ++ [x]) (kinds ++ [k]) :=
  ⟨h.li, h.ls, by simp [h.lk], by simp; omega, fun a ha => by have := h.bi a ha; simp; omega, h.bs, fun j a ha => by
    rcases Nat.lt_or_ge j parents.length with hj | hj
    · rw [List.getElem?_append_left hj] at ha; exact h.bp j a ha
    · rw [List.getElem?_append_right hj] at ha
      have h0 : j - parents.length = 0 := by
        cases e : j - parents.length with
        | zero => rfl
        | succ q => rw [e] at ha; simp at ha
      rw [h0] at ha
      have : x = a := by simpa using ha
      omega, fun a ha => (List.mem_append.mp ha).elim (h.bk a) fun q => by rw [List.mem_singleton.mp q]; exact hk⟩

theorem program_spec {w : World} {A : Around} {s : Shared} {loose : List PySem.Str} {mean : ExcName → Option Value} {mg mb : PySem.Str → Option Value} {nl : Addr} {vn : List Value} {ns : List Int} {en : Nat} :
    (hd.heap_39 w.params).In s.heap → Top topProg loose mean mg mb s.heap → A.depth + 1 < recursionLimit → A.handled = none → A.units + 100 < cLine →
    s.heap.get? nl = some (listOf vn.toArray en) → IntsAre vn ns → ns.length = 5 → (∀ y ∈ ns, 0 ≤ y ∧ y ≤ 100000000) →
    codeAny (model Challenge.rw_qu0013_01.row.prog w) A (.call (.ref 58) ⟨[.ref nl], []⟩) (Gives s fun v h' => ∃ a aI aS aP aK vI vS vP vK eI eS eP eK inner sizes parents kinds, v = .ref a ∧ s.heap.get? a = none ∧ h'.get? a = some { cls := .type "tuple", data := .seq #[.ref aI, .ref aS, .ref aP, .ref aK] } ∧
      (∀ p ∈ [(aI, listOf (List.toArray vI) eI), (aS, listOf (List.toArray vS) eS), (aP, listOf (List.toArray vP) eP), (aK, listOf (List.toArray vK) eK)], s.heap.get? p.1 = none ∧ h'.get? p.1 = some p.2) ∧ IntsAre vI inner ∧ IntsAre vS sizes ∧ IntsAre vP parents ∧ IntsAre vK kinds ∧ ProgOk 5 inner sizes parents kinds) s := by
  w_top off
  k_fill
  intro X T hdep hh hun hnl hI hn5 hnb
  refine code_hide fun R hR => ?_
  refine' enter (binds := [(Str.ofString "numbers", .ref nl)]) X T ?k6 ?k7 ?k8 ?k9 ?kB ?_ ?c2 ?c3 ?c4 ?c5; (case k6 => k_is); (case k7 => k_is); (case k8 => omega); (case k9 => exact BindsTo.of_eq rfl); (case c5 => decide); (case kB => exact locs rfl); (case c2 => exact rfl); (case c3 => exact rfl); (case c4 => exact rfl)
  intro h₁ F N
  have hL : s.heap.IsList nl vn.toArray := ⟨_, hnl, rfl, en, rfl⟩
  iterate 5 walk1
  rename_i aA hA FA NA lA
  iterate 7 walk1
  rename_i aI hI1 FI NI lI
  iterate 7 walk1
  rename_i aS hS FS NS lS
  iterate 7 walk1
  rename_i aP hP FP NP lP
  iterate 6 walk1
  rename_i aK hK FK NK lK
  iterate 3 walk1
  rename Fr _ _ _ _ => F1
  rename News _ _ _ _ => N1
  refine For_invV s.heap (by rfl) (by rfl) ?_
  iterate 1 walk1
  obtain ⟨J, hJ⟩ := hide3 (fun (i : Nat) (m : PySem.Str → Option Value) (news : List (Addr × Obj)) => ∃ vA vI vS vP vK eA eI eS eP eK arnd inner sizes parents kinds,
      m (Str.ofString "around") = some (.ref aA) ∧ m (Str.ofString "inner") = some (.ref aI) ∧ m (Str.ofString "sizes") = some (.ref aS) ∧ m (Str.ofString "parents") = some (.ref aP) ∧ m (Str.ofString "kinds") = some (.ref aK) ∧
      news = [(aK, listOf (List.toArray vK) eK), (aP, listOf (List.toArray vP) eP), (aS, listOf (List.toArray vS) eS), (aI, listOf (List.toArray vI) eI), (aA, listOf (List.toArray vA) eA)] ∧
      IntsAre vA arnd ∧ IntsAre vI inner ∧ IntsAre vS sizes ∧ IntsAre vP parents ∧ IntsAre vK kinds ∧ i ≤ 5 ∧ ProgOk i inner sizes parents kinds ∧ arnd.length ≤ i ∧ ∀ x ∈ arnd, 0 ≤ x ∧ x < parents.length)
  refine iter_lst (ol := listOf vn.toArray en) J
    hh (hL.at fun o e => F1.keep _ _ e) (F1.keep _ _ hnl) (.inl hnl) F1 N1 ((hJ _ _ _).mpr ⟨[], [], [], [], [], _, _, _, _, _, [], [], [], [], [], rfl, rfl, rfl, rfl, rfl, rfl, .nil, .nil, .nil, .nil, .nil, by omega,
      progOk_nil, Nat.le_refl _, by simp⟩) ?_ ?_
  · clear F1 N1
    rintro i v m news h tk I o hv hj hIne F N
    obtain ⟨vA, vI, vS, vP, vK, eA, eI, eS, eP, eK, arnd, inner, sizes, parents, kinds, hm1, hm2, hm3, hm4, hm5, rfl, iA, iI, iS, iP, iK, hi5, hP, hal, har⟩ := (hJ _ _ _).mp hj
    clear hj
    obtain ⟨y, ty, rfl, hy⟩ := hI.at i v hv
    have hyb := hnb y (List.mem_of_getElem? hy)
    have hi4 : i < 5 := by have := (List.getElem?_eq_some_iff.mp hy).1; omega
    have nK : @Ne Nat aK I := hIne (aK, _) (.head _)
    have nP : @Ne Nat aP I := hIne (aP, _) (.tail _ (.head _))
    have nS : @Ne Nat aS I := hIne (aS, _) (.tail _ (.tail _ (.head _)))
    have nI : @Ne Nat aI I := hIne (aI, _) (.tail _ (.tail _ (.tail _ (.head _))))
    have nA : @Ne Nat aA I := hIne (aA, _) (.tail _ (.tail _ (.tail _ (.tail _ (.head _)))))
    have hIne' : ∀ (l : List (Addr × Obj)), l.map (·.1) = [aK, aP, aS, aI, aA] → ∀ p ∈ l, p.1 ≠ I := fun l e p hp => by
      have : p.1 ∈ [aK, aP, aS, aI, aA] := e ▸ List.mem_map_of_mem hp
      simp only [List.mem_cons, List.not_mem_nil, or_false] at this
      rcases this with q | q | q | q | q <;> rw [q] <;> assumption
    refine wpAny_execs_cons ?_
    obtain ⟨Q1, hQ1⟩ := hide2 (fun (f : Flow) (s' : Shared) => f = .next ∧ ∃ h' tk' vA' eA' arnd', s' = { s with heap := h', toks := tk' } ∧ Fr s.heap s.heap.objs.size h' (fun y_1 => if y_1 = Str.ofString "y" then some (Value.int y ty) else m y_1) ∧
        News s.heap s.heap.objs.size h' [(I, o), (aK, listOf vK.toArray eK), (aP, listOf vP.toArray eP), (aS, listOf vS.toArray eS), (aI, listOf vI.toArray eI), (aA, listOf (List.toArray vA') eA')] ∧ IntsAre vA' arnd' ∧ arnd'.length ≤ i ∧ ∀ x ∈ arnd', 0 ≤ x ∧ x < parents.length)
    refine wpAny_mono (Q := Q1) ?_ ?_ (fun _ _ x => x)
    · iterate 10 walk1
      by_cases hy1 : y.fmod 4 = 1
      · rw [if_pos (by simpa using hy1)]
        iterate 6 walk1
        rename Fr _ _ _ _ => F2
        rename News _ _ _ _ => N2
        refine ke_ne_ints (News.isList N2 (.tail _ (.tail _ (.tail _ (.tail _ (.tail _ (.tail _ (.head _)))))))) (News.isList N2 (.head _)) (ys := []) iA .nil (by simp only [Around.deeper_units]; omega) ?_
        iterate 1 walk1
        by_cases hnil : arnd = []
        · rw [if_neg (by simp [hnil])]
          iterate 3 walk1
          exact (hQ1 _ _).mpr ⟨rfl, _, _, vA, eA, arnd, rfl, F2, News.sub N2 (fun p hp => .tail _ hp), iA, hal, har⟩
        · rw [if_pos (by simp [hnil])]
          iterate 9 walk1
          have hpos : 0 < vA.length := by
            rw [iA.length]; cases arnd with
            | nil => exact absurd rfl hnil
            | cons a r => simp
          have N3 : News s.heap s.heap.objs.size _ [(I, o), (aK, listOf vK.toArray eK), (aP, listOf vP.toArray eP), (aS, listOf vS.toArray eS), (aI, listOf vI.toArray eI), (aA, listOf vA.toArray eA)] := News.sub N2 (fun p hp => .tail _ hp)
          refine kpa_pop F2 N3 (by k_upd) iA hpos ?_ ?_
          · rw [sizeLine_eq, iA.length]; omega
          · intro h4 t4 F4 N4 iA4
            iterate 1 walk1
            exact (hQ1 _ _).mpr ⟨rfl, _, _, _, _, _, rfl, F4, N4, iA4, by simp; omega, fun x hx => har x (List.dropLast_subset _ hx)⟩
      · rw [if_neg (by simpa using hy1)]
        iterate 3 walk1
        exact (hQ1 _ _).mpr ⟨rfl, _, _, vA, eA, arnd, rfl, F, N, iA, hal, har⟩
    · intro f s' hq
      obtain ⟨rfl, h5, tk5, vA', eA', arnd', rfl, F5, N5, iA', hal', har'⟩ := (hQ1 _ _).mp hq
      clear F N hq hQ1 Q1
      iterate 7 walk1
      obtain ⟨Q2, hQ2⟩ := hide2 (fun (v : Value) (s' : Shared) => ∃ h' tk' x0 t0, v = Value.int x0 t0 ∧ s' = { s with heap := h', toks := tk' } ∧ Fr s.heap s.heap.objs.size h' (fun y_1 => if y_1 = Str.ofString "y" then some (Value.int y ty) else m y_1) ∧
        News s.heap s.heap.objs.size h' [(I, o), (aK, listOf vK.toArray eK), (aP, listOf vP.toArray eP), (aS, listOf vS.toArray eS), (aI, listOf vI.toArray eI), (aA, listOf vA'.toArray eA')] ∧ -1 ≤ x0 ∧ x0 < parents.length)
      refine wpAny_mono (Q := Q2) ?_ ?_ (fun _ _ x => x)
      · iterate 6 walk1
        rename Fr _ _ _ _ => F2
        rename News _ _ _ _ => N2
        refine ke_ne_ints (News.isList N2 (.tail _ (.tail _ (.tail _ (.tail _ (.tail _ (.tail _ (.head _)))))))) (News.isList N2 (.head _)) (ys := []) iA' .nil (by simp only [Around.deeper_units]; omega) ?_
        have N3 : News s.heap s.heap.objs.size _ [(I, o), (aK, listOf vK.toArray eK), (aP, listOf vP.toArray eP), (aS, listOf vS.toArray eS), (aI, listOf vI.toArray eI), (aA, listOf vA'.toArray eA')] := News.sub N2 (fun p hp => .tail _ hp)
        clear N2
        iterate 1 walk1
        by_cases hnil : arnd' = []
        · rw [if_neg (by simp [hnil])]
          iterate 3 walk1
          exact (hQ2 _ _).mpr ⟨_, _, -1, _, rfl, rfl, F2, N3, by omega, by omega⟩
        · rw [if_pos (by simp [hnil])]
          have hpos : 0 < vA'.length := by
            rw [iA'.length]; cases arnd' with
            | nil => exact absurd rfl hnil
            | cons a r => simp
          obtain ⟨y0, t0, k1, k2, k3⟩ := kpa_ints iA' hpos
          have hlast : arnd'.getLastD 0 ∈ arnd' := by
            cases arnd' with
            | nil => exact absurd rfl hnil
            | cons a r => rw [List.getLastD_cons]; exact List.getLastD_mem_cons ..
          have hb0 := har' _ hlast
          iterate 5 walk1
          refine item_last (vi := vA'.dropLast) (v := y0) (by rw [← k1]; exact News.isList N3 (.tail _ (.tail _ (.tail _ (.tail _ (.tail _ (.head _))))))) ?_
          subst k2
          exact (hQ2 _ _).mpr ⟨_, _, _, t0, rfl, rfl, F2, N3, by omega, by omega⟩
      · intro v s' hq
        obtain ⟨h6, tk6, x0, t0, rfl, rfl, F6, N6, hx0, hx1⟩ := (hQ2 _ _).mp hq
        clear F5 N5 hq hQ2 Q2
        iterate 1 walk1
        refine app_at F6 N6 (by k_upd) (by rw [iI.length, hP.li]; omega) ?_
        intro h7 F7 N7
        iterate 19 walk1
        refine app_at F7 N7 (by k_upd) (by rw [iS.length, hP.ls]; omega) ?_
        intro h8 F8 N8
        clear F6 N6 F7 N7
        have hsz : 1 ≤ 1 + (y.fdiv 80).fmod 5000 ∧ 1 + (y.fdiv 80).fmod 5000 ≤ 5000 := by
          have h1 : 0 ≤ (y.fdiv 80).fmod 5000 := Int.fmod_nonneg_of_pos _ (by decide)
          have h2 : (y.fdiv 80).fmod 5000 < 5000 := Int.fmod_lt_of_pos _ (by decide)
          omega
        have iI2 := IntsAre.snoc iI x0 t0
        have hP2 := hP.step ⟨hx0, hx1⟩ hsz
        have hpl : parents.length ≤ i := hP.lp
        iterate 10 walk1
        by_cases hy0 : y.fmod 4 = 0
        · rw [if_pos (by simpa using hy0)]
          iterate 13 walk1
          refine item_last (vi := vI) (News.isList N8 (.tail _ (.tail _ (.tail _ (.tail _ (.head _)))))) ?_
          iterate 1 walk1
          refine app_at F8 N8 (by k_upd) (by rw [iP.length]; omega) ?_
          intro h9 F9 N9
          clear F8 N8
          iterate 16 walk1
          refine app_at F9 N9 (by k_upd) (by rw [iK.length, hP.lk]; omega) ?_
          intro h10 F10 N10
          clear F9 N9
          iterate 15 walk1
          refine len_at (vs := vP ++ [Value.int x0 t0]) (News.isList N10 (.tail _ (.tail _ (.head _)))) (n := parents.length + 1) (by simp [iP.length]) (by omega) ?_
          iterate 3 walk1
          refine app_at F10 N10 (by k_upd) (by rw [iA'.length]; omega) ?_
          intro h11 F11 N11
          clear F10 N10
          have hk5 : 0 ≤ (y.fdiv 4).fmod 5 ∧ (y.fdiv 4).fmod 5 < 5 := ⟨Int.fmod_nonneg_of_pos _ (by decide), Int.fmod_lt_of_pos _ (by decide)⟩
          have hP3 := hP2.block (x := x0) (k := (y.fdiv 4).fmod 5) (by omega) ⟨hx0, hx1⟩ hk5
          iterate 2 walk1
          exact ⟨rfl, _, _, _, _, rfl, F11, N11, hIne' _ rfl, (hJ _ _ _).mpr ⟨_, _, _, _, _, _, _, _, _, _, _, _, _, _, _, hm1, hm2, hm3, hm4, hm5, rfl, IntsAre.snoc iA' _ _, iI2, IntsAre.snoc iS _ _, IntsAre.snoc iP _ _, IntsAre.snoc iK _ _, by omega, hP3, by simp; omega, fun x hx => by
            rcases List.mem_append.mp hx with hx | hx
            · have := har' x hx; simp; omega
            · rw [List.mem_singleton.mp hx]; simp; omega⟩⟩
        · rw [if_neg (by simpa using hy0)]
          iterate 3 walk1
          exact ⟨rfl, _, _, _, _, rfl, F8, N8, hIne' _ rfl, (hJ _ _ _).mpr ⟨_, _, _, _, _, _, _, _, _, _, _, _, _, _, _, hm1, hm2, hm3, hm4, hm5, rfl, iA', iI2, IntsAre.snoc iS _ _, iP, iK, by omega, hP2, by omega, har'⟩⟩
  · intro m news h tk hj F N
    obtain ⟨vA, vI, vS, vP, vK, eA, eI, eS, eP, eK, arnd, inner, sizes, parents, kinds, hm1, hm2, hm3, hm4, hm5, rfl, iA, iI, iS, iP, iK, hi5, hP, hal, har⟩ := (hJ _ _ _).mp hj
    clear hj F1 N1 hJ J
    iterate 12 walk1
    refine newTuple_N F N ?_ (by show 4 ≤ sizeLine; decide)
    intro h2 F2 N2
    refine hR _ _ ⟨_, _, _, rfl, rfl, F2.keep, _, aI, aS, aP, aK, vI, vS, vP, vK, eI, eS, eP, eK, inner, sizes, parents, kinds, rfl, (N2 _ (.head _)).2.2, (N2 _ (.head _)).1, fun p hp => ?_, iI, iS, iP, iK, ?_⟩
    · simp only [List.mem_cons, List.not_mem_nil, or_false] at hp
      rcases hp with rfl | rfl | rfl | rfl
      · exact ⟨(N2 _ (.tail _ (.tail _ (.tail _ (.tail _ (.head _)))))).2.2, (N2 _ (.tail _ (.tail _ (.tail _ (.tail _ (.head _)))))).1⟩
      · exact ⟨(N2 _ (.tail _ (.tail _ (.tail _ (.head _))))).2.2, (N2 _ (.tail _ (.tail _ (.tail _ (.head _))))).1⟩
      · exact ⟨(N2 _ (.tail _ (.tail _ (.head _)))).2.2, (N2 _ (.tail _ (.tail _ (.head _)))).1⟩
      · exact ⟨(N2 _ (.tail _ (.head _))).2.2, (N2 _ (.tail _ (.head _))).1⟩
    · rw [hI.length, hn5] at hP; exact hP
end Mine
end

section
namespace Mine
local macro_rules | `(tactic| walk_at "eval Name") => `(tactic| (k_dflt (refine ld (by with_reducible assumption) (by assumption) ?_)))
local macro_rules | `(tactic| walk_at "loadName") => `(tactic| (k_dflt (refine ldn (by with_reducible assumption) (by assumption) ?_)))
local macro_rules | `(tactic| walk_at "call builtin:len") => `(tactic| (k_dflt (refine' len_base ?F ?L ?I ?z ?_; (case F => with_reducible assumption); (case L => assumption); (case I => assumption); (case z => omega))))

/-- one turn of the rows' loop; the rows stand backwards, the newest first -/
def rstep (B S G M : List Nat) (I : List Int) (k : Nat) (rr : List Row) : List Row :=
  if 0 ≤ I.getD k (-1) ∧ 0 < k ∧ I.getD (k - 1) (-1) = I.getD k (-1) then
    (match rr with
    | [] => []
    | r :: t => { r with s := r.s + S.getD k 0 } :: t)
  else if 0 ≤ I.getD k (-1) then ⟨B.getD k 0, S.getD k 0, G.getD (I.getD k (-1)).toNat 0, M.getD (I.getD k (-1)).toNat 0⟩ :: rr
  else rr
def rowsTo (B S G M : List Nat) (I : List Int) : Nat → List Row
  | 0 => []
  | k + 1 => rstep B S G M I k (rowsTo B S G M I k)
theorem rowsTo_ne (B S G M : List Nat) (I : List Int) (k : Nat) (h : 0 ≤ I.getD k (-1)) : rowsTo B S G M I (k + 1) ≠ [] := by
  induction k with
  | zero =>
    unfold rowsTo rstep
    rw [if_neg (fun c => absurd c.2.1 (Nat.lt_irrefl 0)), if_pos h]
    simp
  | succ k ih =>
    unfold rowsTo rstep
    split
    · rename_i c
      have h1 : k + 1 - 1 = k := rfl
      rw [h1] at c
      have := ih (by rw [c.2.2]; exact h)
      split
      · rename_i e; exact absurd e this
      · simp
    · simp

/-- a row as the heap bears it -/
abbrev rowObj (r : Row) (t1 t2 t3 t4 : Tok) (e : Nat) : Obj := listOf (List.toArray [Value.int (r.b : Nat) t1, .int (r.s : Nat) t2, .int (r.g : Nat) t3, .int (r.m : Nat) t4]) e
inductive RowsAre : List (Addr × Obj) → List Row → Prop
  | nil : RowsAre [] []
  | cons {a : Addr} {r : Row} {t1 t2 t3 t4 : Tok} {e : Nat} {led : List (Addr × Obj)} {rs : List Row} : (∀ p ∈ led, p.1 < a) → RowsAre led rs → RowsAre ((a, rowObj r t1 t2 t3 t4 e) :: led) (r :: rs)
def refsOf (led : List (Addr × Obj)) : List Value := (led.map fun p => Value.ref p.1).reverse

theorem ext_at {prog : Program} {w : World} {A : Around} {E : Value → Shared → Prop} {s : Shared} {Q : Value → Shared → Prop} {h₀ : Heap} {L D b : Addr} {m : PySem.Str → Option Value} {news news' : List (Addr × Obj)} {vs ws : List Value} {n n2 : Nat}
    (F : Fr h₀ L s.heap m) (N : News h₀ L s.heap news) (hb : (b, listOf ws.toArray n2) ∈ news) (U : Upd D (listOf vs.toArray n) (listOf (vs ++ ws).toArray (n + 1)) news news') (hne : 0 < ws.length) (hz : vs.length + ws.length ≤ 1000000)
    (h : ∀ h', Fr h₀ L h' m → News h₀ L h' news' → Q .none { s with heap := h' }) : wpAny (model prog w) A (call (.builtin "list.extend") [.ref D, .ref b]) Q E s := by
  refine kl_extend F N hb (l := vs ++ ws) (by simp) (by rw [List.toList_toArray]; omega) U ?_ (by rw [sizeLine_eq]; simp; omega) (by rw [sizeLine_eq]; simp; omega) h
  simp [Builtin.List.listTooLong, sizeLine_eq]
  omega

theorem hi_lenk : ∀ (k n : Nat), n < 64 ^ (k + 1) → (hi n).length ≤ k
  | 0, n, h => by rw [hi, if_pos (by omega)]; exact Nat.le_refl _
  | k + 1, n, h => by
    by_cases h64 : n < 64
    · rw [hi, if_pos h64]; exact Nat.zero_le _
    · rw [hi, if_neg h64, List.length_append]
      have := hi_lenk k (n / 64) (by rw [Nat.pow_succ] at h; omega)
      simp only [List.length_cons, List.length_nil]
      omega
theorem digs_len4 (n : Nat) (mk : Int) (h : n < 2 ^ 20) : (digs n mk).length ≤ 4 := by
  have := hi_lenk 3 n (by omega)
  rw [digs_length]; omega
theorem enc_len {r : Row} (h : r.b < 2 ^ 20 ∧ r.s < 2 ^ 20 ∧ r.g < 2 ^ 20 ∧ r.m < 2 ^ 20) : r.enc.length ≤ 16 := by
  have e1 := digs_len4 r.b 128 h.1
  have e2 := digs_len4 r.s 0 h.2.1
  have e3 := digs_len4 r.g 0 h.2.2.1
  have e4 := digs_len4 r.m 0 h.2.2.2
  unfold Row.enc
  simp only [List.length_append]
  omega
theorem encAll_len : ∀ (rows : List Row), (∀ r ∈ rows, r.b < 2 ^ 20 ∧ r.s < 2 ^ 20 ∧ r.g < 2 ^ 20 ∧ r.m < 2 ^ 20) → (encAll rows).length ≤ 16 * rows.length
  | [], _ => Nat.zero_le _
  | r :: rs, h => by
    rw [encAll_cons, List.length_append, List.length_cons]
    have := encAll_len rs fun r' hr' => h r' (.tail _ hr')
    have := enc_len (h r (.head _))
    omega

/-- the digits of a row's further numbers -/
def encT (r : Row) (j : Nat) : List Int := (([digs r.s 0, digs r.g 0, digs r.m 0] : List (List Int)).take j).flatten
theorem encT_step {r : Row} (h : r.b < 2 ^ 20 ∧ r.s < 2 ^ 20 ∧ r.g < 2 ^ 20 ∧ r.m < 2 ^ 20) {j : Nat} {n : Int} (hj : ([((r.s : Nat) : Int), ((r.g : Nat) : Int), ((r.m : Nat) : Int)] : List Int)[j]? = some n) :
    ∃ q : Nat, n = (q : Int) ∧ q < 2 ^ 20 ∧ encT r (j + 1) = encT r j ++ digs q 0 ∧ (encT r j).length ≤ 8 := by
  have e2 := digs_len4 r.s 0 h.2.1
  have e3 := digs_len4 r.g 0 h.2.2.1
  match j, hj with
  | 0, hj => exact ⟨r.s, (Option.some.inj hj).symm, h.2.1, by simp [encT], by simp [encT]⟩
  | 1, hj => exact ⟨r.g, (Option.some.inj hj).symm, h.2.2.1, by simp [encT], by simp [encT]; omega⟩
  | 2, hj => exact ⟨r.m, (Option.some.inj hj).symm, h.2.2.2, by simp [encT], by simp [encT]; omega⟩

theorem RowsAre.get {led : List (Addr × Obj)} {rs : List Row} (h : RowsAre led rs) : led.length = rs.length ∧ ∀ (j : Nat) (p : Addr × Obj), led[j]? = some p → ∃ r t1 t2 t3 t4 e, p.2 = rowObj r t1 t2 t3 t4 e ∧ rs[j]? = some r := by
  induction h with
  | nil => exact ⟨rfl, fun j p hp => by simp at hp⟩
  | @cons a r t1 t2 t3 t4 e led rs hlt _ ih =>
    refine ⟨by simp [ih.1], fun j p hp => ?_⟩
    cases j with
    | zero => exact ⟨r, t1, t2, t3, t4, e, by simp at hp; rw [← hp], rfl⟩
    | succ j =>
      rw [List.getElem?_cons_succ] at hp
      obtain ⟨r', a1, a2, a3, a4, e', h1, h2⟩ := ih.2 j p hp
      exact ⟨r', a1, a2, a3, a4, e', h1, by rw [List.getElem?_cons_succ]; exact h2⟩
theorem RowsAre.ref {led : List (Addr × Obj)} {rs : List Row} (h : RowsAre led rs) {i : Nat} {v : Value} (hv : (refsOf led)[i]? = some v) : ∃ a r t1 t2 t3 t4 e, v = .ref a ∧ (a, rowObj r t1 t2 t3 t4 e) ∈ led ∧ rs.reverse[i]? = some r := by
  unfold refsOf at hv
  have hi : i < led.length := by
    have := (List.getElem?_eq_some_iff.mp hv).1
    simpa using this
  rw [List.getElem?_reverse (by simpa using hi), List.getElem?_map, List.length_map] at hv
  cases e : led[led.length - 1 - i]? with
  | none => rw [e] at hv; cases hv
  | some p =>
    rw [e] at hv
    obtain ⟨r, t1, t2, t3, t4, e', h1, h2⟩ := h.get.2 _ p e
    refine ⟨p.1, r, t1, t2, t3, t4, e', (Option.some.inj hv).symm, ?_, ?_⟩
    · rw [← h1]; exact List.mem_of_getElem? e
    · rw [List.getElem?_reverse (by rw [← h.get.1]; exact hi), ← h.get.1]; exact h2

theorem allLt_mem {d : Nat} : ∀ {l : List (Addr × Obj)}, AllLt d l → ∀ p ∈ l, @LT.lt Nat _ p.1 d
  | [], _, _, hp => nomatch hp
  | _ :: _, ⟨h, r⟩, p, hp => by
    rcases List.mem_cons.mp hp with rfl | hp
    · exact h
    · exact allLt_mem r p hp
theorem table_spec {w : World} {A : Around} {s : Shared} {loose : List PySem.Str} {mean : ExcName → Option Value} {mg mb : PySem.Str → Option Value} {aB aS aI aG aM : Addr} {vB vS vI vG vM : List Value} {B S G M : List Nat} {I : List Int} :
    (hd.heap_39 w.params).In s.heap → Top topProg loose mean mg mb s.heap → A.depth + 2 < recursionLimit → A.handled = none →
    s.heap.IsList aB vB.toArray → s.heap.IsList aS vS.toArray → s.heap.IsList aI vI.toArray → s.heap.IsList aG vG.toArray → s.heap.IsList aM vM.toArray →
    IntsAre vB (B.map fun n => ((n : Nat) : Int)) → IntsAre vS (S.map fun n => ((n : Nat) : Int)) → IntsAre vI I → IntsAre vG (G.map fun n => ((n : Nat) : Int)) → IntsAre vM (M.map fun n => ((n : Nat) : Int)) →
    B.length = S.length → I.length = S.length → S.length ≤ 20 → G.length ≤ 20 → G.length = M.length → (∀ x ∈ I, -1 ≤ x ∧ x < G.length) → (∀ k, ∀ r ∈ rowsTo B S G M I k, r.b < 2 ^ 20 ∧ r.s < 2 ^ 20 ∧ r.g < 2 ^ 20 ∧ r.m < 2 ^ 20) → 
    codeAny (model Challenge.rw_qu0013_01.row.prog w) A (.call (.ref 72) ⟨[.ref aB, .ref aS, .ref aI, .ref aG, .ref aM], []⟩) (Gives s fun v h' => ∃ b t, v = .bytes b t ∧ KBw.bInts b = encAll (rowsTo B S G M I S.length).reverse) s := by
  w_top off
  k_fill
  intro X T hdep hh hlB hlS hlI hlG hlM iB iS iI iG iM lBS lIS hS20 hG20 lGM hIb hrb
  refine code_hide fun R hPost => ?_
  refine' enter (binds := [(Str.ofString "begins", .ref aB), (Str.ofString "sizes", .ref aS), (Str.ofString "inner", .ref aI), (Str.ofString "goals", .ref aG), (Str.ofString "marks", .ref aM)]) X T ?k6 ?k7 ?k8 ?k9 ?kB ?_ ?c2 ?c3 ?c4 ?c5; (case k6 => k_is); (case k7 => k_is); (case k8 => omega); (case k9 => exact BindsTo.of_eq rfl); (case c5 => decide); (case kB => exact locs rfl); (case c2 => exact rfl); (case c3 => exact rfl); (case c4 => exact rfl)
  have lS' : (S.map fun n => ((n : Nat) : Int)).length = S.length := by simp
  intro h₁ F N
  iterate 6 walk1
  rename_i aR hR FR NR lR
  iterate 3 walk1
  refine For_invV s.heap (by rfl) (by rfl) ?_
  iterate 13 walk1
  rename Fr _ _ _ _ => F3
  rename News _ _ _ _ => N3
  rename IsRange _ _ _ _ _ _ _ _ => R3
  rw [lS'] at R3
  have getI : ∀ k, k < S.length → I[k]? = some (I.getD k (-1)) := fun k hk => by rw [List.getD_eq_getElem?_getD, List.getElem?_eq_getElem (by omega)]; rfl
  have getIb : ∀ k, k < S.length → -1 ≤ I.getD k (-1) ∧ I.getD k (-1) < G.length := fun k hk => hIb _ (List.mem_of_getElem? (getI k hk))
  have getN : ∀ (l : List Nat) k, k < l.length → (l.map fun n => ((n : Nat) : Int))[k]? = some ((l.getD k 0 : Nat) : Int) := fun l k hk => by rw [List.getElem?_map, List.getElem?_eq_getElem hk, List.getD_eq_getElem?_getD, List.getElem?_eq_getElem hk]; rfl
  obtain ⟨J, hJ⟩ := hide3 (fun (i : Nat) (m : PySem.Str → Option Value) (news : List (Addr × Obj)) => ∃ led eR, m (Str.ofString "begins") = some (.ref aB) ∧ m (Str.ofString "sizes") = some (.ref aS) ∧ m (Str.ofString "inner") = some (.ref aI) ∧ m (Str.ofString "goals") = some (.ref aG) ∧ m (Str.ofString "marks") = some (.ref aM) ∧ m (Str.ofString "rows") = some (.ref aR) ∧
      news = (aR, listOf (List.toArray (refsOf led)) eR) :: led ∧ RowsAre led (rowsTo B S G M I i) ∧ (∀ p ∈ led, aR < p.1) ∧ led.length ≤ i)
  refine iter_rng (n := S.length) J
    hh R3 (small_nat _ (by omega)) (size_nat _) F3 N3 ((hJ _ _ _).mpr ⟨[], _, rfl, rfl, rfl, rfl, rfl, rfl, rfl, .nil, by simp, Nat.le_refl _⟩) ?_ ?_
  · clear F3 N3 R3
    intro i t m news h tk It o hi hj hIne F N
    obtain ⟨led, eR, hm1, hm2, hm3, hm4, hm5, hm6, rfl, hrs, hlo, hll⟩ := (hJ _ _ _).mp hj
    clear hj
    rw [Int.zero_add] at F
    have hx := getIb i hi
    have nRI : aR ≠ It := hIne (aR, _) (.head _)
    iterate 2 walk1
    obtain ⟨Q1, hQ1⟩ := hide2 (fun (b : Bool) (s' : Shared) => ∃ tk', s' = { s with heap := h, toks := tk' } ∧ b = decide (0 ≤ I.getD i (-1) ∧ 0 < i ∧ I.getD (i - 1) (-1) = I.getD i (-1)))
    refine wpAny_mono (Q := Q1) ?_ ?_ (fun _ _ x => x)
    · iterate 5 walk1
      refine item_at (hlI.at fun o e => F.keep _ _ e) iI (getI i hi) (by omega) ?_
      intro t2
      iterate 3 walk1
      by_cases c1 : 0 ≤ I.getD i (-1)
      · rw [if_pos (by simpa using c1)]
        iterate 6 walk1
        by_cases c2 : (0 : Int) < (i : Int)
        · rw [if_pos (by simpa using c2)]
          iterate 8 walk1
          have e1 : ((i : Nat) : Int) - 1 = ((i - 1 : Nat) : Int) := by omega
          rw [e1]
          refine item_at (hlI.at fun o e => F.keep _ _ e) iI (getI (i - 1) (by omega)) (by omega) ?_
          intro t3
          iterate 3 walk1
          refine item_at (hlI.at fun o e => F.keep _ _ e) iI (getI i hi) (by omega) ?_
          intro t4
          iterate 2 walk1
          by_cases c3 : I.getD (i - 1) (-1) = I.getD i (-1)
          · rw [if_pos (by simpa using c3)]
            iterate 1 walk1
            exact (hQ1 _ _).mpr ⟨_, rfl, (decide_eq_true ⟨c1, by omega, c3⟩).symm⟩
          · rw [if_neg (by simpa using c3)]
            exact (hQ1 _ _).mpr ⟨_, rfl, (decide_eq_false (fun c => c3 c.2.2)).symm⟩
        · rw [if_neg (by simpa using c2)]
          exact (hQ1 _ _).mpr ⟨_, rfl, (decide_eq_false (fun c => c2 (by omega))).symm⟩
      · rw [if_neg (by simpa using c1)]
        exact (hQ1 _ _).mpr ⟨_, rfl, (decide_eq_false (fun c => c1 c.1)).symm⟩
    · intro bb s' hq
      obtain ⟨tk2, rfl, rfl⟩ := (hQ1 _ _).mp hq
      clear hq hQ1 Q1
      by_cases c1 : 0 ≤ I.getD i (-1) ∧ 0 < i ∧ I.getD (i - 1) (-1) = I.getD i (-1)
      · rw [if_pos (decide_eq_true c1)]
        have hne : rowsTo B S G M I i ≠ [] := by
          have := rowsTo_ne B S G M I (i - 1) (by rw [c1.2.2]; exact c1.1)
          rwa [Nat.sub_add_cancel (by omega)] at this
        have hstep : rowsTo B S G M I (i + 1) = rstep B S G M I i (rowsTo B S G M I i) := rfl
        unfold rstep at hstep
        rw [if_pos c1] at hstep
        have hrbi := hrb i
        cases hrr : rowsTo B S G M I i with
        | nil => exact absurd hrr hne
        | cons r rs =>
        rw [hrr] at hrs hstep hrbi
        cases hrs with
        | @cons a _ t1 t2 t3 t4 ea led' _ hlt hrs' =>
        have iRow : IntsAre [Value.int (r.b : Nat) t1, .int (r.s : Nat) t2, .int (r.g : Nat) t3, .int (r.m : Nat) t4] [((r.b : Nat) : Int), ((r.s : Nat) : Int), ((r.g : Nat) : Int), ((r.m : Nat) : Int)] := .cons _ _ (.cons _ _ (.cons _ _ (.cons _ _ .nil)))
        have eref : refsOf ((a, rowObj r t1 t2 t3 t4 ea) :: led') = refsOf led' ++ [.ref a] := by unfold refsOf; rw [List.map_cons, List.reverse_cons]
        rw [eref] at N
        iterate 9 walk1
        refine item_last (vi := refsOf led') (News.isList N (.tail _ (.head _))) ?_
        iterate 5 walk1
        refine item_at (hlS.at fun o e => F.keep _ _ e) iS (getN S i hi) (by omega) ?_
        intro t6
        iterate 6 walk1
        refine item_last (vi := refsOf led') (News.isList N (.tail _ (.head _))) ?_
        iterate 1 walk1
        have n1 : It ≠ a := fun q => hIne (a, _) (.tail _ (.head _)) q.symm
        have n3 : aR < a := hlo (a, _) (.head _)
        have n2 : aR ≠ a := Nat.ne_of_lt n3
        refine ksa_set F N (.tail n1 (.tail n2 (.head fun p hp => Nat.ne_of_lt (hlt p hp)))) iRow (by decide) (by simp) (by decide) ?_
        intro h6 F6 N6 hI6 hl6 _
        have e7 : ((r.s : Nat) : Int) + ((S.getD i 0 : Nat) : Int) = ((r.s + S.getD i 0 : Nat) : Int) := by omega
        have N7 : ∃ t2', News s.heap s.heap.objs.size h6 ((It, o) :: (aR, listOf (List.toArray (refsOf led' ++ [.ref a])) eR) :: (a, listOf (List.toArray [Value.int (r.b : Nat) t1, Value.int (((r.s : Nat) : Int) + ((S.getD i 0 : Nat) : Int)) t2', .int (r.g : Nat) t3, .int (r.m : Nat) t4]) ea) :: led') := ⟨_, N6⟩
        obtain ⟨t2', N7⟩ := N7
        rw [e7] at N7
        iterate 2 walk1
        refine ⟨rfl, _, _, _, _, rfl, F6, N7, ?_, (hJ _ _ _).mpr ⟨(a, rowObj { r with s := r.s + S.getD i 0 } t1 t2' t3 t4 ea) :: led', eR, hm1, hm2, hm3, hm4, hm5, hm6, ?_, ?_, ?_, ?_⟩⟩
        · intro p hp
          rcases List.mem_cons.mp hp with rfl | hp
          · exact nRI
          rcases List.mem_cons.mp hp with rfl | hp
          · exact Ne.symm n1
          · exact hIne p (.tail _ (.tail _ hp))
        · unfold refsOf; rw [List.map_cons, List.reverse_cons]
        · rw [hstep]; exact .cons hlt hrs'
        · intro p hp
          rcases List.mem_cons.mp hp with rfl | hp
          · exact n3
          · exact hlo p (.tail _ hp)
        · simp at hll ⊢; omega
      · rw [if_neg (by simpa using c1)]
        have hstep : rowsTo B S G M I (i + 1) = rstep B S G M I i (rowsTo B S G M I i) := rfl
        unfold rstep at hstep
        rw [if_neg c1] at hstep
        iterate 6 walk1
        refine item_at (hlI.at fun o e => F.keep _ _ e) iI (getI i hi) (by omega) ?_
        intro t2
        iterate 3 walk1
        by_cases c2 : 0 ≤ I.getD i (-1)
        · rw [if_pos (by simpa using c2)]
          rw [if_pos c2] at hstep
          obtain ⟨q, hq⟩ := Int.eq_ofNat_of_zero_le c2
          rw [hq, Int.toNat_natCast] at hstep
          have hqG : q < G.length := by omega
          have hqI : I[i]? = some ((q : Nat) : Int) := by rw [getI i hi, hq]
          iterate 12 walk1
          refine item_at (hlB.at fun o e => F.keep _ _ e) iB (getN B i (by omega)) (by omega) ?_
          intro t6
          iterate 4 walk1
          refine item_at (hlS.at fun o e => F.keep _ _ e) iS (getN S i hi) (by omega) ?_
          intro t7
          iterate 6 walk1
          refine item_at (hlI.at fun o e => F.keep _ _ e) iI hqI (by omega) ?_
          intro t8
          refine item_at (hlG.at fun o e => F.keep _ _ e) iG (getN G q hqG) (by omega) ?_
          intro t9
          iterate 6 walk1
          refine item_at (hlI.at fun o e => F.keep _ _ e) iI hqI (by omega) ?_
          intro t10
          refine item_at (hlM.at fun o e => F.keep _ _ e) iM (getN M q (by omega)) (by omega) ?_
          intro t11
          iterate 2 walk1
          rename_i a ha Fa Na la
          have hall := allLt_mem la.2.2
          have n1 : a ≠ aR := Nat.ne_of_gt la.2.1
          have n2 : It ≠ aR := Ne.symm nRI
          have n3 : a ≠ It := Nat.ne_of_gt la.1
          iterate 1 walk1
          refine app_at Fa Na (.tail n1 (.tail n2 (.head fun p hp => Nat.ne_of_gt (hlo p hp)))) (by unfold refsOf; simp; omega) ?_
          intro h7 F7 N7
          have N8 : News s.heap s.heap.objs.size h7 ((It, o) :: (aR, listOf (List.toArray (refsOf ((a, rowObj ⟨B.getD i 0, S.getD i 0, G.getD q 0, M.getD q 0⟩ t6 t7 t9 t11 0) :: led))) (eR + 1)) :: (a, rowObj ⟨B.getD i 0, S.getD i 0, G.getD q 0, M.getD q 0⟩ t6 t7 t9 t11 0) :: led) := by
            have eref : refsOf ((a, rowObj ⟨B.getD i 0, S.getD i 0, G.getD q 0, M.getD q 0⟩ t6 t7 t9 t11 0) :: led) = refsOf led ++ [.ref a] := by unfold refsOf; rw [List.map_cons, List.reverse_cons]
            rw [eref]
            refine News.sub N7 fun p hp => ?_
            rcases List.mem_cons.mp hp with rfl | hp
            · exact .tail _ (.head _)
            rcases List.mem_cons.mp hp with rfl | hp
            · exact .tail _ (.tail _ (.head _))
            rcases List.mem_cons.mp hp with rfl | hp
            · exact .head _
            · exact .tail _ (.tail _ (.tail _ hp))
          clear N7 Na Fa
          iterate 3 walk1
          refine ⟨rfl, _, _, _, _, rfl, F7, N8, ?_, (hJ _ _ _).mpr ⟨_, _, hm1, hm2, hm3, hm4, hm5, hm6, rfl, ?_, ?_, ?_⟩⟩
          · intro p hp
            rcases List.mem_cons.mp hp with rfl | hp
            · exact nRI
            rcases List.mem_cons.mp hp with rfl | hp
            · exact n3
            · exact hIne p (.tail _ hp)
          · rw [hstep]; exact .cons hall hrs
          · intro p hp
            rcases List.mem_cons.mp hp with rfl | hp
            · exact la.2.1
            · exact hlo p hp
          · simp; omega
        · rw [if_neg (by simpa using c2)]
          rw [if_neg c2] at hstep
          iterate 4 walk1
          exact ⟨rfl, _, _, _, _, rfl, F, N, hIne, (hJ _ _ _).mpr ⟨led, eR, hm1, hm2, hm3, hm4, hm5, hm6, rfl, by rw [hstep]; exact hrs, hlo, by omega⟩⟩
  · intro m news h tk hj F N
    obtain ⟨led, eR, hm1, hm2, hm3, hm4, hm5, hm6, rfl, hrs, hlo, hll⟩ := (hJ _ _ _).mp hj
    clear hj hJ J F3 N3 R3
    iterate 5 walk1
    rename_i aT hT FT NT lT
    have lT' := allLt_mem lT.2
    have nTR : aT ≠ aR := Nat.ne_of_gt lT.1
    have nTl : ∀ p ∈ led, p.1 ≠ aT := fun p hp => Nat.ne_of_lt (lT' p hp)
    iterate 3 walk1
    refine For_invV s.heap (by rfl) (by rfl) ?_
    iterate 1 walk1
    rename Fr _ _ _ _ => F5
    rename News _ _ _ _ => N5
    have hRN : ∀ p ∈ led, p.1 ≠ aR := fun p hp => Nat.ne_of_gt (hlo p hp)
    have hlen : led.length ≤ 20 := by omega
    have hlr : (rowsTo B S G M I S.length).length ≤ 20 := by rw [← hrs.get.1]; exact hlen
    have encLen : ∀ i, (encAll ((rowsTo B S G M I S.length).reverse.take i)).length ≤ 320 := fun i => by
      have := encAll_len ((rowsTo B S G M I S.length).reverse.take i) fun r hr => hrb _ r (List.mem_reverse.mp (List.mem_of_mem_take hr))
      have h2 : ((rowsTo B S G M I S.length).reverse.take i).length ≤ 20 := by rw [List.length_take, List.length_reverse]; omega
      omega
    obtain ⟨J, hJ⟩ := hide3 (fun (i : Nat) (m : PySem.Str → Option Value) (news : List (Addr × Obj)) => ∃ vT eT, m (Str.ofString "table") = some (.ref aT) ∧
        news = (aT, listOf (List.toArray vT) eT) :: (aR, listOf (List.toArray (refsOf led)) eR) :: led ∧ IntsAre vT (encAll ((rowsTo B S G M I S.length).reverse.take i)))
    refine iter_lst (ol := listOf (List.toArray (refsOf led)) eR) (vs := refsOf led) J
      hh (News.isList N5 (.tail _ (.head _))) (N5 _ (.tail _ (.head _))).1 (.inr ⟨(N5 _ (.tail _ (.head _))).2.2, (N5 _ (.tail _ (.head _))).2.1, ?_⟩) F5 N5 ((hJ _ _ _).mpr ⟨[], _, rfl, rfl, .nil⟩) ?_ ?_
    · intro i m nw hj; obtain ⟨vT, eT, _, rfl, _⟩ := (hJ _ _ _).mp hj; exact .tail _ (.head _)
    · clear F5 N5
      intro i v m news h tk It o hv hj hIne F N
      obtain ⟨vT, eT, hm1, rfl, iT⟩ := (hJ _ _ _).mp hj
      clear hj
      obtain ⟨a, r, t1, t2, t3, t4, ea, rfl, hmem, hri⟩ := hrs.ref hv
      have hrbd := hrb _ r (List.mem_reverse.mp (List.mem_of_getElem? hri))
      have hel := encLen i
      have nTI : aT ≠ It := hIne (aT, _) (.head _)
      have iRow : IntsAre [Value.int (r.b : Nat) t1, .int (r.s : Nat) t2, .int (r.g : Nat) t3, .int (r.m : Nat) t4] [((r.b : Nat) : Int), ((r.s : Nat) : Int), ((r.g : Nat) : Int), ((r.m : Nat) : Int)] := .cons _ _ (.cons _ _ (.cons _ _ (.cons _ _ .nil)))
      iterate 14 walk1
      refine item_at (k := 0) (News.isList N (.tail _ (.tail _ (.tail _ hmem)))) iRow rfl (by omega) ?_
      intro t6
      iterate 4 walk1
      refine call_con F N (digits_spec (X.keeps F.keep) (T.keeps F.keep) (by simp only [depth_deeper]; omega) hh hrbd.1) ?_
      rintro v h6 tk6 F6 N6 st6 ⟨aD, eD, vD, rfl, hnD, hD, iD⟩
      have N7 := News.add F N6 hnD hD
      have nDT : aD ≠ aT := fun q => by
        have := (N (aT, _) (.tail _ (.head _))).1
        rw [← q] at this
        rw [hnD] at this; cases this
      have l1 := digs_len4 r.b 128 hrbd.1
      have p1 := digs_pos r.b 128
      iterate 1 walk1
      refine ext_at F6 N7 (.head _) (.tail nDT (.tail (Ne.symm nTI) (.head fun p hp => ?_))) (by rw [iD.length]; omega) (by rw [iD.length, iT.length]; omega) ?_
      · rcases List.mem_cons.mp hp with rfl | hp
        · exact Ne.symm nTR
        · exact nTl p hp
      intro h8 F8 N8
      replace N8 := News.sub N8 (fun p hp => List.Mem.tail _ hp)
      have iT2 := IntsAre.append iT iD
      clear F N F6 N6 N7
      iterate 1 walk1
      refine For_invV s.heap (by rfl) (by rfl) ?_
      iterate 7 walk1
      refine kmk_slice_ints (s := ⟨_, _, _, _, _⟩) (vs := [Value.int (r.b : Nat) t1, .int (r.s : Nat) t2, .int (r.g : Nat) t3, .int (r.m : Nat) t4]) (c := 3) (ms := [((r.s : Nat) : Int), ((r.g : Nat) : Int), ((r.m : Nat) : Int)]) F8 N8 (News.isList N8 (.tail _ (.tail _ (.tail _ hmem)))) (by constructor) (by constructor) iRow (by exact kmk_from iRow (x := 1) (by decide)) rfl ?_ (by with_unfolding_all rfl) (by intro _; with_unfolding_all rfl) (by rw [sizeLine_eq]; simp)
      intro aW ws h9 F9 N9 lW iW _ _
      have nWT : aW ≠ aT := Nat.ne_of_gt (lW (aT, _) (.tail _ (.head _)))
      have nWI : aW ≠ It := Nat.ne_of_gt (lW (It, o) (.head _))
      have N10 := News.sub (news' := (aT, listOf (List.toArray (vT ++ vD)) (eT + 1)) :: (aW, listOf ws.toArray 0) :: (It, o) :: (aR, listOf (List.toArray (refsOf led)) eR) :: led) N9 (fun p hp => by
        rcases List.mem_cons.mp hp with rfl | hp
        · exact .tail _ (.tail _ (.head _))
        rcases List.mem_cons.mp hp with rfl | hp
        · exact .head _
        rcases List.mem_cons.mp hp with rfl | hp
        · exact .tail _ (.head _)
        · exact .tail _ (.tail _ (.tail _ hp)))
      clear F8 N8 N9
      obtain ⟨J2, hJ2⟩ := hide3 (fun (j : Nat) (m : PySem.Str → Option Value) (news : List (Addr × Obj)) => ∃ vT eT, m (Str.ofString "table") = some (.ref aT) ∧
          news = (aT, listOf (List.toArray vT) eT) :: (aW, listOf ws.toArray 0) :: (It, o) :: (aR, listOf (List.toArray (refsOf led)) eR) :: led ∧ IntsAre vT (encAll ((rowsTo B S G M I S.length).reverse.take i) ++ digs r.b 128 ++ encT r j))
      refine iter_lst (ol := listOf ws.toArray 0) (vs := ws) J2
        hh (News.isList N10 (.tail _ (.head _))) (N10 _ (.tail _ (.head _))).1 (.inr ⟨(N10 _ (.tail _ (.head _))).2.2, (N10 _ (.tail _ (.head _))).2.1, ?_⟩) F9 N10 ((hJ2 _ _ _).mpr ⟨_, _, hm1, rfl, by simpa [encT] using iT2⟩) ?_ ?_
      · intro i m nw hj; obtain ⟨vT, eT, _, rfl, _⟩ := (hJ2 _ _ _).mp hj; exact .tail _ (.head _)
      · clear F9 N10 iT2
        intro j v m2 news h tk It2 o2 hv2 hj hIne2 F N
        obtain ⟨vT2, eT2, hm2, rfl, iT3⟩ := (hJ2 _ _ _).mp hj
        clear hj
        obtain ⟨n, tn, rfl, hn⟩ := iW.at j v hv2
        obtain ⟨q, rfl, hq, hstep, hlen2⟩ := encT_step hrbd hn
        have nTI2 : aT ≠ It2 := hIne2 (aT, _) (.head _)
        iterate 16 walk1
        refine call_con F N (digits_spec (X.keeps F.keep) (T.keeps F.keep) (by simp only [depth_deeper]; omega) hh hq) ?_
        rintro v h6 tk6 F6 N6 st6 ⟨aD2, eD2, vD2, rfl, hnD2, hD2, iD2⟩
        have N7 := News.add F N6 hnD2 hD2
        have nDT2 : aD2 ≠ aT := fun q => by
          have := (N (aT, _) (.tail _ (.head _))).1
          rw [← q] at this
          rw [hnD2] at this; cases this
        have l2 := digs_len4 q 0 hq
        have p2 := digs_pos q 0
        have hL3 := iT3.length
        simp only [List.length_append] at hL3
        iterate 1 walk1
        refine ext_at F6 N7 (.head _) (.tail nDT2 (.tail (Ne.symm nTI2) (.head fun p hp => ?_))) (by rw [iD2.length]; omega) (by rw [iD2.length]; omega) ?_
        · rcases List.mem_cons.mp hp with rfl | hp
          · exact nWT
          rcases List.mem_cons.mp hp with rfl | hp
          · exact Ne.symm nTI
          rcases List.mem_cons.mp hp with rfl | hp
          · exact Ne.symm nTR
          · exact nTl p hp
        intro h8 F8 N8
        replace N8 := News.sub N8 (fun p hp => List.Mem.tail _ hp)
        iterate 1 walk1
        refine ⟨rfl, _, _, _, _, rfl, F8, N8, fun p hp => ?_, (hJ2 _ _ _).mpr ⟨_, _, hm2, rfl, ?_⟩⟩
        · rcases List.mem_cons.mp hp with rfl | hp
          · exact nTI2
          · exact hIne2 p (.tail _ hp)
        · rw [hstep, ← List.append_assoc]; exact IntsAre.append iT3 iD2
      · intro m2 news h tk hj F N
        obtain ⟨vT2, eT2, hm2, rfl, iT3⟩ := (hJ2 _ _ _).mp hj
        clear hj hJ2 J2
        have hw3 : ws.length = 3 := iW.length
        have N11 := News.sub (news' := (It, o) :: (aT, listOf (List.toArray vT2) eT2) :: (aR, listOf (List.toArray (refsOf led)) eR) :: led) N (fun p hp => by
          rcases List.mem_cons.mp hp with rfl | hp
          · exact .tail _ (.tail _ (.head _))
          rcases List.mem_cons.mp hp with rfl | hp
          · exact .head _
          · exact .tail _ (.tail _ (.tail _ hp)))
        iterate 1 walk1
        refine ⟨rfl, _, _, _, _, rfl, F, N11, fun p hp => ?_, (hJ _ _ _).mpr ⟨_, _, hm2, rfl, ?_⟩⟩
        · rcases List.mem_cons.mp hp with rfl | hp
          · exact nTI
          · exact hIne p (.tail _ hp)
        · rw [hw3] at iT3
          have e9 : (rowsTo B S G M I S.length).reverse.take (i + 1) = (rowsTo B S G M I S.length).reverse.take i ++ [r] := by rw [List.take_add_one, hri]; rfl
          rw [e9, encAll_append, encAll_cons]
          have e10 : encAll ((rowsTo B S G M I S.length).reverse.take i) ++ digs r.b 128 ++ encT r 3 = encAll ((rowsTo B S G M I S.length).reverse.take i) ++ (r.enc ++ encAll []) := by simp [encT, Row.enc, encAll]
          rw [e10] at iT3
          exact iT3
    · intro m news h tk hj F N
      obtain ⟨vT, eT, hm1, rfl, iT⟩ := (hJ _ _ _).mp hj
      clear hj hJ J F5 N5
      have e11 : (refsOf led).length = (rowsTo B S G M I S.length).reverse.length := by unfold refsOf; simp [hrs.get.1]
      have hel := encLen (refsOf led).length
      rw [e11, List.take_length] at iT
      rw [e11, List.take_length] at hel
      iterate 8 walk1
      refine KBa.make_K F N hh (News.isList N (.head _)) iT ?_ (by omega) ?_
      · intro x hx
        obtain ⟨r, _, hxr⟩ := List.mem_flatMap.mp hx
        obtain ⟨d, ds, e, h1, h2, h3⟩ := r.enc_shape
        rw [e] at hxr
        rcases List.mem_cons.mp hxr with rfl | hxr
        · omega
        · have := h3 x hxr; omega
      intro h2 t2 tk2 F2 N2 hin
      exact hPost _ _ ⟨_, _, _, rfl, rfl, F2.keep, _, t2, rfl, KBa.ints_make hin⟩
end Mine
end

section
namespace Mine
def findB (x y : PySem.Str) (i j : Int) : Int := match Builtin.Str.occurrences x y (fromIndex x.length i) (min (fromIndex x.length j) x.length) 1 with | k :: _ => (k : Int) | [] => -1
def rfindB (x y : PySem.Str) (i j : Int) : Int := match Builtin.Str.lastOccurrence x y (fromIndex x.length i) (min (fromIndex x.length j) x.length) with | some k => (k : Int) | none => -1

theorem gives_find4 (x y : PySem.Str) (i j : Int) (t u v v' : Tok) : PySem.Gives (Builtin.«str.find» ⟨[.str x t, .str y u, .int i v, .int j v'], []⟩) (.int (findB x y i j)) := by
  show PySem.Gives (match Builtin.Str.occurrences x y (fromIndex x.length i) (min (fromIndex x.length j) x.length) 1 with | k :: _ => retInt k | [] => (do rule "str.find.not-found"; retInt (-1))) _
  unfold findB
  cases Builtin.Str.occurrences x y (fromIndex x.length i) (min (fromIndex x.length j) x.length) 1 with
  | nil => exact .rule (.of_eq rfl)
  | cons k _ => exact .of_eq rfl
theorem gives_rfind4 (x y : PySem.Str) (i j : Int) (t u v v' : Tok) : PySem.Gives (Builtin.«str.rfind» ⟨[.str x t, .str y u, .int i v, .int j v'], []⟩) (.int (rfindB x y i j)) := by
  show PySem.Gives (match Builtin.Str.lastOccurrence x y (fromIndex x.length i) (min (fromIndex x.length j) x.length) with | some k => retInt k | none => (do rule "str.rfind.not-found"; retInt (-1))) _
  unfold rfindB
  cases Builtin.Str.lastOccurrence x y (fromIndex x.length i) (min (fromIndex x.length j) x.length) with
  | none => exact .rule (.of_eq rfl)
  | some k => exact .of_eq rfl
section
variable {prog : Program} {w : World} {A : Around} {E : Value → Shared → Prop} {s : Shared} {x y : PySem.Str} {t u v v' : Tok} {i j : Int} {Q : Value → Shared → Prop}
theorem find4 (hq : Q (.int (findB x y i j) s.toks) { s with toks := s.toks + 1 }) : wpAny (model prog w) A (call (.builtin "str.find") [.str x t, .str y u, .int i v, .int j v']) Q E s :=
  call_gives F.slot_str_find (typeIs_str _ _ _) F.entry_str_find (F.args_str_find_4 _ _ _ _) (gives_find4 x y i j t u v v') hq
theorem rfind4 (hq : Q (.int (rfindB x y i j) s.toks) { s with toks := s.toks + 1 }) : wpAny (model prog w) A (call (.builtin "str.rfind") [.str x t, .str y u, .int i v, .int j v']) Q E s :=
  call_gives F.slot_str_rfind (typeIs_str _ _ _) F.entry_str_rfind (F.args_str_rfind_4 _ _ _ _) (gives_rfind4 x y i j t u v v') hq
theorem item_v {value slice : PySem.Expr} {l : Addr} {vs : List Value} {k : Nat} {x : Value} {u : Tok} (hl : s.heap.IsList l vs.toArray) (hk : vs[k]? = some x) (hfit : k ≤ 1000000000) (h : Q x s)
    (hs : subscripted slice false (.ref l) (.int (k : Nat) u) = operate [.ref l, .int (k : Nat) u] (getItem (.ref l) (.int (k : Nat) u)) := by with_unfolding_all rfl) :
    wpAny (model prog w) A (subscriptTail value slice (.ref l) (.int (k : Nat) u)) Q E s :=
  tail_any hl.typeIs slot_list_getitem.lookup (wpAny_getItem_list hl (by omega) (by omega) (by simpa using hk) h) hs
theorem item_w {value slice : PySem.Expr} {l : Addr} {vs : List Value} {k : Nat} {u : Tok} (hl : s.heap.IsList l vs.toArray) (hk : k < vs.length) (hfit : k ≤ 1000000000) (h : ∀ x, vs[k]? = some x → Q x s)
    (hs : subscripted slice false (.ref l) (.int (k : Nat) u) = operate [.ref l, .int (k : Nat) u] (getItem (.ref l) (.int (k : Nat) u)) := by with_unfolding_all rfl) :
    wpAny (model prog w) A (subscriptTail value slice (.ref l) (.int (k : Nat) u)) Q E s :=
  item_v hl (List.getElem?_eq_getElem hk) hfit (h _ (List.getElem?_eq_getElem hk)) hs
end
local macro_rules | `(tactic| walk_at "no such key") => `(tactic| skip)
local macro_rules | `(tactic| walk_at "unpackItems ref") => `(tactic| (k_here; k_dflt (refine' unpackItemsN_ ?k1 ?k2 ?k3 ?k4 ?k5 ?_; (case k1 => k_asm); (case k2 => k_asm); (case k3 => kun_tup); (case k4 => assumption); (case k5 => exact rfl); k_whole); intro h' F' N'; (try k_sweep)))
local macro_rules | `(tactic| walk_at "call builtin:str.find") => `(tactic| refine find4 ?_)
local macro_rules | `(tactic| walk_at "call builtin:str.rfind") => `(tactic| refine rfind4 ?_)

def msgOf (d : Nat) (nm : PySem.Str) : PySem.Str :=
  match d with
  | 0 => nm
  | 1 => Str.ofString "m." ++ nm ++ Str.ofString ": a.b"
  | 2 => Str.ofString "a.m." ++ nm ++ Str.ofString "\nb.c: d"
  | _ => nm ++ Str.ofString ":\n.e"
theorem message_spec {w : World} {A : Around} {s : Shared} {loose : List PySem.Str} {mean : ExcName → Option Value} {mg mb : PySem.Str → Option Value} {d : Nat} {nm : PySem.Str} {t t' : Tok} :
    (hd.heap_39 w.params).In s.heap → Top topProg loose mean mg mb s.heap → A.depth + 1 < recursionLimit → A.handled = none → d < 4 → nm.length < 20 →
    codeAny (model Challenge.rw_qu0013_01.row.prog w) A (.call (.ref 93) ⟨[.int d t, .str nm t'], []⟩) (Gives s fun v _ => ∃ t, v = .str (msgOf d nm) t) s := by
  w_top off
  k_fill
  intro X T hdep hh hd hn
  refine code_hide fun RR hPost => ?_
  refine' enter (binds := [(Str.ofString "dress", .int d t), (Str.ofString "name", .str nm t')]) X T ?k6 ?k7 ?k8 ?k9 ?kB ?_ ?c2 ?c3 ?c4 ?c5; (case k6 => k_is); (case k7 => k_is); (case k8 => omega); (case k9 => exact BindsTo.of_eq rfl); (case c5 => decide); (case kB => exact locs rfl); (case c2 => exact rfl); (case c3 => exact rfl); (case c4 => exact rfl)
  intro h₁ F N
  iterate 31 walk1
  rename Fr _ _ _ _ => F1
  rename News _ _ _ _ => N1
  refine item_w (News.isList N1 (.head _)) hd (by omega) ?_
  intro x hx
  have hx2 : ∃ tt, x = .str (msgOf d nm) tt := by
    clear F1 N1
    match d, hd with
    | 0, _ => exact ⟨_, (Option.some.inj hx).symm⟩
    | 1, _ => exact ⟨_, (Option.some.inj hx).symm⟩
    | 2, _ => exact ⟨_, (Option.some.inj hx).symm⟩
    | 3, _ => exact ⟨_, (Option.some.inj hx).symm⟩
  obtain ⟨tt, rfl⟩ := hx2
  exact hPost _ _ ⟨_, _, _, rfl, rfl, F1.keep, tt, rfl⟩


theorem str_eq {a b : PySem.Str} {t : Tok} (h : a = b) : Value.str a t = Value.str b t := h ▸ rfl
def stripOf (nm : PySem.Str) : PySem.Str :=
  let e1 : Int := if 0 ≤ Txt.find nm (Str.ofString "\n") then Txt.find nm (Str.ofString "\n") else (nm.length : Int)
  let e2 : Int := if 0 ≤ findB nm (Str.ofString ":") 0 e1 then findB nm (Str.ofString ":") 0 e1 else e1
  let st : Int := if 0 ≤ rfindB nm (Str.ofString ".") 0 e2 then rfindB nm (Str.ofString ".") 0 e2 + 1 else 0
  Txt.slice nm (some st) (some e2)

theorem strip_spec {w : World} {A : Around} {s : Shared} {loose : List PySem.Str} {mean : ExcName → Option Value} {mg mb : PySem.Str → Option Value} {nm : PySem.Str} {t : Tok} :
    (hd.heap_39 w.params).In s.heap → Top topProg loose mean mg mb s.heap → A.depth + 1 < recursionLimit → A.handled = none → nm.length < 100 →
    codeAny (model Challenge.rw_qu0013_01.row.prog w) A (.call (.ref 44) ⟨[.str nm t], []⟩) (Gives s fun v _ => ∃ t, v = .str (stripOf nm) t) s := by
  w_top off
  k_fill
  intro X T hdep hh hn
  refine code_hide fun RR hPost => ?_
  refine' enter (binds := [(Str.ofString "msg", .str nm t)]) X T ?k6 ?k7 ?k8 ?k9 ?kB ?_ ?c2 ?c3 ?c4 ?c5; (case k6 => k_is); (case k7 => k_is); (case k8 => omega); (case k9 => exact BindsTo.of_eq rfl); (case c5 => decide); (case kB => exact locs rfl); (case c2 => exact rfl); (case c3 => exact rfl); (case c4 => exact rfl)
  intro h₁ F N
  (repeat' (first | (k_unfold; (try dsimp only)) | walk1 | (dsimp only; walk1) | (leave1; try dsimp only) | fail "no step"))
  all_goals (
    rename Fr _ _ _ _ => F9
    rename _ ∨ _ => hr
    refine hPost _ _ ⟨_, _, _, rfl, rfl, F9.keep, _, str_eq ?_⟩
    clear F9
    unfold stripOf
    rcases hr with ⟨h1, rfl⟩ | ⟨h1, rfl⟩ <;> (dsimp only; first | rw [if_pos h1] | rw [if_neg h1]) <;> (first | rw [if_pos ‹0 ≤ findB _ _ _ _›] | rw [if_neg ‹¬ 0 ≤ findB _ _ _ _›]) <;> (first | rw [if_pos ‹0 ≤ rfindB _ _ _ _›] | rw [if_neg ‹¬ 0 ≤ rfindB _ _ _ _›]))
def wantOf (k : Nat) (nm : PySem.Str) : Bool :=
  match k with
  | 0 => nm == Str.ofString "KeyError"
  | 1 => Txt.slice nm none (some 3) == Str.ofString "Key"
  | 2 => Txt.slice nm (some (-5)) none == Str.ofString "Error"
  | 3 => Txt.slice nm none (some 4) == Str.ofString "KeyE" && (Txt.slice nm (some (-5)) none == Str.ofString "Error" && decide (8 < nm.length))
  | _ => true
local macro_rules | `(tactic| walk_at "subscriptTail List cons Name ref int") => `(tactic| (refine item_w (News.isList (by k_asm) (by k_mem)) (by assumption) (by omega) ?_; intro x hx))
theorem wanted_spec {w : World} {A : Around} {s : Shared} {loose : List PySem.Str} {mean : ExcName → Option Value} {mg mb : PySem.Str → Option Value} {k : Nat} {nm : PySem.Str} {t t' : Tok} :
    (hd.heap_39 w.params).In s.heap → Top topProg loose mean mg mb s.heap → A.depth + 1 < recursionLimit → A.handled = none → k < 5 → nm.length < 20 →
    codeAny (model Challenge.rw_qu0013_01.row.prog w) A (.call (.ref 100) ⟨[.int k t, .str nm t'], []⟩) (Gives s fun v _ => v = .bool (wantOf k nm)) s := by
  w_top off
  k_fill
  intro X T hdep hh hk hn
  refine code_hide fun RR hPost => ?_
  refine' enter (binds := [(Str.ofString "kind", .int k t), (Str.ofString "name", .str nm t')]) X T ?k6 ?k7 ?k8 ?k9 ?kB ?_ ?c2 ?c3 ?c4 ?c5; (case k6 => k_is); (case k7 => k_is); (case k8 => omega); (case k9 => exact BindsTo.of_eq rfl); (case c5 => decide); (case kB => exact locs rfl); (case c2 => exact rfl); (case c3 => exact rfl); (case c4 => exact rfl)
  intro h₁ F N
  (repeat' (first | (k_unfold; (try dsimp only)) | walk1 | (dsimp only; walk1) | (leave1; try dsimp only) | fail "no step"))
  all_goals (
    rename Fr _ _ _ _ => F9
    rename _ = some _ => hx
    refine hPost _ _ ⟨_, _, _, rfl, rfl, F9.keep, ?_⟩
    clear F9
    obtain rfl | rfl | rfl | rfl | rfl : k = 0 ∨ k = 1 ∨ k = 2 ∨ k = 3 ∨ k = 4 := by omega
    · exact (Option.some.inj hx).symm
    · exact (Option.some.inj hx).symm
    · exact (Option.some.inj hx).symm
    · refine (Option.some.inj hx).symm.trans ?_
      refine congrArg Value.bool ?_
      unfold wantOf
      first
      | rw [‹(Txt.slice nm none (some 4) == Str.ofString "KeyE") = true›, ‹(Txt.slice nm (some (-5)) none == Str.ofString "Error") = true›, Bool.true_and, Bool.true_and]; exact decide_eq_decide.mpr (by omega)
      | rw [‹(Txt.slice nm none (some 4) == Str.ofString "KeyE") = true›, ‹(Txt.slice nm (some (-5)) none == Str.ofString "Error") = false›]; rfl
      | rw [‹(Txt.slice nm none (some 4) == Str.ofString "KeyE") = false›]; rfl
    · exact (Option.some.inj hx).symm)
end Mine
end

section
namespace Mine
local macro_rules | `(tactic| walk_at "no such key") => `(tactic| skip)
local macro_rules | `(tactic| walk_at "unpackItems ref") => `(tactic| (k_here; k_dflt (refine' unpackItemsN_ ?k1 ?k2 ?k3 ?k4 ?k5 ?_; (case k1 => k_asm); (case k2 => k_asm); (case k3 => kun_tup); (case k4 => assumption); (case k5 => exact rfl); k_whole); intro h' F' N'; (try k_sweep)))
local macro_rules | `(tactic| walk_at "call builtin:str.find") => `(tactic| refine find4 ?_)
local macro_rules | `(tactic| walk_at "call builtin:str.rfind") => `(tactic| refine rfind4 ?_)

def NmOk (nm : PySem.Str) : Prop := nm = Str.ofString "KeyError" ∨ nm = Str.ofString "KeyEndError" ∨ nm = Str.ofString "KeyLost" ∨ nm = Str.ofString "IndexError"
theorem NmOk.len {nm : PySem.Str} (h : NmOk nm) : nm.length < 20 := by
  rcases h with rfl | rfl | rfl | rfl <;> decide +kernel
theorem find_empty {nm : PySem.Str} (h : NmOk nm) : findB nm ⟨#[]⟩ 3 (nm.length : Int) = 3 ∧ findB nm ⟨#[]⟩ 0 (nm.length : Int) = 0 ∧ findB nm ⟨#[]⟩ 0 ((nm.length : Int) - 5) = 0 := by
  rcases h with rfl | rfl | rfl | rfl <;> decide +kernel


theorem iter_empty {prog : Program} {w : World} {A : Around} {E : Value → Shared → Prop} {s : Shared} {env : Env} {h₀ : Heap} {x : PySem.Str} {body : List Stmt} {Q : Flow → Shared → Prop} {L l : Addr} {e : Nat} {vs : List Value} {m₀ : PySem.Str → Option Value} {news : List (Addr × Obj)} {nm : PySem.Str} {t' te tp : Tok} (P ep : Int)
    (hh : A.handled = none) (F : Fr h₀ L s.heap m₀) (N : News h₀ L s.heap news) (hmem : (l, listOf vs.toArray e) ∈ news) (hall : ∀ v ∈ vs, ∃ t, v = .str ⟨#[]⟩ t) (hg : m₀ (Str.ofString "got") = some (.str nm t')) (he : m₀ (Str.ofString "endpos") = some (.int ep te)) (hs : m₀ (Str.ofString "startpos") = some (.int P tp))
    (turn : ∀ (m₁ : PySem.Str → Option Value) h tk I o tv tp, m₁ (Str.ofString "got") = some (.str nm t') → m₁ (Str.ofString "endpos") = some (.int ep te) → m₁ (Str.ofString "startpos") = some (.int P tp) → (∀ p ∈ news, p.1 ≠ I) → Fr h₀ L h (fun y => if y = x then some (.str ⟨#[]⟩ tv) else m₁ y) → News h₀ L h ((I, o) :: news) →
      wpAny (model prog w) A (execs body env) (fun f s₂ => f = .next ∧ ∃ h' tk' m₂ tp', s₂ = { s with heap := h', toks := tk' } ∧ Fr h₀ L h' m₂ ∧ News h₀ L h' ((I, o) :: news) ∧ m₂ (Str.ofString "got") = some (.str nm t') ∧ m₂ (Str.ofString "endpos") = some (.int ep te) ∧ m₂ (Str.ofString "startpos") = some (.int P tp')) E { s with heap := h, toks := tk })
    (done : ∀ m₁ h tk, Fr h₀ L h m₁ → News h₀ L h news → Q .next { s with heap := h, toks := tk }) (hEL : env.locals = L := by rfl) :
    wpAny (model prog w) A (pyIter (.ref l)) (fun it s₂ => LoopAtV prog w A h₀ env x body Q E it s₂) E s := by
  refine iter_lst (fun i m nw => m (Str.ofString "got") = some (.str nm t') ∧ m (Str.ofString "endpos") = some (.int ep te) ∧ (∃ tp, m (Str.ofString "startpos") = some (.int P tp)) ∧ nw = news)
    hh (News.isList N hmem) (N _ hmem).1 (.inr ⟨(N _ hmem).2.2, (N _ hmem).2.1, ?_⟩) F N ⟨hg, he, ⟨_, hs⟩, rfl⟩ ?_ ?_ hEL
  · rintro i m nw ⟨_, _, _, rfl⟩; exact hmem
  · rintro i v m₁ nw h tk I o hv ⟨h1, h2, ⟨tp, h3⟩, rfl⟩ hne F1 N1
    obtain ⟨tv, rfl⟩ := hall v (List.mem_of_getElem? hv)
    refine wpAny_mono (turn m₁ h tk I o tv tp h1 h2 h3 hne F1 N1) (fun f s₂ hf => ?_) (fun _ _ x => x)
    obtain ⟨rfl, h', tk', m₂, tp', rfl, F2, N2, k1, k2, k3⟩ := hf
    exact ⟨rfl, h', tk', m₂, _, rfl, F2, N2, hne, k1, k2, ⟨_, k3⟩, rfl⟩
  · rintro m₁ nw h tk ⟨_, _, _, rfl⟩ F1 N1
    exact done m₁ h tk F1 N1

local macro_rules | `(tactic| walk_at "eval Name") => `(tactic| (k_dflt (refine ld (by with_reducible assumption) (by assumption) ?_)))
local macro_rules | `(tactic| walk_at "loadName") => `(tactic| (k_dflt (refine ldn (by with_reducible assumption) (by assumption) ?_)))

theorem ell0 {w : World} {A : Around} {s : Shared} {loose : List PySem.Str} {mean : ExcName → Option Value} {mg mb : PySem.Str → Option Value} {nm : PySem.Str} {t t' : Tok} :
    (hd.heap_39 w.params).In s.heap → Top topProg loose mean mg mb s.heap → A.depth + 1 < recursionLimit → A.handled = none → NmOk nm →
    codeAny (model Challenge.rw_qu0013_01.row.prog w) A (.call (.ref 37) ⟨[.str (Str.ofString "KeyError") t, .str nm t'], []⟩) (Gives s fun v _ => v = .bool (wantOf 0 nm)) s := by
  w_top off
  k_fill
  intro X T hdep hh hnm
  have hn := hnm.len
  refine code_hide fun RR hPost => ?_
  refine' enter (binds := [(Str.ofString "want", .str (Str.ofString "KeyError") t), (Str.ofString "got", .str nm t')]) X T ?k6 ?k7 ?k8 ?k9 ?kB ?_ ?c2 ?c3 ?c4 ?c5; (case k6 => k_is); (case k7 => k_is); (case k8 => omega); (case k9 => exact BindsTo.of_eq rfl); (case c5 => decide); (case kB => exact locs rfl); (case c2 => exact rfl); (case c3 => exact rfl); (case c4 => exact rfl)
  intro h₁ F N
  iterate 11 walk1
  (case refine_2 => exact absurd ‹List.isEmpty _ = _› (by decide +kernel))
  (repeat' (first | (k_unfold; (try dsimp only)) | walk1 | (dsimp only; walk1) | (leave1; try dsimp only) | fail "no step"))
  all_goals (
    rename Fr _ _ _ _ => F9
    refine hPost _ _ ⟨_, _, _, rfl, rfl, F9.keep, ?_⟩
    clear F9
    refine congrArg Value.bool ?_
    rcases hnm with rfl | rfl | rfl | rfl <;> decide +kernel)

theorem ell1 {w : World} {A : Around} {s : Shared} {loose : List PySem.Str} {mean : ExcName → Option Value} {mg mb : PySem.Str → Option Value} {nm : PySem.Str} {t t' : Tok} :
    (hd.heap_39 w.params).In s.heap → Top topProg loose mean mg mb s.heap → A.depth + 1 < recursionLimit → A.handled = none → NmOk nm →
    codeAny (model Challenge.rw_qu0013_01.row.prog w) A (.call (.ref 37) ⟨[.str (Str.ofString "Key...") t, .str nm t'], []⟩) (Gives s fun v _ => v = .bool (wantOf 1 nm)) s := by
  w_top off
  k_fill
  intro X T hdep hh hnm
  have hn := hnm.len
  refine code_hide fun RR hPost => ?_
  refine' enter (binds := [(Str.ofString "want", .str (Str.ofString "Key...") t), (Str.ofString "got", .str nm t')]) X T ?k6 ?k7 ?k8 ?k9 ?kB ?_ ?c2 ?c3 ?c4 ?c5; (case k6 => k_is); (case k7 => k_is); (case k8 => omega); (case k9 => exact BindsTo.of_eq rfl); (case c5 => decide); (case kB => exact locs rfl); (case c2 => exact rfl); (case c3 => exact rfl); (case c4 => exact rfl)
  intro h₁ F N
  (repeat' (first | (k_unfold; (try dsimp only)) | walk1 | (dsimp only; walk1) | (leave1; try dsimp only) | fail "no step"))
  any_goals (
    rename Fr _ _ _ _ => F1
    rename News _ _ _ _ => N1
    refine iter_empty 3 (nm.length : Int) hh F1 N1 (.tail _ (.head _)) (by simp) rfl rfl rfl ?_ ?_
    · clear F1 N1
      intro m₁ h tk I o tv tp hm1 hm2 hm3 hIne F N
      have hf := (find_empty hnm).1
      have h0 : (⟨#[]⟩ : PySem.Str).length = 0 := rfl
      (repeat' ((with_reducible show wpAny _ _ _ _ _ _); (first | walk1 | (dsimp only; walk1) | fail "no step")))
      rw [if_neg (by rw [hf]; decide)]
      (repeat' ((with_reducible show wpAny _ _ _ _ _ _); (first | walk1 | (dsimp only; walk1) | fail "no step")))
      rename Fr _ _ _ _ => F9
      rename News _ _ _ _ => N9
      rw [hf, h0] at F9
      exact ⟨rfl, _, _, _, _, rfl, F9, N9, hm1, hm2, rfl⟩
    · intro m₁ h tk F2 N2
      (repeat' (first | walk1 | (dsimp only; walk1) | (leave1; try dsimp only) | fail "no step"))
      exact hPost _ _ ⟨_, _, _, rfl, rfl, F2.keep, (by rcases hnm with rfl | rfl | rfl | rfl <;> first | rfl | decide +kernel | exact absurd ‹Txt.startswith _ _ = _› (by decide +kernel) | exact absurd ‹Txt.endswith _ _ = _› (by decide +kernel) | exact absurd (show ((_ : Int) < _) by decide +kernel) ‹¬ _›)⟩)
  all_goals (
    rename Fr _ _ _ _ => F9
    refine hPost _ _ ⟨_, _, _, rfl, rfl, F9.keep, ?_⟩
    clear F9
    refine congrArg Value.bool ?_
    rcases hnm with rfl | rfl | rfl | rfl <;> first
      | decide +kernel
      | exact absurd ‹Txt.startswith _ _ = _› (by decide +kernel)
      | exact absurd ‹Txt.endswith _ _ = _› (by decide +kernel)
      | exact absurd ‹List.isEmpty _ = _› (by decide +kernel)
      | exact absurd ‹_ < _› (by decide +kernel))

theorem ell2 {w : World} {A : Around} {s : Shared} {loose : List PySem.Str} {mean : ExcName → Option Value} {mg mb : PySem.Str → Option Value} {nm : PySem.Str} {t t' : Tok} :
    (hd.heap_39 w.params).In s.heap → Top topProg loose mean mg mb s.heap → A.depth + 1 < recursionLimit → A.handled = none → NmOk nm →
    codeAny (model Challenge.rw_qu0013_01.row.prog w) A (.call (.ref 37) ⟨[.str (Str.ofString "...Error") t, .str nm t'], []⟩) (Gives s fun v _ => v = .bool (wantOf 2 nm)) s := by
  w_top off
  k_fill
  intro X T hdep hh hnm
  have hn := hnm.len
  refine code_hide fun RR hPost => ?_
  refine' enter (binds := [(Str.ofString "want", .str (Str.ofString "...Error") t), (Str.ofString "got", .str nm t')]) X T ?k6 ?k7 ?k8 ?k9 ?kB ?_ ?c2 ?c3 ?c4 ?c5; (case k6 => k_is); (case k7 => k_is); (case k8 => omega); (case k9 => exact BindsTo.of_eq rfl); (case c5 => decide); (case kB => exact locs rfl); (case c2 => exact rfl); (case c3 => exact rfl); (case c4 => exact rfl)
  intro h₁ F N
  (repeat' (first | (k_unfold; (try dsimp only)) | walk1 | (dsimp only; walk1) | (leave1; try dsimp only) | fail "no step"))
  any_goals (
    rename Fr _ _ _ _ => F1
    rename News _ _ _ _ => N1
    refine iter_empty 0 ((nm.length : Int) - 5) hh F1 N1 (.tail _ (.head _)) (by simp) rfl rfl rfl ?_ ?_
    · clear F1 N1
      intro m₁ h tk I o tv tp hm1 hm2 hm3 hIne F N
      have hf := (find_empty hnm).2.2
      have h0 : (⟨#[]⟩ : PySem.Str).length = 0 := rfl
      (repeat' ((with_reducible show wpAny _ _ _ _ _ _); (first | walk1 | (dsimp only; walk1) | fail "no step")))
      rw [if_neg (by rw [hf]; decide)]
      (repeat' ((with_reducible show wpAny _ _ _ _ _ _); (first | walk1 | (dsimp only; walk1) | fail "no step")))
      rename Fr _ _ _ _ => F9
      rename News _ _ _ _ => N9
      rw [hf, h0] at F9
      exact ⟨rfl, _, _, _, _, rfl, F9, N9, hm1, hm2, rfl⟩
    · intro m₁ h tk F2 N2
      (repeat' (first | walk1 | (dsimp only; walk1) | (leave1; try dsimp only) | fail "no step"))
      exact hPost _ _ ⟨_, _, _, rfl, rfl, F2.keep, (by rcases hnm with rfl | rfl | rfl | rfl <;> first | rfl | decide +kernel | exact absurd ‹Txt.startswith _ _ = _› (by decide +kernel) | exact absurd ‹Txt.endswith _ _ = _› (by decide +kernel) | exact absurd (show ((_ : Int) < _) by decide +kernel) ‹¬ _›)⟩)
  all_goals (
    rename Fr _ _ _ _ => F9
    refine hPost _ _ ⟨_, _, _, rfl, rfl, F9.keep, ?_⟩
    clear F9
    refine congrArg Value.bool ?_
    rcases hnm with rfl | rfl | rfl | rfl <;> first
      | decide +kernel
      | exact absurd ‹Txt.startswith _ _ = _› (by decide +kernel)
      | exact absurd ‹Txt.endswith _ _ = _› (by decide +kernel)
      | exact absurd ‹List.isEmpty _ = _› (by decide +kernel)
      | exact absurd ‹_ < _› (by decide +kernel))

theorem ell3 {w : World} {A : Around} {s : Shared} {loose : List PySem.Str} {mean : ExcName → Option Value} {mg mb : PySem.Str → Option Value} {nm : PySem.Str} {t t' : Tok} :
    (hd.heap_39 w.params).In s.heap → Top topProg loose mean mg mb s.heap → A.depth + 1 < recursionLimit → A.handled = none → NmOk nm →
    codeAny (model Challenge.rw_qu0013_01.row.prog w) A (.call (.ref 37) ⟨[.str (Str.ofString "KeyE...Error") t, .str nm t'], []⟩) (Gives s fun v _ => v = .bool (wantOf 3 nm)) s := by
  w_top off
  k_fill
  intro X T hdep hh hnm
  have hn := hnm.len
  refine code_hide fun RR hPost => ?_
  refine' enter (binds := [(Str.ofString "want", .str (Str.ofString "KeyE...Error") t), (Str.ofString "got", .str nm t')]) X T ?k6 ?k7 ?k8 ?k9 ?kB ?_ ?c2 ?c3 ?c4 ?c5; (case k6 => k_is); (case k7 => k_is); (case k8 => omega); (case k9 => exact BindsTo.of_eq rfl); (case c5 => decide); (case kB => exact locs rfl); (case c2 => exact rfl); (case c3 => exact rfl); (case c4 => exact rfl)
  intro h₁ F N
  (repeat' (first | (k_unfold; (try dsimp only)) | walk1 | (dsimp only; walk1) | (leave1; try dsimp only) | fail "no step"))
  any_goals (
    rename Fr _ _ _ _ => F1
    rename News _ _ _ _ => N1
    refine iter_empty 4 ((nm.length : Int) - 5) hh F1 N1 (.tail _ (.head _)) (by simp) rfl rfl rfl ?_ ?_
    · clear F1 N1
      intro m₁ h tk I o tv tp hm1 hm2 hm3 hIne F N
      have hf : findB nm ⟨#[]⟩ 4 ((nm.length : Int) - 5) = 4 := by rcases hnm with rfl | rfl | rfl | rfl <;> first | decide +kernel | exact absurd ‹Txt.startswith _ _ = _› (by decide +kernel) | exact absurd ‹Txt.endswith _ _ = _› (by decide +kernel) | exact (‹¬ (_ < (_ : Int))› (by decide +kernel)).elim
      have h0 : (⟨#[]⟩ : PySem.Str).length = 0 := rfl
      (repeat' ((with_reducible show wpAny _ _ _ _ _ _); (first | walk1 | (dsimp only; walk1) | fail "no step")))
      rw [if_neg (by rw [hf]; decide)]
      (repeat' ((with_reducible show wpAny _ _ _ _ _ _); (first | walk1 | (dsimp only; walk1) | fail "no step")))
      rename Fr _ _ _ _ => F9
      rename News _ _ _ _ => N9
      rw [hf, h0] at F9
      exact ⟨rfl, _, _, _, _, rfl, F9, N9, hm1, hm2, rfl⟩
    · intro m₁ h tk F2 N2
      (repeat' (first | walk1 | (dsimp only; walk1) | (leave1; try dsimp only) | fail "no step"))
      exact hPost _ _ ⟨_, _, _, rfl, rfl, F2.keep, (by rcases hnm with rfl | rfl | rfl | rfl <;> first | rfl | decide +kernel | exact absurd ‹Txt.startswith _ _ = _› (by decide +kernel) | exact absurd ‹Txt.endswith _ _ = _› (by decide +kernel) | exact (‹¬ (_ < (_ : Int))› (by decide +kernel)).elim)⟩)
  all_goals (
    rename Fr _ _ _ _ => F9
    refine hPost _ _ ⟨_, _, _, rfl, rfl, F9.keep, ?_⟩
    clear F9
    refine congrArg Value.bool ?_
    rcases hnm with rfl | rfl | rfl | rfl <;> first
      | decide +kernel
      | exact absurd ‹Txt.startswith _ _ = _› (by decide +kernel)
      | exact absurd ‹Txt.endswith _ _ = _› (by decide +kernel)
      | exact absurd ‹List.isEmpty _ = _› (by decide +kernel)
      | exact absurd ‹_ < _› (by decide +kernel))

theorem ell4 {w : World} {A : Around} {s : Shared} {loose : List PySem.Str} {mean : ExcName → Option Value} {mg mb : PySem.Str → Option Value} {nm : PySem.Str} {t t' : Tok} :
    (hd.heap_39 w.params).In s.heap → Top topProg loose mean mg mb s.heap → A.depth + 1 < recursionLimit → A.handled = none → NmOk nm →
    codeAny (model Challenge.rw_qu0013_01.row.prog w) A (.call (.ref 37) ⟨[.str (Str.ofString "...") t, .str nm t'], []⟩) (Gives s fun v _ => v = .bool (wantOf 4 nm)) s := by
  w_top off
  k_fill
  intro X T hdep hh hnm
  have hn := hnm.len
  refine code_hide fun RR hPost => ?_
  refine' enter (binds := [(Str.ofString "want", .str (Str.ofString "...") t), (Str.ofString "got", .str nm t')]) X T ?k6 ?k7 ?k8 ?k9 ?kB ?_ ?c2 ?c3 ?c4 ?c5; (case k6 => k_is); (case k7 => k_is); (case k8 => omega); (case k9 => exact BindsTo.of_eq rfl); (case c5 => decide); (case kB => exact locs rfl); (case c2 => exact rfl); (case c3 => exact rfl); (case c4 => exact rfl)
  intro h₁ F N
  (repeat' (first | (k_unfold; (try dsimp only)) | walk1 | (dsimp only; walk1) | (leave1; try dsimp only) | fail "no step"))
  any_goals (
    rename Fr _ _ _ _ => F1
    rename News _ _ _ _ => N1
    refine iter_empty 0 (nm.length : Int) hh F1 N1 (.tail _ (.head _)) (by simp) rfl rfl rfl ?_ ?_
    · clear F1 N1
      intro m₁ h tk I o tv tp hm1 hm2 hm3 hIne F N
      have hf := (find_empty hnm).2.1
      have h0 : (⟨#[]⟩ : PySem.Str).length = 0 := rfl
      (repeat' ((with_reducible show wpAny _ _ _ _ _ _); (first | walk1 | (dsimp only; walk1) | fail "no step")))
      rw [if_neg (by rw [hf]; decide)]
      (repeat' ((with_reducible show wpAny _ _ _ _ _ _); (first | walk1 | (dsimp only; walk1) | fail "no step")))
      rename Fr _ _ _ _ => F9
      rename News _ _ _ _ => N9
      rw [hf, h0] at F9
      exact ⟨rfl, _, _, _, _, rfl, F9, N9, hm1, hm2, rfl⟩
    · intro m₁ h tk F2 N2
      (repeat' (first | walk1 | (dsimp only; walk1) | (leave1; try dsimp only) | fail "no step"))
      exact hPost _ _ ⟨_, _, _, rfl, rfl, F2.keep, (by rcases hnm with rfl | rfl | rfl | rfl <;> first | rfl | decide +kernel | exact absurd ‹Txt.startswith _ _ = _› (by decide +kernel) | exact absurd ‹Txt.endswith _ _ = _› (by decide +kernel) | exact absurd (show ((_ : Int) < _) by decide +kernel) ‹¬ _›)⟩)
  all_goals (
    rename Fr _ _ _ _ => F9
    refine hPost _ _ ⟨_, _, _, rfl, rfl, F9.keep, ?_⟩
    clear F9
    refine congrArg Value.bool ?_
    rcases hnm with rfl | rfl | rfl | rfl <;> first
      | decide +kernel
      | exact absurd ‹Txt.startswith _ _ = _› (by decide +kernel)
      | exact absurd ‹Txt.endswith _ _ = _› (by decide +kernel)
      | exact absurd ‹List.isEmpty _ = _› (by decide +kernel)
      | exact absurd ‹_ < _› (by decide +kernel))


def wantS (k : Nat) : PySem.Str :=
  match k with
  | 0 => Str.ofString "KeyError"
  | 1 => Str.ofString "Key..."
  | 2 => Str.ofString "...Error"
  | 3 => Str.ofString "KeyE...Error"
  | _ => Str.ofString "..."
theorem ell_spec {w : World} {A : Around} {s : Shared} {loose : List PySem.Str} {mean : ExcName → Option Value} {mg mb : PySem.Str → Option Value} {nm : PySem.Str} {t t' : Tok} {k : Nat} (hk : k < 5)
    (X : (hd.heap_39 w.params).In s.heap) (T : Top topProg loose mean mg mb s.heap) (hdep : A.depth + 1 < recursionLimit) (hh : A.handled = none) (hnm : NmOk nm) :
    codeAny (model Challenge.rw_qu0013_01.row.prog w) A (.call (.ref 37) ⟨[.str (wantS k) t, .str nm t'], []⟩) (Gives s fun v _ => v = .bool (wantOf k nm)) s := by
  obtain rfl | rfl | rfl | rfl | rfl : k = 0 ∨ k = 1 ∨ k = 2 ∨ k = 3 ∨ k = 4 := by omega
  · exact ell0 X T hdep hh hnm
  · exact ell1 X T hdep hh hnm
  · exact ell2 X T hdep hh hnm
  · exact ell3 X T hdep hh hnm
  · exact ell4 X T hdep hh hnm
theorem strip_msg {d : Nat} {nm : PySem.Str} (hd : d < 4) (h : NmOk nm) : stripOf (msgOf d nm) = nm ∧ (msgOf d nm).length < 100 := by
  obtain rfl | rfl | rfl | rfl : d = 0 ∨ d = 1 ∨ d = 2 ∨ d = 3 := by omega
  all_goals (rcases h with rfl | rfl | rfl | rfl <;> decide +kernel)
end Mine
end

section
namespace Mine
/-- how the law's body ends -/
def LawEnd (H : Heap) (L : Addr) (s : Shared) (f : Flow) (s' : Shared) : Prop := f = .ret (.bool true) ∧ ∃ h' tk m', s' = { s with heap := h', toks := tk } ∧ Fr H L h' m' ∧ ∃ ps news, News H L h' ((81, tabObj ps) :: news)
/-- the law's own def, taken out of the row -/
def lawDef : Stmt := (Challenge.pw_qu0013_01.main.body).getLast?.getD default
def lawBody : List Stmt := match lawDef with | .FunctionDef _ _ b _ _ _ _ _ _ _ => b | _ => []
def lawScope : Scope := match lawDef with | .FunctionDef _ _ _ _ _ _ sc _ _ _ => sc | _ => default
def lawEnv (L fa : Addr) (cd : Value) : Env := envOfC (Str.ofString "law") lawScope L fa cd
theorem News.addAll {h₀ h h' : Heap} {L : Addr} {m : PySem.Str → Option Value} {l news : List (Addr × Obj)} (F : Fr h₀ L h m) (N : News h₀ L h' news) (hl : ∀ p ∈ l, h.get? p.1 = none ∧ h'.get? p.1 = some p.2) : News h₀ L h' (l ++ news) := by
  intro p hp
  rcases List.mem_append.mp hp with hp | hp
  · exact News.add F N (hl p hp).1 (hl p hp).2 p (.head _)
  · exact N p hp
theorem ne_fresh {h : Heap} {a b : Addr} {o : Obj} (hn : h.get? a = none) (hb : h.get? b = some o) : @Ne Nat a b := fun q => by
  have q' : a = b := q
  rw [q', hb] at hn; cases hn
/-- a new address is none of the three that stand -/
theorem ne3 {h₀ h : Heap} {L a b c d : Addr} {o1 o2 o3 : Obj} {news : List (Addr × Obj)} (N : News h₀ L h news) (hn : h.get? a = none) (h1 : (b, o1) ∈ news) (h2 : (c, o2) ∈ news) (h3 : (d, o3) ∈ news) : @Ne Nat a b ∧ @Ne Nat a c ∧ @Ne Nat a d :=
  ⟨ne_fresh hn (N _ h1).1, ne_fresh hn (N _ h2).1, ne_fresh hn (N _ h3).1⟩
theorem updF_mid {d : Addr} {o : Obj} (pre post : List (Addr × Obj)) (h1 : ∀ p ∈ pre, p.1 ≠ d) (h2 : ∀ p ∈ post, p.1 ≠ d) : UpdF d o (pre ++ (d, o) :: post) (fun o' => pre ++ (d, o') :: post) := by
  induction pre with
  | nil => exact .head h2
  | cons q pre ih => exact .tail (h1 q (.head _)) (ih fun p hp => h1 p (.tail _ hp))
theorem off1_mem {D : Addr} : ∀ {l : List (Addr × Obj)}, LCg.Off1 D l → ∀ p ∈ l, @Ne Nat p.1 D
  | [], _, _, h => nomatch h
  | _ :: _, x, p, h => by
    rcases List.mem_cons.mp h with rfl | h
    · exact x.1
    · exact off1_mem x.2 p h
theorem sub0 {α : Type} {l : List α} : ∀ p ∈ ([] : List α), p ∈ l := fun _ h => nomatch h
theorem subc {α : Type} {a : α} {r l : List α} (h : a ∈ l) (t : ∀ p ∈ r, p ∈ l) : ∀ p ∈ a :: r, p ∈ l := List.forall_mem_cons.mpr ⟨h, t⟩
theorem suba {α : Type} {a b l : List α} (h1 : ∀ p ∈ a, p ∈ l) (h2 : ∀ p ∈ b, p ∈ l) : ∀ p ∈ a ++ b, p ∈ l := fun p hp => (List.mem_append.mp hp).elim (h1 p) (h2 p)
theorem subk {α : Type} {a : α} {l r : List α} (h : ∀ p ∈ r, p ∈ l) : ∀ p ∈ r, p ∈ a :: l := fun p hp => .tail _ (h p hp)
theorem subl {α : Type} {l r : List α} : ∀ p ∈ r, p ∈ r ++ l := fun _ hp => List.mem_append_left _ hp
theorem subr {α : Type} {a l r : List α} (h : ∀ p ∈ r, p ∈ l) : ∀ p ∈ r, p ∈ a ++ l := fun p hp => List.mem_append_right _ (h p hp)
theorem subi {α : Type} {r : List α} : ∀ p ∈ r, p ∈ r := fun _ hp => hp
theorem ne0 {d : Addr} : ∀ p ∈ ([] : List (Addr × Obj)), @Ne Nat p.1 d := fun _ h => nomatch h
theorem nec {a d : Addr} {o : Obj} {r : List (Addr × Obj)} (h : @Ne Nat a d) (t : ∀ p ∈ r, @Ne Nat p.1 d) : ∀ p ∈ (a, o) :: r, @Ne Nat p.1 d := List.forall_mem_cons.mpr ⟨h, t⟩
section
variable {prog : Program} {w : World} {A : Around} {s : Shared} {h₀ : Heap} {L : Addr} {m : PySem.Str → Option Value} {env : Env} {elt : PySem.Expr} {x : PySem.Str} {scope : Scope} {cl : List (PySem.Str × Addr)} {news : List (Addr × Obj)}
theorem comp_ints {Fin : List Value → List (Addr × Obj) → Prop} (f : Nat → Int) (n : Nat)
    (turn : ∀ i t I oI C oC D (ys : List Value) m₂ h tk (E' : Value → Shared → Prop), i < n → LCg.NsObj oC m₂ → m₂ x = some (.int ((i : Nat) : Int) t) → Fr h₀ L h m → News h₀ L h ((I, oI) :: (C, oC) :: (D, LCg.lst ys) :: news) → ((@Ne Nat I C) ∧ (@Ne Nat I D) ∧ (@Ne Nat C D)) →
      wpAny (model prog w) A (eval elt (compEnvC scope cl C env)) (fun y s₂ => ∃ t h' tk', y = .int (f i) t ∧ s₂ = { s with heap := h', toks := tk' } ∧ Fr h₀ L h' m ∧ News h₀ L h' ((I, oI) :: (C, oC) :: (D, LCg.lst ys) :: news)) E' { s with heap := h, toks := tk })
    (fin : ∀ ys, IntsAre ys ((List.range n).map f) → Fin ys news) :
    ∀ k i ys, i + k = n → IntsAre ys ((List.range i).map f) → LCg.CompRest prog w A h₀ L m env elt x scope cl s (fun _ => True) (fun i v => ∃ t, v = .int ((0 : Int) + (i : Int)) t) Fin k i ys news := by
  intro k
  induction k with
  | zero => intro i ys hi hI; subst hi; exact fin ys hI
  | succ k ih =>
    intro i ys hi hI
    intro v I oI C oC D m₂ h tk E' hP hC hx F N off hne
    obtain ⟨t, rfl⟩ := hP
    rw [Int.zero_add] at hx
    refine wpAny_mono (turn i t I oI C oC D ys m₂ h tk E' (by omega) hC hx F N hne) (fun y s₂ hy => ?_) fun _ _ e => e
    obtain ⟨t', h', tk', rfl, rfl, F', N'⟩ := hy
    refine ⟨h', tk', news, rfl, F', N', off, True.intro, ih (i + 1) _ (by omega) ?_⟩
    rw [List.range_succ, List.map_append]
    exact IntsAre.snoc hI _ _
theorem comp_rng {Fin : Shared → List Value → List (Addr × Obj) → Prop} {r : Addr} {t u v : Tok} {n : Nat} (f : Nat → Int) (hh : A.handled = none) (F : Fr h₀ L s.heap m) (N : News h₀ L s.heap news) (hr : IsRange s.heap r 0 (n : Int) 1 t u v) (hn : n ≤ 1000000)
    (turn : ∀ i t I oI C oC D (ys : List Value) m₂ h tk (E' : Value → Shared → Prop), i < n → LCg.NsObj oC m₂ → m₂ x = some (.int ((i : Nat) : Int) t) → Fr h₀ L h m → News h₀ L h ((I, oI) :: (C, oC) :: (D, LCg.lst ys) :: news) → ((@Ne Nat I C) ∧ (@Ne Nat I D) ∧ (@Ne Nat C D)) →
      wpAny (model prog w) A (eval elt (compEnvC scope cl C env)) (fun y s₂ => ∃ t h' tk', y = .int (f i) t ∧ s₂ = { s with heap := h', toks := tk' } ∧ Fr h₀ L h' m ∧ News h₀ L h' ((I, oI) :: (C, oC) :: (D, LCg.lst ys) :: news)) E' { s with heap := h, toks := tk })
    (fin : ∀ g ys, IntsAre ys ((List.range n).map f) → Fin { s with heap := g } ys news) :
    LCg.CompSrc prog w A h₀ L m env elt x scope cl Fin (.ref r) s :=
  LCg.CompSrc.range hh F N hr (small_nat n hn) (size_nat n) (by rw [sizeLine_eq]; omega) fun g => comp_ints (s := { s with heap := g }) f n (fun i t I oI C oC D ys m₂ h tk E' h1 h2 h3 h4 h5 h6 => turn i t I oI C oC D ys m₂ h tk E' h1 h2 h3 h4 h5 h6) (fin g) n 0 [] (by omega) .nil
end
theorem lawDep (e : Env) : (callerA.deeper e).depth + 20 < recursionLimit := by rw [depth_deeper]; decide
theorem lawUnits (e : Env) : (callerA.deeper e).units + 200 < cLine := by rw [Around.deeper_units]; decide
end Mine
end

section
namespace Mine
theorem neL {d : Addr} : ∀ {r : List (Addr × Obj)}, AllLt d r → ∀ p ∈ r, @Ne Nat p.1 d := fun h p hp => Nat.ne_of_lt (allLt_mem h p hp)
/-- the plain data of the law: what lies where, and which block lies around it -/
structure LawOk (S B G M : List Nat) (I P Kd : List Int) : Prop where
  lS : S.length = 5 + P.length
  lB : B.length = S.length
  lI : I.length = S.length
  lG : G.length = P.length
  lM : M.length = P.length
  lK : Kd.length = P.length
  lP : P.length ≤ 5
  bI : ∀ x ∈ I, -1 ≤ x ∧ x < P.length
  bP : ∀ (j : Nat) (x : Int), P[j]? = some x → -1 ≤ x ∧ x < j
  bK : ∀ x ∈ Kd, 0 ≤ x ∧ x < 5
  hB0 : B.getD 0 0 = 0
  hB : ∀ k, k + 1 < S.length → B.getD (k + 1) 0 = B.getD k 0 + S.getD k 0
  hS : ∀ k, k < S.length → 1 ≤ S.getD k 0 ∧ S.getD k 0 ≤ 5000
  hG : ∀ b, b < P.length → G.getD b 0 = B.getD (5 + b) 0
  hI5 : ∀ b, b < P.length → I.getD (5 + b) (-1) = P.getD b (-1)
  hM : ∀ x ∈ M, x < 100

def natl (l : List Nat) : List Int := l.map fun n => ((n : Nat) : Int)
theorem natl_toNat (l : List Int) (h : ∀ x ∈ l, 0 ≤ x) : natl (l.map Int.toNat) = l := by
  unfold natl
  rw [List.map_map]
  conv => rhs; rw [← List.map_id l]
  exact List.map_congr_left fun x hx => by have := h x hx; simp; omega
theorem natl_length (l : List Nat) : (natl l).length = l.length := by unfold natl; simp
theorem natl_get {l : List Nat} {k : Nat} (h : k < l.length) : (natl l)[k]? = some ((l.getD k 0 : Nat) : Int) := by
  unfold natl
  rw [List.getElem?_map, List.getElem?_eq_getElem h, List.getD_eq_getElem?_getD, List.getElem?_eq_getElem h]; rfl

theorem sum_nonneg' : ∀ (l : List Int), (∀ x ∈ l, 0 ≤ x) → 0 ≤ l.sum
  | [], _ => by simp
  | a :: l, h => by
    have := sum_nonneg' l fun x hx => h x (.tail _ hx)
    have := h a (.head _)
    rw [List.sum_cons]; omega
theorem take_sum_succ (l : List Int) (k : Nat) (h : k < l.length) : (l.take (k + 1)).sum = (l.take k).sum + l.getD k 0 := by
  rw [List.take_add_one, List.getElem?_eq_getElem h, List.sum_append, List.getD_eq_getElem?_getD, List.getElem?_eq_getElem h]; simp
theorem getD_toNat (l : List Int) (k : Nat) : (l.map Int.toNat).getD k 0 = (l.getD k 0).toNat := by
  rw [List.getD_eq_getElem?_getD, List.getD_eq_getElem?_getD, List.getElem?_map]
  cases l[k]? <;> rfl
theorem getD_range_map (f : Nat → Int) (n k : Nat) (h : k < n) : ((List.range n).map f).getD k 0 = f k := by
  rw [List.getD_eq_getElem?_getD, List.getElem?_map, List.getElem?_range h]; rfl
theorem sum_repl (n : Nat) : (List.replicate n (7 : Int)).sum = 7 * (n : Int) := by
  induction n with
  | zero => rfl
  | succ n ih => rw [List.replicate_succ, List.sum_cons, ih]; omega

/-- the lists of the law's text are as the structure says -/
theorem lawOk_mk {inner sizes parents kinds dl : List Int} (hok : ProgOk 5 inner sizes parents kinds) (hd : dl.length = parents.length) (hdb : ∀ x ∈ dl, 0 ≤ x ∧ x ≤ 5) :
    LawOk ((sizes ++ List.replicate parents.length 7).map Int.toNat) (((List.range (5 + parents.length)).map fun i => ((sizes ++ List.replicate parents.length 7).take i).sum).map Int.toNat)
      (((List.range parents.length).map fun i => sizes.sum + 7 * ((i : Nat) : Int)).map Int.toNat) (((List.range parents.length).map fun i => 2 * dl.getD i 0 + ((i : Nat) : Int).fmod 2).map Int.toNat) (inner ++ parents) parents kinds := by
  have hlen : (sizes ++ List.replicate parents.length (7 : Int)).length = 5 + parents.length := by rw [List.length_append, List.length_replicate, hok.ls]
  have hpos : ∀ x ∈ sizes ++ List.replicate parents.length (7 : Int), 1 ≤ x ∧ x ≤ 5000 := fun x hx => by
    rcases List.mem_append.mp hx with hx | hx
    · exact hok.bs x hx
    · rw [List.eq_of_mem_replicate hx]; omega
  have hnn : ∀ k, 0 ≤ ((sizes ++ List.replicate parents.length (7 : Int)).take k).sum := fun k => sum_nonneg' _ fun x hx => by have := hpos x (List.mem_of_mem_take hx); omega
  have hmem : ∀ k, k < 5 + parents.length → 1 ≤ (sizes ++ List.replicate parents.length (7 : Int)).getD k 0 ∧ (sizes ++ List.replicate parents.length (7 : Int)).getD k 0 ≤ 5000 := fun k hk => by
    rw [List.getD_eq_getElem?_getD, List.getElem?_eq_getElem (by omega)]
    exact hpos _ (List.getElem_mem _)
  refine ⟨by simp [hok.ls], by simp [hok.ls], by simp [hok.li, hok.ls], by simp, by simp, hok.lk, hok.lp, ?_, hok.bp, hok.bk, ?_, ?_, ?_, ?_, ?_, ?_⟩
  · intro x hx
    rcases List.mem_append.mp hx with hx | hx
    · exact hok.bi x hx
    · obtain ⟨j, hj⟩ := List.mem_iff_getElem?.mp hx
      have := hok.bp j x hj
      have := (List.getElem?_eq_some_iff.mp hj).1
      omega
  · rw [getD_toNat, getD_range_map _ _ _ (by omega)]; simp
  · intro k hk
    rw [List.length_map, hlen] at hk
    rw [getD_toNat, getD_toNat, getD_toNat, getD_range_map _ _ _ hk, getD_range_map _ _ _ (by omega), take_sum_succ _ _ (by omega)]
    have := hnn k
    have := hmem k (by omega)
    omega
  · intro k hk
    rw [List.length_map, hlen] at hk
    rw [getD_toNat]
    have := hmem k hk
    omega
  · intro b hb
    rw [getD_toNat, getD_toNat, getD_range_map _ _ _ hb, getD_range_map _ _ _ (by omega), ← hok.ls, List.take_length_add_append, List.sum_append, List.take_replicate, sum_repl, Nat.min_eq_left (by omega)]
  · intro b hb
    rw [List.getD_eq_getElem?_getD, ← hok.li, List.getElem?_append_right (by omega), Nat.add_sub_cancel_left, List.getD_eq_getElem?_getD]
  · intro x hx
    obtain ⟨y, hy, rfl⟩ := List.mem_map.mp hx
    obtain ⟨i, hi, rfl⟩ := List.mem_map.mp hy
    have h1 : 0 ≤ dl.getD i 0 ∧ dl.getD i 0 ≤ 5 := by
      rw [List.getD_eq_getElem?_getD, List.getElem?_eq_getElem (by have := List.mem_range.mp hi; omega)]
      exact hdb _ (List.getElem_mem _)
    have h2 := Int.fmod_lt_of_pos ((i : Nat) : Int) (show (0 : Int) < 2 by decide)
    omega
theorem law_nn {inner sizes parents kinds dl : List Int} (hok : ProgOk 5 inner sizes parents kinds) (hd : dl.length = parents.length) (hdb : ∀ x ∈ dl, 0 ≤ x ∧ x ≤ 5) :
    (∀ x ∈ sizes ++ List.replicate parents.length (7 : Int), 0 ≤ x) ∧ (∀ x ∈ (List.range (5 + parents.length)).map fun i => ((sizes ++ List.replicate parents.length (7 : Int)).take i).sum, 0 ≤ x) ∧
    (∀ x ∈ (List.range parents.length).map fun i => sizes.sum + 7 * ((i : Nat) : Int), 0 ≤ x) ∧ (∀ x ∈ (List.range parents.length).map fun i => 2 * dl.getD i 0 + ((i : Nat) : Int).fmod 2, 0 ≤ x) := by
  have hpos : ∀ x ∈ sizes ++ List.replicate parents.length (7 : Int), 0 ≤ x := fun x hx => by
    rcases List.mem_append.mp hx with hx | hx
    · have := hok.bs x hx; omega
    · rw [List.eq_of_mem_replicate hx]; omega
  refine ⟨hpos, ?_, ?_, ?_⟩
  · intro x hx
    obtain ⟨i, _, rfl⟩ := List.mem_map.mp hx
    exact sum_nonneg' _ fun x hx => hpos x (List.mem_of_mem_take hx)
  · intro x hx
    obtain ⟨i, _, rfl⟩ := List.mem_map.mp hx
    have := sum_nonneg' sizes fun x hx => hpos x (List.mem_append_left _ hx)
    omega
  · intro x hx
    obtain ⟨i, hi, rfl⟩ := List.mem_map.mp hx
    have h1 : 0 ≤ dl.getD i 0 ∧ dl.getD i 0 ≤ 5 := by
      rw [List.getD_eq_getElem?_getD, List.getElem?_eq_getElem (by have := List.mem_range.mp hi; omega)]
      exact hdb _ (List.getElem_mem _)
    have h2 := Int.fmod_nonneg_of_pos ((i : Nat) : Int) (show (0 : Int) < 2 by decide)
    omega
end Mine
end

section
namespace Mine
/-- where the k-th piece begins -/
def pos (S : List Nat) (k : Nat) : Nat := (S.take k).sum
theorem pos_succ (S : List Nat) (k : Nat) (h : k < S.length) : pos S (k + 1) = pos S k + S.getD k 0 := by
  unfold pos
  rw [List.take_add_one, List.getElem?_eq_getElem h, List.sum_append, List.getD_eq_getElem?_getD, List.getElem?_eq_getElem h]; simp
section
variable {S B G M : List Nat} {I P Kd : List Int}
theorem LawOk.pos_eq (hok : LawOk S B G M I P Kd) : ∀ k, k < S.length → B.getD k 0 = pos S k
  | 0, _ => by rw [hok.hB0]; rfl
  | k + 1, h => by rw [hok.hB k h, hok.pos_eq k (by omega), pos_succ S k (by omega)]
theorem LawOk.pos_lt (hok : LawOk S B G M I P Kd) {j k : Nat} (h : j < k) (hk : k ≤ S.length) : pos S j < pos S k := by
  induction k with
  | zero => omega
  | succ k ih =>
    rw [pos_succ S k (by omega)]
    have h1 := hok.hS k (by omega)
    rcases Nat.lt_or_ge j k with hj | hj
    · have := ih hj (by omega); omega
    · have : j = k := by omega
      subst this; omega
theorem LawOk.pos_le (hok : LawOk S B G M I P Kd) {j k : Nat} (h : j ≤ k) (hk : k ≤ S.length) : pos S j ≤ pos S k := by
  rcases Nat.lt_or_ge j k with hj | hj
  · exact Nat.le_of_lt (hok.pos_lt hj hk)
  · have : j = k := by omega
    subst this; exact Nat.le_refl _
theorem LawOk.pos_bd (hok : LawOk S B G M I P Kd) : ∀ k, k ≤ S.length → pos S k ≤ 5000 * k
  | 0, _ => by simp [pos]
  | k + 1, h => by
    rw [pos_succ S k (by omega)]
    have := hok.pos_bd k (by omega)
    have := hok.hS k (by omega)
    omega
/-- the rows made of the first k pieces, the newest first -/
structure RInv (S G M : List Nat) (I : List Int) (k : Nat) (rr : List Row) : Prop where
  a : ∀ r ∈ rr, 1 ≤ r.s ∧ r.b + r.s ≤ pos S k ∧ ∃ q, q < G.length ∧ r.g = G.getD q 0 ∧ r.m = M.getD q 0
  b : rr.Pairwise (fun x y => y.b + y.s ≤ x.b)
  c : ∀ j, j < k → 0 ≤ I.getD j (-1) → ∃ r ∈ rr, r.b ≤ pos S j ∧ pos S (j + 1) ≤ r.b + r.s ∧ r.g = G.getD (I.getD j (-1)).toNat 0 ∧ r.m = M.getD (I.getD j (-1)).toNat 0
  d : ∀ j, j < k → I.getD j (-1) < 0 → ∀ r ∈ rr, r.b + r.s ≤ pos S j ∨ pos S (j + 1) ≤ r.b
  e : 0 < k → 0 ≤ I.getD (k - 1) (-1) → ∃ r t, rr = r :: t ∧ r.b + r.s = pos S k ∧ r.g = G.getD (I.getD (k - 1) (-1)).toNat 0 ∧ r.m = M.getD (I.getD (k - 1) (-1)).toNat 0
theorem LawOk.getI (hok : LawOk S B G M I P Kd) {k : Nat} (hk : k < S.length) : I[k]? = some (I.getD k (-1)) ∧ -1 ≤ I.getD k (-1) ∧ I.getD k (-1) < P.length := by
  have h : I[k]? = some (I.getD k (-1)) := by rw [List.getD_eq_getElem?_getD, List.getElem?_eq_getElem (by have := hok.lI; omega)]; rfl
  exact ⟨h, hok.bI _ (List.mem_of_getElem? h)⟩
theorem LawOk.rinv (hok : LawOk S B G M I P Kd) : ∀ k, k ≤ S.length → RInv S G M I k (rowsTo B S G M I k)
  | 0, _ => ⟨fun r hr => (nomatch hr), List.Pairwise.nil, fun j h => absurd h (Nat.not_lt_zero _), fun j h => absurd h (Nat.not_lt_zero _), fun h => absurd h (Nat.lt_irrefl _)⟩
  | k + 1, hk => by
    have R := hok.rinv k (by omega)
    have hI := hok.getI (show k < S.length by omega)
    have hS := hok.hS k (by omega)
    have hps := pos_succ S k (by omega)
    have hBk := hok.pos_eq k (by omega)
    show RInv S G M I (k + 1) (rstep B S G M I k (rowsTo B S G M I k))
    generalize rowsTo B S G M I k = rr at R
    have hGl := hok.lG
    have hup : ∀ r ∈ rr, 1 ≤ r.s ∧ r.b + r.s ≤ pos S (k + 1) ∧ ∃ q, q < G.length ∧ r.g = G.getD q 0 ∧ r.m = M.getD q 0 := fun r hr => by
      obtain ⟨h1, h2, h3⟩ := R.a r hr; exact ⟨h1, by omega, h3⟩
    unfold rstep
    by_cases c1 : 0 ≤ I.getD k (-1) ∧ 0 < k ∧ I.getD (k - 1) (-1) = I.getD k (-1)
    · rw [if_pos c1]
      obtain ⟨r, t, rfl, hr1, hr2, hr3⟩ := R.e c1.2.1 (by rw [c1.2.2]; exact c1.1)
      rw [c1.2.2] at hr2 hr3
      have hra := R.a r (.head _)
      obtain ⟨hb1, hb2⟩ := List.pairwise_cons.mp R.b
      refine ⟨?_, List.pairwise_cons.mpr ⟨hb1, hb2⟩, ?_, ?_, ?_⟩
      · intro r' hr'
        rcases List.mem_cons.mp hr' with rfl | hr'
        · refine ⟨?_, ?_, hra.2.2⟩
          · show 1 ≤ r.s + S.getD k 0; omega
          · show r.b + (r.s + S.getD k 0) ≤ _; omega
        · exact hup r' (.tail _ hr')
      · intro j hj hIj
        rcases Nat.lt_or_ge j k with hjk | hjk
        · obtain ⟨r', hr', g1, g2, g3, g4⟩ := R.c j hjk hIj
          rcases List.mem_cons.mp hr' with rfl | hr'
          · exact ⟨_, .head _, g1, by show _ ≤ r'.b + (r'.s + S.getD k 0); omega, g3, g4⟩
          · exact ⟨r', .tail _ hr', g1, g2, g3, g4⟩
        · have : j = k := by omega
          subst this
          exact ⟨_, .head _, by show r.b ≤ _; omega, by show _ ≤ r.b + (r.s + S.getD j 0); omega, hr2, hr3⟩
      · intro j hj hIj r' hr'
        have hjk : j < k := by
          rcases Nat.lt_or_ge j k with h | h
          · exact h
          · have : j = k := by omega
            subst this; omega
        rcases List.mem_cons.mp hr' with rfl | hr'
        · have := R.d j hjk hIj r (.head _)
          have := hok.pos_lt hjk (by omega)
          right; show _ ≤ r.b; omega
        · exact R.d j hjk hIj r' (.tail _ hr')
      · intro _ _
        exact ⟨_, _, rfl, by show r.b + (r.s + S.getD k 0) = _; omega, hr2, hr3⟩
    · rw [if_neg c1]
      by_cases c2 : 0 ≤ I.getD k (-1)
      · rw [if_pos c2]
        refine ⟨?_, List.pairwise_cons.mpr ⟨?_, R.b⟩, ?_, ?_, ?_⟩
        · intro r' hr'
          rcases List.mem_cons.mp hr' with rfl | hr'
          · exact ⟨hS.1, by show B.getD k 0 + S.getD k 0 ≤ _; omega, (I.getD k (-1)).toNat, by omega, rfl, rfl⟩
          · exact hup r' hr'
        · intro r' hr'
          have := (R.a r' hr').2.1
          show _ ≤ B.getD k 0
          omega
        · intro j hj hIj
          rcases Nat.lt_or_ge j k with hjk | hjk
          · obtain ⟨r', hr', g⟩ := R.c j hjk hIj
            exact ⟨r', .tail _ hr', g⟩
          · have : j = k := by omega
            subst this
            exact ⟨_, .head _, by show B.getD j 0 ≤ _; omega, by show _ ≤ B.getD j 0 + S.getD j 0; omega, rfl, rfl⟩
        · intro j hj hIj r' hr'
          have hjk : j < k := by
            rcases Nat.lt_or_ge j k with h | h
            · exact h
            · have : j = k := by omega
              subst this; omega
          rcases List.mem_cons.mp hr' with rfl | hr'
          · have := hok.pos_le (show j + 1 ≤ k by omega) (by omega)
            right; show _ ≤ B.getD k 0; omega
          · exact R.d j hjk hIj r' hr'
        · intro _ _
          exact ⟨_, _, rfl, by show B.getD k 0 + S.getD k 0 = _; omega, rfl, rfl⟩
      · rw [if_neg c2]
        refine ⟨hup, R.b, ?_, ?_, ?_⟩
        · intro j hj hIj
          rcases Nat.lt_or_ge j k with hjk | hjk
          · exact R.c j hjk hIj
          · have : j = k := by omega
            subst this; omega
        · intro j hj hIj r' hr'
          rcases Nat.lt_or_ge j k with hjk | hjk
          · exact R.d j hjk hIj r' hr'
          · have : j = k := by omega
            subst this; exact .inl (R.a r' hr').2.1
        · intro _ h
          have : k + 1 - 1 = k := rfl
          rw [this] at h
          omega
theorem LawOk.rows_ge (hok : LawOk S B G M I P Kd) : ∀ d, rowsTo B S G M I (S.length + d) = rowsTo B S G M I S.length
  | 0 => rfl
  | d + 1 => by
    show rstep B S G M I (S.length + d) (rowsTo B S G M I (S.length + d)) = _
    have h : I.getD (S.length + d) (-1) = -1 := by rw [List.getD_eq_getElem?_getD, List.getElem?_eq_none (by have := hok.lI; omega)]; rfl
    unfold rstep
    rw [h, if_neg (fun c => absurd c.1 (by decide)), if_neg (by decide)]
    exact hok.rows_ge d
theorem rows_bd (hok : LawOk S B G M I P Kd) : ∀ k, ∀ r ∈ rowsTo B S G M I k, r.b < 2 ^ 20 ∧ r.s < 2 ^ 20 ∧ r.g < 2 ^ 20 ∧ r.m < 2 ^ 20 := by
  have main : ∀ k, k ≤ S.length → ∀ r ∈ rowsTo B S G M I k, r.b < 2 ^ 20 ∧ r.s < 2 ^ 20 ∧ r.g < 2 ^ 20 ∧ r.m < 2 ^ 20 := by
    intro k hk r hr
    obtain ⟨h1, h2, q, hq, h3, h4⟩ := (hok.rinv k hk).a r hr
    have hb := hok.pos_bd k hk
    have hl := hok.lS
    have hp := hok.lP
    have hGl := hok.lG
    have hg : r.g ≤ 50000 := by
      rw [h3, hok.hG q (by omega), hok.pos_eq _ (by omega)]
      have := hok.pos_bd (5 + q) (by omega)
      omega
    have hm : r.m < 100 := by
      rw [h4, List.getD_eq_getElem?_getD, List.getElem?_eq_getElem (by have := hok.lM; omega)]
      exact hok.hM _ (List.getElem_mem _)
    omega
  intro k
  rcases Nat.lt_or_ge k S.length with h | h
  · exact main k (by omega)
  · obtain ⟨d, rfl⟩ : ∃ d, k = S.length + d := ⟨k - S.length, by omega⟩
    rw [hok.rows_ge d]
    exact main _ (Nat.le_refl _)
theorem rows_len : ∀ k, (rowsTo B S G M I k).length ≤ k
  | 0 => Nat.le_refl _
  | k + 1 => by
    show (rstep B S G M I k (rowsTo B S G M I k)).length ≤ k + 1
    have h := rows_len k
    unfold rstep
    split
    · split
      · exact Nat.zero_le _
      · rename_i e
        rw [e] at h
        simp at h ⊢
        omega
    · split
      · simp; exact h
      · exact Nat.le_succ_of_le h
/-- which block lies around a place, as the drawn blocks tell it -/
def dueOf (G M : List Nat) (x : Int) : Option (Nat × Nat) := if 0 ≤ x then some (G.getD x.toNat 0, M.getD x.toNat 0) else none
theorem rows_sorted (hok : LawOk S B G M I P Kd) : (rowsTo B S G M I S.length).reverse.Pairwise (fun a b => a.b ≤ b.b) := by
  rw [List.pairwise_reverse]
  exact (hok.rinv _ (Nat.le_refl _)).b.imp fun h => by omega
theorem look_due (hok : LawOk S B G M I P Kd) {j place : Nat} {res : Option (Nat × Nat)} (hj : j < S.length) (h1 : pos S j ≤ place) (h2 : place < pos S (j + 1)) (h : LookIs (rowsTo B S G M I S.length).reverse place res) : res = dueOf G M (I.getD j (-1)) := by
  have R := hok.rinv _ (Nat.le_refl _)
  generalize rowsTo B S G M I S.length = rr at R h
  have hs : rr.reverse.Pairwise (fun x y => x.b + x.s ≤ y.b) := by rw [List.pairwise_reverse]; exact R.b
  unfold dueOf
  by_cases c : 0 ≤ I.getD j (-1)
  · rw [if_pos c]
    obtain ⟨r0, hr0, g1, g2, g3, g4⟩ := R.c j hj c
    have hr0' : r0 ∈ rr.reverse := List.mem_reverse.mpr hr0
    rcases h with ⟨h, _⟩ | ⟨pre, r, post, he, hle, hpost, hres⟩
    · have := h r0 hr0'; omega
    · rw [he] at hr0' hs
      rcases List.mem_append.mp hr0' with hm | hm
      · have := (List.pairwise_append.mp hs).2.2 r0 hm r (.head _)
        omega
      · rcases List.mem_cons.mp hm with rfl | hm
        · rw [hres, if_neg (by omega), g3, g4]
        · have := hpost r0 hm; omega
  · rw [if_neg c]
    rcases h with ⟨_, h⟩ | ⟨pre, r, post, he, hle, hpost, hres⟩
    · exact h
    · have hr : r ∈ rr := List.mem_reverse.mp (by rw [he]; simp)
      have := R.d j hj (by omega) r hr
      rw [hres, if_pos (by omega)]
end
end Mine
end

section
namespace Mine
/-- a list of ints of the ledger -/
def InF (fix : List (Addr × Obj)) (a : Addr) (l : List Int) : Prop := ∃ vs e, (a, listOf (List.toArray vs) e) ∈ fix ∧ IntsAre vs l
theorem InF.sub {fix news : List (Addr × Obj)} {a : Addr} {l : List Int} (h : InF fix a l) (hs : ∀ p ∈ fix, p ∈ news) : InF news a l := by
  obtain ⟨vs, e, hm, hi⟩ := h
  exact ⟨vs, e, hs _ hm, hi⟩
theorem valueAt_stored (kvs : List (Int × Value)) (k k' : Int) (v : Value) : valueAt (stored kvs k v) k' = if k = k' then some v else valueAt kvs k' := by
  unfold stored
  by_cases c : (kvs.any fun kv => decide (kv.1 = k)) = true
  · rw [if_pos c]
    unfold valueAt
    rw [List.find?_map]
    have e : ((fun kv : Int × Value => decide (kv.1 = k')) ∘ fun kv => if kv.1 = k then (kv.1, v) else kv) = fun kv => decide (kv.1 = k') := by
      funext kv
      simp only [Function.comp]
      split <;> rfl
    rw [e]
    by_cases hk : k = k'
    · subst hk
      rw [if_pos rfl]
      cases h : kvs.find? fun kv => decide (kv.1 = k) with
      | none =>
        obtain ⟨x, hx, hxk⟩ := List.any_eq_true.mp c
        exact absurd hxk (by have := List.find?_eq_none.mp h x hx; simpa using this)
      | some q =>
        have := List.find?_some h
        simp at this
        simp [this]
    · rw [if_neg hk]
      cases h : kvs.find? fun kv => decide (kv.1 = k') with
      | none => rfl
      | some q =>
        have h2 := List.find?_some h
        simp at h2
        have h3 : ¬ q.1 = k := fun z => hk (z.symm.trans h2)
        simp [h3]
  · rw [if_neg c]
    unfold valueAt
    rw [List.find?_append]
    by_cases hk : k = k'
    · subst hk
      rw [if_pos rfl]
      have : kvs.find? (fun kv => decide (kv.1 = k)) = none := List.find?_eq_none.mpr fun x hx hxk => c (List.any_eq_true.mpr ⟨x, hx, hxk⟩)
      rw [this]
      simp
    · rw [if_neg hk]
      cases h : kvs.find? fun kv => decide (kv.1 = k') with
      | none => simp [hk]
      | some q => rfl
theorem stored_len (kvs : List (Int × Value)) (k : Int) (v : Value) : (stored kvs k v).length ≤ kvs.length + 1 := by
  unfold stored
  split
  · simp
  · simp

/-- the object of a pair that a look hands back -/
abbrev tupObj (g m : Nat) (tg tm : Tok) : Obj := { cls := .type "tuple", data := .seq #[.int ((g : Nat) : Int) tg, .int ((m : Nat) : Int) tm] }
/-- a look's answer as the ledger bears it -/
def VIs (tl : List (Addr × Obj)) (v : Value) : Option (Nat × Nat) → Prop
  | none => v = .none
  | some (g, m) => ∃ a tg tm, v = .ref a ∧ (a, tupObj g m tg tm) ∈ tl
theorem VIs.sub {tl tl' : List (Addr × Obj)} {v : Value} {r : Option (Nat × Nat)} (h : VIs tl v r) (hs : ∀ p ∈ tl, p ∈ tl') : VIs tl' v r := by
  match r, h with
  | none, h => exact h
  | some (g, m), ⟨a, tg, tm, e, hm⟩ => exact ⟨a, tg, tm, e, hs _ hm⟩

theorem call_look {w : World} {A : Around} {s : Shared} {H : Heap} {L : Addr} {E : Value → Shared → Prop} {Q : Value → Shared → Prop} {m : PySem.Str → Option Value} {loose : List PySem.Str} {mean : ExcName → Option Value} {mg mb : PySem.Str → Option Value} {rows : List Row} {b : Array UInt8} {t tp : Tok} {place : Nat} {ps : Array Value} {extra rest : List (Addr × Obj)}
    (X : (hd.heap_39 w.params).In H) (T : Top topProg loose mean mg mb H) (C : CodeHd H 85 81) (F : Fr H L s.heap m) (N : News H L s.heap ((81, tabObj ps) :: (extra ++ rest))) (hx : LamX lamQual ps extra) (h81 : ∀ p ∈ rest, @Ne Nat p.1 81)
    (hdep : A.depth + 4 < recursionLimit) (hh : A.handled = none) (hb : KBw.bInts b = encAll rows) (hsz : (encAll rows).length ≤ 1000000) (hrows : rows.Pairwise (fun a b => a.b ≤ b.b)) (hbnd : ∀ r ∈ rows, r.b < 2 ^ 20 ∧ r.s < 2 ^ 20 ∧ r.g < 2 ^ 20 ∧ r.m < 2 ^ 20)
    (k : ∀ v h' tk res ps' extra' tv, Fr H L h' m → News H L h' ((81, tabObj ps') :: (extra' ++ (tv ++ rest))) → LamX lamQual ps' extra' → (∀ p ∈ extra' ++ tv, (p ∈ extra ∨ s.heap.get? p.1 = none) ∧ @Ne Nat p.1 81) → LookIs rows place res → VIs tv v res → Q v { s with heap := h', toks := tk }) :
    wpAny (model Challenge.rw_qu0013_01.row.prog w) A (call (.ref 86) [.bytes b t, .int (place : Nat) tp]) Q E s := by
  have hne : ∀ p ∈ (81, tabObj ps) :: extra, s.heap.get? p.1 = some p.2 ∧ H.get? p.1 = none := fun p hp => by
    have hp' : p ∈ (81, tabObj ps) :: (extra ++ rest) := by
      rcases List.mem_cons.mp hp with rfl | hp
      · exact .head _
      · exact .tail _ (List.mem_append_left _ hp)
    exact ⟨(N p hp').1, (N p hp').2.2⟩
  refine wpAny_call (codeAny_mono (look_spec X T C F.keep hne hx hdep hh hb hsz hrows hbnd) fun r s' hr => ?_)
  obtain ⟨v, h', tk, rfl, rfl, st, res, ps', extra', hlook, hres, hx', hget, hex⟩ := hr
  have h81m := N (81, tabObj ps) (.head _)
  have st' : ∀ b o, b ≠ 81 → s.heap.get? b = some o → h'.get? b = some o := fun b o hb e => st b o (fun q => hb (List.mem_singleton.mp q)) e
  have F' : Fr H L h' m := by
    refine ⟨?_, fun b o' e => st' b o' (fun q => ?_) (F.keep b o' e), F.above⟩
    · obtain ⟨oL, es, ep, hL, r⟩ := F.ns
      exact ⟨oL, es, ep, st' _ _ (fun q => h81m.2.1 q.symm) hL, r⟩
    · rw [q, h81m.2.2] at e; cases e
  have fresh : ∀ a o, s.heap.get? a = none → h'.get? a = some o → h'.get? a = some o ∧ a ≠ L ∧ H.get? a = none := fun a o hn ha => by
    refine ⟨ha, fun q => ?_, ?_⟩
    · obtain ⟨oL, _, _, hL, _⟩ := F.ns
      rw [← q, hn] at hL; cases hL
    · cases q : H.get? a with
      | none => rfl
      | some o' => have := F.keep _ _ q; rw [hn] at this; cases this
  have ex81 : ∀ p ∈ extra', @Ne Nat p.1 81 := by
    rcases hx' with ⟨_, rfl⟩ | ⟨c', oc, vs, t, _, rfl, hc, _⟩
    · exact fun p hp => nomatch hp
    · intro p hp; cases List.mem_singleton.mp hp; exact hc
  have fin : ∀ tv, (∀ p ∈ tv, s.heap.get? p.1 = none ∧ h'.get? p.1 = some p.2) → VIs tv v res → Q v { s with heap := h', toks := tk } := by
    intro tv htv hv
    refine k v h' tk res ps' extra' tv F' (fun p hp => ?_) hx' (fun p hp => ?_) hlook hv
    · rcases List.mem_cons.mp hp with rfl | hp
      · exact ⟨hget _ (.head _), h81m.2⟩
      rcases List.mem_append.mp hp with hp | hp
      · rcases hex p hp with h | h
        · exact ⟨hget p (.tail _ hp), (N p (.tail _ (List.mem_append_left _ h))).2⟩
        · exact fresh _ _ h (hget p (.tail _ hp))
      rcases List.mem_append.mp hp with hp | hp
      · exact fresh _ _ (htv p hp).1 (htv p hp).2
      · have P := N p (.tail _ (List.mem_append_right _ hp))
        exact ⟨st' _ _ (h81 p hp) P.1, P.2⟩
    · rcases List.mem_append.mp hp with hp | hp
      · exact ⟨hex p hp, ex81 p hp⟩
      · exact ⟨.inr (htv p hp).1, ne_fresh (htv p hp).1 h81m.1⟩
  rcases res with _ | ⟨g, mk⟩
  · exact fin [] (fun p hp => nomatch hp) hres
  · obtain ⟨a, tg, tm, hv, hn, ha⟩ := hres
    exact fin [(a, tupObj g mk tg tm)] (fun p hp => by cases List.mem_singleton.mp hp; exact ⟨hn, ha⟩) ⟨a, tg, tm, hv, .head _⟩

theorem ne_due {w : World} {A : Around} {s : Shared} {H : Heap} {L : Addr} {E : Value → Shared → Prop} {Q : Value → Shared → Prop} {news : List (Addr × Obj)} {v v' : Value} {d : Option (Nat × Nat)}
    (N : News H L s.heap news) (h1 : VIs news v d) (h2 : VIs news v' d) (hu : A.units + 64 < cLine) (h : Q (.bool false) s) : wpAny (model Challenge.rw_qu0013_01.row.prog w) A (compareOp .NotEq v v') Q E s := by
  rcases d with _ | ⟨g, mk⟩
  · have e1 : v = .none := h1
    have e2 : v' = .none := h2
    subst e1 e2
    walk1
    exact h
  · obtain ⟨a, tg, tm, rfl, ha⟩ := h1
    obtain ⟨a', tg', tm', rfl, ha'⟩ := h2
    refine ne_dataH (reads_tuple_at (News.get N ha) rfl rfl (.cons (.int _ _) (.cons (.int _ _) .nil))) (reads_tuple_at (News.get N ha') rfl rfl (.cons (.int _ _) (.cons (.int _ _) .nil))) rfl rfl hu ?_
    have e : (!PyData.eqv (.tuple [.int ((g : Nat) : Int), .int ((mk : Nat) : Int)]) (.tuple [.int ((g : Nat) : Int), .int ((mk : Nat) : Int)])) = false := by simp [PyData.eqv, PyData.eqvAll]
    rw [e]
    exact h
theorem ints_kf : ∀ {vs : List Value} {ns : List Int}, IntsAre vs ns → kf_ints vs = true
  | _, _, .nil => rfl
  | _, _, .cons _ _ h => by
    unfold kf_ints
    exact ints_kf h
theorem at_kf {k : Int} : ∀ {vs : List Value} {ns : List Int} {j : Nat}, IntsAre vs ns → ns[j]? = some k → (∀ i, i < j → ns[i]? ≠ some k) → kf_at k vs = some j
  | _, _, j, .nil, h, _ => by simp at h
  | _, _, 0, .cons n t h, hj, _ => by
    have e : n = k := by simpa using hj
    unfold kf_at
    simp [isInt, e]
  | _, _, j + 1, .cons n t h, hj, hm => by
    have e : ¬ n = k := fun q => hm 0 (Nat.zero_lt_succ _) (by simp [q])
    have ih := at_kf (j := j) h (by simpa using hj) (fun i hi => by have := hm (i + 1) (Nat.succ_lt_succ hi); simpa using this)
    have e2 : (n == k) = false := by simpa using e
    unfold kf_at
    simp [isInt, e2, ih]
section
variable {prog : Program} {w : World} {A : Around} {E : Value → Shared → Prop} {s : Shared} {Q : Value → Shared → Prop} {H : Heap} {L a : Addr} {news : List (Addr × Obj)} {l : List Int}
theorem index_in {k : Int} {j : Nat} {t : Tok} (N : News H L s.heap news) (h : InF news a l) (hj : l[j]? = some k) (hm : ∀ i, i < j → l[i]? ≠ some k) (hz : l.length ≤ 1000000) (hq : Q (.int (j : Nat) s.toks) { s with toks := s.toks + 1 }) :
    wpAny (model prog w) A (call (.builtin "list.index") [.ref a, .int k t]) Q E s := by
  obtain ⟨vs, e, hmem, hI⟩ := h
  exact kf_index N hmem (ints_kf hI) (at_kf hI hj hm) rfl (by rw [sizeLine_eq]; show vs.length ≤ _; rw [hI.length]; omega) hq
theorem meth_index {pl : Sem Bool} {Q : Value × List Value → Shared → Prop} (N : News H L s.heap news) (h : InF news a l) (hq : Q (.builtin "list.index", [.ref a]) s) : wpAny (model prog w) A (getMethod (.ref a) (Str.ofString "index") pl) Q E s := by
  obtain ⟨vs, e, hmem, hI⟩ := h
  exact kf_method N hmem PySem.F.slot_list_index PySem.F.type_list_index hq
theorem item_in {value slice : PySem.Expr} {k : Nat} {x : Int} {u : Tok} (N : News H L s.heap news) (h : InF news a l) (hk : l[k]? = some x) (hfit : k ≤ 1000000000) (hq : ∀ t, Q (.int x t) s)
    (hs : subscripted slice false (.ref a) (.int (k : Nat) u) = operate [.ref a, .int (k : Nat) u] (getItem (.ref a) (.int (k : Nat) u)) := by with_unfolding_all rfl) :
    wpAny (model prog w) A (subscriptTail value slice (.ref a) (.int (k : Nat) u)) Q E s := by
  obtain ⟨vs, e, hmem, hI⟩ := h
  exact item_at (News.isList N hmem) hI hk hfit hq hs
theorem item_t {value slice : PySem.Expr} {g m : Nat} {tg tm u : Tok} (N : News H L s.heap news) (h : (a, tupObj g m tg tm) ∈ news) (hq : Q (.int (g : Nat) tg) s)
    (hs : subscripted slice false (.ref a) (.int 0 u) = operate [.ref a, .int 0 u] (getItem (.ref a) (.int 0 u)) := by with_unfolding_all rfl) :
    wpAny (model prog w) A (subscriptTail value slice (.ref a) (.int 0 u)) Q E s :=
  tail_any (News.isTup N h).typeIs PyProof.Rows.slot_tuple_getitem.lookup (getItem_tuple (News.isTup N h) (by decide) (by decide) (j := 0) rfl rfl hq) hs
end
/-- the walk out over the blocks -/
def fin (P : List Int) (wt : Nat → Bool) : Nat → Int → Int
  | 0, x => x
  | n + 1, x => if 0 ≤ x ∧ wt x.toNat = false then fin P wt n (P.getD x.toNat (-1)) else x
theorem LawOk.getP {S B G M : List Nat} {I P Kd : List Int} (hok : LawOk S B G M I P Kd) {q : Nat} (hq : q < P.length) : P[q]? = some (P.getD q (-1)) ∧ -1 ≤ P.getD q (-1) ∧ P.getD q (-1) < q := by
  have h : P[q]? = some (P.getD q (-1)) := by rw [List.getD_eq_getElem?_getD, List.getElem?_eq_getElem hq]; rfl
  exact ⟨h, hok.bP _ _ h⟩
theorem fin_fuel {S B G M : List Nat} {I P Kd : List Int} (hok : LawOk S B G M I P Kd) (wt : Nat → Bool) : ∀ (n : Nat) (x : Int), x < P.length → x < n → fin P wt (n + 1) x = fin P wt n x
  | 0, x, _, h => by
    show (if 0 ≤ x ∧ wt x.toNat = false then _ else x) = x
    rw [if_neg (by omega)]
  | n + 1, x, hx, h => by
    show (if 0 ≤ x ∧ wt x.toNat = false then fin P wt (n + 1) (P.getD x.toNat (-1)) else x) = (if 0 ≤ x ∧ wt x.toNat = false then fin P wt n (P.getD x.toNat (-1)) else x)
    by_cases c : 0 ≤ x ∧ wt x.toNat = false
    · rw [if_pos c, if_pos c]
      have := hok.getP (q := x.toNat) (by omega)
      exact fin_fuel hok wt n _ (by omega) (by omega)
    · rw [if_neg c, if_neg c]
theorem fin_step {S B G M : List Nat} {I P Kd : List Int} (hok : LawOk S B G M I P Kd) {wt : Nat → Bool} {q : Nat} (hq : q < P.length) (hw : wt q = false) : fin P wt 6 ((q : Nat) : Int) = fin P wt 6 (P.getD q (-1)) := by
  have h := hok.getP hq
  have hl := hok.lP
  have e : fin P wt 6 ((q : Nat) : Int) = fin P wt 5 (P.getD q (-1)) := by
    show (if 0 ≤ ((q : Nat) : Int) ∧ wt ((q : Nat) : Int).toNat = false then fin P wt 5 (P.getD ((q : Nat) : Int).toNat (-1)) else _) = _
    rw [if_pos ⟨by omega, hw⟩]; rfl
  rw [e, fin_fuel hok wt 5 _ (by omega) (by omega)]
theorem fin_stop {P : List Int} {wt : Nat → Bool} {x : Int} (h : ¬ (0 ≤ x ∧ wt x.toNat = false)) : fin P wt 6 x = x := by
  show (if 0 ≤ x ∧ wt x.toNat = false then _ else x) = x
  rw [if_neg h]
theorem goal_pos {S B G M : List Nat} {I P Kd : List Int} (hok : LawOk S B G M I P Kd) {q : Nat} (hq : q < P.length) : (natl G)[q]? = some ((G.getD q 0 : Nat) : Int) ∧ ∀ i, i < q → (natl G)[i]? ≠ some ((G.getD q 0 : Nat) : Int) := by
  have hl := hok.lG
  have hS := hok.lS
  refine ⟨natl_get (by omega), fun i hi h => ?_⟩
  rw [natl_get (by omega)] at h
  have h1 := Option.some.inj h
  rw [hok.hG i (by omega), hok.hG q hq, hok.pos_eq _ (by omega), hok.pos_eq _ (by omega)] at h1
  have := hok.pos_lt (show 5 + i < 5 + q by omega) (by omega)
  omega
end Mine
end

section
namespace Mine
local macro_rules | `(tactic| walk_at "eval Name") => `(tactic| (k_dflt (first | refine nameX_L (by with_reducible assumption) (by assumption) ?_ | (refine' nameX_C ?N ?c ?m ?d ?_ ?a ?b; (case a => rfl); (case b => rfl); (case N => k_asm); (case c => rfl); (case m => first | with_reducible assumption | k_mem); (case d => k_asm); k_whole))))
local macro_rules | `(tactic| walk_at "no such key") => `(tactic| skip)
/-- the names that stand all through the walk out -/
def NmD (m' : PySem.Str → Option Value) (aN aI aP aK aG aB aM aD aW : Addr) : Prop :=
  m' (Str.ofString "numbers") = some (.ref aN) ∧ m' (Str.ofString "inner") = some (.ref aI) ∧ m' (Str.ofString "parents") = some (.ref aP) ∧ m' (Str.ofString "kinds") = some (.ref aK) ∧ m' (Str.ofString "goals") = some (.ref aG) ∧ m' (Str.ofString "begins") = some (.ref aB) ∧ m' (Str.ofString "marks") = some (.ref aM) ∧ m' (Str.ofString "looks") = some (.ref aD) ∧ m' (Str.ofString "wants") = some (.ref aW)

def forBody : Stmt → List Stmt
  | .For _ _ b _ _ => b
  | _ => []
/-- the body of the law's innermost loop -/
def lawInner : List Stmt := forBody ((forBody (lawBody.getD 13 default)).getD 0 default)

theorem law_t {w : World} {s : Shared} {H : Heap} {L fa : Addr} {cd : Value} {m : PySem.Str → Option Value} {loose : List PySem.Str} {mean : ExcName → Option Value} {mg mb : PySem.Str → Option Value} {nw : List (Addr × Obj)} {oD : Obj} {kvs : List (Int × Value)} {aN aI aP aK aG aB aM aD aW : Addr} {vW : List Value} {eW i : Nat} {nm : PySem.Str} {t tn : Tok} {ys I P Kd : List Int} {S B G M : List Nat} :
    (hd.heap_39 w.params).In H → Top topProg loose mean mg mb H → Fr H L s.heap m → News H L s.heap nw → NmD m aN aI aP aK aG aB aM aD aW → m (Str.ofString "k") = some (.int ((i : Nat) : Int) t) → m (Str.ofString "name") = some (.str nm tn) →
    InF nw aN ys → InF nw aI I → InF nw aP P → InF nw aK Kd → InF nw aG (natl G) → InF nw aB (natl B) → InF nw aM (natl M) → (aD, oD) ∈ nw → oD.IsDictOf (intKind Challenge.rw_qu0013_01.row.prog w) kvs → (aW, listOf vW.toArray eW) ∈ nw → (∀ k, k < 5 → ∃ t, vW[k]? = some (.str (wantS k) t)) →
    ys.length = 5 → (∀ y ∈ ys, 0 ≤ y ∧ y ≤ 100000000) → LawOk S B G M I P Kd → (∀ k, k < S.length → ∃ v, valueAt kvs ((B.getD k 0 : Nat) : Int) = some v ∧ VIs nw v (dueOf G M (I.getD k (-1)))) → i < 5 → NmOk nm →
    wpAny (model Challenge.rw_qu0013_01.row.prog w) (callerA.deeper (lawEnv L fa cd)) (execs lawInner (lawEnv L fa cd)) (fun f s' => f = .next ∧ ∃ h' tk' m', s' = { s with heap := h', toks := tk' } ∧ Fr H L h' m' ∧ News H L h' nw ∧ NmD m' aN aI aP aK aG aB aM aD aW ∧ m' (Str.ofString "k") = some (.int ((i : Nat) : Int) t)) (fun _ _ => False) s := by
  w_top off
  k_fill
  intro X T F N ⟨k1, k2, k3, k4, k5, k6, k7, k8, k9⟩ kk kn fN fI fP fK fG fB fM hDm hD hW hWs lN bN LO hlk hi hnm
  refine wp_hide fun R hR => ?_
  unfold lawEnv
  conv in lawInner => whnf
  conv in lawScope => whnf
  conv in lawScope => whnf
  have hlS := LO.lS
  have hlP := LO.lP
  have hdp : ∀ e, (callerA.deeper e).depth + 4 < recursionLimit := fun e => Nat.lt_of_le_of_lt (Nat.add_le_add_left (by decide) _) (lawDep e)
  have hd1 : ∀ e, (callerA.deeper e).depth + 1 < recursionLimit := fun e => Nat.lt_of_le_of_lt (Nat.add_le_add_left (by decide) _) (lawDep e)
  have gy : ys[i]? = some (ys.getD i 0) := by rw [List.getD_eq_getElem?_getD, List.getElem?_eq_getElem (by omega)]; rfl
  have by0 := bN _ (List.mem_of_getElem? gy)
  obtain ⟨d, hd, hd4⟩ : ∃ d : Nat, ((ys.getD i 0).fdiv 20).fmod 4 = (d : Int) ∧ d < 4 := by
    have h1 := Int.fmod_nonneg_of_pos ((ys.getD i 0).fdiv 20) (show (0 : Int) < 4 by decide)
    have h2 := Int.fmod_lt_of_pos ((ys.getD i 0).fdiv 20) (show (0 : Int) < 4 by decide)
    exact ⟨(((ys.getD i 0).fdiv 20).fmod 4).toNat, by omega, by omega⟩
  repeat ((fail_if_success (with_reducible show wpAny _ _ (subscriptTail _ _ _ _) _ _ _)); walk1)
  refine item_in N fN gy (by omega) ?_
  intro t2
  repeat ((fail_if_success (with_reducible show wpAny _ _ (call (Value.ref _) _) _ _ _)); walk1)
  rename Fr _ _ _ _ => F1
  rename News _ _ _ _ => N1
  rw [hd]
  refine call_con F1 N1 (message_spec (X.keeps F1.keep) (T.keeps F1.keep) (hd1 _) rfl hd4 hnm.len) ?_
  rintro v h2 tk2 F2 N2 st2 ⟨t3, rfl⟩
  clear F1 N1 st2
  obtain ⟨hs1, hs2⟩ := strip_msg hd4 hnm
  repeat ((fail_if_success (with_reducible show wpAny _ _ (call (Value.ref _) _) _ _ _)); walk1)
  refine call_con F2 N2 (strip_spec (X.keeps F2.keep) (T.keeps F2.keep) (hd1 _) rfl hs2) ?_
  rintro v h3 tk3 F3 N3 st3 ⟨t4, rfl⟩
  rw [hs1]
  clear F2 N2 st3 hs1 hs2
  repeat ((with_reducible show wpAny _ _ _ _ _ _); walk1)
  rw [if_neg (by simp)]
  have gB := natl_get (l := B) (k := i) (by rw [LO.lB]; omega)
  obtain ⟨v0, hv0, hV0⟩ := hlk i (by omega)
  obtain ⟨x0, hx0⟩ : ∃ x0, x0 = I.getD i (-1) := ⟨_, rfl⟩
  have hx0b := LO.getI (k := i) (by omega)
  rw [← hx0] at hV0 hx0b
  obtain ⟨wt, hwt⟩ : ∃ wt : Nat → Bool, wt = fun q => wantOf (Kd.getD q 0).toNat nm := ⟨_, rfl⟩
  have gK : ∀ q, q < P.length → ∃ kd : Nat, Kd[q]? = some (kd : Int) ∧ kd < 5 ∧ wt q = wantOf kd nm := by
    intro q hq
    have h : Kd[q]? = some (Kd.getD q 0) := by rw [List.getD_eq_getElem?_getD, List.getElem?_eq_getElem (by rw [LO.lK]; exact hq)]; rfl
    have hb := LO.bK _ (List.mem_of_getElem? h)
    exact ⟨(Kd.getD q 0).toNat, by rw [h]; congr 1; omega, by omega, by rw [hwt]⟩
  repeat ((fail_if_success (with_reducible show wpAny _ _ (subscriptTail _ _ _ _) _ _ _)); walk1)
  rename Fr _ _ _ _ => F4
  rename News _ _ _ _ => N4
  refine item_in N4 fB gB (by omega) ?_
  intro t5
  refine kda_item (knd := intKind _ _) N4 hDm hD (intKind_is _ _ _ _) hv0 ?_
  repeat ((fail_if_success (with_reducible show wpAny _ _ (exec (.While _ _ _ _) _) _ _ _)); walk1)
  rename Fr _ _ _ _ => F5
  rename News _ _ _ _ => N5
  obtain ⟨Q1, hQ1⟩ := hide2 (fun (f : Flow) (s' : Shared) => f = .next ∧ ∃ h' tk' m' v, s' = { s with heap := h', toks := tk' } ∧ Fr H L h' m' ∧ News H L h' nw ∧ NmD m' aN aI aP aK aG aB aM aD aW ∧ m' (Str.ofString "k") = some (.int ((i : Nat) : Int) t) ∧ m' (Str.ofString "name") = some (.str nm tn) ∧ m' (Str.ofString "found") = some v ∧ VIs nw v (dueOf G M (fin P wt 6 x0)))
  refine wpAny_mono (Q := Q1) ?_ ?_ (fun _ _ x => x)
  · obtain ⟨J, hJ⟩ := hide3 (fun (n : Nat) (m' : PySem.Str → Option Value) (nw' : List (Addr × Obj)) => NmD m' aN aI aP aK aG aB aM aD aW ∧ m' (Str.ofString "k") = some (.int ((i : Nat) : Int) t) ∧ m' (Str.ofString "name") = some (.str nm tn) ∧ m' (Str.ofString "bare") = some (.str nm t4) ∧ nw' = nw ∧ ∃ (x : Int) (v : Value), n = (x + 1).toNat ∧ -1 ≤ x ∧ x < P.length ∧ m' (Str.ofString "found") = some v ∧ VIs nw v (dueOf G M x) ∧ fin P wt 6 x = fin P wt 6 x0)
    refine While_inv J
      F5 N5 ((hJ _ _ _).mpr ⟨⟨k1, k2, k3, k4, k5, k6, k7, k8, k9⟩, kk, kn, rfl, rfl, x0, v0, rfl, hx0b.2.1, hx0b.2.2, rfl, hV0, rfl⟩) ?_
    clear F5 N5
    intro n m' nw' h6 tk6 F N hj
    obtain ⟨⟨j1, j2, j3, j4, j5, j6, j7, j8, j9⟩, jk, jn, jb, rfl, x, v, rfl, hx1, hx2, jf, hV, hfx⟩ := (hJ _ _ _).mp hj
    clear hj
    by_cases hxn : x < 0
    · have hV' : VIs nw' v none := by rw [dueOf, if_neg (by omega)] at hV; exact hV
      have e : v = .none := hV'
      subst e
      iterate 8 walk1
      exact (hQ1 _ _).mpr ⟨rfl, _, _, m', _, rfl, F, N, ⟨j1, j2, j3, j4, j5, j6, j7, j8, j9⟩, jk, jn, jf, by rw [← hfx, fin_stop (by omega)]; exact hV⟩
    · obtain ⟨q, rfl⟩ := Int.eq_ofNat_of_zero_le (show 0 ≤ x by omega)
      have hV' : VIs nw' v (some (G.getD q 0, M.getD q 0)) := by rw [dueOf, if_pos (by omega)] at hV; exact hV
      obtain ⟨a, tg, tm, rfl, ha⟩ := hV'
      have hqP : q < P.length := by omega
      obtain ⟨kd, hk1, hk5, hkw⟩ := gK q hqP
      obtain ⟨tw, hw1⟩ := hWs kd hk5
      repeat ((fail_if_success (with_reducible show wpAny _ _ (getMethod _ _ _) _ _ _)); first | walk1 | fail)
      refine meth_index N fG ?_
      repeat ((fail_if_success (with_reducible show wpAny _ _ (subscriptTail _ _ _ _) _ _ _)); walk1)
      refine item_t N ha ?_
      repeat ((fail_if_success (with_reducible show wpAny _ _ (call (Value.builtin _) _) _ _ _)); walk1)
      refine index_in N fG (goal_pos LO hqP).1 (goal_pos LO hqP).2 (by rw [natl_length, LO.lG]; omega) ?_
      refine item_in N fK hk1 (by omega) ?_
      intro t6
      refine item_v (News.isList N hW) hw1 (by omega) ?_
      repeat ((fail_if_success (with_reducible show wpAny _ _ (call (Value.ref _) _) _ _ _)); walk1)
      refine call_con F N (ell_spec hk5 (X.keeps F.keep) (T.keeps F.keep) (hd1 _) rfl hnm) ?_
      rintro v h8 tk8 F8 N8 st8 rfl
      clear F N st8
      rw [← hkw]
      iterate 3 walk1
      by_cases hwq : wt q = true
      · rw [if_neg (by simp [hwq])]
        rw [if_neg (by decide)]
        exact (hQ1 _ _).mpr ⟨rfl, _, _, m', _, rfl, F8, N8, ⟨j1, j2, j3, j4, j5, j6, j7, j8, j9⟩, jk, jn, jf, by rw [← hfx, fin_stop (by rw [Int.toNat_natCast, hwq]; simp)]; exact hV⟩
      · have hwq' : wt q = false := by simpa using hwq
        rw [if_pos (by simp [hwq'])]
        have hP := LO.getP hqP
        obtain ⟨v5, hv5, hV5⟩ := hlk (5 + q) (by omega)
        rw [← LO.hG q hqP] at hv5
        rw [LO.hI5 q hqP] at hV5
        iterate 2 walk1
        repeat ((fail_if_success (with_reducible show wpAny _ _ (subscriptTail _ _ _ _) _ _ _)); walk1)
        refine item_t N8 ha ?_
        refine kda_item (knd := intKind _ _) N8 hDm hD (intKind_is _ _ _ _) hv5 ?_
        repeat ((with_reducible show wpAny _ _ _ _ _ _); walk1)
        rename Fr _ _ _ _ => F9
        rename News _ _ _ _ => N9
        exact WhileStep.intro (n' := (P.getD q (-1) + 1).toNat) F9 N9 (by omega) ((hJ _ _ _).mpr ⟨⟨j1, j2, j3, j4, j5, j6, j7, j8, j9⟩, jk, jn, jb, rfl, P.getD q (-1), v5, rfl, hP.2.1, by omega, rfl, hV5, by rw [← hfx, fin_step LO hqP hwq']⟩)
  · intro f s' hq
    obtain ⟨rfl, h7, tk7, m', v, rfl, F7, N7, ⟨j1, j2, j3, j4, j5, j6, j7, j8, j9⟩, jk, jn, jf, hV⟩ := (hQ1 _ _).mp hq
    clear F5 N5 hq hQ1 Q1
    repeat ((fail_if_success (with_reducible show wpAny _ _ (subscriptTail _ _ _ _) _ _ _)); walk1)
    refine item_in N7 fI hx0b.1 (by omega) ?_
    intro t8
    repeat ((fail_if_success (with_reducible show wpAny _ _ (exec (.While _ _ _ _) _) _ _ _)); walk1)
    rename Fr _ _ _ _ => F10
    rename News _ _ _ _ => N10
    obtain ⟨Q2, hQ2⟩ := hide2 (fun (f : Flow) (s' : Shared) => f = .next ∧ ∃ h' tk' m2 tb, s' = { s with heap := h', toks := tk' } ∧ Fr H L h' m2 ∧ News H L h' nw ∧ NmD m2 aN aI aP aK aG aB aM aD aW ∧ m2 (Str.ofString "k") = some (.int ((i : Nat) : Int) t) ∧ m2 (Str.ofString "found") = some v ∧ m2 (Str.ofString "block") = some (.int (fin P wt 6 x0) tb) ∧ -1 ≤ fin P wt 6 x0 ∧ fin P wt 6 x0 < P.length)
    refine wpAny_mono (Q := Q2) ?_ ?_ (fun _ _ x => x)
    · obtain ⟨J, hJ⟩ := hide3 (fun (n : Nat) (m2 : PySem.Str → Option Value) (nw' : List (Addr × Obj)) => NmD m2 aN aI aP aK aG aB aM aD aW ∧ m2 (Str.ofString "k") = some (.int ((i : Nat) : Int) t) ∧ m2 (Str.ofString "name") = some (.str nm tn) ∧ m2 (Str.ofString "found") = some v ∧ nw' = nw ∧ ∃ (x : Int) (tb : Tok), n = (x + 1).toNat ∧ -1 ≤ x ∧ x < P.length ∧ m2 (Str.ofString "block") = some (.int x tb) ∧ fin P wt 6 x = fin P wt 6 x0)
      refine While_inv J
        F10 N10 ((hJ _ _ _).mpr ⟨⟨j1, j2, j3, j4, j5, j6, j7, j8, j9⟩, jk, jn, jf, rfl, x0, _, rfl, hx0b.2.1, hx0b.2.2, rfl, rfl⟩) ?_
      clear F10 N10
      intro n m2 nw' h6 tk6 F N hj
      obtain ⟨⟨n1, n2, n3, n4, n5, n6, n7, n8, n9⟩, nk, nn, nf, rfl, x, tb, rfl, hx1, hx2, nb, hfx⟩ := (hJ _ _ _).mp hj
      clear hj
      repeat ((with_reducible show wpAny _ _ _ _ _ _); walk1)
      by_cases hxn : 0 ≤ x
      · rw [if_pos (by simpa using hxn)]
        obtain ⟨q, rfl⟩ := Int.eq_ofNat_of_zero_le hxn
        have hqP : q < P.length := by omega
        obtain ⟨kd, hk1, hk5, hkw⟩ := gK q hqP
        repeat ((fail_if_success (with_reducible show wpAny _ _ (subscriptTail _ _ _ _) _ _ _)); walk1)
        refine item_in N fK hk1 (by omega) ?_
        intro t6
        repeat ((fail_if_success (with_reducible show wpAny _ _ (call (Value.ref _) _) _ _ _)); walk1)
        refine call_con F N (wanted_spec (X.keeps F.keep) (T.keeps F.keep) (hd1 _) rfl hk5 hnm.len) ?_
        rintro v8 h8 tk8 F8 N8 st8 rfl
        clear F N st8
        rw [← hkw]
        cases hwq : wt q
        · have hP := LO.getP hqP
          repeat ((fail_if_success (with_reducible show wpAny _ _ (subscriptTail _ _ _ _) _ _ _)); walk1)
          refine item_in N8 fP hP.1 (by omega) ?_
          intro t9
          repeat ((with_reducible show wpAny _ _ _ _ _ _); walk1)
          rename Fr _ _ _ _ => F9
          rename News _ _ _ _ => N9
          exact WhileStep.intro (n' := (P.getD q (-1) + 1).toNat) F9 N9 (by omega) ((hJ _ _ _).mpr ⟨⟨n1, n2, n3, n4, n5, n6, n7, n8, n9⟩, nk, nn, nf, rfl, P.getD q (-1), t9, rfl, hP.2.1, by omega, rfl, by rw [← hfx, fin_step LO hqP hwq]⟩)
        · iterate 3 walk1
          have e9 := fin_stop (P := P) (wt := wt) (x := ((q : Nat) : Int)) (by rw [Int.toNat_natCast, hwq]; simp)
          exact (hQ2 _ _).mpr ⟨rfl, _, _, m2, _, rfl, F8, N8, ⟨n1, n2, n3, n4, n5, n6, n7, n8, n9⟩, nk, nf, by rw [← hfx, e9]; exact nb, by rw [← hfx, e9]; omega, by rw [← hfx, e9]; omega⟩
      · rw [if_neg (by simpa using hxn)]
        rw [if_neg (by decide)]
        exact (hQ2 _ _).mpr ⟨rfl, _, _, m2, _, rfl, F, N, ⟨n1, n2, n3, n4, n5, n6, n7, n8, n9⟩, nk, nf, by rw [← hfx, fin_stop (by omega)]; exact nb, by rw [← hfx, fin_stop (by omega)]; omega, by rw [← hfx, fin_stop (by omega)]; omega⟩
    · intro f s' hq
      obtain ⟨rfl, h8, tk8, m2, tb, rfl, F8, N8, ⟨n1, n2, n3, n4, n5, n6, n7, n8, n9⟩, nk, nf, nb, hf1, hf2⟩ := (hQ2 _ _).mp hq
      clear F10 N10 hq hQ2 Q2
      generalize fin P wt 6 x0 = x at hV nb hf1 hf2
      iterate 4 walk1
      obtain ⟨Q3, hQ3⟩ := hide2 (fun (v' : Value) (s' : Shared) => ∃ h' tk' tl, s' = { s with heap := h', toks := tk' } ∧ Fr H L h' m2 ∧ News H L h' (tl ++ nw) ∧ VIs (tl ++ nw) v' (dueOf G M x))
      refine wpAny_mono (Q := Q3) ?_ ?_ (fun _ _ x => x)
      · iterate 6 walk1
        by_cases c1 : 0 ≤ x
        · rw [if_pos (by simpa using c1)]
          obtain ⟨q, rfl⟩ := Int.eq_ofNat_of_zero_le c1
          have hqP : q < P.length := by omega
          repeat ((fail_if_success (with_reducible show wpAny _ _ (subscriptTail _ _ _ _) _ _ _)); walk1)
          refine item_in N8 fG (natl_get (by rw [LO.lG]; exact hqP)) (by omega) ?_
          intro t10
          repeat ((fail_if_success (with_reducible show wpAny _ _ (subscriptTail _ _ _ _) _ _ _)); walk1)
          refine item_in N8 fM (natl_get (by rw [LO.lM]; exact hqP)) (by omega) ?_
          intro t11
          iterate 1 walk1
          refine newTuple_N F8 N8 ?_ (by show 2 ≤ sizeLine; decide)
          intro h7 F7 N7
          exact (hQ3 _ _).mpr ⟨h7, _, [(_, tupObj _ _ t10 t11)], rfl, F7, N7, by rw [dueOf, if_pos (by omega), Int.toNat_natCast]; exact ⟨_, t10, t11, rfl, .head _⟩⟩
        · rw [if_neg (by simpa using c1)]
          iterate 1 walk1
          exact (hQ3 _ _).mpr ⟨_, _, [], rfl, F8, N8, by rw [dueOf, if_neg c1]; rfl⟩
      · intro v' s' hq
        obtain ⟨h9, tk9, tl, rfl, F9, N9, hv⟩ := (hQ3 _ _).mp hq
        clear hq hQ3 Q3
        refine ne_due N9 (hV.sub fun p hp => List.mem_append_right _ hp) hv (Nat.lt_of_le_of_lt (Nat.add_le_add_left (by decide) _) (lawUnits _)) ?_
        iterate 2 walk1
        repeat ((with_reducible show wpAny _ _ _ _ _ _); walk1)
        exact hR _ _ ⟨rfl, _, _, m2, rfl, F9, News.sub N9 fun p hp => List.mem_append_right _ hp, ⟨n1, n2, n3, n4, n5, n6, n7, n8, n9⟩, nk⟩
end Mine
end

section
namespace Mine
local macro_rules | `(tactic| walk_at "eval Name") => `(tactic| (k_dflt (first | refine nameX_L (by with_reducible assumption) (by assumption) ?_ | (refine' nameX_C ?N ?c ?m ?d ?_ ?a ?b; (case a => rfl); (case b => rfl); (case N => k_asm); (case c => rfl); (case m => first | with_reducible assumption | k_mem); (case d => k_asm); k_whole))))
theorem law_d {w : World} {s : Shared} {H : Heap} {L fa : Addr} {cd : Value} {m : PySem.Str → Option Value} {loose : List PySem.Str} {mean : ExcName → Option Value} {mg mb : PySem.Str → Option Value} {news : List (Addr × Obj)} {ps : Array Value} {oD : Obj} {kvs : List (Int × Value)} {aN aI aP aK aG aB aM aD : Addr} {ys I P Kd : List Int} {S B G M : List Nat} :
    (hd.heap_39 w.params).In H → Top topProg loose mean mg mb H → Fr H L s.heap m → News H L s.heap ((81, tabObj ps) :: news) →
    m (Str.ofString "numbers") = some (.ref aN) → m (Str.ofString "inner") = some (.ref aI) → m (Str.ofString "parents") = some (.ref aP) → m (Str.ofString "kinds") = some (.ref aK) → m (Str.ofString "goals") = some (.ref aG) → m (Str.ofString "begins") = some (.ref aB) → m (Str.ofString "marks") = some (.ref aM) → m (Str.ofString "looks") = some (.ref aD) →
    InF news aN ys → InF news aI I → InF news aP P → InF news aK Kd → InF news aG (natl G) → InF news aB (natl B) → InF news aM (natl M) → (aD, oD) ∈ news → oD.IsDictOf (intKind Challenge.rw_qu0013_01.row.prog w) kvs →
    ys.length = 5 → (∀ y ∈ ys, 0 ≤ y ∧ y ≤ 100000000) → LawOk S B G M I P Kd → (∀ k, k < S.length → ∃ v, valueAt kvs ((B.getD k 0 : Nat) : Int) = some v ∧ VIs news v (dueOf G M (I.getD k (-1)))) →
    wpAny (model Challenge.rw_qu0013_01.row.prog w) (callerA.deeper (lawEnv L fa cd)) (execs (lawBody.drop 12) (lawEnv L fa cd)) (LawEnd H L s) (fun _ _ => False) s := by
  w_top off
  k_fill
  intro X T F N k1 k2 k3 k4 k5 k6 k7 k8 fN fI fP fK fG fB fM hDm hD lN bN LO hlk
  unfold lawEnv
  conv in (List.drop _ lawBody) => whnf
  conv in lawScope => whnf
  conv in lawScope => whnf
  repeat ((fail_if_success (with_reducible show wpAny _ _ (exec (.For _ _ _ _ _) _) _ _ _)); walk1)
  rename_i aW h1 l1 h2 F1 N1
  clear l1
  obtain ⟨vW, eW, hvW⟩ : ∃ (vW : List Value) (eW : Nat), listOf (List.toArray vW) eW = listOf #[Value.str (Str.ofString "KeyError") s.toks, Value.str (Str.ofString "Key...") (s.toks + 1), Value.str (Str.ofString "...Error") (s.toks + 1 + 1), Value.str (Str.ofString "KeyE...Error") (s.toks + 1 + 1 + 1), Value.str (Str.ofString "...") (s.toks + 1 + 1 + 1 + 1)] 0 ∧ ∀ k, k < 5 → ∃ t, vW[k]? = some (Value.str (wantS k) t) :=
    ⟨[_, _, _, _, _], 0, rfl, fun k hk => by
      obtain rfl | rfl | rfl | rfl | rfl : k = 0 ∨ k = 1 ∨ k = 2 ∨ k = 3 ∨ k = 4 := by omega
      all_goals exact ⟨_, rfl⟩⟩
  obtain ⟨hvW, hWs⟩ := hvW
  rw [← hvW] at N1
  clear hvW
  refine For_invV H (by rfl) (by rfl) ?_
  repeat ((fail_if_success (with_reducible show wpAny _ _ (pyIter _) _ _ _)); walk1)
  rename Fr _ _ _ _ => F2
  rename News _ _ _ _ => N2
  rename IsRange _ _ _ _ _ _ _ _ => R2
  have hlP := LO.lP
  refine iter_rng (n := 5) (fun i m' nw => NmD m' aN aI aP aK aG aB aM aD aW ∧ nw = (aW, listOf (List.toArray vW) eW) :: (81, tabObj ps) :: news)
    rfl R2 (by decide) (by decide) F2 N2 ⟨⟨k1, k2, k3, k4, k5, k6, k7, k8, rfl⟩, rfl⟩ ?_ ?_
  · clear F2 N2 R2
    rintro i t m1 nw h3 tk3 It o hi ⟨⟨j1, j2, j3, j4, j5, j6, j7, j8, j9⟩, rfl⟩ hIne F N
    rw [Int.zero_add] at F
    iterate 1 walk1
    refine For_invV H (by rfl) (by rfl) ?_
    repeat ((fail_if_success (with_reducible show wpAny _ _ (pyIter _) _ _ _)); walk1)
    rename_i aL h4 F4 N4 l4
    clear l4
    obtain ⟨vN, eN, hvN, hNs⟩ : ∃ (vN : List Value) (eN : Nat), listOf (List.toArray vN) eN = listOf #[Value.str (Str.ofString "KeyError") tk3, Value.str (Str.ofString "KeyEndError") (tk3 + 1), Value.str (Str.ofString "KeyLost") (tk3 + 1 + 1), Value.str (Str.ofString "IndexError") (tk3 + 1 + 1 + 1)] 0 ∧ ∀ k v, vN[k]? = some v → ∃ nm tn, v = Value.str nm tn ∧ NmOk nm :=
      ⟨[_, _, _, _], 0, rfl, fun k v hv => by
        have hk : k < 4 := (List.getElem?_eq_some_iff.mp hv).1
        obtain rfl | rfl | rfl | rfl : k = 0 ∨ k = 1 ∨ k = 2 ∨ k = 3 := by omega
        · exact ⟨_, _, (Option.some.inj hv).symm, .inl rfl⟩
        · exact ⟨_, _, (Option.some.inj hv).symm, .inr (.inl rfl)⟩
        · exact ⟨_, _, (Option.some.inj hv).symm, .inr (.inr (.inl rfl))⟩
        · exact ⟨_, _, (Option.some.inj hv).symm, .inr (.inr (.inr rfl))⟩⟩
    rw [← hvN] at N4
    clear hvN
    have hL := N4 (aL, listOf (List.toArray vN) eN) (.head _)
    refine iter_lst (ol := listOf (List.toArray vN) eN) (vs := vN) (fun _ m' nw => NmD m' aN aI aP aK aG aB aM aD aW ∧ m' (Str.ofString "k") = some (.int ((i : Nat) : Int) t) ∧ nw = (aL, listOf (List.toArray vN) eN) :: (It, o) :: (aW, listOf (List.toArray vW) eW) :: (81, tabObj ps) :: news)
      rfl (News.isList N4 (.head _)) hL.1 (.inr ⟨hL.2.2, hL.2.1, fun _ _ _ q => by rw [q.2.2]; exact .head _⟩) F4 N4 ⟨⟨j1, j2, j3, j4, j5, j6, j7, j8, j9⟩, rfl, rfl⟩ ?_ ?_
    · clear F4 N4 hL
      rintro j v m2 nw h5 tk5 It2 o2 hv ⟨⟨n1, n2, n3, n4, n5, n6, n7, n8, n9⟩, nk, rfl⟩ hIne2 F N
      obtain ⟨nm, tn, rfl, hnm⟩ := hNs j v hv
      have hs : ∀ p ∈ news, p ∈ (It2, o2) :: (aL, listOf (List.toArray vN) eN) :: (It, o) :: (aW, listOf (List.toArray vW) eW) :: (81, tabObj ps) :: news := fun p hp => .tail _ (.tail _ (.tail _ (.tail _ (.tail _ hp))))
      refine wpAny_mono (law_t (i := i) (t := t) (nm := nm) (tn := tn) X T F N ⟨n1, n2, n3, n4, n5, n6, n7, n8, n9⟩ nk rfl (fN.sub hs) (fI.sub hs) (fP.sub hs) (fK.sub hs) (fG.sub hs) (fB.sub hs) (fM.sub hs) (hs _ hDm) hD (.tail _ (.tail _ (.tail _ (.head _)))) hWs lN bN LO (fun k hk => by
        obtain ⟨u, hu, hv⟩ := hlk k hk
        exact ⟨u, hu, hv.sub hs⟩) hi hnm) ?_ (fun _ _ x => x)
      rintro f s' ⟨rfl, h6, tk6, m6, rfl, F6, N6, p9, pk⟩
      exact ⟨rfl, _, _, _, _, rfl, F6, N6, hIne2, p9, pk, rfl⟩
    · clear F4 N4 hL
      rintro m2 nw h5 tk5 ⟨p9, nk, rfl⟩ F N
      repeat ((with_reducible show wpAny _ _ _ _ _ _); walk1)
      exact ⟨rfl, _, _, _, _, rfl, F, News.sub N fun p hp => .tail _ hp, hIne, p9, rfl⟩
  · rintro m' nw h tk2 ⟨_, rfl⟩ F N
    repeat ((with_reducible show wpAny _ _ _ _ _ _); walk1)
    exact ⟨rfl, _, _, _, rfl, F, ps, news, News.sub N fun p hp => .tail _ hp⟩
end Mine
end

section
namespace Mine
local macro_rules | `(tactic| walk_at "eval Name") => `(tactic| (k_dflt (first | refine nameX_L (by with_reducible assumption) (by assumption) ?_ | (refine' nameX_C ?N ?c ?m ?d ?_ ?a ?b; (case a => rfl); (case b => rfl); (case N => k_asm); (case c => rfl); (case m => first | with_reducible assumption | k_mem); (case d => k_asm); k_whole))))
/-- the ledger while the places are looked up -/
def CSt (w : World) (aD : Addr) (R : List (Addr × Obj)) (kvs : List (Int × Value)) (tup news : List (Addr × Obj)) : Prop :=
  ∃ ps extra oD, news = (81, tabObj ps) :: (extra ++ (aD, oD) :: (tup ++ R)) ∧ LamX lamQual ps extra ∧ oD.IsDictOf (intKind Challenge.rw_qu0013_01.row.prog w) kvs ∧ ∀ p ∈ extra ++ tup, @Ne Nat p.1 81 ∧ @Ne Nat p.1 aD ∧ ∀ q ∈ R, @Ne Nat p.1 q.1
/-- the names that stand all through -/
def Nms (m' : PySem.Str → Option Value) (aN aI aP aK aG aB aM aD : Addr) (b : Array UInt8) (tb : Tok) : Prop :=
  m' (Str.ofString "numbers") = some (.ref aN) ∧ m' (Str.ofString "inner") = some (.ref aI) ∧ m' (Str.ofString "parents") = some (.ref aP) ∧ m' (Str.ofString "kinds") = some (.ref aK) ∧ m' (Str.ofString "goals") = some (.ref aG) ∧ m' (Str.ofString "begins") = some (.ref aB) ∧ m' (Str.ofString "marks") = some (.ref aM) ∧ m' (Str.ofString "looks") = some (.ref aD) ∧ m' (Str.ofString "table") = some (.bytes b tb)

theorem law_c {w : World} {s : Shared} {H : Heap} {L fa : Addr} {cd : Value} {m : PySem.Str → Option Value} {loose : List PySem.Str} {mean : ExcName → Option Value} {mg mb : PySem.Str → Option Value} {fix : List (Addr × Obj)} {oS : Obj} {aN aI aS aP aK aG aB aM : Addr} {ys I P Kd : List Int} {S B G M : List Nat} {b : Array UInt8} {tb : Tok} :
    (hd.heap_39 w.params).In H → Top topProg loose mean mg mb H → CodeHd H 85 81 → Fr H L s.heap m → News H L s.heap ((81, tabObj #[]) :: fix) → (∀ p ∈ fix, @Ne Nat p.1 81) →
    m (Str.ofString "numbers") = some (.ref aN) → m (Str.ofString "inner") = some (.ref aI) → m (Str.ofString "parents") = some (.ref aP) → m (Str.ofString "kinds") = some (.ref aK) → m (Str.ofString "goals") = some (.ref aG) → m (Str.ofString "begins") = some (.ref aB) → m (Str.ofString "marks") = some (.ref aM) → m (Str.ofString "table") = some (.bytes b tb) →
    (L + 1, oS) ∈ fix → oS.data = .cell (some (.ref aS)) → InF fix aN ys → InF fix aI I → InF fix aS (natl S) → InF fix aP P → InF fix aK Kd → InF fix aG (natl G) → InF fix aB (natl B) → InF fix aM (natl M) →
    ys.length = 5 → (∀ y ∈ ys, 0 ≤ y ∧ y ≤ 100000000) → LawOk S B G M I P Kd → KBw.bInts b = encAll (rowsTo B S G M I S.length).reverse →
    wpAny (model Challenge.rw_qu0013_01.row.prog w) (callerA.deeper (lawEnv L fa cd)) (execs (lawBody.drop 10) (lawEnv L fa cd)) (LawEnd H L s) (fun _ _ => False) s := by
  w_top off
  k_fill
  intro X T C F N h81 hm1 hm2 hm3 hm4 hm5 hm6 hm7 hm8 hS hcS fN fI fS fP fK fG fB fM lN bN LO hb
  unfold lawEnv
  conv in (List.drop _ lawBody) => whnf
  conv in lawScope => whnf
  conv in lawScope => whnf
  obtain ⟨vI, eI, hI, iI⟩ := fI
  obtain ⟨vS, eS, hS', iS⟩ := fS
  obtain ⟨vG, eG, hG, iG⟩ := fG
  obtain ⟨vB, eB, hB, iB⟩ := fB
  obtain ⟨vM, eM, hM, iM⟩ := fM
  have hlS := LO.lS
  have hlP := LO.lP
  iterate 4 walk1
  rename_i aD h1 oD0 lo1 hs1 fs1 hD0 fi1 l1 h2 F1 N1
  clear hs1 fs1 fi1 lo1
  have nD81 : @Ne Nat aD 81 := Nat.ne_of_gt l1.1
  have nDf : ∀ p ∈ fix, @Ne Nat p.1 aD := fun p hp => Nat.ne_of_lt (allLt_mem l1.2 p hp)
  have hSm : (L + 1, oS) ∈ (aD, oD0) :: (81, tabObj #[]) :: fix := .tail _ (.tail _ hS)
  dsimp only
  iterate 1 walk1
  refine For_invV H (by rfl) (by rfl) ?_
  repeat ((fail_if_success (with_reducible show wpAny _ _ (call (Value.builtin "len") [Value.ref _]) _ _ _)); walk1)
  refine len_at (News.isList N1 (.tail _ (.tail _ hS'))) (n := S.length) (by rw [iS.length, natl_length]) (by omega) ?_
  iterate 2 walk1
  rename Fr _ _ _ _ => F3
  rename News _ _ _ _ => N3
  rename IsRange _ _ _ _ _ _ _ _ => R3
  obtain ⟨J, hJ⟩ := hide3 (fun (i : Nat) (m' : PySem.Str → Option Value) (news : List (Addr × Obj)) => Nms m' aN aI aP aK aG aB aM aD b tb ∧ ∃ kvs tup, CSt w aD fix kvs tup news ∧ kvs.length ≤ 2 * i ∧ ∀ k, k < i → ∃ v, valueAt kvs ((B.getD k 0 : Nat) : Int) = some v ∧ VIs tup v (dueOf G M (I.getD k (-1))))
  refine iter_rng (n := S.length) J
    rfl R3 (small_nat _ (by omega)) (size_nat _) F3 (News.sub (news' := (81, tabObj #[]) :: ([] ++ (aD, oD0) :: ([] ++ fix))) N3 ?_) ((hJ _ _ _).mpr ⟨⟨hm1, hm2, hm3, hm4, hm5, hm6, hm7, rfl, hm8⟩, [], [], ⟨#[], [], oD0, rfl, .inl ⟨rfl, rfl⟩, hD0, fun p hp => nomatch hp⟩, Nat.zero_le _, fun k hk => absurd hk (Nat.not_lt_zero _)⟩) ?_ ?_
  · intro p hp
    rcases List.mem_cons.mp hp with rfl | hp
    · exact .tail _ (.head _)
    rcases List.mem_cons.mp hp with rfl | hp
    · exact .head _
    · exact .tail _ (.tail _ hp)
  · clear F3 N3 R3 hD0 hSm
    intro i t m' nw h tk It o hi hj hIne F N
    obtain ⟨⟨k1, k2, k3, k4, k5, k6, k7, k8, k9⟩, kvs, tup, ⟨ps, extra, oD, rfl, hx, hD, hne⟩, hlen, hok⟩ := (hJ _ _ _).mp hj
    clear hj
    rw [Int.zero_add] at F
    have hx0 := LO.getI hi
    have hsub : ∀ p ∈ fix, p ∈ (It, o) :: (81, tabObj ps) :: (extra ++ (aD, oD) :: (tup ++ fix)) := fun p hp => .tail _ (.tail _ (List.mem_append_right _ (.tail _ (List.mem_append_right _ hp))))
    iterate 2 walk1
    obtain ⟨Q1, hQ1⟩ := hide2 (fun (v : Value) (s' : Shared) => ∃ h' tk' tl, s' = { s with heap := h', toks := tk' } ∧ Fr H L h' (fun y => if y = Str.ofString "k" then some (Value.int ((i : Nat) : Int) t) else m' y) ∧ News H L h' (tl ++ (It, o) :: (81, tabObj ps) :: (extra ++ (aD, oD) :: (tup ++ fix))) ∧ VIs tl v (dueOf G M (I.getD i (-1))) ∧ ∀ p ∈ tl, h.get? p.1 = none)
    refine wpAny_mono (Q := Q1) ?_ ?_ (fun _ _ x => x)
    · iterate 5 walk1
      refine item_at (News.isList N (hsub _ hI)) iI hx0.1 (by omega) ?_
      intro t2
      iterate 3 walk1
      by_cases c1 : 0 ≤ I.getD i (-1)
      · rw [if_pos (by simpa using c1)]
        obtain ⟨q, hq⟩ := Int.eq_ofNat_of_zero_le c1
        have hqI : I[i]? = some ((q : Nat) : Int) := by rw [hx0.1, hq]
        have hqP : q < P.length := by have := hx0.2.2; omega
        iterate 7 walk1
        refine item_at (News.isList N (hsub _ hI)) iI hqI (by omega) ?_
        intro t3
        refine item_at (News.isList N (hsub _ hG)) iG (natl_get (by rw [LO.lG]; exact hqP)) (by omega) ?_
        intro t4
        iterate 6 walk1
        refine item_at (News.isList N (hsub _ hI)) iI hqI (by omega) ?_
        intro t5
        refine item_at (News.isList N (hsub _ hM)) iM (natl_get (by rw [LO.lM]; exact hqP)) (by omega) ?_
        intro t6
        iterate 1 walk1
        refine newTuple_N F N ?_ (by show 2 ≤ sizeLine; decide)
        intro h7 F7 N7
        exact (hQ1 _ _).mpr ⟨h7, _, [(_, tupObj _ _ t4 t6)], rfl, F7, N7, by rw [dueOf, if_pos c1, hq, Int.toNat_natCast]; exact ⟨_, t4, t6, rfl, .head _⟩, fun p hp => by cases List.mem_singleton.mp hp; exact Heap.get?_none_of_le (Nat.le_refl _)⟩
      · rw [if_neg (by simpa using c1)]
        iterate 1 walk1
        exact (hQ1 _ _).mpr ⟨h, _, [], rfl, F, N, by rw [dueOf, if_neg c1]; rfl, fun p hp => nomatch hp⟩
    · intro v s' hq
      obtain ⟨h4, tk4, tl, rfl, F4, N4, hv, hfr⟩ := (hQ1 _ _).mp hq
      clear hq hQ1 Q1
      have htl : ∀ p ∈ tl, @Ne Nat p.1 81 ∧ @Ne Nat p.1 aD := fun p hp => ⟨ne_fresh (hfr p hp) (N (81, tabObj ps) (.tail _ (.head _))).1, ne_fresh (hfr p hp) (N (aD, oD) (.tail _ (.tail _ (List.mem_append_right _ (.head _))))).1⟩
      have hold : ∀ p ∈ extra ++ tup, ∀ q ∈ tl, @Ne Nat p.1 q.1 := fun p hp q hq => Ne.symm (ne_fresh (hfr q hq) (N p (by
        rcases List.mem_append.mp hp with hp | hp
        · exact .tail _ (.tail _ (List.mem_append_left _ hp))
        · exact .tail _ (.tail _ (List.mem_append_right _ (.tail _ (List.mem_append_left _ hp)))))).1)
      have nI81 : @Ne Nat It 81 := Ne.symm (hIne (81, _) (.head _))
      have nID : @Ne Nat It aD := Ne.symm (hIne (aD, _) (.tail _ (List.mem_append_right _ (.head _))))
      have hsub2 : ∀ p ∈ fix, p ∈ tl ++ (It, o) :: (81, tabObj ps) :: (extra ++ (aD, oD) :: (tup ++ fix)) := fun p hp => List.mem_append_right _ (hsub p hp)
      have hSm := hsub2 _ hS
      clear F
      repeat ((fail_if_success (with_reducible show wpAny _ _ (exec _ _) _ _ _)); walk1)
      rename Fr _ _ _ _ => F5
      rename News _ _ _ _ => N5
      refine For_invV H (by rfl) (by rfl) ?_
      have gB := natl_get (l := B) (k := i) (by rw [LO.lB]; exact hi)
      have gS := natl_get (l := S) (k := i) hi
      iterate 5 walk1
      refine item_at (News.isList N5 (hsub2 _ hB)) iB gB (by omega) ?_
      intro t3
      iterate 6 walk1
      refine item_at (News.isList N5 (hsub2 _ hB)) iB gB (by omega) ?_
      intro t4
      iterate 3 walk1
      refine item_at (News.isList N5 (hsub2 _ hS')) iS gS (by omega) ?_
      intro t5
      iterate 5 walk1
      rename_i aL h6 F6 N6 l6
      have nL81 : @Ne Nat aL 81 := Nat.ne_of_gt (l6 (81, tabObj ps) (List.mem_append_right _ (.tail _ (.head _))))
      have nLD : @Ne Nat aL aD := Nat.ne_of_gt (l6 (aD, oD) (List.mem_append_right _ (.tail _ (.tail _ (List.mem_append_right _ (.head _))))))
      have e1 : ((B.getD i 0 : Nat) : Int) + ((S.getD i 0 : Nat) : Int) - 1 = ((B.getD i 0 + S.getD i 0 - 1 : Nat) : Int) := by have := LO.hS i hi; omega
      rw [e1] at N6
      generalize hobj : listOf #[Value.int ((B.getD i 0 : Nat) : Int) t3, Value.int ((B.getD i 0 + S.getD i 0 - 1 : Nat) : Int) (tk4 + 1 + 1 + 1)] 0 = ol at N6
      obtain ⟨R1, hR1⟩ : ∃ R1, R1 = (aL, ol) :: (tl ++ (It, o) :: fix) := ⟨_, rfl⟩
      have hR1n : ∀ p ∈ R1, @Ne Nat p.1 81 ∧ @Ne Nat p.1 aD := by
        intro p hp
        rw [hR1] at hp
        rcases List.mem_cons.mp hp with rfl | hp
        · exact ⟨nL81, nLD⟩
        rcases List.mem_append.mp hp with hp | hp
        · exact htl p hp
        rcases List.mem_cons.mp hp with rfl | hp
        · exact ⟨nI81, nID⟩
        · exact ⟨h81 p hp, nDf p hp⟩
      have hneR : ∀ p ∈ extra ++ tup, @Ne Nat p.1 81 ∧ @Ne Nat p.1 aD ∧ ∀ q ∈ R1, @Ne Nat p.1 q.1 := by
        intro p hp
        obtain ⟨h1, h2, h3⟩ := hne p hp
        refine ⟨h1, h2, fun q hq => ?_⟩
        have hpm : p ∈ (81, tabObj ps) :: (extra ++ (aD, oD) :: (tup ++ fix)) := by
          rcases List.mem_append.mp hp with hp | hp
          · exact .tail _ (List.mem_append_left _ hp)
          · exact .tail _ (List.mem_append_right _ (.tail _ (List.mem_append_left _ hp)))
        rw [hR1] at hq
        rcases List.mem_cons.mp hq with rfl | hq
        · exact Nat.ne_of_lt (l6 p (List.mem_append_right _ (.tail _ hpm)))
        rcases List.mem_append.mp hq with hq | hq
        · exact hold p hp q hq
        rcases List.mem_cons.mp hq with rfl | hq
        · exact hIne p hpm
        · exact h3 q hq
      have hRf : ∀ p ∈ tl ++ (It, o) :: fix, p ∈ R1 := fun p hp => by rw [hR1]; exact .tail _ hp
      have hRL : (aL, ol) ∈ R1 := by rw [hR1]; exact .head _
      have N7 := News.sub (news' := (81, tabObj ps) :: (extra ++ (aD, oD) :: (tup ++ R1))) N6 (by
        rw [hR1]
        repeat' (with_reducible first | exact sub0 | exact subi | exact subl | refine suba ?_ ?_ | refine subc ?_ ?_ | refine subk ?_ | refine subr ?_ | exact List.mem_cons_self | refine List.mem_cons_of_mem _ ?_ | refine List.mem_append_right _ ?_))
      have hL7 := N7 _ (.tail _ (List.mem_append_right _ (.tail _ (List.mem_append_right _ hRL))))
      obtain ⟨J2, hJ2⟩ := hide3 (fun (i2 : Nat) (m2 : PySem.Str → Option Value) (news : List (Addr × Obj)) => Nms m2 aN aI aP aK aG aB aM aD b tb ∧ m2 (Str.ofString "due") = some v ∧ ∃ kvs2 tup2, CSt w aD R1 kvs2 tup2 news ∧ kvs2.length ≤ 2 * i + i2 ∧ (∀ k, k < i → ∃ v, valueAt kvs2 ((B.getD k 0 : Nat) : Int) = some v ∧ VIs tup2 v (dueOf G M (I.getD k (-1)))) ∧ (0 < i2 → ∃ v, valueAt kvs2 ((B.getD i 0 : Nat) : Int) = some v ∧ VIs tup2 v (dueOf G M (I.getD i (-1)))))
      refine iter_lst (ol := ol) (vs := [Value.int ((B.getD i 0 : Nat) : Int) t3, Value.int ((B.getD i 0 + S.getD i 0 - 1 : Nat) : Int) (tk4 + 1 + 1 + 1)])
        J2
        rfl ⟨_, hL7.1, by rw [← hobj], 0, by rw [← hobj]⟩ hL7.1 (.inr ⟨hL7.2.2, hL7.2.1, ?_⟩) F6 N7 ((hJ2 _ _ _).mpr ⟨⟨k1, k2, k3, k4, k5, k6, k7, k8, k9⟩, rfl, kvs, tup, ⟨ps, extra, oD, rfl, hx, hD, hneR⟩, hlen, hok, fun h => absurd h (Nat.lt_irrefl _)⟩) ?_ ?_
      · intro i2 m2 nw hj
        obtain ⟨_, _, kvs2, tup2, ⟨ps2, extra2, oD2, rfl, _⟩, _⟩ := (hJ2 _ _ _).mp hj
        exact .tail _ (List.mem_append_right _ (.tail _ (List.mem_append_right _ hRL)))
      · clear F6 N7 N6 hL7 hSm hsub2
        intro i2 v2 m2 nw2 h8 tk8 It2 o2 hv2 hj hIne2 F8 N8
        obtain ⟨⟨n1, n2, n3, n4, n5, n6, n7, n8, n9⟩, ndue, kvs2, tup2, ⟨ps2, extra2, oD2, rfl, hx2, hD2, hne2⟩, hlen2, hok2, hown⟩ := (hJ2 _ _ _).mp hj
        clear hj
        obtain ⟨pl, tp, rfl, hp1, hp2, hp0⟩ : ∃ pl tp, v2 = Value.int ((pl : Nat) : Int) tp ∧ pos S i ≤ pl ∧ pl < pos S (i + 1) ∧ (i2 = 0 → pl = B.getD i 0) := by
          have q1 := LO.pos_eq i hi
          have q2 := pos_succ S i hi
          have q3 := LO.hS i hi
          match i2, hv2 with
          | 0, hv2 => exact ⟨_, _, (Option.some.inj hv2).symm, by omega, by omega, fun _ => rfl⟩
          | 1, hv2 => exact ⟨_, _, (Option.some.inj hv2).symm, by omega, by omega, fun h => absurd h (by decide)⟩
        have hi2 : i2 < 2 := (List.getElem?_eq_some_iff.mp hv2).1
        have nJ81 : @Ne Nat It2 81 := Ne.symm (hIne2 (81, _) (.head _))
        have nJD : @Ne Nat It2 aD := Ne.symm (hIne2 (aD, _) (.tail _ (List.mem_append_right _ (.head _))))
        have hrest : ∀ p ∈ (It2, o2) :: (aD, oD2) :: (tup2 ++ R1), @Ne Nat p.1 81 := by
          intro p hp
          rcases List.mem_cons.mp hp with rfl | hp
          · exact nJ81
          rcases List.mem_cons.mp hp with rfl | hp
          · exact nD81
          rcases List.mem_append.mp hp with hp | hp
          · exact (hne2 p (List.mem_append_right _ hp)).1
          · exact (hR1n p hp).1
        have N9 := News.sub (news' := (81, tabObj ps2) :: (extra2 ++ (It2, o2) :: (aD, oD2) :: (tup2 ++ R1))) N8 (by repeat' (with_reducible first | exact sub0 | exact subi | exact subl | refine suba ?_ ?_ | refine subc ?_ ?_ | refine subk ?_ | refine subr ?_ | exact List.mem_cons_self | refine List.mem_cons_of_mem _ ?_ | refine List.mem_append_right _ ?_))
        clear N8
        repeat ((fail_if_success (with_reducible show wpAny _ _ (call (Value.ref _) _) _ _ _)); walk1)
        have hel : (encAll (rowsTo B S G M I S.length).reverse).length ≤ 1000000 := by
          have h1 := encAll_len (rowsTo B S G M I S.length).reverse (fun r hr => rows_bd LO _ r (List.mem_reverse.mp hr))
          have h2 := rows_len (B := B) (S := S) (G := G) (M := M) (I := I) S.length
          rw [List.length_reverse] at h1
          omega
        refine call_look X T C F8 N9 hx2 hrest (Nat.lt_of_le_of_lt (Nat.add_le_add_left (by decide) _) (lawDep _)) rfl hb hel (rows_sorted LO) (fun r hr => rows_bd LO _ r (List.mem_reverse.mp hr)) ?_
        intro v9 h9 tk9 res ps3 extra3 tv F9 N10 hx3 hfr3 hlook hv9
        rw [look_due LO hi hp1 hp2 hlook] at hv9
        clear hlook
        have hfr4 : ∀ p ∈ extra3 ++ tv, (@Ne Nat p.1 81 ∧ @Ne Nat p.1 aD ∧ ∀ q ∈ R1, @Ne Nat p.1 q.1) ∧ @Ne Nat p.1 It2 := by
          intro p hp
          obtain ⟨h1, h2⟩ := hfr3 p hp
          rcases h1 with h1 | h1
          · exact ⟨hne2 p (List.mem_append_left _ h1), hIne2 p (.tail _ (List.mem_append_left _ h1))⟩
          · exact ⟨⟨h2, ne_fresh h1 (N9 (aD, oD2) (.tail _ (List.mem_append_right _ (.tail _ (.head _))))).1, fun q hq => ne_fresh h1 (N9 q (.tail _ (List.mem_append_right _ (.tail _ (.tail _ (List.mem_append_right _ hq)))))).1⟩, ne_fresh h1 (N9 (It2, o2) (.tail _ (List.mem_append_right _ (.head _)))).1⟩
        have N11 := News.sub (news' := ((81, tabObj ps3) :: (extra3 ++ (It2, o2) :: [])) ++ (aD, oD2) :: ((tv ++ tup2) ++ R1)) N10 (by repeat' (with_reducible first | exact sub0 | exact subi | exact subl | refine suba ?_ ?_ | refine subc ?_ ?_ | refine subk ?_ | refine subr ?_ | exact List.mem_cons_self | refine List.mem_cons_of_mem _ ?_ | refine List.mem_append_right _ ?_))
        clear N10 N9 F8 hfr3
        iterate 2 walk1
        refine kda_set (knd := intKind _ _) F9 N11 (updF_mid _ _ ?_ ?_) hD2 (intKind_is _ _ _ _) (by rw [sizeLine_eq]; omega) ?_
        · intro p hp
          rcases List.mem_cons.mp hp with rfl | hp
          · exact Ne.symm nD81
          rcases List.mem_append.mp hp with hp | hp
          · exact (hfr4 p (List.mem_append_left _ hp)).1.2.1
          · cases List.mem_singleton.mp hp; exact nJD
        · intro p hp
          rcases List.mem_append.mp hp with hp | hp
          · rcases List.mem_append.mp hp with hp | hp
            · exact (hfr4 p (List.mem_append_right _ hp)).1.2.1
            · exact (hne2 p (List.mem_append_right _ hp)).2.1
          · exact (hR1n p hp).2
        intro h12 oD3 F12 N12 hD3
        have hm9 : valueAt (stored kvs2 ((pl : Nat) : Int) v9) ((pl : Nat) : Int) = some v9 := by rw [valueAt_stored, if_pos rfl]
        clear N11 F9
        repeat ((fail_if_success (with_reducible show wpAny _ _ (subscriptTail _ _ _ _) _ _ _)); walk1)
        refine kda_item (knd := intKind _ _) N12 (List.mem_append_right _ (.head _)) hD3 (intKind_is _ _ _ _) hm9 ?_
        iterate 1 walk1
        refine ne_due N12 (hv9.sub fun p hp => List.mem_append_right _ (.tail _ (List.mem_append_left _ (List.mem_append_left _ hp)))) (hv.sub fun p hp => List.mem_append_right _ (.tail _ (List.mem_append_right _ (hRf p (List.mem_append_left _ hp))))) (Nat.lt_of_le_of_lt (Nat.add_le_add_left (by decide) _) (lawUnits _)) ?_
        iterate 2 walk1
        repeat ((with_reducible show wpAny _ _ _ _ _ _); walk1)
        have hsl := stored_len kvs2 ((pl : Nat) : Int) v9
        refine ⟨rfl, _, _, _, _, rfl, F12, News.sub (news' := (It2, o2) :: (81, tabObj ps3) :: (extra3 ++ (aD, oD3) :: ((tv ++ tup2) ++ R1))) N12 ?_, ?_, (hJ2 _ _ _).mpr ⟨⟨n1, n2, n3, n4, n5, n6, n7, n8, n9⟩, ndue, stored kvs2 ((pl : Nat) : Int) v9, tv ++ tup2, ⟨ps3, extra3, oD3, rfl, hx3, hD3, ?_⟩, by omega, ?_, ?_⟩⟩
        · intro p hp
          simp only [List.mem_cons, List.mem_append, List.not_mem_nil, or_false] at hp ⊢
          rcases hp with h | h | h | h | (h | h) | h <;> simp [h]
        · intro p hp
          rcases List.mem_cons.mp hp with rfl | hp
          · exact Ne.symm nJ81
          rcases List.mem_append.mp hp with hp | hp
          · exact (hfr4 p (List.mem_append_left _ hp)).2
          rcases List.mem_cons.mp hp with rfl | hp
          · exact Ne.symm nJD
          rcases List.mem_append.mp hp with hp | hp
          · rcases List.mem_append.mp hp with hp | hp
            · exact (hfr4 p (List.mem_append_right _ hp)).2
            · exact hIne2 p (.tail _ (List.mem_append_right _ (.tail _ (List.mem_append_left _ hp))))
          · exact hIne2 p (.tail _ (List.mem_append_right _ (.tail _ (List.mem_append_right _ hp))))
        · intro p hp
          rcases List.mem_append.mp hp with hp | hp
          · exact (hfr4 p (List.mem_append_left _ hp)).1
          rcases List.mem_append.mp hp with hp | hp
          · exact (hfr4 p (List.mem_append_right _ hp)).1
          · exact hne2 p (List.mem_append_right _ hp)
        · intro k hk
          obtain ⟨u, hu, hv0⟩ := hok2 k hk
          have q1 := LO.pos_eq k (by omega)
          have q2 := LO.pos_lt hk (by omega)
          refine ⟨u, ?_, hv0.sub fun p hp => List.mem_append_right _ hp⟩
          rw [valueAt_stored, if_neg (by omega)]
          exact hu
        · intro _
          rw [valueAt_stored]
          by_cases c : ((pl : Nat) : Int) = ((B.getD i 0 : Nat) : Int)
          · rw [if_pos c]
            exact ⟨v9, rfl, hv9.sub fun p hp => List.mem_append_left _ hp⟩
          · rw [if_neg c]
            obtain ⟨u, hu, hv0⟩ := hown (by
              rcases Nat.eq_zero_or_pos i2 with h | h
              · exact absurd (by rw [hp0 h]) c
              · exact h)
            exact ⟨u, hu, hv0.sub fun p hp => List.mem_append_right _ hp⟩
      · intro m2 nw2 h8 tk8 hj F8 N8
        obtain ⟨⟨n1, n2, n3, n4, n5, n6, n7, n8, n9⟩, ndue, kvs2, tup2, ⟨ps2, extra2, oD2, rfl, hx2, hD2, hne2⟩, hlen2, hok2, hown⟩ := (hJ2 _ _ _).mp hj
        clear hj
        have hRI : (It, o) ∈ R1 := hRf _ (List.mem_append_right _ (.head _))
        have hRx : ∀ p ∈ fix, p ∈ R1 := fun p hp => hRf p (List.mem_append_right _ (.tail _ hp))
        repeat ((with_reducible show wpAny _ _ _ _ _ _); walk1)
        refine ⟨rfl, _, _, _, _, rfl, F8, News.sub (news' := (It, o) :: (81, tabObj ps2) :: (extra2 ++ (aD, oD2) :: (tup2 ++ fix))) N8 ?_, ?_, (hJ _ _ _).mpr ⟨⟨n1, n2, n3, n4, n5, n6, n7, n8, n9⟩, kvs2, tup2, ⟨ps2, extra2, oD2, rfl, hx2, hD2, fun p hp => ⟨(hne2 p hp).1, (hne2 p hp).2.1, fun q hq => (hne2 p hp).2.2 q (hRx q hq)⟩⟩, by simp at hlen2; omega, ?_⟩⟩
        · intro p hp
          rcases List.mem_cons.mp hp with rfl | hp
          · exact .tail _ (List.mem_append_right _ (.tail _ (List.mem_append_right _ hRI)))
          rcases List.mem_cons.mp hp with rfl | hp
          · exact .head _
          rcases List.mem_append.mp hp with hp | hp
          · exact .tail _ (List.mem_append_left _ hp)
          rcases List.mem_cons.mp hp with rfl | hp
          · exact .tail _ (List.mem_append_right _ (.head _))
          rcases List.mem_append.mp hp with hp | hp
          · exact .tail _ (List.mem_append_right _ (.tail _ (List.mem_append_left _ hp)))
          · exact .tail _ (List.mem_append_right _ (.tail _ (List.mem_append_right _ (hRx p hp))))
        · intro p hp
          rcases List.mem_cons.mp hp with rfl | hp
          · exact Ne.symm nI81
          rcases List.mem_append.mp hp with hp | hp
          · exact (hne2 p (List.mem_append_left _ hp)).2.2 _ hRI
          rcases List.mem_cons.mp hp with rfl | hp
          · exact Ne.symm nID
          rcases List.mem_append.mp hp with hp | hp
          · exact (hne2 p (List.mem_append_right _ hp)).2.2 _ hRI
          · exact hIne p (.tail _ (List.mem_append_right _ (.tail _ (List.mem_append_right _ hp))))
        · intro k hk
          rcases Nat.lt_or_ge k i with h | h
          · exact hok2 k h
          · have : k = i := by omega
            subst this
            exact hown (Nat.succ_pos _)
  · intro m' nw h tk hj F N
    obtain ⟨⟨k1, k2, k3, k4, k5, k6, k7, k8, k9⟩, kvs, tup, ⟨ps, extra, oD, rfl, hx, hD, hne⟩, hlen, hok⟩ := (hJ _ _ _).mp hj
    have hsub : ∀ p ∈ fix, p ∈ extra ++ (aD, oD) :: (tup ++ fix) := fun p hp => List.mem_append_right _ (.tail _ (List.mem_append_right _ hp))
    exact law_d X T F N k1 k2 k3 k4 k5 k6 k7 k8 (fN.sub hsub) ⟨vI, eI, hsub _ hI, iI⟩ (fP.sub hsub) (fK.sub hsub) ⟨vG, eG, hsub _ hG, iG⟩ ⟨vB, eB, hsub _ hB, iB⟩ ⟨vM, eM, hsub _ hM, iM⟩ (List.mem_append_right _ (.head _)) hD lN bN LO (fun k hk => by
      obtain ⟨u, hu, hv⟩ := hok k hk
      exact ⟨u, hu, hv.sub fun p hp => List.mem_append_right _ (.tail _ (List.mem_append_left _ hp))⟩)
end Mine
end

section
namespace Mine
local macro_rules | `(tactic| walk_at "eval Name") => `(tactic| (k_dflt (first | refine nameX_L (by with_reducible assumption) (by assumption) ?_ | (refine' nameX_C ?N ?c ?m ?d ?_ ?a ?b; (case a => rfl); (case b => rfl); (case N => k_asm); (case c => rfl); (case m => k_mem); (case d => k_asm); k_whole))))

theorem law_b {w : World} {s : Shared} {H : Heap} {L fa : Addr} {cd : Value} {m : PySem.Str → Option Value} {loose : List PySem.Str} {mean : ExcName → Option Value} {mg mb : PySem.Str → Option Value} {o1 oS : Obj} {aN aI aS aP aK : Addr} {vN vI vS vP vK : List Value} {eN eI eS eP eK : Nat} {ys inner sizes parents kinds : List Int} :
    (hd.heap_39 w.params).In H → Top topProg loose mean mg mb H → CodeHd H 85 81 → Fr H L s.heap m →
    News H L s.heap [(aI, listOf vI.toArray eI), (aS, listOf vS.toArray eS), (aP, listOf vP.toArray eP), (aK, listOf vK.toArray eK), (aN, listOf vN.toArray eN), (L + 1 + 1, o1), (L + 1, oS), (81, tabObj #[])] →
    m (Str.ofString "numbers") = some (.ref aN) → m (Str.ofString "inner") = some (.ref aI) → m (Str.ofString "parents") = some (.ref aP) → m (Str.ofString "kinds") = some (.ref aK) →
    o1.data = .cell none → oS.data = .cell (some (.ref aS)) → IntsAre vN ys → ys.length = 5 → (∀ y ∈ ys, 0 ≤ y ∧ y ≤ 100000000) → IntsAre vI inner → IntsAre vS sizes → IntsAre vP parents → IntsAre vK kinds → ProgOk 5 inner sizes parents kinds →
    (∀ p ∈ [aI, aS, aP, aK, aN], @Ne Nat p (L + 1 + 1) ∧ @Ne Nat p (L + 1) ∧ @Ne Nat p 81) → @LT.lt Nat _ 81 L →
    wpAny (model Challenge.rw_qu0013_01.row.prog w) (callerA.deeper (lawEnv L fa cd)) (execs (lawBody.drop 2) (lawEnv L fa cd)) (LawEnd H L s) (fun _ _ => False) s := by
  w_top off
  k_fill
  intro X T C F N hm1 hm2 hm3 hm4 hc1 hc2 iN lN bN iI iS iP iK hok hne hL81
  have nI := hne aI (.head _)
  have nS := hne aS (.tail _ (.head _))
  have nP := hne aP (.tail _ (.tail _ (.head _)))
  have nK := hne aK (.tail _ (.tail _ (.tail _ (.head _))))
  have nN := hne aN (.tail _ (.tail _ (.tail _ (.tail _ (.head _)))))
  clear hne
  have hlp := hok.lp
  have h81L : @Ne Nat 81 (L + 1) := Nat.ne_of_lt (Nat.lt_succ_of_lt hL81)
  have h81M : @Ne Nat 81 (L + 1 + 1) := Nat.ne_of_lt (Nat.lt_succ_of_lt (Nat.lt_succ_of_lt hL81))
  have hLM : @Ne Nat (L + 1) (L + 1 + 1) := Nat.ne_of_lt (Nat.lt_succ_self _)
  unfold lawEnv
  conv in (List.drop _ lawBody) => whnf
  conv in lawScope => whnf
  conv in lawScope => whnf
  iterate 12 walk1
  refine len_at (News.isList N (.tail _ (.tail _ (.head _)))) iP.length (by omega) ?_
  iterate 2 walk1
  rename Fr _ _ _ _ => F10
  rename News _ _ _ _ => N10
  rename IsRange _ _ _ _ _ _ _ _ => R10
  refine comp_rng (fun i => sizes.sum + 7 * ((i : Nat) : Int)) rfl F10 N10 R10 (by omega) ?_ ?_
  · intro i t I oI C' oC D zs m₂ h tk E' hi hC hx F N hne
    clear F10 N10 R10
    iterate 13 walk1
    rename Fr _ _ _ _ => F11
    rename News _ _ _ _ => N11
    exact ⟨_, _, _, rfl, rfl, F11, N11⟩
  intro g zG iG aG h11 tk11 F11 N11 off11
  clear F10 N10 R10
  have oG : @Ne Nat aG (L + 1) ∧ @Ne Nat aG (L + 1 + 1) ∧ @Ne Nat aG 81 := ⟨Ne.symm (off1_mem off11 (L + 1, _) (by k_mem)), Ne.symm (off1_mem off11 (L + 1 + 1, _) (by k_mem)), Ne.symm (off1_mem off11 (81, _) (by k_mem))⟩
  clear off11
  iterate 5 walk1
  refine kmk_add_ints F11 N11 (News.isList N11 (.tail _ (.head _))) (News.isList N11 (.tail _ (.tail _ (.tail _ (.head _))))) iI iP ?_ (by rw [sizeLine_eq, hok.li]; omega)
  intro aI2 vI2 h12 F12 N12 lI2 iI2
  have oI2 : @Ne Nat aI2 (L + 1) ∧ @Ne Nat aI2 (L + 1 + 1) ∧ @Ne Nat aI2 81 := ⟨Nat.ne_of_gt (lI2 (L + 1, _) (by k_mem)), Nat.ne_of_gt (lI2 (L + 1 + 1, _) (by k_mem)), Nat.ne_of_gt (lI2 (81, _) (by k_mem))⟩
  clear F11 N11 lI2
  iterate 19 walk1
  rename_i aR h13 F13 N13 i7 n1 s1 e1 e2 e3 l13
  have e7 : (List.replicate ((parents.length : Nat) : Int).toNat [(7 : Int)]).flatten = List.replicate parents.length 7 := by simp
  rw [e7] at i7
  refine kmk_add_ints F13 N13 (News.isList N13 (by k_mem)) (News.isList N13 (.head _)) iS i7 ?_ (by rw [sizeLine_eq, hok.ls, List.length_replicate]; omega)
  intro aS2 vS2 h14 F14 N14 lS2 iS2
  have oS2 : @Ne Nat aS2 (L + 1) ∧ @Ne Nat aS2 (L + 1 + 1) ∧ @Ne Nat aS2 81 := ⟨Nat.ne_of_gt (lS2 (L + 1, _) (by k_mem)), Nat.ne_of_gt (lS2 (L + 1 + 1, _) (by k_mem)), Nat.ne_of_gt (lS2 (81, _) (by k_mem))⟩
  have N15 := News.sub (news' := [(aS2, listOf vS2.toArray 0), (aI2, listOf vI2.toArray 0), (aG, LCg.lst zG), (aP, listOf vP.toArray eP), (aK, listOf vK.toArray eK), (aN, listOf vN.toArray eN), (L + 1 + 1, o1), (L + 1, oS), (81, tabObj #[])]) N14 (by repeat (first | exact sub0 | refine subc (by k_mem) ?_))
  clear F13 N13 N14 lS2 e1 e2 e3 s1 l13 i7
  refine storeX_C F14 N15 rfl (updF_mid [_, _, _, _, _, _, _] [_] ?_ ?_) hc2 ?_
  · exact nec oS2.1 (nec oI2.1 (nec oG.1 (nec nP.2.1 (nec nK.2.1 (nec nN.2.1 (nec (Ne.symm hLM) ne0))))))
  · exact nec h81L ne0
  intro h16 oS3 F16 N16 hcS
  simp only [List.cons_append, List.nil_append] at N16
  clear F14 N15
  have lS2' : (sizes ++ List.replicate parents.length 7).length = 5 + parents.length := by rw [List.length_append, List.length_replicate, hok.ls]
  repeat ((fail_if_success (with_reducible show wpAny _ _ (call (Value.builtin "len") [Value.ref _]) _ _ _)); walk1)
  rename Fr _ _ _ _ => F17
  rename News _ _ _ _ => N17
  refine len_at (n := 5 + parents.length) (News.isList N17 (.head _)) (by rw [iS2.length, lS2']) (by omega) ?_
  iterate 2 walk1
  rename Fr _ _ _ _ => F18
  rename News _ _ _ _ => N18
  rename IsRange _ _ _ _ _ _ _ _ => R18
  refine comp_rng (fun i => ((sizes ++ List.replicate parents.length 7).take i).sum) rfl F18 N18 R18 (by omega) ?_ ?_
  · intro i t I oI C' oC D zs m₂ h tk E' hi hC hx F N hne
    clear F18 N18 R18
    iterate 14 walk1
    rename Fr _ _ _ _ => F19
    rename News _ _ _ _ => N19
    exact ⟨_, _, _, rfl, rfl, F19, News.sub N19 fun p hp => .tail _ hp⟩
  intro g2 zB iB aB h19 tk19 F19 N19 off19
  clear F18 N18 R18
  have oB : @Ne Nat aB (L + 1) ∧ @Ne Nat aB (L + 1 + 1) ∧ @Ne Nat aB 81 := ⟨Ne.symm (off1_mem off19 (L + 1, _) (by k_mem)), Ne.symm (off1_mem off19 (L + 1 + 1, _) (by k_mem)), Ne.symm (off1_mem off19 (81, _) (by k_mem))⟩
  clear off19
  iterate 5 walk1
  rename_i aD h20 F20 N20 l20
  have nDx : ∀ ox : Obj, ∀ p ∈ [(aB, LCg.lst zB), (aS2, listOf vS2.toArray 0), (aI2, listOf vI2.toArray 0), (aG, LCg.lst zG), (aP, listOf vP.toArray eP), (aK, listOf vK.toArray eK), (aN, listOf vN.toArray eN), (L + 1 + 1, ox), (L + 1, oS3), (81, tabObj #[])], @Ne Nat p.1 aD := by
    intro ox
    obtain ⟨j1, j2, j3, j4, j5, j6, j7, j8, j9, j10⟩ := l20
    exact nec (Nat.ne_of_lt j1) (nec (Nat.ne_of_lt j2) (nec (Nat.ne_of_lt j3) (nec (Nat.ne_of_lt j4) (nec (Nat.ne_of_lt j5) (nec (Nat.ne_of_lt j6) (nec (Nat.ne_of_lt j7) (nec (Nat.ne_of_lt j8) (nec (Nat.ne_of_lt j9) (nec (Nat.ne_of_lt j10) ne0)))))))))
  have nDM : @Ne Nat (L + 1 + 1) aD := nDx o1 (L + 1 + 1, _) (by k_mem)
  have nD81 : @Ne Nat 81 aD := nDx o1 (81, _) (by k_mem)
  refine storeX_C F20 N20 rfl (updF_mid [_, _, _, _, _, _, _, _] [_, _] ?_ ?_) hc1 ?_
  · exact nec (Ne.symm nDM) (nec oB.2.1 (nec oS2.2.1 (nec oI2.2.1 (nec oG.2.1 (nec nP.1 (nec nK.1 (nec nN.1 ne0)))))))
  · exact nec hLM (nec h81M ne0)
  intro h21 oD F21 N21 hcD
  simp only [List.cons_append, List.nil_append] at N21
  clear F20 N20
  repeat ((fail_if_success (with_reducible show wpAny _ _ (exec _ _) _ _ _)); walk1)
  rename Fr _ _ _ _ => F22
  rename News _ _ _ _ => N22
  have hlP := N22 (aP, listOf vP.toArray eP) (by k_mem)
  have nD := nDx oD
  refine For_invV H (by rfl) (by rfl) ?_
  iterate 1 walk1
  obtain ⟨J, hJ⟩ := hide3 (fun (i : Nat) (m' : PySem.Str → Option Value) (news : List (Addr × Obj)) => ∃ vD eD dl, m' (Str.ofString "numbers") = some (.ref aN) ∧ m' (Str.ofString "inner") = some (.ref aI2) ∧ m' (Str.ofString "parents") = some (.ref aP) ∧ m' (Str.ofString "kinds") = some (.ref aK) ∧ m' (Str.ofString "goals") = some (.ref aG) ∧ m' (Str.ofString "begins") = some (.ref aB) ∧
      news = [(aD, listOf (List.toArray vD) eD), (aB, LCg.lst zB), (aS2, listOf vS2.toArray 0), (aI2, listOf vI2.toArray 0), (aG, LCg.lst zG), (aP, listOf vP.toArray eP), (aK, listOf vK.toArray eK), (aN, listOf vN.toArray eN), (L + 1 + 1, oD), (L + 1, oS3), (81, tabObj #[])] ∧
      IntsAre vD dl ∧ dl.length = i ∧ i ≤ 5 ∧ ∀ x ∈ dl, 0 ≤ x ∧ x < i)
  refine iter_lst (ol := listOf vP.toArray eP) (vs := vP) J
    rfl (News.isList N22 (by k_mem)) hlP.1 (.inr ⟨hlP.2.2, hlP.2.1, ?_⟩) F22 N22 ((hJ _ _ _).mpr ⟨[], _, [], hm1, rfl, hm3, hm4, rfl, rfl, rfl, .nil, rfl, by omega, by simp⟩) ?_ ?_
  · intro i m' nw hj; obtain ⟨vD, eD, dl, _, _, _, _, _, _, rfl, _⟩ := (hJ _ _ _).mp hj; k_mem
  · clear F22 N22 hlP
    intro i v m' news h tk It o hv hj hIne F N
    obtain ⟨vD, eD, dl, k1, k2, k3, k4, k5, k6, rfl, iD, lD, hi5, hdl⟩ := (hJ _ _ _).mp hj
    clear hj
    obtain ⟨y, ty, rfl, hy⟩ := iP.at i v hv
    have hyb := hok.bp i y hy
    have hil : i < parents.length := (List.getElem?_eq_some_iff.mp hy).1
    have nDI : @Ne Nat aD It := hIne (aD, _) (.head _)
    iterate 7 walk1
    obtain ⟨Q1, hQ1⟩ := hide2 (fun (v : Value) (s' : Shared) => ∃ x t tk', v = Value.int x t ∧ s' = { s with heap := h, toks := tk' } ∧ 0 ≤ x ∧ x < ((i + 1 : Nat) : Int))
    refine wpAny_mono (Q := Q1) ?_ ?_ (fun _ _ x => x)
    · iterate 6 walk1
      by_cases hy0 : y < 0
      · rw [if_pos (by simpa using hy0)]
        iterate 1 walk1
        exact (hQ1 _ _).mpr ⟨_, _, _, rfl, rfl, by omega, by omega⟩
      · rw [if_neg (by simpa using hy0)]
        obtain ⟨q, rfl⟩ := Int.eq_ofNat_of_zero_le (show 0 ≤ y by omega)
        iterate 4 walk1
        have hq : dl[q]? = some (dl.getD q 0) := by rw [List.getD_eq_getElem?_getD, List.getElem?_eq_getElem (by omega)]; rfl
        have hqb := hdl _ (List.mem_of_getElem? hq)
        refine item_at (News.isList N (.tail _ (.head _))) iD hq (by omega) ?_
        intro t2
        iterate 2 walk1
        exact (hQ1 _ _).mpr ⟨_, _, _, rfl, rfl, by omega, by omega⟩
    · intro v s' hq
      obtain ⟨x, tx, tk2, rfl, rfl, hx0, hx1⟩ := (hQ1 _ _).mp hq
      clear hq hQ1 Q1
      iterate 1 walk1
      refine app_at F N (.tail (Ne.symm nDI) (.head fun p hp => nD p hp)) (by rw [iD.length]; omega) ?_
      intro h3 F3 N3
      repeat ((with_reducible show wpAny _ _ _ _ _ _); walk1)
      refine ⟨rfl, _, _, _, _, rfl, F3, N3, fun p hp => ?_, (hJ _ _ _).mpr ⟨_, _, _, k1, k2, k3, k4, k5, k6, rfl, IntsAre.snoc iD x tx, by simp [lD], by omega, fun z hz => ?_⟩⟩
      · rcases List.mem_cons.mp hp with rfl | hp
        · exact nDI
        · exact hIne p (.tail _ hp)
      · rcases List.mem_append.mp hz with hz | hz
        · have := hdl z hz; omega
        · rw [List.mem_singleton.mp hz]; omega
  intro m' news h tk hj F N
  obtain ⟨vD, eD, dl, k1, k2, k3, k4, k5, k6, rfl, iD, lD, hi5, hdl⟩ := (hJ _ _ _).mp hj
  clear F22 N22 hlP hj hJ J
  rw [iP.length] at lD hi5 hdl
  repeat ((fail_if_success (with_reducible show wpAny _ _ (call (Value.builtin "len") [Value.ref _]) _ _ _)); walk1)
  refine len_at (News.isList N (by k_mem)) iP.length (by omega) ?_
  iterate 2 walk1
  rename Fr _ _ _ _ => F30
  rename News _ _ _ _ => N30
  rename IsRange _ _ _ _ _ _ _ _ => R30
  refine comp_rng (fun i => 2 * dl.getD i 0 + ((i : Nat) : Int).fmod 2) rfl F30 N30 R30 (by omega) ?_ ?_
  · intro i t I oI C' oC D zs m₂ h tk E' hi hC hx F N hne
    clear F30 N30 R30
    iterate 13 walk1
    rename Fr _ _ _ _ => F31
    rename News _ _ _ _ => N31
    exact ⟨_, _, _, rfl, rfl, F31, N31⟩
  intro g3 zM iM aM h31 tk31 F31 N31 off31
  clear F30 N30 R30
  have oM : @Ne Nat aM (L + 1) ∧ @Ne Nat aM (L + 1 + 1) ∧ @Ne Nat aM 81 := ⟨Ne.symm (off1_mem off31 (L + 1, _) (by k_mem)), Ne.symm (off1_mem off31 (L + 1 + 1, _) (by k_mem)), Ne.symm (off1_mem off31 (81, _) (by k_mem))⟩
  clear off31
  have hdb : ∀ x ∈ dl, 0 ≤ x ∧ x ≤ 5 := fun x hx => by have := hdl x hx; omega
  have LO := lawOk_mk hok lD hdb
  obtain ⟨q1, q2, q3, q4⟩ := law_nn hok lD hdb
  have jS : IntsAre vS2 (natl ((sizes ++ List.replicate parents.length 7).map Int.toNat)) := by rw [natl_toNat _ q1]; exact iS2
  have jB := iB
  rw [← natl_toNat _ q2] at jB
  have jG := iG
  rw [← natl_toNat _ q3] at jG
  have jM := iM
  rw [← natl_toNat _ q4] at jM
  repeat ((fail_if_success (with_reducible show wpAny _ _ (call (Value.ref _) _) _ _ _)); walk1)
  rename Fr _ _ _ _ => F32
  rename News _ _ _ _ => N32
  have hLS := LO.lS
  refine call_con F32 N32 (table_spec (X.keeps F32.keep) (T.keeps F32.keep) (Nat.lt_of_le_of_lt (Nat.add_le_add_left (by decide) _) (lawDep _)) rfl (News.isList N32 (by k_mem)) (News.isList N32 (by k_mem)) (News.isList N32 (by k_mem)) (News.isList N32 (by k_mem)) (News.isList N32 (by k_mem)) jB jS iI2 jG jM
    LO.lB LO.lI (by omega) (by rw [LO.lG]; omega) (by rw [LO.lG, LO.lM]) (by rw [LO.lG]; exact LO.bI) (rows_bd LO)) ?_
  rintro v h33 tk33 F33 N33 st33 ⟨bb, tb, rfl, hbb⟩
  clear F32 N32 st33
  iterate 1 walk1
  rename Fr _ _ _ _ => F34
  rename News _ _ _ _ => N34
  refine law_c (fix := [(aM, LCg.lst zM), (aD, listOf vD.toArray eD), (aB, LCg.lst zB), (aS2, listOf vS2.toArray 0), (aI2, listOf vI2.toArray 0), (aG, LCg.lst zG), (aP, listOf vP.toArray eP), (aK, listOf vK.toArray eK), (aN, listOf vN.toArray eN), (L + 1 + 1, oD), (L + 1, oS3)])
    X T C F34 (News.sub N34 ?_) ?_ k1 k2 k3 k4 k5 k6 rfl rfl (by k_mem) hcS ⟨vN, eN, by k_mem, iN⟩ ⟨vI2, 0, by k_mem, iI2⟩ ⟨vS2, 0, by k_mem, jS⟩ ⟨vP, eP, by k_mem, iP⟩ ⟨vK, eK, by k_mem, iK⟩ ⟨zG, zG.length, by k_mem, jG⟩ ⟨zB, zB.length, by k_mem, jB⟩ ⟨zM, zM.length, by k_mem, jM⟩ lN bN LO hbb
  · repeat (first | exact sub0 | refine subc (by k_mem) ?_)
  · exact nec oM.2.2 (nec (Ne.symm nD81) (nec oB.2.2 (nec oS2.2.2 (nec oI2.2.2 (nec oG.2.2 (nec nP.2.2 (nec nK.2.2 (nec nN.2.2 (nec (Ne.symm h81M) (nec (Ne.symm h81L) ne0))))))))))
end Mine
end

section
namespace Mine
local macro_rules | `(tactic| walk_at "eval Name") => `(tactic| (k_dflt (first | refine nameX_L (by with_reducible assumption) (by assumption) ?_ | (refine' nameX_C ?N ?c ?m ?d ?_ ?a ?b; (case a => rfl); (case b => rfl); (case N => k_asm); (case c => rfl); (case m => k_mem); (case d => k_asm); k_whole))))

theorem law_run {w : World} {s : Shared} {H : Heap} {L fa : Addr} {cd : Value} {m0 : PySem.Str → Option Value} {loose : List PySem.Str} {mean : ExcName → Option Value} {mg mb : PySem.Str → Option Value} {o1 o2 : Obj} {sc : Addr} {vsc : List Value} {ns : List Int} :
    (hd.heap_39 w.params).In H → Top topProg loose mean mg mb H → CodeHd H 85 81 → Fr H L s.heap m0 → News H L s.heap [(L + 1 + 1, o1), (L + 1, o2), (81, tabObj #[])] → H.IsList sc vsc.toArray → IntsAre vsc ns → ns.length ≤ 63 → m0 (Str.ofString "script") = some (.ref sc) →
    o1.data = .cell none → o2.data = .cell none → @LT.lt Nat _ 81 L →
    wpAny (model Challenge.rw_qu0013_01.row.prog w) (callerA.deeper (lawEnv L fa cd)) (execs lawBody (lawEnv L fa cd)) (LawEnd H L s) (fun _ _ => False) s := by
  w_top off
  k_fill
  intro X T C F N hsc hI hn hm0 hc1 hc2 hL81
  unfold lawEnv
  conv in lawBody => whnf
  conv in lawScope => whnf
  conv in lawScope => whnf
  iterate 23 walk1
  rename Fr _ _ _ _ => F1
  rename News _ _ _ _ => N1
  refine call_con F1 N1 (drawn_spec (X.keeps F1.keep) (T.keeps F1.keep) (Nat.lt_of_le_of_lt (Nat.add_le_add_left (by decide) _) (lawDep _)) rfl (hsc.at fun o e => F1.keep _ _ e) hI hn (N1 _ (.head _)).1 (.cons _ _ (.cons _ _ (.cons _ _ (.cons _ _ (.cons _ _ .nil))))) rfl (by decide)) ?_
  rintro v h2 tk2 F2 N2 st2 ⟨aN, eN, vN, ys, rfl, hnN, hN, iN, lN, bN⟩
  have N3 := News.sub (news' := [(aN, listOf vN.toArray eN), (L + 1 + 1, o1), (L + 1, o2), (81, tabObj #[])]) (News.add F1 N2 hnN hN) (fun p hp => by
    rcases List.mem_cons.mp hp with rfl | hp
    · exact .head _
    · exact .tail _ (.tail _ hp))
  have nN := ne3 N1 hnN (.tail _ (.head _)) (.tail _ (.tail _ (.head _))) (.tail _ (.tail _ (.tail _ (.head _))))
  clear F1 N1 N2 st2
  iterate 11 walk1
  rename Fr _ _ _ _ => F4
  rename News _ _ _ _ => N4
  refine call_con F4 N4 (program_spec (X.keeps F4.keep) (T.keeps F4.keep) (Nat.lt_of_le_of_lt (Nat.add_le_add_left (by decide) _) (lawDep _)) rfl (Nat.lt_of_le_of_lt (Nat.add_le_add_left (by decide) _) (lawUnits _)) (N4 _ (.head _)).1 iN lN bN) ?_
  rintro v h5 tk5 F5 N5 st5 ⟨aQ, aI, aS, aP, aK, vI, vS, vP, vK, eI, eS, eP, eK, inner, sizes, parents, kinds, rfl, hnQ, hQ, hls, iI, iS, iP, iK, hok⟩
  have N6 := News.add F4 (News.addAll F4 N5 hls) hnQ hQ
  simp only [List.cons_append, List.nil_append] at N6
  have nQ := ne3 N4 hnQ (.tail _ (.head _)) (.tail _ (.tail _ (.head _))) (.tail _ (.tail _ (.tail _ (.head _))))
  have nI := ne3 (a := aI) N4 (hls (aI, _) (.head _)).1 (.tail _ (.head _)) (.tail _ (.tail _ (.head _))) (.tail _ (.tail _ (.tail _ (.head _))))
  have nS := ne3 (a := aS) N4 (hls (aS, _) (.tail _ (.head _))).1 (.tail _ (.head _)) (.tail _ (.tail _ (.head _))) (.tail _ (.tail _ (.tail _ (.head _))))
  have nP := ne3 (a := aP) N4 (hls (aP, _) (.tail _ (.tail _ (.head _)))).1 (.tail _ (.head _)) (.tail _ (.tail _ (.head _))) (.tail _ (.tail _ (.tail _ (.head _))))
  have nK := ne3 (a := aK) N4 (hls (aK, _) (.tail _ (.tail _ (.tail _ (.head _))))).1 (.tail _ (.head _)) (.tail _ (.tail _ (.head _))) (.tail _ (.tail _ (.tail _ (.head _))))
  clear F4 N4 N5 st5 hls
  iterate 6 walk1
  rename Fr _ _ _ _ => F7
  rename News _ _ _ _ => N7
  have h81L : @Ne Nat 81 (L + 1) := Nat.ne_of_lt (Nat.lt_succ_of_lt hL81)
  refine storeX_C F7 N7 rfl (updF_mid [_, _, _, _, _, _, _] [_] ?_ ?_) hc2 ?_
  · exact nec nQ.2.1 (nec nI.2.1 (nec nS.2.1 (nec nP.2.1 (nec nK.2.1 (nec nN.2.1 (nec (Nat.ne_of_gt (Nat.lt_succ_self _)) ne0))))))
  · exact nec h81L ne0
  intro h8 oS F8 N8 hcS
  simp only [List.cons_append, List.nil_append] at N8
  clear F7 N7
  repeat ((fail_if_success (with_reducible show wpAny _ _ (execs _ _) _ _ _)); walk1)
  rename Fr _ _ _ _ => F9
  rename News _ _ _ _ => N9
  refine law_b X T C F9 (News.sub N9 fun p hp => .tail _ hp) rfl rfl rfl rfl hc1 hcS iN lN bN iI iS iP iK hok ?_ hL81
  intro p hp
  rcases List.mem_cons.mp hp with rfl | hp
  · exact nI
  rcases List.mem_cons.mp hp with rfl | hp
  · exact nS
  rcases List.mem_cons.mp hp with rfl | hp
  · exact nP
  rcases List.mem_cons.mp hp with rfl | hp
  · exact nK
  cases List.mem_singleton.mp hp
  exact nN
end Mine
end

section
namespace Mine
theorem law_holds : Challenge.rw_qu0013_01.Holds := hd (by
  w_top off
  k_go0
  (all_goals try k_fold)
  rename Fr _ _ _ _ => F
  rename News _ _ _ _ => N
  rename Frag.In _ _ => X
  rename Top topProg _ _ _ _ _ => T
  rename CodeHd _ _ _ => C
  rename (ghostOf _ _).IsList _ _ => hsc
  rename IntsAre _ _ => hI
  rename ¬ _ < _ => hn
  rename CellsAre _ _ _ => X0
  rename @LT.lt Nat _ 81 _ => hL
  refine wpAny_mono (law_run X T C F N hsc hI (by omega) rfl (by assumption) (by assumption) hL) ?_ ?_
  · rintro f s' ⟨rfl, h', tk, m', rfl, F', ps, news, N9⟩
    refine ⟨?_, GrownAt.of N9 (.head _), True.intro⟩
    dsimp only
    k_end
    wrow_close
  · intro _ _ h
    exact h.elim)
end Mine
end

theorem PySem.Challenge.cw_qu0013_01_holds : PySem.Challenge.rw_qu0013_01.Holds := by
  exact Mine.law_holds
