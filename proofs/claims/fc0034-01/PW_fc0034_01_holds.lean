import PyProof.Rows.All
import Wide.All
import OpenK.AllK
import Wide.FinOn
import PySem.Challenge.RW_fc0034_01
open PySem PySem.Calls PySem.W PyProof.Rows PyProof.V PySem.Spec
set_option Elab.async false
set_option maxRecDepth 100000
set_option maxHeartbeats 0
set_option rowWalk.seconds 0
namespace Mine
noncomputable abbrev PR : Program := PySem.Challenge.rw_fc0034_01.row.prog
noncomputable abbrev LOf (q : Program) : List Str := looseW q [Str.ofString "Iterable", Str.ofString "Sized", Str.ofString "Container", Str.ofString "Collection", Str.ofString "Set", Str.ofString "Mapping", Str.ofString "MappingView", Str.ofString "KeysView", Str.ofString "ItemsView", Str.ofString "ValuesView", Str.ofString "MutableMapping", Str.ofString "Cache", Str.ofString "LRUCache"]
abbrev AL (cn : Str) (cs : Scope) (L a : Addr) (ccd : Value) (cl : List (Str × Addr)) : Around := ktrTop 302 7 (some []) cn cs L a ccd cl []

section
variable {prog : Program} {w : World} {A : Around} {E : Value → Shared → Prop} {s : Shared} {K : Frag} {x C p L : Addr} {ox : Obj} {name : Str} {h₀ : Heap} {m : Str → Option Value} {es : List DictEntry} {n : Nat} {Q : Value → Shared → Prop} {fv : Value} {rest : List Value}
/-- a staticmethod read from an object -/
theorem get_sm {expr : Bool} (F : Fr h₀ L s.heap m) (X₀ : K.In h₀) (I : InstAt s.heap x ox C (some (dictOf es n))) (hg : plainGet K C name = true) (hh : hasDictIn K C = true) (ha : findIn K (.ref C) name = some (some (.ref p)))
    (hgf : specialIn K (.ref p) "__get__" = some (some (.builtin "staticmethod.__get__"))) (hts : takesIn K (.ref p) = some false) (hc : copiedNames.contains name = false) (hl : getL name es = some none) (hp : recIn K p "staticmethod" = some (fv :: rest)) (hv : handedIn fv = true)
    (h : Q fv { s with toks := s.toks + 1 }) : wpAny (model prog w) A (getAttr (.ref x) name expr) Q E s :=
  get_bind (X₀.keeps F.keep) I (plainGet_of hg).1 (findObj_fn hh ha hgf hts hc (by show lookIn name (dictOf es n) = _; rw [lookIn_dict, hl])) (plainGet_of hg).2
    (wpAny_call (sm_get (s := { s with toks := s.toks + 1 }) (X₀.keeps F.keep) hp (handed_on hv h)))
end

def Hold (P : Prop) : Prop := P
theorem of_hold {P : Prop} (h : Hold P) : P := h

def TEndG (L : Addr) (J : Heap → (Str → Option Value) → List (Addr × Obj) → Prop) (I : Addr) (oI : Obj) (s₁ s₂ : Shared) : Prop :=
  ∃ g h' tk m' nx, s₂ = { s₁ with heap := h', toks := tk } ∧ Fr g L h' m' ∧ News g L h' ((I, oI) :: nx) ∧ (∀ p ∈ nx, @Ne Nat p.1 I) ∧ J g m' nx
def TPostG (L : Addr) (J : Heap → (Str → Option Value) → List (Addr × Obj) → Prop) (I : Addr) (oI : Obj) (s₁ : Shared) (Q : Flow → Shared → Prop) (f : Flow) (s₂ : Shared) : Prop :=
  match f with
  | .ret v => Q (.ret v) s₂
  | .brk => Q .next s₂
  | _ => TEndG L J I oI s₁ s₂
def LoopG (prog : Program) (w : World) (A : Around) (E : Value → Shared → Prop) (env : Env) (x : Str) (body : List Stmt) (Q : Flow → Shared → Prop) (xv : Value) (s₁ : Shared) : Prop :=
  ∃ (r : Addr) (a₀ b₀ : Int) (t u v : Tok) (n : Nat) (g : Heap) (m : Str → Option Value) (news : List (Addr × Obj)) (J : Nat → Heap → (Str → Option Value) → List (Addr × Obj) → Prop),
    xv = .ref r ∧ A.handled = none ∧ IsRange s₁.heap r a₀ b₀ 1 t u v ∧ Builtin.Range.small a₀ b₀ 1 = true ∧ Builtin.Range.rangeSize a₀ b₀ 1 = (n : Int) ∧ Fr g env.locals s₁.heap m ∧ News g env.locals s₁.heap news ∧ J 0 g m news ∧
    (∀ i g₁ m₁ nx I oI t h tk, i < n → J i g₁ m₁ nx → (∀ p ∈ nx, @Ne Nat p.1 I) → Fr g₁ env.locals h (fun y => if y = x then some (.int (a₀ + (i : Int)) t) else m₁ y) → News g₁ env.locals h ((I, oI) :: nx) →
      wpAny (model prog w) A (execs body env) (TPostG env.locals (J (i + 1)) I oI { s₁ with heap := h, toks := tk } Q) E { s₁ with heap := h, toks := tk }) ∧
    (∀ g₁ m₁ nx h tk, J n g₁ m₁ nx → Fr g₁ env.locals h m₁ → News g₁ env.locals h nx → Q .next { s₁ with heap := h, toks := tk })

section
variable {prog : Program} {w : World} {A : Around} {E : Value → Shared → Prop} {s : Shared} {env : Env} {x : Str} {body : List Stmt} {Q : Flow → Shared → Prop}
/-- a for over a range; what stands between the turns is said of the ground, the frame and the whole ledger; the ledger may grow, the ground may be another -/
theorem For_G {px pos : Pos} {iter : Expr} (hx : env.kindOf x = some .local) (hp : (env.scope.kind == .class || (env.scope.kind == .module && env.locals != env.globals)) = false)
    (h : wpAny (model prog w) A (eval iter env) (LoopG prog w A E env x body Q) E s)
    (hs : ∀ x, foldedSetIterable iter env x = pure x := by intro _; rfl) (hE : PassesOwn (model prog w) A env E := by passes_own) :
    wpAny (model prog w) A (exec (.For (.Name x px) iter body [] pos) env) Q E s := by
  refine wpAny_For (wpAny_mono h (fun xv s₁ h₁ => ?_) fun _ _ e => e) hs
  obtain ⟨r, a₀, b₀, t, u, v, n, g, m, news, J, rfl, hh, hr, hsmall, hn, F, N, hj, turn, done⟩ := h₁
  refine wpAny_pyIter_range hr hsmall ?_
  have W := Walks.range (prog := prog) (w := w) hh s₁.heap.objs.size a₀ 1 n
  refine codeAny_forLoop (fun k s' => ∃ h' tk g₁ m' nx i, s' = { s₁ with heap := h', toks := tk } ∧ IsRangeIter h' s₁.heap.objs.size (a₀ + (i : Nat) * 1) ((n : Int) - (i : Nat)) 1 ∧ Fr g₁ env.locals h' m' ∧ News g₁ env.locals h' nx ∧
    (∀ p ∈ nx, @Ne Nat p.1 s₁.heap.objs.size) ∧ g₁.get? s₁.heap.objs.size = none ∧ env.locals ≠ s₁.heap.objs.size ∧ J i g₁ m' nx ∧ i ≤ n ∧ k = n + 1 - i) ?_ (n + 1)
    ⟨_, s₁.toks, g, m, news, 0, rfl, (by show IsRangeIter _ _ _ _ _; rw [hn]; simpa using Heap.get?_push_size _ rfl), F.push _, (fun p hp => ⟨Heap.get?_push_of_some _ (N p hp).1, (N p hp).2⟩),
      (fun p hp => Nat.ne_of_lt (Heap.lt_size (N p hp).1)), next_is_new F, Nat.ne_of_lt F.ns.lt, hj, Nat.zero_le _, rfl⟩
  rintro k s' ⟨h', tk, g₁, m', nx, i, rfl, hst, F', N', hoff, hI, hL, hJ, hi, rfl⟩
  have next : ∀ h₁ : Heap, (∀ b o, b ∉ [s₁.heap.objs.size] → h'.get? b = some o → h₁.get? b = some o) → Fr g₁ env.locals h₁ m' ∧ News g₁ env.locals h₁ nx := fun h₁ hk₁ =>
    ⟨⟨F'.ns.at' fun o e => hk₁ _ o (fun q => hL (List.mem_singleton.mp q)) e, fun b o e => hk₁ b o (fun q => by rw [List.mem_singleton.mp q, hI] at e; cases e) (F'.keep b o e), F'.above⟩,
      fun p hp => ⟨hk₁ _ _ (fun q => hoff p hp (List.mem_singleton.mp q)) (N' p hp).1, (N' p hp).2⟩⟩
  by_cases hlt : i < n
  · refine W.item i _ _ _ hlt hst fun v h₁ tk₁ hP hst₁ hk₁ => ?_
    obtain ⟨t, rfl⟩ := hP
    obtain ⟨F₁, N₁⟩ := next h₁ hk₁
    refine wpAny_assign_Name (wpAny_storeName_local hx F₁.ns (fun h₂ hn₂ hs₂ => ?_) hp)
    have F₂ := F₁.set hn₂ hs₂
    simp only [Int.mul_one] at F₂
    obtain ⟨oI, hoI⟩ : ∃ oI, h₁.get? s₁.heap.objs.size = some oI := ⟨_, hst₁⟩
    have hI₂ : h₂.get? s₁.heap.objs.size = some oI := (hs₂.2 _ (Ne.symm hL)).trans hoI
    have N₂ : News g₁ env.locals h₂ ((s₁.heap.objs.size, oI) :: nx) := fun p hp => by
      rcases List.mem_cons.mp hp with rfl | hp
      · exact ⟨hI₂, Ne.symm hL, hI⟩
      · exact N₁.set hs₂ p hp
    refine wpAny_passesOwn hE (wpAny_mono (turn i g₁ m' nx _ oI t h₂ _ hlt hJ hoff F₂ N₂) (fun f s₃ h₃ => ?_) fun _ _ e => e)
    have fin : TEndG env.locals (J (i + 1)) s₁.heap.objs.size oI { s₁ with heap := h₂, toks := tk₁ + 1 } s₃ → ∃ k', k' < n + 1 - i ∧ ∃ h' tk g₁ m' nx j, s₃ = { s₁ with heap := h', toks := tk } ∧ IsRangeIter h' s₁.heap.objs.size (a₀ + (j : Nat) * 1) ((n : Int) - (j : Nat)) 1 ∧ Fr g₁ env.locals h' m' ∧ News g₁ env.locals h' nx ∧
        (∀ p ∈ nx, @Ne Nat p.1 s₁.heap.objs.size) ∧ g₁.get? s₁.heap.objs.size = none ∧ env.locals ≠ s₁.heap.objs.size ∧ J j g₁ m' nx ∧ j ≤ n ∧ k' = n + 1 - j := by
      rintro ⟨g', h3, tk3, m3, nx3, rfl, F3, N3, off3, hJ3⟩
      have z := N3 _ List.mem_cons_self
      exact ⟨n + 1 - (i + 1), by omega, h3, tk3, g', m3, nx3, i + 1, rfl, z.1.trans (hoI.symm.trans hst₁), F3, fun p hp => N3 p (List.mem_cons_of_mem _ hp), off3, z.2.2, hL, hJ3, hlt, rfl⟩
    cases f with
    | ret v => exact h₃
    | brk => exact h₃
    | next => exact fin h₃
    | cont => exact fin h₃
  · obtain rfl : i = n := Nat.le_antisymm hi (Nat.not_lt.mp hlt)
    refine W.done _ _ _ hst fun h₁ tk₁ hk₁ => wpAny_execs_nil ?_
    obtain ⟨F₁, N₁⟩ := next h₁ hk₁
    exact done g₁ m' nx h₁ tk₁ hJ F₁ N₁
end
section
variable {prog : Program} {w : World} {A₀ A : Around} {s : Shared} {base h₀ : Heap} {env : Env} {L : Addr} {m : Str → Option Value} {news : List (Addr × Obj)} {K : Frag} {p : Program} {loose : List Str} {mean : ExcName → Option Value} {mg mb : Str → Option Value}
    {R : Result → Shared → Prop} {name qual : Str} {params : Arguments} {body : List Stmt} {scope : Scope} {dV kV doc pm cdv ct oc : Value} {an od : Option Addr} {osl : Array (Option Value)} {f : Addr} {args : Args} {binds : List (Str × Value)}
/-- a call from a frame that may have cells: the called frame may catch what is raised below it -/
theorem enter_S (B : Below A₀ base [] h₀) (F : Fr h₀ L s.heap m) (X₀ : K.In h₀) (N : News h₀ L s.heap news) (T : Top p loose mean mg mb h₀) (hA : A.frames = some [env]) (hf : env.frame = some L) (hke : env.scope.kind = .function)
    (ho : K.lookup f = some ⟨oc, od, .func (fnOf name qual params body scope dV kV doc pm an cdv ct), osl⟩) (hcd : codeIn K cdv qual = true) (hroom : A.depth < recursionLimit)
    (hbind : BindsTo s (fnOf name qual params body scope dV kV doc pm an cdv ct) args binds) (hloc : ∀ y ∈ binds, scope.names.lookup y.1 = some .local)
    (h : ∀ g L' h₁, Fr g L' h₁ (fun y => binds.reverse.lookup y) → News g L' h₁ news → Below A base [env] g → K.In g → Top p loose mean mg mb g → KtsDicts ([env].filterMap (·.frame)) g → KtsTurn ([env].filterMap (·.frame)) g g →
      wpAny (model prog w) (A.deeper (envOf qual scope L' f cdv)) (execs body (envOf qual scope L' f cdv))
        (fun fl s' => LeaveS0 ([env].filterMap (·.frame)) h₀ L m g R (match fl with | .ret v => v | _ => .none) s')
        (fun e s' => wpAny (model prog w) (A.deeper (envOf qual scope L' f cdv)) (leaving (envOf qual scope L' f cdv) e) (fun _ s'' => R (.error e) s'') (fun e' s'' => R (.error e') s'') s')
        { s with heap := h₁, toks := s.toks + binds.length })
    (hco : scope.isCoroutine = false) (hgen : scope.isGenerator = false) (hk : scope.kind = .function)
    (hcell : ∀ x ∈ scope.names, x.2 ≠ .cell) : codeAny (model prog w) A (.call (.ref f) args) R s := by
  have X := X₀.keeps F.keep
  obtain ⟨FG, BG, st, _⟩ := groundX (R := R) B F N hA hf hke
  have hfs : [env].filterMap (·.frame) = [L] := by simp [hf]
  have nL₀ : h₀.get? L = none := kts_self F
  refine codeAny_call_def (fd := fnOf name qual params body scope dV kV doc pm an cdv ct) (body := body) (binds := binds) hroom (X _ _ ho) rfl (T.nolimit.keeps F.keep) (codeRec_of X hcd) rfl hbind hcell hloc (fun h₁ hns hk₁ => ?_) hco hgen hk
  obtain ⟨oL, es, ep, hLg, hLd, hLk, hLf⟩ := FG.ns
  refine wpAny_mono (h _ s.heap.objs.size h₁ ⟨hns, fun b o e => hk₁ b o (of_hideAll _ e), Nat.le_of_eq (hideAll_size _ _)⟩
    (fun q hq => ⟨hk₁ _ _ (N q hq).1, Nat.ne_of_lt (Heap.lt_size (N q hq).1), hideAll_none _ (List.mem_map_of_mem hq)⟩) BG (X₀.keeps st) (T.keeps st) (fun b hb => by
      rw [hfs] at hb
      rw [List.mem_singleton.mp hb]
      exact ⟨oL, es, ep, hLg, hLd⟩) KtsTurn.refl) (fun fl s' hl => ?_) fun _ _ y => y
  obtain ⟨g', L', m', news', T', F', N', k⟩ := hl
  obtain ⟨sl, hs⟩ := T'.up hLg
  refine k ⟨⟨_, es, ep, F'.keep _ _ hs, hLd, hLk, hLf⟩, fun b o e => F'.keep b o (T'.other b o (st b o e) fun q => ?_), F.above⟩ fun q hq => ⟨(N' q hq).1, fun z => ?_, ?_⟩
  · rw [hfs] at q
    rw [List.mem_singleton.mp q, nL₀] at e; cases e
  · have := (N' q hq).2.2; rw [z, hs] at this; cases this
  · cases z : h₀.get? q.1 with
    | none => rfl
    | some o =>
      obtain ⟨sl', hs'⟩ := T'.up (st _ _ z)
      have := (N' q hq).2.2
      rw [hs'] at this; cases this
end
section
variable {prog : Program} {w : World} {K : Type} [DecidableEq K] {knd : KeyKind prog w K} {A : Around} {E : Value → Shared → Prop} {s : Shared} {h₀ : Heap} {L d : Addr} {m : Str → Option Value} {news : List (Addr × Obj)} {o : Obj} {kvs : List (K × Value)} {k : K} {key : Value}
/-- dict.pop of a key that is not there -/
theorem pop_missing {Q : Value → Shared → Prop} (hh : A.handled = none) (N : News h₀ L s.heap news) (hp : (d, o) ∈ news) (hd : o.IsDictOf knd kvs) (lo : (d == sysModules) = false) (hkey : knd.is k key = true) (hpart : (keyPart key).isSome = true)
    (hargs : argsOk "dict.pop" ⟨[.ref d, key], []⟩) (hl : valueAt kvs k = none)
    (h : ∀ h' e, Heap.NewExc s.heap h' e "KeyError" → E (.ref e) { s with heap := h', toks := s.toks + 1 }) :
    wpAny (model prog w) A (call (.builtin "dict.pop") [.ref d, key]) Q E s :=
  have hD := kda_dict N hp hd
  call_meetsIn PySem.F.slot_dict_pop hD.typeIs PySem.F.entry_dict_pop hargs (meets_dict_pop_missing knd d hkey lo hpart) ⟨hh, kvs, hD, hl, h⟩
theorem tail_ne {l : List (Addr × Obj)} {a : Addr} (h : ∀ p ∈ l, p.1 ≠ a) : ∀ p ∈ l, p.1 ≠ a := h
theorem tail_lt {l : List (Addr × Obj)} {a : Addr} (h : ∀ p ∈ l, p.1 < a) : ∀ p ∈ l, p.1 ≠ a := fun p hp => Nat.ne_of_lt (h p hp)
theorem tail_al {l : List (Addr × Obj)} {a : Addr} (h : AllLt a l) : ∀ p ∈ l, p.1 ≠ a := fun p hp => Nat.ne_of_lt (kst_ltOf h p hp)
end

section
variable {prog : Program} {w : World} {A : Around} {E : Value → Shared → Prop} {s : Shared} {h₀ : Heap} {L l : Addr}
theorem len_led {news : List (Addr × Obj)} {its : Array Value} {c : Nat} {Q : Value → Shared → Prop} (N : News h₀ L s.heap news) (hm : (l, W.listOf its c) ∈ news) (hfit : its.size ≤ 16777216)
    (h : Q (.int (its.size : Int) (s.toks + 1)) { s with toks := s.toks + 1 + 1 }) : wpAny (model prog w) A (call (.builtin "len") [.ref l]) Q E s := by
  have hl : s.heap.IsList l its := ⟨_, (N _ hm).1, rfl, c, rfl⟩
  exact len_list hl (by omega) h
end

section
variable {prog : Program} {w : World} {A : Around} {E : Value → Shared → Prop} {s : Shared} {h₀ : Heap} {L l : Addr}
theorem item_led {value slice : PySem.Expr} {news : List (Addr × Obj)} {us : List Value} {c : Nat} {k : Int} {u : Tok} {v : Value} {Q : Value → Shared → Prop} (N : News h₀ L s.heap news) (hm : (l, W.listOf us.toArray c) ∈ news) (hx : us[k.toNat]? = some v) (h0 : 0 ≤ k) (hi : k ≤ 1000000) (h : Q v s)
    (hs : subscripted slice false (.ref l) (.int k u) = operate [.ref l, .int k u] (getItem (.ref l) (.int k u)) := by with_unfolding_all rfl) :
    wpAny (model prog w) A (subscriptTail value slice (.ref l) (.int k u)) Q E s := by
  have hl : s.heap.IsList l us.toArray := ⟨_, (N _ hm).1, rfl, c, rfl⟩
  exact tail_any hl.typeIs slot_list_getitem.lookup (wpAny_getItem_list hl h0 (by omega) (by simpa using hx) h) hs
theorem getItem_led {news : List (Addr × Obj)} {us : List Value} {c : Nat} {k : Int} {u : Tok} {v : Value} {Q : Value → Shared → Prop} (N : News h₀ L s.heap news) (hm : (l, W.listOf us.toArray c) ∈ news) (hx : us[k.toNat]? = some v) (h0 : 0 ≤ k) (hi : k ≤ 1000000) (h : Q v s) :
    wpAny (model prog w) A (getItem (.ref l) (.int k u)) Q E s := by
  have hl : s.heap.IsList l us.toArray := ⟨_, (N _ hm).1, rfl, c, rfl⟩
  exact wpAny_getItem_list hl h0 (by omega) (by simpa using hx) h
end

/-- all addresses of a ledger are unlike -/
def Apart : List (Addr × Obj) → Prop
  | [] => True
  | p :: r => (∀ q ∈ r, @Ne Nat q.1 p.1) ∧ Apart r
theorem fr_name {h₀ h : Heap} {L : Addr} {m : Str → Option Value} {x : Str} {v : Value} (F : Fr h₀ L h m) (e : m x = some v) : Fr h₀ L h (fun y => if y = x then some v else m y) := by
  have e' : (fun y => if y = x then some v else m y) = m := by
    funext y
    by_cases hy : y = x
    · rw [if_pos hy, hy, e]
    · rw [if_neg hy]
  rw [e']; exact F

/-- the entries of an LRUCache's dict -/
abbrev CEnt (w : World) (t1 t2 t3 t4 : Tok) (dd : Addr) (cur : Int) (tc : Tok) (room : Int) (tr : Tok) (oo : Addr) : List DictEntry :=
  [⟨PyData.keyHash w.params (Str.ofString "_Cache__data"), .str (Str.ofString "_Cache__data") t1, .ref dd⟩,
   ⟨PyData.keyHash w.params (Str.ofString "_Cache__currsize"), .str (Str.ofString "_Cache__currsize") t2, .int cur tc⟩,
   ⟨PyData.keyHash w.params (Str.ofString "_Cache__maxsize"), .str (Str.ofString "_Cache__maxsize") t3, .int room tr⟩,
   ⟨PyData.keyHash w.params (Str.ofString "_LRUCache__order"), .str (Str.ofString "_LRUCache__order") t4, .ref oo⟩]

def VOk (kvd : List (Int × Value)) (vals : List (Addr × Obj)) (b : Nat) : Prop :=
  ∀ p ∈ kvd, ∃ (a : Addr) (n : Nat) (its : Array Value), p.2 = .ref a ∧ (a, W.listOf its n) ∈ vals ∧ 2 ≤ its.size ∧ its.size ≤ b

def CacheAt (w : World) (c d dd oo : Addr) (room : Int) (ks : List Int) (b : Nat) (L4 vals : List (Addr × Obj)) : Prop :=
  ∃ (t1 t2 t3 t4 tc tr : Tok) (od ord : Obj) (kvd : List (Int × Value)),
    L4 = [(oo, ord), (dd, od), (c, instObj 897 d), (d, dictOf (CEnt w t1 t2 t3 t4 dd (ks.length : Int) tc room tr oo) 4)] ∧
    od.IsDictOf (intKind PR w) kvd ∧ ord.IsDictOf (intKind PR w) (ks.map fun k => (k, Value.none)) ∧
    (∀ k, (valueAt kvd k).isSome = true ↔ k ∈ ks) ∧ kvd.length = ks.length ∧ VOk kvd vals b ∧ ks.Nodup ∧ (ks.length : Int) ≤ room ∧
    (dd == sysModules) = false ∧ (oo == sysModules) = false

def stepK (room : Nat) (ks : List Int) (k : Int) : List Int := if k ∈ ks then ks.filter (fun x => decide (x ≠ k)) ++ [k] else if ks.length < room then ks ++ [k] else ks.tail ++ [k]
def serve (room : Nat) (st : List Int × List Bool) (row : List Int) : List Int × List Bool := row.foldl (fun st k => (stepK room st.1 k, st.2 ++ [decide (k ∈ st.1)])) st
abbrev boolsV (bs : List Bool) : List Value := bs.map Value.bool

def SInv (w : World) (c d dd oo rw : Addr) (room : Nat) (ks0 row : List Int) (b : Nat) (rest : List (Addr × Obj)) (i : Nat) (m : Str → Option Value) (nx : List (Addr × Obj)) : Prop :=
  ∃ (f : Addr) (bn : Nat) (L4 vals : List (Addr × Obj)), m (Str.ofString "found") = some (.ref f) ∧ m (Str.ofString "cache") = some (.ref c) ∧ m (Str.ofString "row") = some (.ref rw) ∧
    nx = (f, W.listOf (boolsV (serve room (ks0, []) (row.take i)).2).toArray bn) :: (L4 ++ (vals ++ rest)) ∧
    CacheAt w c d dd oo room (serve room (ks0, []) (row.take i)).1 (b + i) L4 vals ∧ Apart nx

theorem vok_at {kvd : List (Int × Value)} {vals : List (Addr × Obj)} {b : Nat} {k : Int} {v : Value} (h : VOk kvd vals b) (hv : valueAt kvd k = some v) :
    ∃ (a : Addr) (n : Nat) (its : Array Value), v = .ref a ∧ (a, W.listOf its n) ∈ vals ∧ 2 ≤ its.size ∧ its.size ≤ b := by
  unfold valueAt at hv
  cases hf : kvd.find? (fun kv => decide (kv.1 = k)) with
  | none => rw [hf] at hv; cases hv
  | some p =>
    rw [hf] at hv
    obtain ⟨a, n, its, e, r⟩ := h p (List.mem_of_find?_eq_some hf)
    cases hv
    exact ⟨a, n, its, e, r⟩

theorem apart_iff : ∀ {l : List (Addr × Obj)}, Apart l ↔ (l.map (·.1)).Nodup
  | [] => by simp [Apart]
  | p :: r => by
    rw [List.map_cons, List.nodup_cons, ← apart_iff (l := r)]
    show (∀ q ∈ r, @Ne Nat q.1 p.1) ∧ Apart r ↔ _
    refine and_congr ⟨fun h hm => ?_, fun h q hq e => h (List.mem_map.mpr ⟨q, hq, e⟩)⟩ Iff.rfl
    obtain ⟨q, hq, e⟩ := List.mem_map.mp hm
    exact h q hq e
theorem apart_perm {l l' : List (Addr × Obj)} (h : Apart l) (p : l.Perm l') : Apart l' := apart_iff.mpr ((p.map _).nodup_iff.mp (apart_iff.mp h))
theorem mid_perm {α : Type} {v1 v2 r : List α} {a : α} : ((v1 ++ a :: v2) ++ r).Perm (a :: (v1 ++ (v2 ++ r))) := by
  rw [List.append_assoc, List.cons_append]
  exact List.perm_middle

theorem serve_snoc (room : Nat) (st : List Int × List Bool) (row : List Int) (k : Int) :
    serve room st (row ++ [k]) = (stepK room (serve room st row).1 k, (serve room st row).2 ++ [decide (k ∈ (serve room st row).1)]) := by
  unfold serve; rw [List.foldl_append]; rfl
theorem serve_len (room : Nat) : ∀ (row : List Int) (st : List Int × List Bool), (serve room st row).2.length = st.2.length + row.length
  | [], st => rfl
  | k :: r, st => by
    show (serve room (stepK room st.1 k, st.2 ++ [decide (k ∈ st.1)]) r).2.length = _
    rw [serve_len room r]; simp only [List.length_append, List.length_cons, List.length_nil]; omega
theorem bools_push (bs : List Bool) (b : Bool) : (boolsV bs).toArray.push (Value.bool b) = (boolsV (bs ++ [b])).toArray := by
  simp [boolsV]

theorem told_in {n : Nat} (h : 2 ≤ n) : (decide ((2 : Int) < ((n + 1 : Nat) : Int)) == true) = true := by
  rw [decide_eq_true (by omega)]; rfl
theorem told_new : (decide ((2 : Int) < (((0 + 1 : Nat) + 1 : Nat) : Int)) == false) = true := by decide
abbrev nm (ks : List Int) : List (Int × Value) := ks.map fun k => (k, Value.none)
theorem nm_at (ks : List Int) (k : Int) : valueAt (nm ks) k = if k ∈ ks then some .none else none := by
  unfold valueAt nm
  induction ks with
  | nil => rfl
  | cons x r ih =>
    simp only [List.map_cons, List.find?_cons]
    by_cases hx : x = k
    · subst hx; simp
    · have hx' : ¬ k = x := fun e => hx e.symm
      simp only [hx, decide_false, List.mem_cons, hx', false_or]
      exact ih
theorem nm_without (ks : List Int) (k : Int) : without (nm ks) k = nm (ks.filter fun x => decide (x ≠ k)) := by
  unfold without nm
  rw [List.filter_map]; rfl
theorem without_at {kvd : List (Int × Value)} {k0 k : Int} : valueAt (without kvd k0) k = if k = k0 then none else valueAt kvd k := by
  unfold valueAt without
  induction kvd with
  | nil => simp
  | cons p r ih =>
    by_cases hp : p.1 = k0
    · rw [List.filter_cons_of_neg (by simp [hp]), ih]
      by_cases hk : k = k0
      · simp [hk]
      · have : ¬ p.1 = k := fun e => hk (e.symm.trans hp)
        simp [hk, List.find?_cons, this]
    · rw [List.filter_cons_of_pos (by simp [hp])]
      simp only [List.find?_cons]
      by_cases hk : p.1 = k
      · have : ¬ k = k0 := fun e => hp (hk.trans e)
        simp [hk, this]
      · simp only [hk, decide_false]
        exact ih

def GOk (K_ : Params → Frag) (q_ : Program) (lo_ : List Str) (w : World) (A₀ : Around) (base : Heap) (outer : List Env) (fs : List Addr) (g₀ : Heap) (mean : ExcName → Option Value) (mg mb : Str → Option Value) (g : Heap) : Prop :=
  KtsTurn fs g₀ g ∧ Below A₀ base outer g ∧ (K_ w.params).In g ∧ Top q_ lo_ mean mg mb g ∧ KtsDicts fs g
theorem loopG_of {K_ : Params → Frag} {q_ : Program} {lo_ : List Str} {w : World} {A A₀ : Around} {E : Value → Shared → Prop} {env : Env} {x : Str} {body : List Stmt} {Q : Flow → Shared → Prop} {s₁ : Shared} {base g₀ g : Heap} {outer : List Env} {fs : List Addr} {mean : ExcName → Option Value} {mg mb m : Str → Option Value}
    {r : Addr} {a₀ b₀ : Int} {t u v : Tok} {news : List (Addr × Obj)} (n : Nat) (Inv : Nat → (Str → Option Value) → List (Addr × Obj) → Prop)
    (hh : A.handled = none) (hr : IsRange s₁.heap r a₀ b₀ 1 t u v) (hsmall : Builtin.Range.small a₀ b₀ 1 = true) (hn : Builtin.Range.rangeSize a₀ b₀ 1 = (n : Int)) (F : Fr g env.locals s₁.heap m) (N : News g env.locals s₁.heap news)
    (T0 : KtsTurn fs g₀ g) (B : Below A₀ base outer g) (X : (K_ w.params).In g) (T : Top q_ lo_ mean mg mb g) (D : KtsDicts fs g) (hj : Inv 0 m news)
    (turn : ∀ i g₁ m₁ nx I oI t h tk, i < n → KtsTurn fs g₀ g₁ → Below A₀ base outer g₁ → (K_ w.params).In g₁ → Top q_ lo_ mean mg mb g₁ → KtsDicts fs g₁ → Inv i m₁ nx → (∀ p ∈ nx, @Ne Nat p.1 I) → Fr g₁ env.locals h (fun y => if y = x then some (.int (a₀ + (i : Int)) t) else m₁ y) → News g₁ env.locals h ((I, oI) :: nx) →
      wpAny (model PR w) A (execs body env) (TPostG env.locals (fun g' m' nx' => GOk K_ q_ lo_ w A₀ base outer fs g₀ mean mg mb g' ∧ Inv (i + 1) m' nx') I oI { s₁ with heap := h, toks := tk } Q) E { s₁ with heap := h, toks := tk })
    (done : ∀ g₁ m₁ nx h tk, KtsTurn fs g₀ g₁ → Below A₀ base outer g₁ → (K_ w.params).In g₁ → Top q_ lo_ mean mg mb g₁ → KtsDicts fs g₁ → Inv n m₁ nx → Fr g₁ env.locals h m₁ → News g₁ env.locals h nx → Q .next { s₁ with heap := h, toks := tk }) :
    LoopG PR w A E env x body Q (.ref r) s₁ :=
  ⟨r, a₀, b₀, t, u, v, n, g, m, news, fun i g' m' nx' => GOk K_ q_ lo_ w A₀ base outer fs g₀ mean mg mb g' ∧ Inv i m' nx', rfl, hh, hr, hsmall, hn, F, N, ⟨⟨T0, B, X, T, D⟩, hj⟩,
    fun i g₁ m₁ nx I oI t h tk hi hJ ho F₁ N₁ => turn i g₁ m₁ nx I oI t h tk hi hJ.1.1 hJ.1.2.1 hJ.1.2.2.1 hJ.1.2.2.2.1 hJ.1.2.2.2.2 hJ.2 ho F₁ N₁,
    fun g₁ m₁ nx h tk hJ F₁ N₁ => done g₁ m₁ nx h tk hJ.1.1 hJ.1.2.1 hJ.1.2.2.1 hJ.1.2.2.2.1 hJ.1.2.2.2.2 hJ.2 F₁ N₁⟩

theorem note_first {M : Model} {A : Around} {E : Value → Shared → Prop} {s : Shared} {base : Heap} {env : Env} {outer : List Env} {L e : Addr} {oe : Obj} {vs : Array Value} {a0 : Value} {Q : Unit → Shared → Prop}
    (hfr : A.frames = some (env :: outer)) (hl : s.heap.FunFrames base (env :: outer)) (hf : env.frame = some L)
    (he : s.heap.get? e = some oe) (hkb : base.StaysIn s.heap) (hen : base.get? e = none) (hd : oe.data = .fields vs) (h1 : vs[1]? = some .none) (h0 : vs[0]? = some a0)
    (h : ∀ h', Heap.NotedW base (env :: outer) e oe.cls a0 (rawInt L) s.heap h' → Q () { s with heap := h' }) : wpAny M A (noteFrame (.ref e) env) Q E s := by
  unfold noteFrame
  simp only [hf]
  refine wpAny_bind (wpAny_field he hd h1 ?_)
  rw [if_neg (by decide)]
  exact wpAny_entryW hfr hl hf he hkb hen hd (Array.getElem?_eq_some_iff.mp h1).1 h0 h
section
variable {prog : Program} {w : World} {A₀ : Around} {E : Value → Shared → Prop} {s' : Shared} {base g g₀ h : Heap} {outer : List Env} {L a e : Addr} {m : Str → Option Value} {name : Str} {scope : Scope} {cd : Value}
  {b₀ : Stmt} {suite : List Stmt} {pos np : Pos} {rest : List ExceptHandler} {Q : Flow → Shared → Prop} {news : List (Addr × Obj)} {KF : Frag}
  {p : Program} {loose : List Str} {mean : ExcName → Option Value} {mg mb : Str → Option Value} {x : Str} {X T' : String}
/-- what a built-in raises in a called frame, caught by that frame's own try -/
theorem caught_own (K : Below A₀ base outer g) (F : Fr g L h m) (N : News g L h news) (hx : Heap.NewExc h s'.heap e X) (XB : KF.In base) (TB : Top p loose mean mg mb base)
    (D : KtsDicts (outer.filterMap (·.frame)) g) (T0 : KtsTurn (outer.filterMap (·.frame)) g₀ g)
    (ex : nsIn KF mainGlobals x = some none) (hv : bootBuiltins x = some (.type T')) (hn' : x ≠ "__name__")
    (hexc : isSubtype (.type T') (.type "BaseException") = pure true) (hnt : isSubtype (.type ((Manifest.find? T').elim "type" fun y => y.metatype)) (.type "tuple") = pure false) (hsub : isSubtype (.type X) (.type T') = pure true)
    (k : ∀ h' g', KtsTurn (outer.filterMap (·.frame)) g₀ g' → Fr g' L h' m → News g' L h' news → Below A₀ base outer g' → KF.In g' → Top p loose mean mg mb g' → KtsDicts (outer.filterMap (·.frame)) g' →
      wpAny (model prog w) ((A₀.deeper (envOf name scope L a cd)).mark (some (.ref e))) (execs (b₀ :: suite) (envOf name scope L a cd)) Q E { s' with heap := h' })
    (hk : scope.kind = .function := by rfl) (hxk : (envOf name scope L a cd).kindOf x = some .globalImplicit := by rfl) (hd : (x == ("__debug__" : Str)) = false := by decide)
    (hE : PassesOwnAt (model prog w) ((A₀.deeper (envOf name scope L a cd)).mark (some (.ref e))) (A₀.deeper (envOf name scope L a cd)) (envOf name scope L a cd) E := by passes_own) :
    wpAny (model prog w) (A₀.deeper (envOf name scope L a cd)) (noteFrame (.ref e) (envOf name scope L a cd))
      (fun _ s₂ => wpAny (model prog w) (A₀.deeper (envOf name scope L a cd)) (setFlight (.ref e) none) (fun _ s₃ =>
        wpAny (model prog w) (A₀.deeper (envOf name scope L a cd)) (handleBy (.ref e) (envOf name scope L a cd) (.ExceptHandler (some (.Name x np)) none (b₀ :: suite) pos :: rest)) Q E s₃) E s₂) E s' := by
  have K' := K.push (name := name) (a := a) (cd := cd) F hk
  have hin : ∀ env ∈ (envOf name scope L a cd :: outer), ∀ b, env.frame = some b → b ∈ (envOf name scope L a cd :: outer).filterMap (·.frame) := fun env he b hb => List.mem_filterMap.mpr ⟨env, he, hb⟩
  obtain ⟨B, hBdef⟩ : ∃ B, B = hideAll h ((envOf name scope L a cd :: outer).filterMap (·.frame)) := ⟨_, rfl⟩
  have hBG : ∀ b o, h.get? b = some o → b ∉ (envOf name scope L a cd :: outer).filterMap (·.frame) → B.get? b = some o := fun b o q nm => by rw [hBdef]; exact hideAll_get _ q nm
  have hsub' : ∀ b o, B.get? b = some o → s'.heap.get? b = some o := fun b o q => hx.keeps b o (of_hideAll _ (hBdef ▸ q))
  have hL : B.get? L = none := by rw [hBdef]; exact hideAll_none _ (List.mem_filterMap.mpr ⟨_, List.mem_cons_self, rfl⟩)
  obtain ⟨ob, tp, he, hcls, hdat⟩ := hx.there
  have hen : B.get? e = none := by
    cases q : B.get? e with
    | none => rfl
    | some o => have := of_hideAll _ (hBdef ▸ q : (hideAll h _).get? e = some o); rw [hx.new] at this; cases this
  have hl : ∀ q ∈ news, B.get? q.1 = some q.2 := fun q hq => hBG _ _ (N q hq).1 fun hm => by
    obtain ⟨env, he, hf⟩ := List.mem_filterMap.mp hm
    rcases List.mem_cons.mp he with rfl | he
    · exact (N q hq).2.1 (Option.some.inj hf).symm
    · obtain ⟨o, ho, _⟩ := (K.frames.mem (List.mem_filterMap.mpr ⟨env, he, hf⟩)).2
      rw [(N q hq).2.2] at ho; cases ho
  have hsm : h.UpToSlots s'.heap := Heap.UpToSlots.of_keeps hx.keeps
  refine note_first (a0 := tp) K'.stack (hBdef ▸ (funFrames_hide K'.frames hin).of_keeps fun b o hb _ => ⟨o, hx.keeps b o hb, rfl⟩) rfl he hsub' hen hdat rfl rfl fun h₄ hN => ?_
  obtain ⟨n1, n2, n3, hsm₄⟩ := hN
  have hheld₄ : Heap.HeldW B (envOf name scope L a cd :: outer) e (.type X) tp L h₄ := ⟨n1, hen, n2, by rw [← hcls]; exact n3⟩
  refine wpAny_landsW hheld₄ fun h₅ hheld hsm₅' => ?_
  have hsm₅ := Heap.UpToSlots.trans hsm₄ hsm₅'
  obtain ⟨g₅, T₅, F₅, K₅⟩ := kts_ground K F hBG hheld.1 (hsm.trans hsm₅)
  have X₅ : KF.In g₅ := XB.keeps K₅.stays
  have P₅ : TopRead p loose mg mb g₅ := topRead_of (TB.keeps K₅.stays)
  obtain ⟨ob, hob, hobc⟩ := hheld.there
  refine wpAny_handleBy_builtin (X := X) (T := T') (b := true) hexc hnt hsub (name_B F₅ X₅ P₅ ex hv hn' ⟨rfl, ⟨ob, hob, hobc⟩, ?_⟩ hk hxk hd)
  refine lands_againW hheld fun h₆ hfl₆ hsm₆ => ?_
  obtain ⟨g₆, T₆, F₆, K₆⟩ := kts_ground K F hBG hfl₆.1 ((hsm.trans hsm₅).trans hsm₆)
  have Nl : News g₆ L h₆ news := fun q hq => ⟨hfl₆.1 _ _ (hl q hq), (fun z => by have := hl q hq; rw [z, hL] at this; cases this), T₆.none_ _ (N q hq).2.2⟩
  exact wpAny_passesOwnAt hE (k h₆ g₆ (T0.trans T₆) F₆ Nl K₆ (XB.keeps K₆.stays) (TB.keeps K₆.stays) (D.turn T₆))
end

/-- del x[i] of an object whose class defines __delitem__ -/
theorem del_inst {M : Model} {A : Around} {E : Value → Shared → Prop} {s : Shared} {K : Frag} {x C L f : Addr} {h₀ : Heap} {m : Str → Option Value} {ox : Obj} {od : Option Obj} {i : Value} {Q : Unit → Shared → Prop} (F : Fr h₀ L s.heap m) (X₀ : K.In h₀) (I : InstAt s.heap x ox C od) (hq : noSeq K C = true)
    (hs : findIn K (.ref C) "__delitem__" = some (some (.ref f))) (hf : isFn K (.ref f) = true) (h : wpAny M A (call (.ref f) [.ref x, i]) (fun _ s' => Q () s') E s) : wpAny M A (delItem (.ref x) i) Q E s := by
  have X := X₀.keeps F.keep
  unfold delItem sequenceKey
  refine wpAny_holding (wpAny_bind (wpAny_bind (I.type.here ?_)))
  refine wpAny_bind ((anyM_none X hq).here ?_)
  rw [if_pos (show (!false) = true from rfl)]
  exact wpAny_pure (wpAny_bind (special_fn X I hs (beq_iff_eq.mp hf) (wpAny_mono h (fun _ _ z => wpAny_pure z) fun _ _ z => z)))
/-- the number of unlike items -/
def dl (ns : List Int) : Nat := (firstMet (fun i => ns.getD i 0) ns.length).length
section
variable {prog : Program} {w : World} {A : Around} {E : Value → Shared → Prop} {s : Shared} {h₀ : Heap} {L l sa : Addr} {m : Str → Option Value} {news : List (Addr × Obj)}
theorem set_led {vs : List Value} {ns : List Int} {c : Nat} {Q : Value → Shared → Prop} (F : Fr h₀ L s.heap m) (N : News h₀ L s.heap news) (hm : (l, W.listOf vs.toArray c) ∈ news) (hh : A.handled = none) (hi : IntsAre vs ns) (hb : ns.length ≤ 1000)
    (h : ∀ B h' (tk : Nat) o S, Fr h₀ L h' m → News h₀ L h' ((B, o) :: news) → (∀ p ∈ news, p.1 < B) → o.SetObjOf (intKind prog w) S (dl ns) → Q (.ref B) { s with heap := h', toks := tk }) :
    wpAny (model prog w) A (call (.type "set") [.ref l]) Q E s := by
  have hl : s.heap.IsList l vs.toArray := ⟨_, (N _ hm).1, rfl, c, rfl⟩
  have hvn : vs.length = ns.length := IntsAre.length hi
  have hsz : vs.toArray.size = ns.length := by rw [List.size_toArray, hvn]
  refine PySem.call_set_list (items := vs.toArray) (ns := ns) hh hl (by simpa using hi) (by rw [hsz]; unfold scanBound; omega) fun h' tk hS hk => ?_
  rw [hsz] at hS
  obtain ⟨o, ho, hso⟩ := hS.objOf
  have hLlt : L < s.heap.objs.size := F.ns.lt
  refine h _ h' tk o _ ⟨F.ns.at' fun o' e => hk L o' hLlt e, fun b o' e => hk b o' (Heap.lt_size (F.keep b o' e)) (F.keep b o' e), F.above⟩ (fun p hp => ?_) (fun p hp => Heap.lt_size (N p hp).1) hso
  rcases List.mem_cons.mp hp with rfl | hp
  · refine ⟨ho, Nat.ne_of_gt hLlt, ?_⟩
    cases hq : h₀.get? s.heap.objs.size with
    | none => rfl
    | some o' => exact absurd (Heap.lt_size (F.keep _ _ hq)) (Nat.lt_irrefl _)
  · exact ⟨hk _ _ (Heap.lt_size (N p hp).1) (N p hp).1, (N p hp).2.1, (N p hp).2.2⟩
theorem dl_le (ns : List Int) : dl ns ≤ ns.length := firstMet_length_le _ _
theorem len_set {so : Obj} {S : Int → Bool} {ns : List Int} {Q : Value → Shared → Prop} (N : News h₀ L s.heap news) (hm : (sa, so) ∈ news) (hso : so.SetObjOf (intKind prog w) S (dl ns)) (hb : ns.length ≤ 1000)
    (h : Q (.int (dl ns : Int) (s.toks + 1)) { s with toks := s.toks + 1 + 1 }) : wpAny (model prog w) A (call (.builtin "len") [.ref sa]) Q E s := by
  obtain ⟨own, rest, rfl⟩ := List.append_of_mem hm
  exact len_sl1 N hso (by have := dl_le ns; omega) h
end
theorem apart_map {l l' : List (Addr × Obj)} (h : Apart l) (e : l'.map (·.1) = l.map (·.1)) : Apart l' := apart_iff.mpr (e ▸ apart_iff.mp h)
theorem filt_mem {ks : List Int} {k x : Int} : x ∈ ks.filter (fun y => decide (y ≠ k)) ↔ x ∈ ks ∧ x ≠ k := by simp [List.mem_filter]
theorem filt_len : ∀ {ks : List Int} {k : Int}, ks.Nodup → k ∈ ks → (ks.filter fun y => decide (y ≠ k)).length + 1 = ks.length
  | [], _, _, h => by cases h
  | x :: r, k, hn, h => by
    rw [List.nodup_cons] at hn
    by_cases hx : x = k
    · subst hx
      rw [List.filter_cons_of_neg (by simp)]
      have e : (r.filter fun y => decide (y ≠ x)) = r := List.filter_eq_self.mpr fun y hy => by
        simp only [decide_eq_true_eq]; rintro rfl; exact hn.1 hy
      rw [e, List.length_cons]
    · rw [List.filter_cons_of_pos (by simpa using hx), List.length_cons, List.length_cons]
      have hk : k ∈ r := (List.mem_cons.mp h).resolve_left fun e => hx e.symm
      rw [filt_len hn.2 hk]
theorem touch_len {ks : List Int} {k : Int} (hn : ks.Nodup) (h : k ∈ ks) : ((ks.filter fun y => decide (y ≠ k)) ++ [k]).length = ks.length := by
  rw [List.length_append, List.length_singleton, filt_len hn h]
theorem nodup_snoc {ks : List Int} {k : Int} (hn : ks.Nodup) (h : k ∉ ks) : (ks ++ [k]).Nodup := by
  rw [List.nodup_append]
  exact ⟨hn, by simp, fun a ha b hb e => h (by rw [List.mem_singleton.mp hb] at e; exact e ▸ ha)⟩
theorem nm_stored {ks : List Int} {k : Int} (h : k ∉ ks) : stored (nm ks) k .none = nm (ks ++ [k]) := by
  rw [stored_absent (by rw [nm_at, if_neg h])]
  simp [nm]
theorem stepK_in {room : Nat} {ks : List Int} {k : Int} (h : k ∈ ks) : stepK room ks k = (ks.filter fun y => decide (y ≠ k)) ++ [k] := if_pos h

theorem fin_in {K_ : Params → Frag} {q_ : Program} {lo_ : List Str} {w : World} {A₀ : Around} {base g₀ g : Heap} {outer : List Env} {fs : List Addr} {mean : ExcName → Option Value} {mg mb m' : Str → Option Value} {L I f c d dd oo rw a1 l' : Addr} {oI od ord' lo X0 y1 y2 y3 y4 y5 : Obj} {s₁ : Shared} {h' : Heap}
    {tk bn n1 i b room : Nat} {t1 t2 t3 t4 tc tr : Tok} {ks ks0 row : List Int} {k : Int} {bs : List Bool} {kvd : List (Int × Value)} {its : Array Value} {v : Value} {v1 v2 tl rest : List (Addr × Obj)}
    (hsn : serve room (ks0, []) (row.take (i + 1)) = (stepK room ks k, bs ++ [decide (k ∈ ks)])) (hin : k ∈ ks)
    (hA : Apart ((f, X0) :: ([(oo, y1), (dd, y2), (c, y3), (d, y4)] ++ ((v1 ++ (a1, y5) :: v2) ++ rest)))) (hoI : ∀ p ∈ (f, X0) :: ([(oo, y1), (dd, y2), (c, y3), (d, y4)] ++ ((v1 ++ (a1, y5) :: v2) ++ rest)), @Ne Nat p.1 I)
    (hmem : ∀ x, (valueAt kvd x).isSome = true ↔ x ∈ ks) (hkl : kvd.length = ks.length) (hV : VOk kvd (v1 ++ (a1, W.listOf its n1) :: v2) (b + i)) (hs2 : 2 ≤ its.size) (hsb : its.size ≤ b + i) (hnd : ks.Nodup) (hle : (ks.length : Int) ≤ (room : Int))
    (lod : (dd == sysModules) = false) (loo : (oo == sysModules) = false) (htl : tl = v1 ++ (v2 ++ rest))
    (hod : od.IsDictOf (intKind PR w) kvd) (hord : ord'.IsDictOf (intKind PR w) (stored (without (nm ks) k) k .none))
    (T0 : KtsTurn fs g₀ g) (B : Below A₀ base outer g) (X : (K_ w.params).In g) (T : Top q_ lo_ mean mg mb g) (D : KtsDicts fs g) (F : Fr g L h' m')
    (N : News g L h' ((l', lo) :: (I, oI) :: (f, W.listOf ((boolsV bs).toArray.push (Value.bool true)) (bn + 1)) :: (oo, ord') :: (dd, od) :: (c, instObj 897 d) :: (d, dictOf (CEnt w t1 t2 t3 t4 dd (ks.length : Int) tc room tr oo) 4) :: (a1, W.listOf (its.push v) (n1 + 1)) :: tl))
    (e1 : m' (Str.ofString "found") = some (.ref f)) (e2 : m' (Str.ofString "cache") = some (.ref c)) (e3 : m' (Str.ofString "row") = some (.ref rw)) :
    TEndG L (fun g' m' nx' => GOk K_ q_ lo_ w A₀ base outer fs g₀ mean mg mb g' ∧ SInv w c d dd oo rw room ks0 row b rest (i + 1) m' nx') I oI s₁ { s₁ with heap := h', toks := tk } := by
  have hstep : stepK room ks k = (ks.filter fun y => decide (y ≠ k)) ++ [k] := stepK_in hin
  have hnk : k ∉ ks.filter fun y => decide (y ≠ k) := fun h => (filt_mem.mp h).2 rfl
  have hlen := touch_len hnd hin
  refine ⟨g, h', tk, m', (f, W.listOf (boolsV (bs ++ [true])).toArray (bn + 1)) :: ([(oo, ord'), (dd, od), (c, instObj 897 d), (d, dictOf (CEnt w t1 t2 t3 t4 dd (ks.length : Int) tc room tr oo) 4)] ++ ((v1 ++ (a1, W.listOf (its.push v) (n1 + 1)) :: v2) ++ rest)), rfl, F, fun p hp => ?_, fun p hp => ?_, ⟨T0, B, X, T, D⟩, ?_⟩
  · rw [← bools_push] at hp
    refine N p (List.mem_cons_of_mem _ ?_)
    rw [htl]
    simp only [List.mem_cons, List.mem_append, List.cons_append, List.nil_append, List.append_assoc] at hp ⊢
    grind
  · have hm : p.1 ∈ ((f, X0) :: ([(oo, y1), (dd, y2), (c, y3), (d, y4)] ++ ((v1 ++ (a1, y5) :: v2) ++ rest))).map (·.1) := by
      have := List.mem_map_of_mem (f := fun q : Addr × Obj => q.1) hp
      simpa using this
    obtain ⟨q, hq, e⟩ := List.mem_map.mp hm
    exact e ▸ hoI q hq
  · refine ⟨f, bn + 1, [(oo, ord'), (dd, od), (c, instObj 897 d), (d, dictOf (CEnt w t1 t2 t3 t4 dd (ks.length : Int) tc room tr oo) 4)], v1 ++ (a1, W.listOf (its.push v) (n1 + 1)) :: v2, e1, e2, e3, ?_, ?_, apart_map hA (by simp)⟩
    · rw [hsn]; simp only [hin, decide_true]
    · rw [hsn, hstep]
      refine ⟨t1, t2, t3, t4, tc, tr, od, ord', kvd, by rw [hlen], hod, ?_, fun x => (hmem x).trans ?_, by rw [hlen]; exact hkl, fun p hp => ?_, nodup_snoc (hnd.filter _) hnk, by rw [hlen]; exact hle, lod, loo⟩
      · rw [nm_without, nm_stored hnk] at hord
        exact hord
      · rw [List.mem_append, List.mem_singleton, filt_mem]
        by_cases hx : x = k
        · subst hx; simp [hin]
        · simp [hx]
      · obtain ⟨a, n, its', ep, hm, z1, z2⟩ := hV p hp
        rcases List.mem_append.mp hm with hm | hm
        · exact ⟨a, n, its', ep, List.mem_append_left _ hm, z1, by omega⟩
        · rcases List.mem_cons.mp hm with hm | hm
          · have ea : a = a1 := congrArg Prod.fst hm
            refine ⟨a1, n1 + 1, its.push v, ea ▸ ep, List.mem_append_right _ List.mem_cons_self, ?_, ?_⟩
            · rw [Array.size_push]; omega
            · rw [Array.size_push]; omega
          · exact ⟨a, n, its', ep, List.mem_append_right _ (List.mem_cons_of_mem _ hm), z1, by omega⟩

theorem fin_new {K_ : Params → Frag} {q_ : Program} {lo_ : List Str} {w : World} {A₀ : Around} {base g₀ g : Heap} {outer : List Env} {fs : List Addr} {mean : ExcName → Option Value} {mg mb m' : Str → Option Value} {L I f c d dd oo rw l' : Addr} {oI od' ord' X0 y1 y2 y3 y4 : Obj} {s₁ : Shared} {h' : Heap}
    {tk bn ln i b room : Nat} {t1 t2 t3 t4 tc tr : Tok} {ks ks2 ks0 row : List Int} {k cur : Int} {bs : List Bool} {kvd2 kvo2 : List (Int × Value)} {lit : Array Value} {vals tl rest all : List (Addr × Obj)}
    (hsn : serve room (ks0, []) (row.take (i + 1)) = (stepK room ks k, bs ++ [decide (k ∈ ks)])) (hin : k ∉ ks) (hstep : stepK room ks k = ks2 ++ [k]) (hk2 : k ∉ ks2)
    (hA : Apart ((f, X0) :: ([(oo, y1), (dd, y2), (c, y3), (d, y4)] ++ (vals ++ rest)))) (hoI : ∀ p ∈ (f, X0) :: ([(oo, y1), (dd, y2), (c, y3), (d, y4)] ++ (vals ++ rest)), @Ne Nat p.1 I)
    (hl : I < l' ∧ f < l' ∧ oo < l' ∧ dd < l' ∧ c < l' ∧ d < l' ∧ AllLt l' tl)
    (hmem : ∀ x, (valueAt kvd2 x).isSome = true ↔ x ∈ ks2) (hkl : kvd2.length = ks2.length) (hV : VOk kvd2 vals (b + i)) (hlit : lit.size = 2) (hb2 : 2 ≤ b) (hnd : ks2.Nodup) (hle : ((ks2.length + 1 : Nat) : Int) ≤ (room : Int)) (hcur : cur = ((ks2.length + 1 : Nat) : Int))
    (lod : (dd == sysModules) = false) (loo : (oo == sysModules) = false) (htl : tl = vals ++ rest) (hkvo : kvo2 = nm ks2)
    (hod : od'.IsDictOf (intKind PR w) (stored kvd2 k (.ref l'))) (hord : ord'.IsDictOf (intKind PR w) (stored kvo2 k .none))
    (T0 : KtsTurn fs g₀ g) (B : Below A₀ base outer g) (X : (K_ w.params).In g) (T : Top q_ lo_ mean mg mb g) (D : KtsDicts fs g) (F : Fr g L h' m')
    (N : News g L h' all) (hsub : ∀ p ∈ (l', W.listOf lit ln) :: (I, oI) :: (f, W.listOf ((boolsV bs).toArray.push (Value.bool false)) (bn + 1)) :: (oo, ord') :: (dd, od') :: (c, instObj 897 d) :: (d, dictOf (CEnt w t1 t2 t3 t4 dd cur tc room tr oo) 4) :: tl, p ∈ all)
    (e1 : m' (Str.ofString "found") = some (.ref f)) (e2 : m' (Str.ofString "cache") = some (.ref c)) (e3 : m' (Str.ofString "row") = some (.ref rw)) :
    TEndG L (fun g' m' nx' => GOk K_ q_ lo_ w A₀ base outer fs g₀ mean mg mb g' ∧ SInv w c d dd oo rw room ks0 row b rest (i + 1) m' nx') I oI s₁ { s₁ with heap := h', toks := tk } := by
  obtain ⟨p1, p2, p3, p4, p5, p6, p7⟩ := hl
  have p7' := kst_ltOf p7
  rw [htl] at p7'
  have hlen : (ks2 ++ [k]).length = ks2.length + 1 := by simp
  have habs : valueAt kvd2 k = none := by
    cases q : valueAt kvd2 k with
    | none => rfl
    | some x => exact absurd ((hmem k).mp (by rw [q]; rfl)) hk2
  have hst : stored kvd2 k (.ref l') = kvd2 ++ [(k, .ref l')] := stored_absent habs _
  refine ⟨g, h', tk, m', (f, W.listOf (boolsV (bs ++ [false])).toArray (bn + 1)) :: ([(oo, ord'), (dd, od'), (c, instObj 897 d), (d, dictOf (CEnt w t1 t2 t3 t4 dd cur tc room tr oo) 4)] ++ (((l', W.listOf lit ln) :: vals) ++ rest)), rfl, F, fun p hp => ?_, fun p hp => ?_, ⟨T0, B, X, T, D⟩, ?_⟩
  · rw [← bools_push] at hp
    refine N p (hsub p ?_)
    rw [htl]
    simp only [List.mem_cons, List.mem_append, List.cons_append, List.nil_append, List.append_assoc] at hp ⊢
    grind
  · have hm : p.1 ∈ ((f, X0) :: ([(oo, y1), (dd, y2), (c, y3), (d, y4)] ++ (vals ++ rest))).map (·.1) ∨ p.1 = l' := by
      have := List.mem_map_of_mem (f := fun q : Addr × Obj => q.1) hp
      simp only [List.map_cons, List.map_append, List.map_nil, List.mem_cons, List.mem_append, List.cons_append, List.nil_append] at this ⊢
      grind
    rcases hm with hm | hm
    · obtain ⟨q, hq, e⟩ := List.mem_map.mp hm
      exact e ▸ hoI q hq
    · rw [hm]; exact Nat.ne_of_gt p1
  · refine ⟨f, bn + 1, [(oo, ord'), (dd, od'), (c, instObj 897 d), (d, dictOf (CEnt w t1 t2 t3 t4 dd cur tc room tr oo) 4)], (l', W.listOf lit ln) :: vals, e1, e2, e3, ?_, ?_, ?_⟩
    · rw [hsn]; simp only [hin, decide_false]
    · rw [hsn, hstep]
      refine ⟨t1, t2, t3, t4, tc, tr, od', ord', kvd2 ++ [(k, .ref l')], by rw [hlen, hcur], hst ▸ hod, ?_, fun x => ?_, by rw [hlen, List.length_append, hkl]; rfl, fun p hp => ?_, nodup_snoc hnd hk2, by rw [hlen]; exact hle, lod, loo⟩
      · rw [hkvo, nm_stored hk2] at hord
        exact hord
      · rw [← hst, List.mem_append, List.mem_singleton, ← hmem x]
        unfold valueAt
        rw [hst, List.find?_append]
        cases hq : kvd2.find? (fun kv => decide (kv.1 = x)) with
        | some y => simp
        | none =>
          by_cases hx : k = x
          · subst hx; simp
          · have hx' : ¬ x = k := fun e => hx e.symm
            simp [hx, hx']
      · rcases List.mem_append.mp hp with hp | hp
        · obtain ⟨a, n, its', ep, hm, z1, z2⟩ := hV p hp
          exact ⟨a, n, its', ep, List.mem_cons_of_mem _ hm, z1, by omega⟩
        · rw [List.mem_singleton.mp hp]
          exact ⟨l', ln, lit, rfl, List.mem_cons_self, by omega, by omega⟩
    · have hA' : Apart ((l', W.listOf lit ln) :: (f, X0) :: ([(oo, y1), (dd, y2), (c, y3), (d, y4)] ++ (vals ++ rest))) := by
        refine ⟨fun q hq => ?_, hA⟩
        simp only [List.mem_cons, List.cons_append, List.nil_append] at hq
        rcases hq with rfl | rfl | rfl | rfl | rfl | hq
        · exact Nat.ne_of_lt p2
        · exact Nat.ne_of_lt p3
        · exact Nat.ne_of_lt p4
        · exact Nat.ne_of_lt p5
        · exact Nat.ne_of_lt p6
        · exact Nat.ne_of_lt (p7' q hq)
      refine apart_map (l := (f, X0) :: (oo, y1) :: (dd, y2) :: (c, y3) :: (d, y4) :: (l', W.listOf lit ln) :: (vals ++ rest)) (apart_perm hA' ?_) (by simp)
      exact (List.perm_middle (l₁ := [(f, X0), (oo, y1), (dd, y2), (c, y3), (d, y4)]) (l₂ := vals ++ rest) (a := (l', W.listOf lit ln))).symm
theorem without_len : ∀ {kvd : List (Int × Value)} {k0 : Int}, (kvd.map (·.1)).Nodup → (valueAt kvd k0).isSome = true → (without kvd k0).length + 1 = kvd.length
  | [], _, _, h => by cases h
  | p :: r, k0, hn, h => by
    rw [List.map_cons, List.nodup_cons] at hn
    by_cases hp : p.1 = k0
    · have e : without (p :: r) k0 = r := by
        unfold without
        rw [List.filter_cons_of_neg (by simp [hp])]
        exact List.filter_eq_self.mpr fun q hq => by
          simp only [decide_eq_true_eq]
          exact fun z => hn.1 (List.mem_map.mpr ⟨q, hq, z.trans hp.symm⟩)
      rw [e, List.length_cons]
    · have e : without (p :: r) k0 = p :: without r k0 := by
        unfold without
        rw [List.filter_cons_of_pos (by simp [hp])]
      have h' : (valueAt r k0).isSome = true := by
        unfold valueAt at h ⊢
        rwa [List.find?_cons_of_neg (by simpa using hp)] at h
      rw [e, List.length_cons, List.length_cons, without_len hn.2 h']
theorem vok_without {kvd : List (Int × Value)} {vals : List (Addr × Obj)} {b : Nat} {k0 : Int} (h : VOk kvd vals b) : VOk (without kvd k0) vals b := fun p hp => h p (List.mem_filter.mp hp).1
theorem out_mem {kvd : List (Int × Value)} {k0 : Int} {ks : List Int} (h : ∀ x, (valueAt kvd x).isSome = true ↔ x ∈ k0 :: ks) (hn : (k0 :: ks).Nodup) : ∀ x, (valueAt (without kvd k0) x).isSome = true ↔ x ∈ ks := fun x => by
  rw [without_at]
  rw [List.nodup_cons] at hn
  by_cases hx : x = k0
  · subst hx; simp [hn.1]
  · rw [if_neg hx, h x, List.mem_cons]; simp [hx]
theorem nm_out {k0 : Int} {ks : List Int} (hn : (k0 :: ks).Nodup) : without (nm (k0 :: ks)) k0 = nm ks := by
  rw [nm_without]
  rw [List.nodup_cons] at hn
  congr 1
  rw [List.filter_cons_of_neg (by simp)]
  exact List.filter_eq_self.mpr fun y hy => by simp only [decide_eq_true_eq]; rintro rfl; exact hn.1 hy
theorem stepK_new {room : Nat} {ks : List Int} {k : Int} (h : k ∉ ks) (hr : ks.length < room) : stepK room ks k = ks ++ [k] := by
  unfold stepK; rw [if_neg h, if_pos hr]
theorem stepK_full {room : Nat} {ks : List Int} {k0 k : Int} (h : k ∉ k0 :: ks) (hr : ¬ (k0 :: ks).length < room) : stepK room (k0 :: ks) k = ks ++ [k] := by
  unfold stepK; rw [if_neg h, if_neg hr]; rfl
abbrev candF (asked : List Int) (key : Int) : List Int := List.foldl (fun l' k' => if asked.getD k'.toNat 0 = key then l' ++ [k'] else l') [] (rangeKs 0 ((asked.length : Int) - 0).toNat)
theorem foldl_filter (p : Int → Prop) [DecidablePred p] : ∀ (ks acc : List Int), ks.foldl (fun l' k' => if p k' then l' ++ [k'] else l') acc = acc ++ ks.filter (fun k => decide (p k))
  | [], acc => by simp
  | k :: r, acc => by
    rw [List.foldl_cons, foldl_filter p r]
    by_cases h : p k
    · rw [if_pos h, List.filter_cons_of_pos (by simpa using h)]; simp
    · rw [if_neg h, List.filter_cons_of_neg (by simpa using h)]
theorem cand_mem {asked : List Int} {key k : Int} : k ∈ candF asked key ↔ 0 ≤ k ∧ k < (asked.length : Int) ∧ asked.getD k.toNat 0 = key := by
  unfold candF
  rw [foldl_filter (fun k' => asked.getD k'.toNat 0 = key), List.nil_append, List.mem_filter]
  simp only [decide_eq_true_eq, Int.sub_zero, Int.toNat_natCast]
  constructor
  · rintro ⟨h, e⟩
    have := mem_rangeKs h
    exact ⟨this.1, by omega, e⟩
  · rintro ⟨h0, h1, e⟩
    refine ⟨?_, e⟩
    unfold rangeKs
    simp only [List.mem_map, List.mem_range]
    exact ⟨k.toNat, by omega, by omega⟩
/-- M is the last place of key in asked -/
def LastAt (asked : List Int) (key M : Int) : Prop := 0 ≤ M ∧ M < (asked.length : Int) ∧ asked.getD M.toNat 0 = key ∧ ∀ j : Nat, M.toNat < j → j < asked.length → asked.getD j 0 ≠ key
theorem cand_pos {asked : List Int} {key : Int} (h : (asked.any fun x => x == key) = true) : 0 < (candF asked key).length := by
  obtain ⟨x, hx, e⟩ := List.any_eq_true.mp h
  obtain ⟨j, hj, rfl⟩ := List.mem_iff_getElem.mp hx
  have hm : (j : Int) ∈ candF asked key := cand_mem.mpr ⟨by omega, by omega, by
    rw [Int.toNat_natCast, List.getD_eq_getElem?_getD, List.getElem?_eq_getElem hj]
    simpa using e⟩
  exact List.length_pos_of_mem hm
theorem cand_last {asked : List Int} {key M : Int} (h : M ∈ candF asked key) (hm : ∀ a, a ∈ candF asked key → a ≤ M) : LastAt asked key M := by
  obtain ⟨h0, h1, e⟩ := cand_mem.mp h
  refine ⟨h0, h1, e, fun j hj hl z => ?_⟩
  have := hm (j : Int) (cand_mem.mpr ⟨by omega, by omega, by rw [Int.toNat_natCast]; exact z⟩)
  omega
section
variable {prog : Program} {w : World} {A : Around} {E : Value → Shared → Prop} {s : Shared} {h₀ : Heap} {L l : Addr} {m : Str → Option Value} {news : List (Addr × Obj)}
theorem slice_from {value slice : PySem.Expr} {vs : List Value} {ns : List Int} {c : Nat} {x : Int} {tx : Tok} {Q : Value → Shared → Prop} (F : Fr h₀ L s.heap m) (N : News h₀ L s.heap news) (hm : (l, W.listOf vs.toArray c) ∈ news) (hi : IntsAre vs ns) (h0 : 0 ≤ x) (hz : ns.length ≤ 64)
    (hs : subscripted slice false (.ref l) (.ref s.heap.objs.size) = operate [.ref s.heap.objs.size, .ref l] (getItem (.ref l) (.ref s.heap.objs.size))) (ht : ∀ r, letTemporaryGo value (.ref l) r = pure ())
    (h : ∀ D ws h', Fr h₀ L h' m → News h₀ L h' ((D, W.listOf (List.toArray ws) 0) :: news) → (∀ p ∈ news, p.1 < D) → IntsAre ws (ns.drop x.toNat) → Q (.ref D) { s with heap := h' }) :
    wpAny (model prog w) A (subscriptTail value slice (.ref l) (.ref s.heap.objs.size)) Q E { s with heap := s.heap.push { cls := .type "slice", data := .fields #[.int x tx, .none, .none] } } :=
  kmk_slice_ints F N ⟨_, (N _ hm).1, rfl, c, rfl⟩ (.int _ _) .none hi (kmk_from hi h0) rfl (fun D ws h' F' N' l1 hI _ _ => h D ws h' F' N' l1 hI) hs ht (by rw [kmk_size_eq hi, sizeLine_eq]; omega)
theorem slice_upto {value slice : PySem.Expr} {vs : List Value} {ns : List Int} {c : Nat} {x : Int} {tx : Tok} {Q : Value → Shared → Prop} (F : Fr h₀ L s.heap m) (N : News h₀ L s.heap news) (hm : (l, W.listOf vs.toArray c) ∈ news) (hi : IntsAre vs ns) (h0 : 0 ≤ x) (hz : ns.length ≤ 64)
    (hs : subscripted slice false (.ref l) (.ref s.heap.objs.size) = operate [.ref s.heap.objs.size, .ref l] (getItem (.ref l) (.ref s.heap.objs.size))) (ht : ∀ r, letTemporaryGo value (.ref l) r = pure ())
    (h : ∀ D ws h', Fr h₀ L h' m → News h₀ L h' ((D, W.listOf (List.toArray ws) 0) :: news) → (∀ p ∈ news, p.1 < D) → IntsAre ws (ns.take x.toNat) → Q (.ref D) { s with heap := h' }) :
    wpAny (model prog w) A (subscriptTail value slice (.ref l) (.ref s.heap.objs.size)) Q E { s with heap := s.heap.push { cls := .type "slice", data := .fields #[.none, .int x tx, .none] } } :=
  kmk_slice_ints F N ⟨_, (N _ hm).1, rfl, c, rfl⟩ .none (.int _ _) hi (kmk_upto hi h0) rfl (fun D ws h' F' N' l1 hI _ _ => h D ws h' F' N' l1 hI) hs ht (by rw [kmk_size_eq hi, sizeLine_eq]; omega)
end
theorem news_tl {h₀ h : Heap} {L : Addr} {x : Addr × Obj} {l : List (Addr × Obj)} (N : News h₀ L h (x :: l)) : News h₀ L h l := fun p hp => N p (.tail _ hp)
theorem comp_inv {prog : Program} {w : World} {A : Around} {h₀ : Heap} {L : Addr} {m : Str → Option Value} {env : Env} {elt : PySem.Expr} {x : Str} {scope : Scope} {cl : List (Str × Addr)} {s : Shared} {S : List (Addr × Obj) → Prop} {P : Nat → Value → Prop} {Fin : List Value → List (Addr × Obj) → Prop} {news : List (Addr × Obj)} {n : Nat} (I : Nat → List Value → List (Addr × Obj) → Prop)
    (h0 : I 0 [] news)
    (turn : ∀ i ys nw, i < n → I i ys nw → ∀ v Ia oI C oC D m₂ h tk (E' : Value → Shared → Prop), P i v → LCg.NsObj oC m₂ → m₂ x = some v → Fr h₀ L h m → News h₀ L h ((Ia, oI) :: (C, oC) :: (D, LCg.lst ys) :: nw) → LCg.Off3 Ia C D nw → ((@Ne Nat Ia C) ∧ (@Ne Nat Ia D) ∧ (@Ne Nat C D)) →
      wpAny (model prog w) A (eval elt (compEnvC scope cl C env)) (LCg.CompEnd h₀ L m { s with heap := h, toks := tk } Ia oI C oC D (LCg.lst ys) S (fun y news' => I (i + 1) (ys ++ [y]) news')) E' { s with heap := h, toks := tk })
    (fin : ∀ ys nw, I n ys nw → Fin ys nw) : LCg.CompRest prog w A h₀ L m env elt x scope cl s S P Fin n 0 [] news := by
  have key : ∀ (j i : Nat) (ys : List Value) (nw : List (Addr × Obj)), i + j = n → I i ys nw → LCg.CompRest prog w A h₀ L m env elt x scope cl s S P Fin j i ys nw := by
    intro j
    induction j with
    | zero =>
      intro i ys nw hi hy
      have e : i = n := by omega
      subst e
      exact LCg.CompRest.zero (fin ys nw hy)
    | succ j ih =>
      intro i ys nw hi hy
      refine LCg.CompRest.succ ?_
      intro v Ia oI C oC D m₂ h tk E' hv hC hx F N off ne
      refine wpAny_mono (turn i ys nw (by omega) hy v Ia oI C oC D m₂ h tk E' hv hC hx F N off ne) (fun y s₂ hq => ?_) fun _ _ e => e
      obtain ⟨h', tk', nw', e, F', N', off', hS, hI⟩ := hq
      exact ⟨h', tk', nw', e, F', N', off', hS, ih (i + 1) _ nw' (by omega) hI⟩
  exact key n 0 [] news (by omega) h0
theorem comp_inv1 {prog : Program} {w : World} {A : Around} {h₀ : Heap} {L : Addr} {m : Str → Option Value} {env : Env} {elt : PySem.Expr} {x : Str} {scope : Scope} {cl : List (Str × Addr)} {s : Shared} {S : List (Addr × Obj) → Prop} {P : Nat → Value → Prop} {Fin : List Value → List (Addr × Obj) → Prop} {p : Addr × Obj} {news : List (Addr × Obj)} {n : Nat} (I : Nat → List Value → List (Addr × Obj) → Prop)
    (h0 : I 0 [] news)
    (turn : ∀ i ys nw, i < n → I i ys nw → ∀ v Ia oI C oC D m₂ h tk (E' : Value → Shared → Prop), P i v → LCg.NsObj oC m₂ → m₂ x = some v → Fr h₀ L h m → News h₀ L h ((Ia, oI) :: (C, oC) :: (D, LCg.lst ys) :: p :: nw) → LCg.Off3 Ia C D (p :: nw) → ((@Ne Nat Ia C) ∧ (@Ne Nat Ia D) ∧ (@Ne Nat C D)) →
      wpAny (model prog w) A (eval elt (compEnvC scope cl C env)) (LCg.CompEnd h₀ L m { s with heap := h, toks := tk } Ia oI C oC D (LCg.lst ys) S (fun y news' => ∃ nw', news' = p :: nw' ∧ I (i + 1) (ys ++ [y]) nw')) E' { s with heap := h, toks := tk })
    (fin : ∀ ys nw, I n ys nw → Fin ys (p :: nw)) : LCg.CompRest prog w A h₀ L m env elt x scope cl s S P Fin n 0 [] (p :: news) := by
  refine comp_inv (fun i ys nw => ∃ nw', nw = p :: nw' ∧ I i ys nw') ⟨news, rfl, h0⟩ ?_ ?_
  · rintro i ys nw hi ⟨nw', rfl, hI⟩
    exact turn i ys nw' hi hI
  · rintro ys nw ⟨nw', rfl, hI⟩
    exact fin ys nw' hI
theorem ints_snoc {vs : List Value} {ns : List Int} {n : Int} {t : Tok} (h : IntsAre vs ns) : IntsAre (vs ++ [.int n t]) (ns ++ [n]) := by
  induction h with
  | nil => exact .cons n t .nil
  | cons z u r ih => exact .cons z u ih
abbrev STL (st sl : Addr) (k : Int) (u : Tok) (n ln : Nat) (ws : List Value) (rest : List (Addr × Obj)) : List (Addr × Obj) := (st, W.listOf [.ref sl, .int k u].toArray n) :: (sl, W.listOf ws.toArray ln) :: rest
theorem comp_st {prog : Program} {w : World} {A : Around} {h₀ : Heap} {L : Addr} {m : Str → Option Value} {env : Env} {elt : PySem.Expr} {x : Str} {scope : Scope} {cl : List (Str × Addr)} {s : Shared} {P : Nat → Value → Prop} {Fin : List Value → List (Addr × Obj) → Prop}
    {st sl : Addr} {k0 : Int} {u0 : Tok} {sn ln : Nat} {ws : List Value} {rest : List (Addr × Obj)} {n : Nat} (hA : Apart (STL st sl k0 u0 sn ln ws rest))
    (turn : ∀ i ys k u, i < n → k = k0 + (i : Int) → ∀ v Ia oI C oC D m₂ h tk (E' : Value → Shared → Prop), P i v → LCg.NsObj oC m₂ → m₂ x = some v → Fr h₀ L h m → News h₀ L h ((Ia, oI) :: (C, oC) :: (D, LCg.lst ys) :: STL st sl k u sn ln ws rest) → Apart (STL st sl k u sn ln ws ((Ia, oI) :: (C, oC) :: (D, LCg.lst ys) :: rest)) → LCg.Off3 Ia C D (STL st sl k u sn ln ws rest) →
      wpAny (model prog w) A (eval elt (compEnvC scope cl C env)) (LCg.CompEnd h₀ L m { s with heap := h, toks := tk } Ia oI C oC D (LCg.lst ys) (fun _ => True) (fun y news' => ∃ u' r t, news' = STL st sl (k + 1) u' sn ln ws rest ∧ y = .int r t ∧ 0 ≤ r ∧ r < 5)) E' { s with heap := h, toks := tk })
    (fin : ∀ ys ns u, IntsAre ys ns → ns.length = n → (∀ x ∈ ns, 0 ≤ x ∧ x < 5) → Fin ys (STL st sl (k0 + (n : Int)) u sn ln ws rest)) : LCg.CompRest prog w A h₀ L m env elt x scope cl s (fun _ => True) P Fin n 0 [] (STL st sl k0 u0 sn ln ws rest) := by
  have hmap : ∀ k u, (STL st sl k u sn ln ws rest).map (·.1) = (STL st sl k0 u0 sn ln ws rest).map (·.1) := fun _ _ => rfl
  refine comp_inv (fun i ys nw => ∃ u ns, nw = STL st sl (k0 + (i : Int)) u sn ln ws rest ∧ IntsAre ys ns ∧ ns.length = i ∧ ∀ x ∈ ns, 0 ≤ x ∧ x < 5) ⟨u0, [], by simp, .nil, rfl, fun _ h => absurd h List.not_mem_nil⟩ ?_ ?_
  · rintro i ys nw hi ⟨u, ns, rfl, hI, hl, hb⟩ v Ia oI C oC D m₂ h tk E' hv hC hx F N off ne
    have hAp : Apart (STL st sl (k0 + (i : Int)) u sn ln ws ((Ia, oI) :: (C, oC) :: (D, LCg.lst ys) :: rest)) := by
      obtain ⟨n1, n2, n3⟩ := ne
      have o2 := off.2.2.mem
      refine ⟨fun q hq => ?_, fun q hq => ?_, fun q hq => ?_, fun q hq => ?_, fun q hq => ?_, hA.2.2⟩
      · rcases List.mem_cons.mp hq with rfl | hq
        · exact hA.1 (sl, W.listOf ws.toArray ln) List.mem_cons_self
        rcases List.mem_cons.mp hq with rfl | hq
        · exact fun e => off.1.1 e.symm
        rcases List.mem_cons.mp hq with rfl | hq
        · exact fun e => off.1.2.1 e.symm
        rcases List.mem_cons.mp hq with rfl | hq
        · exact fun e => off.1.2.2 e.symm
        exact hA.1 _ (.tail _ hq)
      · rcases List.mem_cons.mp hq with rfl | hq
        · exact fun e => off.2.1.1 e.symm
        rcases List.mem_cons.mp hq with rfl | hq
        · exact fun e => off.2.1.2.1 e.symm
        rcases List.mem_cons.mp hq with rfl | hq
        · exact fun e => off.2.1.2.2 e.symm
        exact hA.2.1 _ hq
      · rcases List.mem_cons.mp hq with rfl | hq
        · exact fun e => n1 e.symm
        rcases List.mem_cons.mp hq with rfl | hq
        · exact fun e => n2 e.symm
        exact (o2 _ hq).1
      · rcases List.mem_cons.mp hq with rfl | hq
        · exact fun e => n3 e.symm
        exact (o2 _ hq).2.1
      · exact (o2 _ hq).2.2
    refine wpAny_mono (turn i ys _ u hi rfl v Ia oI C oC D m₂ h tk E' hv hC hx F N hAp off) (fun y s₂ hq => ?_) fun _ _ e => e
    obtain ⟨h', tk', nw', e, F', N', off', hS, u', r, t, rfl, rfl, r0, r1⟩ := hq
    refine ⟨h', tk', _, e, F', N', off', hS, u', ns ++ [r], by rw [Int.add_assoc]; rfl, ints_snoc hI, by simp [hl], fun x hx => ?_⟩
    rcases List.mem_append.mp hx with hx | hx
    · exact hb x hx
    · obtain rfl := List.mem_singleton.mp hx
      exact ⟨r0, r1⟩
  · rintro ys nw ⟨u, ns, rfl, hI, hl, hb⟩
    exact fin ys ns u hI hl hb
theorem stl_perm {st sl : Addr} {k : Int} {u : Tok} {sn ln : Nat} {ws : List Value} {rest : List (Addr × Obj)} {a b c p : Addr × Obj} (h : p ∈ STL st sl k u sn ln ws (a :: b :: c :: rest)) : p ∈ a :: b :: c :: STL st sl k u sn ln ws rest := by
  simp only [STL, List.mem_cons] at h ⊢
  rcases h with h | h | h | h | h | h
  · exact .inr (.inr (.inr (.inl h)))
  · exact .inr (.inr (.inr (.inr (.inl h))))
  · exact .inl h
  · exact .inr (.inl h)
  · exact .inr (.inr (.inl h))
  · exact .inr (.inr (.inr (.inr (.inr h))))
theorem stl_perm' {st sl : Addr} {k : Int} {u : Tok} {sn ln : Nat} {ws : List Value} {rest : List (Addr × Obj)} {a b c p : Addr × Obj} (h : p ∈ a :: b :: c :: STL st sl k u sn ln ws rest) : p ∈ STL st sl k u sn ln ws (a :: b :: c :: rest) := by
  simp only [STL, List.mem_cons] at h ⊢
  rcases h with h | h | h | h | h | h
  · exact .inr (.inr (.inl h))
  · exact .inr (.inr (.inr (.inl h)))
  · exact .inr (.inr (.inr (.inr (.inl h))))
  · exact .inl h
  · exact .inr (.inl h)
  · exact .inr (.inr (.inr (.inr (.inr h))))
theorem draw_end {g : Heap} {m' : Str → Option Value} {L Ia C D st sl : Addr} {oI oC oD : Obj} {s₁ : Shared} {h' : Heap} {tk sn ln : Nat} {k r : Int} {u u' t : Tok} {ws : List Value} {rest : List (Addr × Obj)}
    (F : Fr g L h' m') (N : News g L h' (STL st sl (k + 1) u' sn ln ws ((Ia, oI) :: (C, oC) :: (D, oD) :: rest))) (off : LCg.Off3 Ia C D (STL st sl k u sn ln ws rest)) (r0 : 0 ≤ r) (r1 : r < 5) :
    LCg.CompEnd g L m' s₁ Ia oI C oC D oD (fun _ => True) (fun y news' => ∃ u' r t, news' = STL st sl (k + 1) u' sn ln ws rest ∧ y = .int r t ∧ 0 ≤ r ∧ r < 5) (.int r t) { s₁ with heap := h', toks := tk } :=
  ⟨h', tk, STL st sl (k + 1) u' sn ln ws rest, rfl, F, fun p hp => N p (stl_perm' hp), off, True.intro, u', r, t, rfl, rfl, r0, r1⟩
theorem news_stl1 {h₀ h : Heap} {L st sl : Addr} {k : Int} {u : Tok} {sn ln : Nat} {ws : List Value} {rest : List (Addr × Obj)} {a : Addr × Obj} (N : News h₀ L h (a :: STL st sl k u sn ln ws rest)) : News h₀ L h (STL st sl k u sn ln ws (a :: rest)) := fun p hp => N p (by
  simp only [STL, List.mem_cons] at hp ⊢
  rcases hp with h | h | h | h
  · exact .inr (.inl h)
  · exact .inr (.inr (.inl h))
  · exact .inl h
  · exact .inr (.inr (.inr h)))
theorem news_stl3 {h₀ h : Heap} {L st sl : Addr} {k : Int} {u : Tok} {sn ln : Nat} {ws : List Value} {rest : List (Addr × Obj)} {a b c : Addr × Obj} (N : News h₀ L h (a :: b :: c :: STL st sl k u sn ln ws rest)) : News h₀ L h (STL st sl k u sn ln ws (a :: b :: c :: rest)) := fun p hp => N p (stl_perm hp)
theorem news_perm {h₀ h : Heap} {L : Addr} {l l' : List (Addr × Obj)} (N : News h₀ L h l) (p : l.Perm l') : News h₀ L h l' := fun q hq => N q (p.mem_iff.mpr hq)
theorem loopG_fix {w : World} {A : Around} {E : Value → Shared → Prop} {env : Env} {x : Str} {body : List Stmt} {Q : Flow → Shared → Prop} {s₁ : Shared} {g : Heap} {m : Str → Option Value}
    {r : Addr} {a₀ b₀ : Int} {t u v : Tok} {news : List (Addr × Obj)} (n : Nat) (Inv : Nat → (Str → Option Value) → List (Addr × Obj) → Prop)
    (hh : A.handled = none) (hr : IsRange s₁.heap r a₀ b₀ 1 t u v) (hsmall : Builtin.Range.small a₀ b₀ 1 = true) (hn : Builtin.Range.rangeSize a₀ b₀ 1 = (n : Int)) (F : Fr g env.locals s₁.heap m) (N : News g env.locals s₁.heap news) (hj : Inv 0 m news)
    (turn : ∀ i m₁ nx I oI t h tk, i < n → Inv i m₁ nx → (∀ p ∈ nx, @Ne Nat p.1 I) → Fr g env.locals h (fun y => if y = x then some (.int (a₀ + (i : Int)) t) else m₁ y) → News g env.locals h ((I, oI) :: nx) →
      wpAny (model PR w) A (execs body env) (TPostG env.locals (fun g' m' nx' => g' = g ∧ Inv (i + 1) m' nx') I oI { s₁ with heap := h, toks := tk } Q) E { s₁ with heap := h, toks := tk })
    (done : ∀ m₁ nx h tk, Inv n m₁ nx → Fr g env.locals h m₁ → News g env.locals h nx → Q .next { s₁ with heap := h, toks := tk }) :
    LoopG PR w A E env x body Q (.ref r) s₁ :=
  ⟨r, a₀, b₀, t, u, v, n, g, m, news, fun i g' m' nx' => g' = g ∧ Inv i m' nx', rfl, hh, hr, hsmall, hn, F, N, ⟨rfl, hj⟩,
    fun i g₁ m₁ nx I oI t h tk hi hJ ho F₁ N₁ => by
      obtain ⟨rfl, hJ⟩ := hJ
      exact turn i m₁ nx I oI t h tk hi hJ ho F₁ N₁,
    fun g₁ m₁ nx h tk hJ F₁ N₁ => by
      obtain ⟨rfl, hJ⟩ := hJ
      exact done m₁ nx h tk hJ F₁ N₁⟩
theorem swap4 {α : Type} {A B C D R : List α} : (A ++ (B ++ (C ++ (D ++ R)))).Perm (C ++ (D ++ (A ++ (B ++ R)))) := by
  have := (List.perm_append_comm (l₁ := A ++ B) (l₂ := C ++ D)).append_right R
  simpa only [List.append_assoc] using this
theorem push4 {α : Type} {A B C D R : List α} {f : α} : (f :: (A ++ (B ++ (C ++ (D ++ R))))).Perm (A ++ (B ++ (C ++ (D ++ (f :: R))))) := by
  have := (List.perm_middle (a := f) (l₁ := A ++ (B ++ (C ++ D))) (l₂ := R)).symm
  simpa only [List.append_assoc] using this
theorem push2 {α : Type} {A B R : List α} {f : α} : (f :: (A ++ (B ++ R))).Perm (A ++ (B ++ (f :: R))) := by
  have := (List.perm_middle (a := f) (l₁ := A ++ B) (l₂ := R)).symm
  simpa only [List.append_assoc] using this
def NamesR (fl sc c c' ah be al : Addr) (room saved : Int) (m : Str → Option Value) : Prop :=
  m (Str.ofString "first") = some (.ref fl) ∧ m (Str.ofString "second") = some (.ref sc) ∧ m (Str.ofString "both") = some (.ref c) ∧ m (Str.ofString "new") = some (.ref c') ∧ m (Str.ofString "ahead") = some (.ref ah) ∧ m (Str.ofString "behind") = some (.ref be) ∧ m (Str.ofString "alone") = some (.ref al) ∧ (∃ t, m (Str.ofString "room") = some (.int room t)) ∧ (∃ t, m (Str.ofString "saved") = some (.int saved t))
theorem fr_name1 {h₀ h : Heap} {L : Addr} {m : Str → Option Value} {x z : Str} {v u : Value} (F : Fr h₀ L h (fun y => if y = z then some u else m y)) (e : m x = some v) : Fr h₀ L h (fun y => if y = z then some u else if y = x then some v else m y) := by
  have e' : (fun y => if y = z then some u else if y = x then some v else m y) = (fun y => if y = z then some u else m y) := by
    funext y
    by_cases hz : y = z
    · rw [if_pos hz, if_pos hz]
    · rw [if_neg hz, if_neg hz]
      by_cases hy : y = x
      · rw [if_pos hy, hy, e]
      · rw [if_neg hy]
  rw [e']; exact F
abbrev mR (fl sc c c' ah be al : Addr) (room saved : Int) (t t' : Tok) (m : Str → Option Value) : Str → Option Value := fun y =>
  if y = Str.ofString "first" then some (.ref fl) else if y = Str.ofString "second" then some (.ref sc) else if y = Str.ofString "both" then some (.ref c) else if y = Str.ofString "new" then some (.ref c') else
  if y = Str.ofString "ahead" then some (.ref ah) else if y = Str.ofString "behind" then some (.ref be) else if y = Str.ofString "alone" then some (.ref al) else if y = Str.ofString "room" then some (.int room t) else if y = Str.ofString "saved" then some (.int saved t') else m y
theorem mR_eq {fl sc c c' ah be al : Addr} {room saved : Int} {m : Str → Option Value} (e : NamesR fl sc c c' ah be al room saved m) : ∃ t t', m = mR fl sc c c' ah be al room saved t t' m := by
  obtain ⟨e1, e2, e3, e4, e5, e6, e7, ⟨t, e8⟩, ⟨t', e9⟩⟩ := e
  refine ⟨t, t', funext fun y => ?_⟩
  unfold mR
  split
  · subst y; exact e1
  split
  · subst y; exact e2
  split
  · subst y; exact e3
  split
  · subst y; exact e4
  split
  · subst y; exact e5
  split
  · subst y; exact e6
  split
  · subst y; exact e7
  split
  · subst y; exact e8
  split
  · subst y; exact e9
  rfl
def svd (s2 : List Int) (be : List Bool) : Nat → Nat
  | 0 => 0
  | j + 1 => svd s2 be j + if s2.getD j 0 ∉ s2.take j ∧ be.getD j false = true then 1 else 0
theorem ints_getD {vs : List Value} {ns : List Int} (h : IntsAre vs ns) {j : Nat} (hj : j < ns.length) : ∃ t, vs[(j : Int).toNat]? = some (.int (ns.getD j 0) t) := by
  obtain ⟨t, e⟩ := h.get j ns[j] (by simp [hj])
  exact ⟨t, by rw [Int.toNat_natCast, e, List.getD_eq_getElem?_getD, List.getElem?_eq_getElem hj]; rfl⟩
theorem bools_getD {bs : List Bool} {j : Nat} (hj : j < bs.length) : (boolsV bs)[(j : Int).toNat]? = some (.bool (bs.getD j false)) := by
  rw [Int.toNat_natCast, List.getElem?_map, List.getD_eq_getElem?_getD, List.getElem?_eq_getElem hj]; rfl
theorem tend_room {g : Heap} {m' : Str → Option Value} {L I : Addr} {oI : Obj} {s₁ : Shared} {h' : Heap} {tk : Nat} {G : List (Addr × Obj)} {fl sc c c' ah be al : Addr} {room sv sv' : Int}
    (F : Fr g L h' m') (N : News g L h' ((I, oI) :: G)) (ho : ∀ p ∈ G, @Ne Nat p.1 I) (e : sv' = sv) (hN : NamesR fl sc c c' ah be al room sv m') :
    TEndG L (fun g' m' nx' => g' = g ∧ nx' = G ∧ NamesR fl sc c c' ah be al room sv' m') I oI s₁ { s₁ with heap := h', toks := tk } :=
  ⟨g, h', tk, m', G, rfl, F, N, ho, rfl, rfl, by rw [e]; exact hN⟩
theorem apart_sub {l l' : List (Addr × Obj)} (h : Apart l) (s : l'.Sublist l) : Apart l' := apart_iff.mpr ((apart_iff.mp h).sublist (s.map _))
theorem sub_tail {α : Type} {A B R : List α} {a c : α} : (a :: R).Sublist (a :: (A ++ (B ++ (c :: R)))) :=
  List.Sublist.cons_cons a (((List.sublist_cons_self c R).trans (List.sublist_append_right B _)).trans (List.sublist_append_right A _))
theorem news_sub {h₀ h : Heap} {L : Addr} {l l' : List (Addr × Obj)} (N : News h₀ L h l) (s : l'.Sublist l) : News h₀ L h l' := fun q hq => N q (s.subset hq)
theorem snoc_ind {α : Type} {P : List α → Prop} (h0 : P []) (h1 : ∀ l k, P l → P (l ++ [k])) : ∀ l, P l := fun l => by
  rw [← List.reverse_reverse l]
  induction l.reverse with
  | nil => exact h0
  | cons k r ih => rw [List.reverse_cons]; exact h1 _ _ ih
/-- the keys in the order of their last use -/
def stk (l : List Int) : List Int := l.foldl (fun s k => s.filter (fun x => decide (x ≠ k)) ++ [k]) []
def lastN (n : Nat) (l : List Int) : List Int := l.drop (l.length - n)
theorem stk_snoc (l : List Int) (k : Int) : stk (l ++ [k]) = (stk l).filter (fun x => decide (x ≠ k)) ++ [k] := by simp [stk, List.foldl_append]
theorem lastN_le {n : Nat} {l : List Int} (h : l.length ≤ n) : lastN n l = l := by
  unfold lastN; rw [Nat.sub_eq_zero_of_le h]; rfl
theorem lastN_app {n : Nat} {a b : List Int} (h : b.length = n) : lastN n (a ++ b) = b := by
  unfold lastN
  rw [List.length_append, h, Nat.add_sub_cancel, List.drop_left]
theorem stk_mem (l : List Int) : ∀ x, x ∈ stk l ↔ x ∈ l := by
  refine snoc_ind (P := fun l => ∀ x, x ∈ stk l ↔ x ∈ l) ?_ ?_ l
  · intro x; simp [stk]
  · intro l k ih x
    rw [stk_snoc, List.mem_append, List.mem_append, List.mem_filter, ih]
    simp only [List.mem_singleton, decide_eq_true_eq]
    by_cases h : x = k <;> simp [h]
theorem stk_nodup (l : List Int) : (stk l).Nodup := by
  refine snoc_ind (P := fun l => (stk l).Nodup) ?_ ?_ l
  · simp [stk]
  · intro l k ih
    rw [stk_snoc, List.nodup_append]
    refine ⟨ih.filter _, by simp, ?_⟩
    intro a ha b hb e
    rw [List.mem_filter] at ha
    rw [List.mem_singleton] at hb
    simp only [decide_eq_true_eq] at ha
    exact ha.2 (e.trans hb)
theorem filter_all {l : List Int} {k : Int} (h : k ∉ l) : l.filter (fun x => decide (x ≠ k)) = l := by
  rw [List.filter_eq_self]
  intro a ha
  simp only [decide_eq_true_eq]
  rintro rfl
  exact h ha
theorem last_split (n : Nat) (l : List Int) : ∃ a, l = a ++ lastN n l ∧ (a = [] ∨ (lastN n l).length = n) ∧ (lastN n l).length ≤ n := by
  refine ⟨l.take (l.length - n), (List.take_append_drop _ _).symm, ?_, ?_⟩
  · by_cases h : l.length ≤ n
    · left; rw [Nat.sub_eq_zero_of_le h]; rfl
    · right; unfold lastN; rw [List.length_drop]; omega
  · unfold lastN; rw [List.length_drop]; omega
theorem step_last {n : Nat} (hn : 1 ≤ n) (l : List Int) (k : Int) : stepK n (lastN n (stk l)) k = lastN n (stk (l ++ [k])) := by
  obtain ⟨a, ha, hal, hbn⟩ := last_split n (stk l)
  have hnd := stk_nodup l
  rw [stk_snoc]
  generalize lastN n (stk l) = b at ha hal hbn
  rw [ha] at hnd ⊢
  clear ha
  rw [List.nodup_append] at hnd
  obtain ⟨hna, hnb, hab⟩ := hnd
  unfold stepK
  by_cases hk : k ∈ b
  · rw [if_pos hk]
    have hka : k ∉ a := fun h => hab k h k hk rfl
    have hl := filt_len hnb hk
    rw [List.filter_append, filter_all hka, List.append_assoc]
    rcases hal with rfl | hal
    · rw [List.nil_append, lastN_le (by rw [List.length_append, List.length_singleton]; omega)]
    · rw [lastN_app (by rw [List.length_append, List.length_singleton]; omega)]
  · rw [if_neg hk]
    rw [List.filter_append, filter_all hk]
    by_cases hlt : b.length < n
    · rw [if_pos hlt]
      rcases hal with rfl | hal
      · rw [List.filter_nil, List.nil_append, lastN_le (by rw [List.length_append, List.length_singleton]; omega)]
      · omega
    · rw [if_neg hlt]
      have hbe : b.length = n := by omega
      cases b with
      | nil => rw [List.length_nil] at hbe; omega
      | cons x r =>
        rw [show (a.filter (fun y => decide (y ≠ k)) ++ x :: r) ++ [k] = (a.filter (fun y => decide (y ≠ k)) ++ [x]) ++ (r ++ [k]) from by simp, lastN_app (by simpa using hbe)]
        rfl
theorem serve_append (n : Nat) (st : List Int × List Bool) (a b : List Int) : serve n st (a ++ b) = serve n (serve n st a) b := by simp [serve, List.foldl_append]
theorem serve_acc (n : Nat) (row : List Int) : ∀ ks bs, serve n (ks, bs) row = ((serve n (ks, []) row).1, bs ++ (serve n (ks, []) row).2) := by
  refine snoc_ind (P := fun row => ∀ ks bs, serve n (ks, bs) row = ((serve n (ks, []) row).1, bs ++ (serve n (ks, []) row).2)) ?_ ?_ row
  · intro ks bs; simp [serve]
  · intro l k ih ks bs
    rw [serve_snoc, serve_snoc, ih]
    simp
theorem serve_stk {n : Nat} (hn : 1 ≤ n) (l : List Int) : (serve n ([], []) l).1 = lastN n (stk l) := by
  refine snoc_ind (P := fun l => (serve n ([], []) l).1 = lastN n (stk l)) ?_ ?_ l
  · simp [serve, stk, lastN]
  · intro l k ih
    rw [serve_snoc, ← step_last hn, ← ih]
theorem serve_both {n : Nat} (hn : 1 ≤ n) (f l : List Int) : (serve n ((serve n ([], []) f).1, []) l).1 = lastN n (stk (f ++ l)) := by
  rw [← serve_stk hn, serve_append]
  rw [show serve n ([], []) f = ((serve n ([], []) f).1, (serve n ([], []) f).2) from rfl, serve_acc n l _ (serve n ([], []) f).2]
theorem serve_cat (n : Nat) (f l : List Int) : (serve n ([], []) (f ++ l)).2 = (serve n ([], []) f).2 ++ (serve n ((serve n ([], []) f).1, []) l).2 := by
  rw [serve_append, show serve n ([], []) f = ((serve n ([], []) f).1, (serve n ([], []) f).2) from rfl, serve_acc n l _ (serve n ([], []) f).2]
theorem serve_at (n : Nat) (ks : List Int) : ∀ (l : List Int) (j : Nat), j < l.length → (serve n (ks, []) l).2.getD j false = decide (l.getD j 0 ∈ (serve n (ks, []) (l.take j)).1) := by
  intro l
  refine snoc_ind (P := fun l => ∀ j : Nat, j < l.length → (serve n (ks, []) l).2.getD j false = decide (l.getD j 0 ∈ (serve n (ks, []) (l.take j)).1)) ?_ ?_ l
  · intro j h; cases h
  · intro l k ih j hj
    have hlen : (serve n (ks, []) l).2.length = l.length := by rw [serve_len]; simp
    rw [serve_snoc]
    rw [List.length_append, List.length_singleton] at hj
    simp only [List.getD_eq_getElem?_getD] at ih ⊢
    by_cases h : j < l.length
    · rw [List.getElem?_append_left (by rw [hlen]; exact h), List.getElem?_append_left h, List.take_append_of_le_length (by omega)]
      exact ih j h
    · have : j = l.length := by omega
      subst this
      rw [List.getElem?_append_right (by rw [hlen]; exact Nat.le_refl _), List.getElem?_append_right (Nat.le_refl _), hlen]
      simp
theorem stk_app (x s : List Int) : stk (x ++ s) = (stk x).filter (fun y => decide (y ∉ s)) ++ stk s := by
  refine snoc_ind (P := fun s => stk (x ++ s) = (stk x).filter (fun y => decide (y ∉ s)) ++ stk s) ?_ ?_ s
  · rw [List.append_nil, show stk [] = [] from rfl, List.append_nil]
    exact (List.filter_eq_self.mpr (by simp)).symm
  · intro s k ih
    rw [← List.append_assoc, stk_snoc, ih, stk_snoc, List.filter_append, List.filter_filter, List.append_assoc]
    congr 1
    apply List.filter_congr
    intro y _
    by_cases h1 : y = k <;> by_cases h2 : y ∈ s <;> simp [h1, h2]
theorem in_last {n : Nat} {pre suf : List Int} {k : Int} (hk : k ∉ suf) : k ∈ lastN n (stk (pre ++ k :: suf)) ↔ (stk suf).length < n := by
  rw [show pre ++ k :: suf = (pre ++ [k]) ++ suf from by simp, stk_app, stk_snoc, List.filter_append]
  have hz : k ∉ ((stk pre).filter (fun x => decide (x ≠ k))).filter (fun y => decide (y ∉ suf)) := by
    intro h
    have := (List.mem_filter.mp (List.mem_filter.mp h).1).2
    simp at this
  rw [show [k].filter (fun y => decide (y ∉ suf)) = [k] from by simp [hk]]
  generalize ((stk pre).filter (fun x => decide (x ≠ k))).filter (fun y => decide (y ∉ suf)) = Z at hz
  have hs : k ∉ stk suf := fun h => hk ((stk_mem suf k).mp h)
  generalize stk suf = S at hs
  unfold lastN
  rw [List.length_append, List.length_append, List.length_singleton]
  constructor
  · intro h
    refine Nat.lt_of_not_le fun hle => ?_
    rw [List.drop_append] at h
    rcases List.mem_append.mp h with h | h
    · rw [List.drop_eq_nil_iff.mpr (by rw [List.length_append, List.length_singleton]; omega)] at h
      cases h
    · exact hs (List.mem_of_mem_drop h)
  · intro h
    rw [List.drop_append_of_le_length (by rw [List.length_append, List.length_singleton]; omega), List.drop_append_of_le_length (by omega)]
    simp
theorem split_last (l : List Int) (k : Int) : k ∈ l → ∃ pre suf, l = pre ++ k :: suf ∧ k ∉ suf := by
  refine snoc_ind (P := fun l => k ∈ l → ∃ pre suf, l = pre ++ k :: suf ∧ k ∉ suf) ?_ ?_ l
  · intro h; cases h
  · intro l j ih h
    by_cases e : j = k
    · subst e
      exact ⟨l, [], rfl, by simp⟩
    · obtain ⟨pre, suf, rfl, hs⟩ := ih (by
        rcases List.mem_append.mp h with h | h
        · exact h
        · exact absurd (List.mem_singleton.mp h).symm e)
      exact ⟨pre, suf ++ [j], by simp, by simp [hs, Ne.symm e]⟩
theorem range_getD (l : List Int) : (List.range l.length).map (fun i => l.getD i 0) = l := by
  apply List.ext_getElem
  · simp
  · intro i h1 h2
    simp [List.getD_eq_getElem?_getD, List.getElem?_eq_getElem h2]
theorem dl_snoc (l : List Int) (k : Int) : dl (l ++ [k]) = dl l + if k ∈ l then 0 else 1 := by
  unfold dl
  have e : ∀ l : List Int, firstMet (fun i => l.getD i 0) l.length = l.foldl step_dedup [] := fun l => by
    unfold firstMet; rw [range_getD]
  rw [e, e, List.foldl_append]
  have ha : (l.foldl step_dedup []).any (· == k) = l.any (· == k) := by
    have := firstMet_any (fun i => l.getD i 0) l.length k
    rw [e, range_getD] at this
    exact this
  show (step_dedup (l.foldl step_dedup []) k).length = _
  generalize l.foldl step_dedup [] = S at ha
  unfold step_dedup
  rw [ha]
  by_cases h : k ∈ l
  · rw [if_pos h, if_pos (List.any_eq_true.mpr ⟨k, h, by simp⟩)]; rfl
  · rw [if_neg h, if_neg (fun hh => h (by
      obtain ⟨x, hx, e⟩ := List.any_eq_true.mp hh
      rw [beq_iff_eq] at e
      exact e ▸ hx)), List.length_append]; rfl
theorem stk_len_snoc (l : List Int) (k : Int) : (stk (l ++ [k])).length = (stk l).length + if k ∈ l then 0 else 1 := by
  rw [stk_snoc, List.length_append, List.length_singleton]
  by_cases h : k ∈ l
  · rw [if_pos h, filt_len (stk_nodup l) ((stk_mem l k).mpr h)]; rfl
  · rw [if_neg h, filter_all (fun hh => h ((stk_mem l k).mp hh))]
theorem dl_stk (l : List Int) : dl l = (stk l).length := by
  refine snoc_ind (P := fun l => dl l = (stk l).length) rfl ?_ l
  intro l k ih
  rw [dl_snoc, stk_len_snoc, ih]
theorem last_len (n : Nat) (l : List Int) : (lastN n l).length = min n l.length := by
  unfold lastN; rw [List.length_drop]; omega
abbrev svF (n : Nat) (f : List Int) : List Bool := (serve n ([], []) f).2
abbrev svB (n : Nat) (f l : List Int) : List Bool := (serve n ((serve n ([], []) f).1, []) l).2
theorem any_mem {l : List Int} {k : Int} : (l.any fun x => x == k) = true ↔ k ∈ l := by
  rw [List.any_eq_true]
  constructor
  · rintro ⟨x, hx, e⟩
    rw [beq_iff_eq] at e
    exact e ▸ hx
  · exact fun h => ⟨k, h, by simp⟩
theorem any_not {l : List Int} {k : Int} : (l.any fun x => x == k) = false ↔ k ∉ l := by
  rw [← any_mem, Bool.not_eq_true]
theorem svF_at {n : Nat} (hn : 1 ≤ n) (l : List Int) (j : Nat) (hj : j < l.length) : (svF n l).getD j false = decide (l.getD j 0 ∈ lastN n (stk (l.take j))) := by
  rw [serve_at n [] l j hj, serve_stk hn]
theorem svB_at {n : Nat} (hn : 1 ≤ n) (f l : List Int) (j : Nat) (hj : j < l.length) : (svB n f l).getD j false = decide (l.getD j 0 ∈ lastN n (stk (f ++ l.take j))) := by
  rw [serve_at n _ l j hj, serve_both hn]
theorem last_sub {n : Nat} {l : List Int} {k : Int} (h : k ∈ lastN n (stk l)) : k ∈ l := (stk_mem l k).mp (List.mem_of_mem_drop h)
theorem p1 {n : Nat} (hn : 1 ≤ n) (f l : List Int) (j : Nat) (hj : j < l.length) (h : ((l.take (j : Int).toNat).any fun x => x == l.getD j 0) = true) : (svB n f l).getD j false = (svF n l).getD j false := by
  rw [Int.toNat_natCast, any_mem] at h
  rw [svB_at hn f l j hj, svF_at hn l j hj]
  obtain ⟨pre, suf, e, hs⟩ := split_last _ _ h
  rw [e, ← List.append_assoc]
  rw [decide_eq_decide, in_last hs, in_last hs]
theorem p2 {n : Nat} (hn : 1 ≤ n) (l : List Int) (j : Nat) (hj : j < l.length) (h : ((l.take (j : Int).toNat).any fun x => x == l.getD j 0) = false) : (svF n l).getD j false = false := by
  rw [Int.toNat_natCast, any_not] at h
  rw [svF_at hn l j hj]
  exact decide_eq_false fun hh => h (last_sub hh)
theorem p3 {n : Nat} (hn : 1 ≤ n) (f l : List Int) (j : Nat) (hj : j < l.length) (h : ((f ++ l.take (j : Int).toNat).any fun x => x == l.getD j 0) = false) : (svB n f l).getD j false = false := by
  rw [Int.toNat_natCast, any_not] at h
  rw [svB_at hn f l j hj]
  exact decide_eq_false fun hh => h (last_sub hh)
theorem lastAt_split {l : List Int} {k M : Int} (h : LastAt l k M) : l = l.take M.toNat ++ k :: l.drop (M + 1).toNat ∧ k ∉ l.drop (M + 1).toNat := by
  obtain ⟨h0, h1, h2, h3⟩ := h
  have hm : M.toNat < l.length := by omega
  have e1 : (M + 1).toNat = M.toNat + 1 := by omega
  rw [e1]
  constructor
  · have : l.drop M.toNat = k :: l.drop (M.toNat + 1) := by
      rw [List.drop_eq_getElem_cons hm, ← h2, List.getD_eq_getElem?_getD, List.getElem?_eq_getElem hm]; rfl
    rw [← this, List.take_append_drop]
  · intro hk
    obtain ⟨i, hi, e⟩ := List.mem_iff_getElem.mp hk
    rw [List.length_drop] at hi
    refine h3 (M.toNat + 1 + i) (by omega) (by omega) ?_
    rw [List.getElem_drop] at e
    rw [List.getD_eq_getElem?_getD, List.getElem?_eq_getElem (by omega), ← e]; rfl
theorem p4 {n : Nat} (hn : 1 ≤ n) (f l : List Int) (j : Nat) (hj : j < l.length) (M : Int) (h : LastAt (f ++ l.take (j : Int).toNat) (l.getD j 0) M) :
    (svB n f l).getD j false = decide ((dl ((f ++ l.take (j : Int).toNat).drop (M + 1).toNat) : Int) < (n : Int)) := by
  obtain ⟨e, hs⟩ := lastAt_split h
  rw [svB_at hn f l j hj, dl_stk]
  rw [Int.toNat_natCast] at *
  rw [decide_eq_decide]
  have := in_last (n := n) (pre := (f ++ l.take j).take M.toNat) hs
  rw [← e] at this
  rw [this]
  omega
theorem s1 (l : List Int) (be : List Bool) (j : Nat) (h : ((l.take (j : Int).toNat).any fun x => x == l.getD j 0) = true) : (svd l be (j + 1) : Int) = svd l be j := by
  rw [Int.toNat_natCast, any_mem] at h
  show ((svd l be j + if l.getD j 0 ∉ l.take j ∧ be.getD j false = true then 1 else 0 : Nat) : Int) = _
  rw [if_neg (fun hh => hh.1 h)]; rfl
theorem s2 (l : List Int) (be : List Bool) (j : Nat) (h : ((l.take (j : Int).toNat).any fun x => x == l.getD j 0) = false) : (svd l be (j + 1) : Int) = svd l be j + if be.getD j false = true then 1 else 0 := by
  rw [Int.toNat_natCast, any_not] at h
  show ((svd l be j + if l.getD j 0 ∉ l.take j ∧ be.getD j false = true then 1 else 0 : Nat) : Int) = _
  by_cases hb : be.getD j false = true
  · rw [if_pos ⟨h, hb⟩, if_pos hb]; rfl
  · rw [if_neg (fun hh => hb hh.2), if_neg hb]; rfl
theorem take_getD {bs : List Bool} {j : Nat} (h : j < bs.length) : bs.take (j + 1) = bs.take j ++ [bs.getD j false] := by
  rw [List.take_add_one, List.getD_eq_getElem?_getD, List.getElem?_eq_getElem h]; rfl
theorem cnt_place {n : Nat} (hn : 1 ≤ n) (f l : List Int) : ∀ j : Nat, j ≤ l.length → (((svB n f l).take j).count false : Int) + svd l (svB n f l) j = ((svF n l).take j).count false := by
  have hb : (svB n f l).length = l.length := by rw [serve_len]; simp
  have ha : (svF n l).length = l.length := by rw [serve_len]; simp
  intro j
  induction j with
  | zero => intro _; rfl
  | succ j ih =>
    intro hj
    have ih' := ih (by omega)
    rw [take_getD (by omega : j < (svB n f l).length), take_getD (by omega : j < (svF n l).length), List.count_append, List.count_append]
    by_cases h : ((l.take (j : Int).toNat).any fun x => x == l.getD j 0) = true
    · have e1 := p1 hn f l j (by omega) h
      have e2 := s1 l (svB n f l) j h
      rw [e1]
      omega
    · have h' : ((l.take (j : Int).toNat).any fun x => x == l.getD j 0) = false := Bool.eq_false_iff.mpr h
      have e1 := p2 hn l j (by omega) h'
      have e2 := s2 l (svB n f l) j h'
      rw [e1]
      cases hbv : (svB n f l).getD j false
      · rw [hbv] at e2
        simp at e2 ⊢
        omega
      · rw [hbv] at e2
        simp at e2 ⊢
        omega
theorem cnt_all {n : Nat} (hn : 1 ≤ n) (f l : List Int) : ((svF n f ++ svB n f l).count false : Int) = (svF n f).count false + (svF n l).count false - svd l (svB n f l) l.length := by
  have h := cnt_place hn f l l.length (Nat.le_refl _)
  have hb : (svB n f l).length = l.length := by rw [serve_len]; simp
  have ha : (svF n l).length = l.length := by rw [serve_len]; simp
  rw [List.take_of_length_le (by omega), List.take_of_length_le (by omega)] at h
  rw [List.count_append]
  omega
theorem tail_last (n : Nat) (f l : List Int) : (lastN n (stk (f ++ l))).drop ((lastN n (stk (f ++ l))).length - (lastN n (stk l)).length) = lastN n (stk l) := by
  rw [stk_app]
  generalize (stk f).filter (fun y => decide (y ∉ l)) = X
  generalize stk l = Y
  unfold lastN
  rw [List.drop_drop]
  simp only [List.length_drop, List.length_append]
  by_cases h : Y.length ≤ n
  · rw [show X.length + Y.length - n + (X.length + Y.length - (X.length + Y.length - n) - (Y.length - (Y.length - n))) = X.length + (Y.length - n) from by omega]
    rw [List.drop_append, List.drop_eq_nil_iff.mpr (by omega), List.nil_append]
    congr 1; omega
  · rw [show X.length + Y.length - n + (X.length + Y.length - (X.length + Y.length - n) - (Y.length - (Y.length - n))) = X.length + (Y.length - n) from by omega]
    rw [List.drop_append, List.drop_eq_nil_iff.mpr (by omega), List.nil_append]
    congr 1; omega
theorem small_len : ∀ (n : Nat) (l : List Int), l.Nodup → (∀ x ∈ l, 0 ≤ x ∧ x < (n : Int)) → l.length ≤ n
  | 0, l, _, h => by
    cases l with
    | nil => exact Nat.le_refl _
    | cons x r => have := h x List.mem_cons_self; omega
  | n + 1, l, hn, h => by
    by_cases hk : (n : Int) ∈ l
    · have e := filt_len hn hk
      have := small_len n (l.filter fun y => decide (y ≠ (n : Int))) (hn.filter _) (fun x hx => by
        rw [filt_mem] at hx
        have := h x hx.1
        have := hx.2
        omega)
      omega
    · have := small_len n l hn (fun x hx => by
        have := h x hx
        have : x ≠ (n : Int) := fun e => hk (e ▸ hx)
        omega)
      omega
theorem cnt_five : ∀ (l : List Int), (∀ x ∈ l, 0 ≤ x ∧ x < 5) → (svF 5 l).count false = dl l := by
  intro l
  refine snoc_ind (P := fun l => (∀ x ∈ l, 0 ≤ x ∧ x < 5) → (svF 5 l).count false = dl l) (fun _ => rfl) ?_ l
  intro l k ih h
  have hl : ∀ x ∈ l, 0 ≤ x ∧ x < 5 := fun x hx => h x (List.mem_append_left _ hx)
  have h5 : (stk l).length ≤ 5 := small_len 5 (stk l) (stk_nodup l) (fun x hx => hl x ((stk_mem l x).mp hx))
  show (serve 5 ([], []) (l ++ [k])).2.count false = _
  rw [serve_snoc, dl_snoc, ← ih hl, List.count_append]
  congr 1
  rw [serve_stk (by omega), lastN_le h5]
  by_cases hk : k ∈ l
  · rw [if_pos hk, decide_eq_true ((stk_mem l k).mpr hk)]; rfl
  · rw [if_neg hk, decide_eq_false (fun hh => hk ((stk_mem l k).mp hh))]; rfl
theorem dl_app_le (f l : List Int) : dl l ≤ dl (f ++ l) := by
  rw [dl_stk, dl_stk, stk_app, List.length_append]; omega
theorem last_facts {n : Nat} (hn : 1 ≤ n) (f l : List Int) {wvs tvs : List Value} (hw : IntsAre wvs (serve n ((serve n ([], []) f).1, []) l).1) (ht : IntsAre tvs (serve n ([], []) l).1) :
    ∃ W T : List Int, IntsAre wvs W ∧ IntsAre tvs T ∧ W.drop ((wvs.length : Int) - (tvs.length : Int)).toNat = T ∧ tvs.length ≤ wvs.length ∧ wvs.length ≤ n ∧ W.length ≤ n ∧
      (tvs.length ≤ dl l ∧ (tvs.length = n ∨ tvs.length = dl l)) ∧ (wvs.length ≤ dl (f ++ l) ∧ (wvs.length = n ∨ wvs.length = dl (f ++ l))) := by
  rw [serve_both hn] at hw
  rw [serve_stk hn] at ht
  have h1 : wvs.length = min n (dl (f ++ l)) := by rw [hw.length, last_len, dl_stk]
  have h2 : tvs.length = min n (dl l) := by rw [ht.length, last_len, dl_stk]
  have h3 := dl_app_le f l
  have h4 : (lastN n (stk (f ++ l))).length = wvs.length := hw.length.symm
  have h5 : (lastN n (stk l)).length = tvs.length := ht.length.symm
  refine ⟨_, _, hw, ht, ?_, by omega, by omega, by omega, by omega, by omega⟩
  have e : ((wvs.length : Int) - (tvs.length : Int)).toNat = wvs.length - tvs.length := by omega
  rw [e, ← h4, ← h5]
  exact tail_last n f l
theorem reads_boolAll {h : Heap} : ∀ bs : List Bool, ReadsAll h (boolsV bs) (bs.map PyData.bool) []
  | [] => .nil
  | b :: r => by
    have := ReadsAll.cons (Reads.bool (h := h) b) (reads_boolAll (h := h) r)
    simpa using this
theorem reads_bools {h : Heap} {a : Addr} {bs : List Bool} (hl : h.IsList a (boolsV bs).toArray) : Reads h (.ref a) (.list (bs.map PyData.bool)) [a] := by
  obtain ⟨o, ho, hc, n, hd⟩ := hl
  exact Reads.list ho hc hd (by simpa using reads_boolAll (h := h) bs)
theorem can_bools : ∀ bs : List Bool, PyData.canLayAll0 (bs.map PyData.bool) = true
  | [] => by simp [PyData.canLayAll0]
  | n :: r => by simp [PyData.canLayAll0, PyData.canLay0, can_bools r]
theorem depth_bools : ∀ bs : List Bool, PyData.depthAll (bs.map PyData.bool) ≤ 1
  | [] => by simp [PyData.depthAll]
  | n :: r => by
    have := depth_bools r
    simp only [List.map_cons, PyData.depthAll, PyData.depth]
    omega
theorem shaped_bools (bs : List Bool) : SeqAt.shaped (.list (bs.map PyData.bool)) = true := by
  have h1 := depth_bools bs
  have h2 : PyData.depth (.list (bs.map PyData.bool)) ≤ 64 := by simp only [PyData.depth]; omega
  show (PyData.canLay0 (.list (bs.map PyData.bool)) && decide (PyData.depth (.list (bs.map PyData.bool)) ≤ 64)) = true
  rw [Bool.and_eq_true]
  exact ⟨by simp only [PyData.canLay0]; exact can_bools bs, decide_eq_true h2⟩
theorem noMix_bools : ∀ bs : List Bool, SeqAt.noMixAll (bs.map PyData.bool) (bs.map PyData.bool) = true
  | [] => by simp [SeqAt.noMixAll]
  | _ :: r => by simp [SeqAt.noMixAll, SeqAt.noMix, noMix_bools r]
theorem count_bools : ∀ bs : List Bool, PySem.Spec.countIn (.bool false) (bs.map PyData.bool) = (bs.count false : Int)
  | [] => rfl
  | b :: r => by
    rw [List.map_cons, PySem.Spec.countIn, count_bools r, List.count_cons]
    cases b <;> simp [PySem.Spec.same] <;> omega
theorem all_bools : ∀ bs : List Bool, (bs.map PyData.bool).all Shape.bool.has = true
  | [] => rfl
  | b :: r => by rw [List.map_cons, List.all_cons, all_bools r]; rfl
section
variable {prog : Program} {w : World} {A : Around} {E : Value → Shared → Prop} {s : Shared} {h₀ : Heap} {L a b : Addr} {m : Str → Option Value} {news : List (Addr × Obj)} {Q : Value → Shared → Prop}
theorem isL_bools {xs : List Bool} {c : Nat} (N : News h₀ L s.heap news) (ha : (a, W.listOf (boolsV xs).toArray c) ∈ news) : s.heap.IsList a (boolsV xs).toArray := ⟨_, (N _ ha).1, rfl, c, rfl⟩
theorem add_bools {xs ys : List Bool} {c1 c2 : Nat} (F : Fr h₀ L s.heap m) (N : News h₀ L s.heap news) (ha : (a, W.listOf (boolsV xs).toArray c1) ∈ news) (hb : (b, W.listOf (boolsV ys).toArray c2) ∈ news) (hz : xs.length + ys.length ≤ 64)
    (h : ∀ D h', Fr h₀ L h' m → News h₀ L h' ((D, W.listOf (boolsV (xs ++ ys)).toArray 0) :: news) → (∀ p ∈ news, p.1 < D) → Q (.ref D) { s with heap := h' }) : wpAny (model prog w) A (binaryOp .Add (.ref a) (.ref b)) Q E s :=
  kmk_add_lit F N (isL_bools N ha) (isL_bools N hb) (zs := boolsV (xs ++ ys)) (by simp) h (by simp only [List.length_map, sizeLine_eq]; omega)
theorem ne_bools {xs : List Bool} {c1 c2 : Nat} (N : News h₀ L s.heap news) (ha : (a, W.listOf (boolsV xs).toArray c1) ∈ news) (hb : (b, W.listOf (boolsV xs).toArray c2) ∈ news) (hu : A.units + 64 < cLine)
    (h : Q (.bool false) s) : wpAny (model prog w) A (compareOp .NotEq (.ref a) (.ref b)) Q E s :=
  ne_dataH_same (reads_bools (isL_bools N ha)) (reads_bools (isL_bools N hb)) (shaped_bools xs) (shaped_bools xs) hu (by simp only [SeqAt.noMix]; exact noMix_bools xs) (by rw [PySem.Spec.same_self]; exact h)
theorem cnt_bools {xs : List Bool} {c1 : Nat} (N : News h₀ L s.heap news) (ha : (a, W.listOf (boolsV xs).toArray c1) ∈ news)
    (h : Q (.int (xs.count false : Int) s.toks) { s with toks := s.toks + 1 }) : wpAny (model prog w) A (call (.builtin "list.count") [.ref a, .bool false]) Q E s :=
  count_list_bools (isL_bools N ha) (reads_boolAll (h := s.heap) xs) (all_bools xs) (by rw [count_bools]; exact h)
end
theorem news_dup {h₀ h : Heap} {L : Addr} {G : List (Addr × Obj)} {p : Addr × Obj} (N : News h₀ L h G) (hm : p ∈ G) : News h₀ L h (p :: G) := fun q hq => by
  rcases List.mem_cons.mp hq with rfl | hq
  · exact N _ hm
  · exact N _ hq
theorem heads_sub {α : Type} {t o1 d1 c1 e1 o2 d2 c2 e2 wh jo fl sc x1 x2 x3 : α} {va vb R0 R1 R2 R3 : List α} (h1 : x1 :: R0 = R1) (h2 : x2 :: R1 = R2) (h3 : x3 :: R2 = R3) (hf : fl ∈ R3) (hs : sc ∈ R3) :
    ∀ p ∈ t :: wh :: fl :: sc :: d1 :: c1 :: e1 :: d2 :: c2 :: e2 :: R0, p ∈ t :: ([o1, d1, c1, e1] ++ (va ++ ([o2, d2, c2, e2] ++ (vb ++ wh :: jo :: R3)))) := by
  intro p hp
  have hR : ∀ q ∈ R0, q ∈ R3 := fun q hq => by
    rw [← h3, ← h2, ← h1]
    exact .tail _ (.tail _ (.tail _ hq))
  simp only [List.mem_cons, List.mem_append, List.not_mem_nil, or_false] at hp ⊢
  rcases hp with h | h | h | h | h | h | h | h | h | h | h
  · simp [h]
  · simp [h]
  · subst h; simp [hf]
  · subst h; simp [hs]
  · simp [h]
  · simp [h]
  · simp [h]
  · simp [h]
  · simp [h]
  · simp [h]
  · simp [hR p h]
theorem news_heads {h₀ h : Heap} {L : Addr} {t o1 d1 c1 e1 o2 d2 c2 e2 wh jo fl sc x1 x2 x3 : Addr × Obj} {va vb R0 R1 R2 R3 : List (Addr × Obj)} (N : News h₀ L h (t :: ([o1, d1, c1, e1] ++ (va ++ ([o2, d2, c2, e2] ++ (vb ++ wh :: jo :: R3)))))) (h1 : x1 :: R0 = R1) (h2 : x2 :: R1 = R2) (h3 : x3 :: R2 = R3) (hf : fl ∈ R3) (hs : sc ∈ R3) :
    News h₀ L h (t :: wh :: fl :: sc :: d1 :: c1 :: e1 :: d2 :: c2 :: e2 :: R0) := fun p hp => N p (heads_sub h1 h2 h3 hf hs p hp)
theorem ne_ints_led {prog : Program} {w : World} {A : Around} {E : Value → Shared → Prop} {s : Shared} {h₀ : Heap} {L a b : Addr} {news : List (Addr × Obj)} {Q : Value → Shared → Prop} {vs us : List Value} {ns ms : List Int} {c1 c2 : Nat} (N : News h₀ L s.heap news) (ha : (a, W.listOf vs.toArray c1) ∈ news) (hi : IntsAre vs ns) (hb : (b, W.listOf us.toArray c2) ∈ news) (hi' : IntsAre us ms) (e : ns = ms) (hu : A.units + 64 < cLine)
    (h : Q (.bool false) s) : wpAny (model prog w) A (compareOp .NotEq (.ref a) (.ref b)) Q E s :=
  ne_intsK ⟨_, (N _ ha).1, rfl, c1, rfl⟩ hi ⟨_, (N _ hb).1, rfl, c2, rfl⟩ hi' hu (by rw [decide_eq_true e]; exact h)
theorem lt_yes {prog : Program} {w : World} {A : Around} {E : Value → Shared → Prop} {s : Shared} {a b : Int} {t u : Tok} {Q : Value → Shared → Prop} (e : a < b) (h : Q (.bool true) s) : wpAny (model prog w) A (compareOp .Lt (.int a t) (.int b u)) Q E s :=
  PyProof.Rows.lt_int (by rw [decide_eq_true e]; exact h)
theorem lt_no {prog : Program} {w : World} {A : Around} {E : Value → Shared → Prop} {s : Shared} {a b : Int} {t u : Tok} {Q : Value → Shared → Prop} (e : ¬ a < b) (h : Q (.bool false) s) : wpAny (model prog w) A (compareOp .Lt (.int a t) (.int b u)) Q E s :=
  PyProof.Rows.lt_int (by rw [decide_eq_false e]; exact h)
theorem add_ints_led {prog : Program} {w : World} {A : Around} {E : Value → Shared → Prop} {s : Shared} {h₀ : Heap} {L a b : Addr} {m : Str → Option Value} {news : List (Addr × Obj)} {Q : Value → Shared → Prop} {vs ws : List Value} {ns ms : List Int} {c1 c2 : Nat}
    (F : Fr h₀ L s.heap m) (N : News h₀ L s.heap news) (ha : (a, W.listOf vs.toArray c1) ∈ news) (hb : (b, W.listOf ws.toArray c2) ∈ news) (hi : IntsAre vs ns) (hj : IntsAre ws ms) (hz : ns.length + ms.length ≤ 64)
    (h : ∀ D us h', Fr h₀ L h' m → News h₀ L h' ((D, W.listOf (List.toArray us) 0) :: news) → (∀ p ∈ news, p.1 < D) → IntsAre us (ns ++ ms) → Q (.ref D) { s with heap := h' }) : wpAny (model prog w) A (binaryOp .Add (.ref a) (.ref b)) Q E s :=
  kmk_add_ints F N ⟨_, (N _ ha).1, rfl, c1, rfl⟩ ⟨_, (N _ hb).1, rfl, c2, rfl⟩ hi hj h (by rw [sizeLine_eq]; omega)
theorem eq_yes {prog : Program} {w : World} {A : Around} {E : Value → Shared → Prop} {s : Shared} {a b : Int} {t u : Tok} {Q : Value → Shared → Prop} (e : a = b) (h : Q (.bool true) s) : wpAny (model prog w) A (compareOp .Eq (.int a t) (.int b u)) Q E s :=
  PyProof.Rows.eq_int (by rw [show (a == b) = true from by rw [e]; exact beq_self_eq_true _]; exact h)
theorem end_raises {args : List WData} (cls : ExcName) : (PySem.Challenge.rw_fc0034_01.row.toRowW).claim.raises args cls = false :=
  raisesW_false (by wrow_none_raised) cls
theorem end_post {args : List WData} : (PySem.Challenge.rw_fc0034_01.row.toRowW).claim.post args (.bool true) args = true :=
  postW_of (by wrow_shape) (by wtm_val) (by w_fin)
def SvM : Prop := True
def LwM : Prop := True
local macro_rules | `(tactic| k_enter) => `(tactic| (refine' code_def ?k1 ?k2 ?k3 ?k4 ?k5 ?kA ?kF ?kK ?k6 ?k7 ?k8 ?k9 ?kB ?_ ?c2 ?c3 ?c4 ?c5; (case kA => exact rfl); (case kF => exact rfl); (case kK => assumption); (case k1 => k_asm); (case k2 => k_asm); (case k3 => k_asm); (case k4 => k_asm); (case k5 => k_asm); (case k6 => k_is); (case k7 => k_is); (case k8 => k_room); (case k9 => first | exact BindsTo.of_eq rfl | (refine' binds_K ?ka ?kb ?kc ?kd ?ke ?kf; (case ka => first | (refine' Frag.In.keeps ?qx (Fr.keep ?qf); (case qf => with_reducible assumption); (case qx => with_reducible assumption)) | k_in); (case kb => exact rfl); (case kc => k_is); (case kd => exact rfl); (case ke => exact rfl); (case kf => exact rfl)) | exact binds_K (by k_in) rfl (by k_is) rfl rfl rfl | fail "k_enter: no rule for these arguments"); (case c5 => decide); (case kB => exact locs rfl); (case c2 => exact rfl); (case c3 => exact rfl); (case c4 => exact rfl); k_whole; intro g' L' h' FG' F' N' B' X' T'; (try dsimp only); (try k_fold)))
local macro_rules | `(tactic| k_enter) => `(tactic| (refine' code_defC ?k1 ?k2 ?k3 ?k4 ?k5 ?kA ?kF ?kK ?k6 ?k7 ?k8 ?k9 ?kB ?kD ?_ ?c2 ?c3 ?c4; (case kA => exact rfl); (case kF => exact rfl); (case kK => assumption); (case k1 => k_asm); (case k2 => k_asm); (case k3 => k_asm); (case k4 => k_asm); (case k5 => k_asm); (case k6 => k_is); (case k7 => k_is); (case k8 => k_room); (case k9 => first | exact BindsTo.of_eq rfl | (refine' binds_K ?ka ?kb ?kc ?kd ?ke ?kf; (case ka => first | (refine' Frag.In.keeps ?qx (Fr.keep ?qf); (case qf => with_reducible assumption); (case qx => with_reducible assumption)) | k_in); (case kb => exact rfl); (case kc => k_is); (case kd => exact rfl); (case ke => exact rfl); (case kf => exact rfl)) | exact binds_K (by k_in) rfl (by k_is) rfl rfl rfl | fail "k_enter: no rule for these arguments"); (case kB => exact rfl); (case kD => decide +kernel); (case c2 => exact rfl); (case c3 => exact rfl); (case c4 => exact rfl); k_whole; intro g' L' h' tk' cells' FG' F' N' Y' B' X' T' l1; (try k_lt l1); k_cells Y'; (try simp only [List.cons_append, List.nil_append] at N'); (try dsimp only); (try k_fold)))
local macro_rules | `(tactic| walk_at "getAttr ref") => `(tactic| (k_here; (with_reducible show wpAny _ _ (getAttr (Value.ref _) _ _) _ _ _); k_dflt (refine' get_own ?k1 ?k2 ?k3 ?k4 ?k5 ?k6 ?k7 ?k8 ?k9 ?_; (case k1 => k_asm); (case k2 => k_asm); (case k3 => k_inst); (case k4 => k_is); (case k5 => k_is); (case k6 => k_is); (case k7 => k_is); (case k8 => k_get); (case k9 => k_handed); k_whole)))
local macro_rules | `(tactic| walk_at "getAttr ref") => `(tactic| (k_here; (with_reducible show wpAny _ _ (getAttr (Value.ref _) (PySem.Str.ofString "getsizeof") _) _ _ _); k_dflt (refine' get_sm ?k1 ?k2 ?k4 ?k5 ?k6 ?k7 ?k9 ?k10 ?k11 ?k12 ?k13 ?k14 ?_; (case k1 => k_asm); (case k2 => k_asm); (case k4 => k_inst); (case k5 => k_is); (case k6 => k_is); (case k7 => k_is); (case k9 => k_is); (case k10 => k_is); (case k11 => decide +kernel); (case k12 => k_get); (case k13 => k_is); (case k14 => k_handed); k_whole)))

local macro_rules | `(tactic| k_ne) => `(tactic| (refine neN ?_; (try dsimp only); first | with_reducible assumption | exact Ne.symm (by with_reducible assumption)))
local macro_rules | `(tactic| k_all) => `(tactic| first | exact tail_ne (by with_reducible assumption) | exact tail_lt (by with_reducible assumption) | exact tail_al (by with_reducible assumption))
local macro_rules | `(tactic| k_mem) => `(tactic| ((repeat (with_reducible refine List.mem_cons_of_mem _ ?_)); with_reducible assumption))
local macro_rules | `(tactic| k_mem) => `(tactic| assumption)
local macro_rules | `(tactic| k_mem) => `(tactic| with_reducible assumption)
local macro_rules | `(tactic| walk_at "exec For Name Call cons nil") => `(tactic| (k_here; (with_unfolding_all refine' For_G ?k1 ?k2 ?_; (case k1 => exact rfl); (case k2 => exact rfl); k_whole)))
local macro_rules | `(tactic| walk_at "TPostG") => `(tactic| dsimp only [TPostG])
local macro_rules | `(tactic| walk_at "compareOp In int ref") => `(tactic| (k_here; (with_reducible show wpAny _ _ (compareOp CmpOp.In _ (Value.ref _)) _ _ _); k_dflt (refine' in_K ?k1 ?k2 ?k3 ?k4 ?k5 ?_; (case k1 => k_asm); (case k2 => k_asm); (case k3 => k_inst); (case k4 => k_is); (case k5 => k_is); k_whole)))
local macro_rules | `(tactic| walk_at "compareOp In int ref") => `(tactic| (k_here; k_dflt (refine kda_in (knd := intKind _ _) (by k_asm) (by k_mem) (by k_asm) (by k_asm) (intKind_is _ _ _ _) _ (by assumption) ?_)))
local macro_rules | `(tactic| walk_at "getItem ref int") => `(tactic| (k_here; k_dflt (refine kdt_getItem (knd := intKind _ _) (by k_asm) (by k_mem) (by k_asm) (intKind_is _ _ _ _) (by assumption) ?_)))
local macro_rules | `(tactic| walk_at "subscriptTail") => `(tactic| (k_here; (with_reducible show wpAny _ _ (subscriptTail _ _ (Value.ref _) (Value.int _ _)) _ _ _); k_dflt (refine kdt_tail (knd := intKind _ _) (by k_asm) (by k_mem) (by k_asm) ?_)))
local macro_rules | `(tactic| walk_at "subscriptTail Attribute Name Name ref int") => `(tactic| (k_here; (with_reducible show wpAny _ _ (subscriptTail _ _ (Value.ref _) (Value.int _ _)) _ _ _); k_dflt (refine kdt_tail (knd := intKind _ _) (by k_asm) (by k_mem) (by k_asm) ?_)))
local macro_rules | `(tactic| walk_at "subscriptTail") => `(tactic| (k_here; (with_reducible show wpAny _ _ (subscriptTail _ _ (Value.ref _) (Value.int _ _)) _ _ _); k_dflt (refine item_led (by k_asm) (by k_mem) (by assumption) (by omega) (by omega) ?_)))
local macro_rules | `(tactic| walk_at "subscriptTail Name Name ref int") => `(tactic| (k_here; (with_reducible show wpAny _ _ (subscriptTail _ _ (Value.ref _) (Value.int _ _)) _ _ _); k_dflt (refine item_led (by k_asm) (by k_mem) (by assumption) (by omega) (by omega) ?_)))
local macro_rules | `(tactic| walk_at "getItem ref int") => `(tactic| (k_here; k_dflt (refine getItem_led (by k_asm) (by k_mem) (by assumption) (by omega) (by omega) ?_)))
local macro_rules | `(tactic| walk_at "setItem ref int") => `(tactic| (k_here; k_dflt (refine' kda_set (knd := intKind _ _) ?F ?N ?U ?d (intKind_is _ _ _ _) ?z ?_; (case F => k_asm); (case N => k_asm); (case U => k_updF); (case d => k_asm); (case z => (rw [sizeLine_eq]; first | assumption | omega))); intro h' o' F' N' hd'; (try dsimp only at N')))
local macro_rules | `(tactic| walk_at "call builtin:dict.pop") => `(tactic| (k_here; k_dflt (first
  | (refine' kob_pop (knd := intKind _ _) (more := []) ?F ?N ?U ?d (intKind_is _ _ _ _) (.inl rfl) (by rfl) (PySem.F.args_dict_pop_2 _ _) ?l ?z ?_; (case F => k_asm); (case N => k_asm); (case U => k_updF); (case d => k_asm); (case l => assumption); (case z => (rw [sizeLine_eq]; first | assumption | omega)); intro h' o' F' N' hd'; (try dsimp only at N'))
  | (refine' pop_missing (knd := intKind _ _) (by rfl) ?N ?p ?d ?lo (intKind_is _ _ _ _) (by rfl) (PySem.F.args_dict_pop_2 _ _) ?l ?_; (case N => k_asm); (case p => k_mem); (case d => k_asm); (case lo => k_asm); (case l => assumption); intro h' e' x'))))
local macro_rules | `(tactic| walk_at "delItem ref int") => `(tactic| (k_here; (with_reducible show wpAny _ _ (delItem (Value.ref _) _) _ _ _); k_dflt (refine' del_inst ?F ?X ?I ?hQ ?hS ?hF ?_; (case F => k_asm); (case X => k_asm); (case I => k_inst); (case hQ => k_is); (case hS => k_is); (case hF => k_is); k_whole)))
local macro_rules | `(tactic| walk_at "delItem ref int") => `(tactic| (k_here; k_dflt (refine' kob_del (knd := intKind _ _) ?F ?N ?U ?d (intKind_is _ _ _ _) ?l ?z ?_; (case F => k_asm); (case N => k_asm); (case U => k_updF); (case d => k_asm); (case l => assumption); (case z => (rw [sizeLine_eq]; first | assumption | omega))); intro h' o' F' N' hd'; (try dsimp only at N')))
local macro_rules | `(tactic| walk_at "call builtin:iter") => `(tactic| (k_here; (with_reducible show wpAny _ _ (call (Value.builtin "iter") [Value.ref _]) _ _ _); k_dflt (refine kdk_iter (knd := intKind _ _) (by k_asm) (by k_asm) (by k_mem) (by k_asm) (by k_asm) ?_); intro D' h' o' ep' F' N' l1 hi' ha'; (try k_lt l1)))
local macro_rules | `(tactic| walk_at "call builtin:next") => `(tactic| (k_here; (with_reducible show wpAny _ _ (call (Value.builtin "next") [Value.ref _]) _ _ _); k_dflt (refine' kdk_next (knd := intKind _ _) ?F ?N ?U ?i ?a ?p ?x ?_; (case F => k_asm); (case N => k_asm); (case U => k_updF); (case i => k_asm); (case a => k_asm); (case p => k_mem); (case x => assumption); intro h' o' y' hk' F' N' hi'; obtain ⟨t', ey'⟩ := PySem.Value.isInt_shape hk'; subst ey'); (try dsimp only at N')))
local macro_rules | `(tactic| walk_at "call builtin:len") => `(tactic| (k_here; (with_reducible show wpAny _ _ (call (Value.builtin "len") [Value.ref _]) _ _ _); k_dflt (refine' len_K ?k1 ?k2 ?k3 ?k4 ?k5 ?_; (case k1 => k_asm); (case k2 => k_asm); (case k3 => k_inst); (case k4 => k_is); (case k5 => k_is); k_whole)))
local macro_rules | `(tactic| walk_at "call builtin:len") => `(tactic| (k_here; (with_reducible show wpAny _ _ (call (Value.builtin "len") [Value.ref _]) _ _ _); k_dflt (first
  | refine kda_len (knd := intKind _ _) (by k_asm) (by k_mem) (by k_asm) (by k_asm) (by first | assumption | omega) ?_
  | refine len_set (by k_asm) (by k_mem) (by k_asm) (by first | assumption | omega | (rw [List.length_drop]; omega)) ?_
  | (refine len_led (by k_asm) (by k_mem) (by first | assumption | omega | (simp only [List.size_toArray, Array.size_push]; omega)) ?_; (try simp only [List.size_toArray, Array.size_push])))))
local macro_rules | `(tactic| walk_at "call builtin:list.append") => `(tactic| (k_here; (with_reducible show wpAny _ _ (call (Value.builtin _) [Value.ref _, _]) _ _ _); k_dflt (refine' append_K ?k1 ?k2 ?k3 ?_ ?z; (case k1 => k_asm); (case k2 => k_asm); (case k3 => k_upd); (case z => first | exact Nat.le_of_ble_eq_true rfl | (rw [sizeLine_eq]; first | omega | (simp only [List.size_toArray, List.length_map]; omega))); k_whole); intro h' F' N'; (try k_sweep)))
local macro_rules | `(tactic| walk_at "ite") => `(tactic| (refine W.ite_pos (told_in (by with_reducible assumption)) ?_))
local macro_rules | `(tactic| walk_at "exec While Compare") => `(tactic| (k_here; k_dflt (refine whl_start 5 ?_)))
local macro_rules | `(tactic| walk_at "WhlIf") => `(tactic| first | (refine WhlIf.yes (decide_eq_true (by omega)) ?_) | (refine WhlIf.no (decide_eq_false (by omega)) ?_))
local macro_rules | `(tactic| walk_at "noteFrame ref") => `(tactic| (k_here; (with_reducible rename Heap.NewExc _ _ _ _ => nxX); (with_reducible show wpAny _ _ (noteFrame _ _) (fun _ s₂ => wpAny _ _ (setFlight _ none) (fun _ s₃ => wpAny _ _ (handleBy _ _ (ExceptHandler.ExceptHandler (some (Expr.Name ("KeyError" : Str) _)) none _ _ :: _)) _ _ s₃) _ s₂) _ _); k_dflt (refine' caught_own (T' := "KeyError") ?K ?F ?N nxX ?XB ?TB ?D ?T0 ?ex PyProof.Rows.Boot.«KeyError» ?hn kr_isExc_KeyError kr_notTuple_KeyError ?hs ?_; (case F => assumption); (case N => assumption); (case K => assumption); (case XB => assumption); (case TB => assumption); (case D => assumption); (case T0 => first | assumption | exact KtsTurn.refl); (case hs => kts_sub); (case ex => k_is); (case hn => decide); k_whole); clear nxX; intro h' g' T' F' N' B' X' P' D'; (try k_sweep)))
local macro_rules | `(tactic| walk_at "CompEnd") => `(tactic| (refine LCg.CompEnd.intro (by assumption) (by assumption) _ (fun _ h => h) (by first | assumption | (simp only [LCg.Off3, and_true]; assumption)) (by first | exact True.intro | assumption) ?_))
local macro_rules | `(tactic| walk_at "call type:set") => `(tactic| (k_here; (with_reducible show wpAny _ _ (call (Value.type "set") [Value.ref _]) _ _ _); k_dflt (refine set_led (by k_asm) (by k_asm) (by k_mem) (by rfl) (by assumption) (by first | assumption | omega | (rw [List.length_drop]; omega)) ?_); intro B' h' tk' o' S' F' N' l1 hs'; (try k_lt l1)))
local macro_rules | `(tactic| walk_at "subscriptTail Name Slice ref ref") => `(tactic| (k_here; (with_reducible show wpAny _ _ (subscriptTail _ (PySem.Expr.Slice _ _ none _) (Value.ref _) (Value.ref _)) _ _ _); k_dflt (first
  | refine slice_from (by k_asm) (by k_asm) (by k_mem) (by assumption) (by omega) (by omega) (by with_unfolding_all rfl) (by kmk_pure) ?_
  | refine slice_upto (by k_asm) (by k_asm) (by k_mem) (by assumption) (by omega) (by omega) (by with_unfolding_all rfl) (by kmk_pure) ?_); intro D' ws' h' F' N' l1 hI'; (try k_lt l1)))
theorem apart4 {oo dd c d : Addr} {o1 o2 o3 o4 : Obj} {news : List (Addr × Obj)} (h1 : dd < oo ∧ c < oo ∧ d < oo ∧ AllLt oo news) (h2 : c < dd ∧ d < dd ∧ AllLt dd news) (h3 : d < c) (h4 : ∀ p ∈ news, p.1 < d) (hA : Apart news) : Apart ([(oo, o1), (dd, o2), (c, o3), (d, o4)] ++ ([] ++ news)) := by
  have h5 := kst_ltOf h1.2.2.2
  have h6 := kst_ltOf h2.2.2
  have h7 : ∀ p ∈ news, p.1 < c := fun p hp => Nat.lt_trans (h4 p hp) h3
  refine ⟨fun q hq => ?_, fun q hq => ?_, fun q hq => ?_, fun q hq => ?_, hA⟩
  · rcases List.mem_cons.mp (show q ∈ (dd, o2) :: (c, o3) :: (d, o4) :: news from hq) with rfl | hq
    · exact Nat.ne_of_lt h1.1
    rcases List.mem_cons.mp hq with rfl | hq
    · exact Nat.ne_of_lt h1.2.1
    rcases List.mem_cons.mp hq with rfl | hq
    · exact Nat.ne_of_lt h1.2.2.1
    · exact Nat.ne_of_lt (h5 _ hq)
  · rcases List.mem_cons.mp (show q ∈ (c, o3) :: (d, o4) :: news from hq) with rfl | hq
    · exact Nat.ne_of_lt h2.1
    rcases List.mem_cons.mp hq with rfl | hq
    · exact Nat.ne_of_lt h2.2.1
    · exact Nat.ne_of_lt (h6 _ hq)
  · rcases List.mem_cons.mp (show q ∈ (d, o4) :: news from hq) with rfl | hq
    · exact Nat.ne_of_lt h3
    · exact Nat.ne_of_lt (h7 _ hq)
  · exact Nat.ne_of_lt (h4 _ hq)
theorem max_cand {prog : Program} {w : World} {A : Around} {E : Value → Shared → Prop} {s : Shared} {h₀ : Heap} {L l : Addr} {m : Str → Option Value} {news : List (Addr × Obj)} {vs : List Value} {n : Nat} {asked : List Int} {key : Int} {Q : Value → Shared → Prop}
    (F : Fr h₀ L s.heap m) (N : News h₀ L s.heap news) (hm : (l, W.listOf vs.toArray n) ∈ news) (hi : IntsAre vs (candF asked key)) (ha : (asked.any fun x => x == key) = true) (hh : A.handled = none)
    (h : ∀ h' M (t : Tok) tk, Fr h₀ L h' m → News h₀ L h' news → 0 ≤ M → M < (asked.length : Int) → LastAt asked key M → Q (.int M t) { s with heap := h', toks := tk }) : wpAny (model prog w) A (call (.builtin "max") [.ref l]) Q E s := by
  have hl : s.heap.IsList l vs.toArray := ⟨_, (N _ hm).1, rfl, n, rfl⟩
  exact kso_max F N hl hi (cand_pos ha) hh fun h' M t tk F' N' a b => h h' M t tk F' N' (cand_last a b).1 (cand_last a b).2.1 (cand_last a b)
local macro_rules | `(tactic| walk_at "call builtin:max") => `(tactic| (k_here; (with_reducible show wpAny _ _ (call (Value.builtin "max") [Value.ref _]) _ _ _); k_dflt (refine max_cand (by k_asm) (by k_asm) (by k_mem) (by assumption) (by assumption) (by rfl) ?_); intro h' M' t' tk' F' N' hM0' hM1' hM2'))
theorem off1_mem {D : Addr} : ∀ {l : List (Addr × Obj)}, LCg.Off1 D l → ∀ p ∈ l, @Ne Nat p.1 D
  | [], _, _, h => nomatch h
  | _ :: _, x, p, h => by
    rcases List.mem_cons.mp h with rfl | h
    · exact x.1
    · exact off1_mem x.2 p h
theorem given_end {w : World} {g : Heap} {m' : Str → Option Value} {L Ia C D c d dd oo : Addr} {oI oC oD od' ord' y1 y2 y3 y4 : Obj} {s₁ : Shared} {h' : Heap} {p : Addr × Obj} {tk i b room : Nat} {t t1 t2 t3 t4 tc tr : Tok} {ks0 ks' : List Int} {k0 cur : Int} {ys : List Value} {kvd2 kvo2 : List (Int × Value)} {vals tl rest all : List (Addr × Obj)}
    (hks : ks0.drop i = k0 :: ks') (hI : IntsAre ys (ks0.take i)) (hA : Apart ((oo, y1) :: (dd, y2) :: (c, y3) :: (d, y4) :: tl)) (off : LCg.Off3 Ia C D (p :: (oo, y1) :: (dd, y2) :: (c, y3) :: (d, y4) :: tl))
    (hmem : ∀ x, (valueAt kvd2 x).isSome = true ↔ x ∈ ks') (hkl : kvd2.length = ks'.length) (hV : VOk kvd2 vals b) (hnd : ks'.Nodup) (hle : (ks'.length : Int) ≤ (room : Int)) (hcur : cur = (ks'.length : Int))
    (lod : (dd == sysModules) = false) (loo : (oo == sysModules) = false) (htl : tl = vals ++ rest) (hkvo : kvo2 = nm ks')
    (hod : od'.IsDictOf (intKind PR w) kvd2) (hord : ord'.IsDictOf (intKind PR w) kvo2)
    (F : Fr g L h' m') (N : News g L h' all) (hsub : ∀ q ∈ (Ia, oI) :: (C, oC) :: (D, oD) :: p :: (oo, ord') :: (dd, od') :: (c, instObj 897 d) :: (d, dictOf (CEnt w t1 t2 t3 t4 dd cur tc room tr oo) 4) :: tl, q ∈ all) :
    LCg.CompEnd g L m' s₁ Ia oI C oC D oD (fun _ => True) (fun y news' => ∃ nw', news' = p :: nw' ∧ ∃ L4, nw' = L4 ++ (vals ++ rest) ∧ CacheAt w c d dd oo room (ks0.drop (i + 1)) b L4 vals ∧ IntsAre (ys ++ [y]) (ks0.take (i + 1)) ∧ Apart nw')
      (.int k0 t) { s₁ with heap := h', toks := tk } := by
  have h0 : ks0[i]? = some k0 := by
    have := congrArg (fun l => l[0]?) hks
    simpa [List.getElem?_drop] using this
  have h1 : ks0.drop (i + 1) = ks' := by
    rw [← List.tail_drop, hks]; rfl
  have h2 : ks0.take (i + 1) = ks0.take i ++ [k0] := by rw [List.take_add_one, h0]; rfl
  subst htl
  refine ⟨h', tk, p :: ([(oo, ord'), (dd, od'), (c, instObj 897 d), (d, dictOf (CEnt w t1 t2 t3 t4 dd cur tc room tr oo) 4)] ++ (vals ++ rest)), rfl, F, fun q hq => N q (hsub q hq), off, True.intro, _, rfl, _, rfl, ?_, ?_, apart_map hA rfl⟩
  · rw [h1]
    exact ⟨t1, t2, t3, t4, tc, tr, od', ord', kvd2, by rw [hcur], hod, by rw [← show kvo2 = ks'.map (fun k => (k, Value.none)) from hkvo]; exact hord, hmem, hkl, hV, hnd, hle, lod, loo⟩
  · rw [h2]; exact ints_snoc hI
local macro_rules | `(tactic| walk_at "CompSrc") => `(tactic| (k_here; k_dflt (refine LCg.CompSrc.range (by rfl) (by k_asm) (by k_asm) (by assumption) (small_one (by omega) (by omega) (by omega) (by omega)) (rangeSize_nat _ _) (by rw [PySem.sizeLine_eq]; omega) ?_; intro g'; refine of_hold ?_)))
local macro_rules | `(tactic| k_enter) => `(tactic| ((with_reducible rename SvM => svm); refine' enter_S ?k1 ?k2 ?k3 ?k4 ?k5 ?kA ?kF ?kK ?k6 ?k7 ?k8 ?k9 ?kB ?_ ?c2 ?c3 ?c4 ?c5; (case kA => exact rfl); (case kF => exact rfl); (case kK => assumption); (case k1 => k_asm); (case k2 => k_asm); (case k3 => k_asm); (case k4 => k_asm); (case k5 => k_asm); (case k6 => k_is); (case k7 => k_is); (case k8 => k_room); (case k9 => first | exact BindsTo.of_eq rfl | (refine' binds_K ?ka ?kb ?kc ?kd ?ke ?kf; (case ka => first | (refine' Frag.In.keeps ?qx (Fr.keep ?qf); (case qf => with_reducible assumption); (case qx => with_reducible assumption)) | k_in); (case kb => exact rfl); (case kc => k_is); (case kd => exact rfl); (case ke => exact rfl); (case kf => exact rfl)) | exact binds_K (by k_in) rfl (by k_is) rfl rfl rfl | fail "k_enter: no rule for these arguments"); (case c5 => decide); (case kB => exact locs rfl); (case c2 => exact rfl); (case c3 => exact rfl); (case c4 => exact rfl); k_whole; intro g' L' h' F' N' B' X' T' D' T0'; (try dsimp only); (try k_fold)))
local macro_rules | `(tactic| kts_go) => `(tactic| ((with_reducible rename SvM => svm); first | (refine' code_defS0 ?k1 ?k2 ?k3 ?k4 ?k5 ?kA ?k6 ?k7 ?k8 ?k9 ?kB ?_ ?cK ?c2 ?c3 ?c4 ?c5; (case kA => exact rfl); (case k2 => k_asm); (case k1 => k_asm); (case k3 => k_asm); (case k4 => k_asm); (case k5 => k_asm); (case k6 => k_is); (case k7 => k_is); (case k8 => k_room); (case k9 => first | exact BindsTo.of_eq rfl | (refine' binds_K ?ka ?kb ?kc ?kd ?ke ?kf; (case ka => first | (refine' Frag.In.keeps ?qx (Fr.keep ?qf); (case qf => with_reducible assumption); (case qx => with_reducible assumption)) | k_in); (case kb => exact rfl); (case kc => k_is); (case kd => exact rfl); (case ke => exact rfl); (case kf => exact rfl)) | exact binds_K (by k_in) rfl (by k_is) rfl rfl rfl | fail "kts_go: no rule for these arguments"); (case kB => exact locs rfl); (case cK => exact rfl); (case c2 => exact rfl); (case c3 => exact rfl); (case c4 => exact rfl); (case c5 => decide); k_whole; intro g' L' h' FG' F' N' B' X' T' D'; (try dsimp only); (try k_lift B'); (try k_fold)) | (refine' code_defS ?k1 ?k2 ?k3 ?k4 ?k5 ?XB ?TB ?D ?T0 ?kA ?k6 ?k7 ?k8 ?k9 ?kB ?_ ?cK ?c2 ?c3 ?c4 ?c5; (case kA => exact rfl); (case k2 => k_asm); (case k1 => k_asm); (case XB => assumption); (case TB => assumption); (case D => assumption); (case T0 => first | assumption | exact KtsTurn.refl); (case k3 => k_asm); (case k4 => k_asm); (case k5 => k_asm); (case k6 => k_is); (case k7 => k_is); (case k8 => k_room); (case k9 => first | exact BindsTo.of_eq rfl | (refine' binds_K ?ka ?kb ?kc ?kd ?ke ?kf; (case ka => first | (refine' Frag.In.keeps ?qx (Fr.keep ?qf); (case qf => with_reducible assumption); (case qx => with_reducible assumption)) | k_in); (case kb => exact rfl); (case kc => k_is); (case kd => exact rfl); (case ke => exact rfl); (case kf => exact rfl)) | exact binds_K (by k_in) rfl (by k_is) rfl rfl rfl | fail "kts_go: no rule for these arguments"); (case kB => exact locs rfl); (case cK => exact rfl); (case c2 => exact rfl); (case c3 => exact rfl); (case c4 => exact rfl); (case c5 => decide); k_whole; intro g' L' h' FG' F' N' B' X' T' D'; (try dsimp only); (try k_lift B'); (try k_fold))))
local macro_rules | `(tactic| walk_at "binaryOp Add ref ref") => `(tactic| (k_here; (with_reducible show wpAny _ _ (binaryOp _ (Value.ref _) (Value.ref _)) _ _ _); k_dflt (refine add_bools (by k_asm) (by k_asm) (by k_mem) (by k_mem) (by omega) ?_); intro D' h' F' N' l1; (try k_lt l1)))
local macro_rules | `(tactic| walk_at "compareOp NotEq ref ref") => `(tactic| (k_here; (with_reducible show wpAny _ _ (compareOp CmpOp.NotEq (Value.ref _) (Value.ref _)) _ _ _); k_dflt (refine ne_bools (by k_asm) (by k_mem) (by k_mem) (by units_room) ?_)))
local macro_rules | `(tactic| walk_at "call builtin:list.count") => `(tactic| (k_here; (with_reducible show wpAny _ _ (call (Value.builtin _) [Value.ref _, Value.bool _]) _ _ _); k_dflt (refine cnt_bools (by k_asm) (by k_mem) ?_)))
local macro_rules | `(tactic| kc_close) => `(tactic| (w_end; (show GoodW _ _ _ _ _ (.ok (.ret (.bool false))) _); refine of_hold ?_))
local macro_rules | `(tactic| kc_close) => `(tactic| (w_end; (show GoodW _ _ _ _ _ (.ok (.ret (.bool true))) _); exact goodW_bool (by k_asm) (by k_asm) end_raises end_post))
local macro_rules | `(tactic| walk_at "getMethod ref") => `(tactic| ((with_reducible rename LwM => lwm); k_here; (with_reducible show wpAny _ _ (getMethod (Value.ref _) (PySem.Str.ofString "count") _) _ _ _); k_dflt (refine' kf_method ?N ?m PySem.F.slot_list_count PySem.F.type_list_count ?_; (case N => k_asm); (case m => k_mem))))
local macro_rules | `(tactic| walk_at "compareOp Lt int int") => `(tactic| ((with_reducible rename LwM => lwm); first | (refine lt_yes (by with_reducible assumption) ?_) | (refine lt_no (by with_reducible assumption) ?_)))
local macro_rules | `(tactic| walk_at "compareOp Eq int int") => `(tactic| ((with_reducible rename LwM => lwm); refine eq_yes (by with_reducible assumption) ?_))
local macro_rules | `(tactic| walk_at "binaryOp Add ref ref") => `(tactic| ((with_reducible rename LwM => lwm); k_here; (with_reducible show wpAny _ _ (binaryOp _ (Value.ref _) (Value.ref _)) _ _ _); k_dflt (refine add_ints_led (by k_asm) (by k_asm) (by k_mem) (by k_mem) (by k_asm) (by k_asm) (by first | with_reducible assumption | omega | (simp only [List.length_take]; omega)) ?_); intro D' ws' h' F' N' l1 hI'; (try k_lt l1); (try k_sweep)))
local macro_rules | `(tactic| walk_at "call ref") => `(tactic| (k_here; (with_reducible rename LwM => lwm); (with_reducible show wpAny _ _ (call (Value.ref 906) [.ref _, .int _ _]) _ _ _); refine of_hold ?_))
local macro_rules | `(tactic| walk_at "call ref") => `(tactic| (k_here; (with_reducible rename LwM => lwm); (with_reducible show wpAny _ _ (call (Value.ref 913) [.ref _, .ref _]) _ _ _); refine of_hold ?_))
local macro_rules | `(tactic| walk_at "call ref") => `(tactic| (k_here; (with_reducible rename LwM => lwm); (with_reducible show wpAny _ _ (call (Value.ref 918) [.ref _, .int _ _]) _ _ _); refine of_hold ?_))
local macro_rules | `(tactic| walk_at "call ref") => `(tactic| (k_here; (with_reducible rename LwM => lwm); (with_reducible show wpAny _ _ (call (Value.ref 923) [.ref _]) _ _ _); refine of_hold ?_))
local macro_rules | `(tactic| walk_at "call ref") => `(tactic| (k_here; (with_reducible rename LwM => lwm); (with_reducible show wpAny _ _ (call (Value.ref 897) [.int _ _]) _ _ _); refine of_hold ?_))
local macro_rules | `(tactic| walk_at "CompSrc") => `(tactic| (k_here; k_dflt (refine LCg.CompSrc.range (by rfl) (by k_asm) (by k_asm) (by assumption) (small_one (by omega) (by omega) (by omega) (by omega)) (rangeSize_nat _ _) (by rw [PySem.sizeLine_eq]; omega) ?_; intro g'; refine of_hold ?_)))
local macro_rules | `(tactic| walk_at "compareOp NotEq ref ref") => `(tactic| (k_here; (with_reducible show wpAny _ _ (compareOp CmpOp.NotEq (Value.ref _) (Value.ref _)) _ _ _); k_dflt (refine ne_ints_led (by k_asm) (by k_mem) (by assumption) (by k_mem) (by assumption) (by assumption) (by units_room) ?_)))
theorem of_hold' {P : Prop} (h : Hold P) : P := h
def RInv (ys ys2 : List Value) (_ : Nat) (m : Str → Option Value) (nx : List (Addr × Obj)) : Prop :=
  ∃ fl sc fn cn, m (Str.ofString "first") = some (.ref fl) ∧ m (Str.ofString "second") = some (.ref sc) ∧ Apart nx ∧ (fl, W.listOf ys.toArray fn) ∈ nx ∧ (sc, W.listOf ys2.toArray cn) ∈ nx
theorem ne_int_off {prog : Program} {w : World} {A : Around} {E : Value → Shared → Prop} {s : Shared} {a b : Int} {t u : Tok} {Q : Value → Shared → Prop} (e : a = b) (h : Q (.bool false) s) : wpAny (model prog w) A (compareOp .NotEq (.int a t) (.int b u)) Q E s :=
  ne_int (by rw [show (a != b) = false from by rw [e]; exact bne_self_eq_false _]; exact h)
local macro_rules | `(tactic| walk_at "compareOp NotEq int int") => `(tactic| (with_reducible refine ne_int_off ?e ?_; (case e => first | omega | (split <;> omega))))
theorem tend_R {g : Heap} {m' : Str → Option Value} {L I : Addr} {oI : Obj} {s₁ : Shared} {h' : Heap} {tk k : Nat} {nx : List (Addr × Obj)} {fl sc : Addr} {fn cn : Nat} {ys ys2 : List Value}
    (F : Fr g L h' m') (N : News g L h' ((I, oI) :: nx)) (ho : ∀ p ∈ nx, @Ne Nat p.1 I) (e1 : m' (Str.ofString "first") = some (.ref fl)) (e2 : m' (Str.ofString "second") = some (.ref sc)) (hA : Apart nx) (h1 : (fl, W.listOf ys.toArray fn) ∈ nx) (h2 : (sc, W.listOf ys2.toArray cn) ∈ nx) :
    TEndG L (fun g' m' nx' => g' = g ∧ RInv ys ys2 k m' nx') I oI s₁ { s₁ with heap := h', toks := tk } :=
  ⟨g, h', tk, m', nx, rfl, F, N, ho, rfl, fl, sc, fn, cn, e1, e2, hA, h1, h2⟩
structure Ctr (K_ : Params → Frag) (q_ : Program) : Prop where
  new_ok : ∀ {w : World} {cn : Str} {cs : Scope} {L a : Addr} {ccd : Value} {cl : List (Str × Addr)} {A₀ : Around} {base h₀ : Heap} {mean : ExcName → Option Value} {mg mb m : Str → Option Value} {news : List (Addr × Obj)} {s : Shared} {Q E : Value → Shared → Prop} {room : Int} {t : Tok}
    (B : Below A₀ base [] h₀) (F : Fr h₀ L s.heap m) (X : (K_ w.params).In h₀) (T : Top q_ (LOf q_) mean mg mb h₀) (N : News h₀ L s.heap news) (hA : Apart news) (hk : cs.kind = .function) (hr : 1 ≤ room ∧ room ≤ 5)
    (h : ∀ c d dd oo L4 h' tk', Fr h₀ L h' m → News h₀ L h' (L4 ++ ([] ++ news)) → Apart (L4 ++ ([] ++ news)) → CacheAt w c d dd oo room [] 2 L4 [] → Q (.ref c) { s with heap := h', toks := tk' }),
    wpAny (model PR w) (AL cn cs L a ccd cl) (call (.ref 897) [.int room t]) Q E s
  since_ok : ∀ {w : World} {cn : Str} {cs : Scope} {L a : Addr} {ccd : Value} {cl : List (Str × Addr)} {A₀ : Around} {base h₀ : Heap} {mean : ExcName → Option Value} {mg mb m : Str → Option Value} {s : Shared} {Q E : Value → Shared → Prop}
    {al : Addr} {an : Nat} {avs : List Value} {asked : List Int} {key : Int} {t : Tok} {news : List (Addr × Obj)}
    (B : Below A₀ base [] h₀) (F : Fr h₀ L s.heap m) (X : (K_ w.params).In h₀) (T : Top q_ (LOf q_) mean mg mb h₀) (N : News h₀ L s.heap news) (hN : (al, W.listOf avs.toArray an) ∈ news) (hk : cs.kind = .function)
    (hi : IntsAre avs asked) (hlen : asked.length ≤ 16)
    (post : ∀ v h' tk', Fr h₀ L h' m → News h₀ L h' news → ((asked.any fun x => x == key) = false ∧ v = .none ∨ ∃ M u, LastAt asked key M ∧ v = .int (dl (asked.drop (M + 1).toNat)) u) → Q v { s with heap := h', toks := tk' }),
    wpAny (model PR w) (AL cn cs L a ccd cl) (call (.ref 918) [.ref al, .int key t]) Q E s
  given_ok : ∀ {w : World} {cn : Str} {cs : Scope} {L a : Addr} {ccd : Value} {cl : List (Str × Addr)} {A₀ : Around} {base h₀ : Heap} {mean : ExcName → Option Value} {mg mb m : Str → Option Value} {s : Shared} {Q E : Value → Shared → Prop}
    {c d dd oo : Addr} {room b : Nat} {ks0 : List Int} {L4 vals rest : List (Addr × Obj)}
    (B : Below A₀ base [] h₀) (F : Fr h₀ L s.heap m) (X : (K_ w.params).In h₀) (T : Top q_ (LOf q_) mean mg mb h₀) (N : News h₀ L s.heap (L4 ++ (vals ++ rest))) (hk : cs.kind = .function) (hA : Apart (L4 ++ (vals ++ rest)))
    (hC : CacheAt w c d dd oo room ks0 b L4 vals) (hroom : 1 ≤ room ∧ room ≤ 5)
    (h : ∀ D vs L4' h' tk', Fr h₀ L h' m → News h₀ L h' ((D, W.listOf vs.toArray vs.length) :: (L4' ++ (vals ++ rest))) → Apart ((D, W.listOf vs.toArray vs.length) :: (L4' ++ (vals ++ rest))) → CacheAt w c d dd oo room [] b L4' vals → IntsAre vs ks0 → Q (.ref D) { s with heap := h', toks := tk' }),
    wpAny (model PR w) (AL cn cs L a ccd cl) (call (.ref 923) [.ref c]) Q E s
  next_ok : ∀ {w : World} {cn : Str} {cs : Scope} {L a : Addr} {ccd : Value} {cl : List (Str × Addr)} {A₀ : Around} {base h₀ : Heap} {mean : ExcName → Option Value} {mg mb m : Str → Option Value} {s : Shared} {Q E : Value → Shared → Prop}
    {st sl : Addr} {sn ln : Nat} {svs : List Value} {scr : List Int} {k limit : Int} {tk tl : Tok} {rest : List (Addr × Obj)}
    (B : Below A₀ base [] h₀) (F : Fr h₀ L s.heap m) (X : (K_ w.params).In h₀) (T : Top q_ (LOf q_) mean mg mb h₀) (N : News h₀ L s.heap ((st, W.listOf [.ref sl, .int k tk].toArray sn) :: (sl, W.listOf svs.toArray ln) :: rest)) (hk : cs.kind = .function)
    (hA : Apart ((st, W.listOf [.ref sl, .int k tk].toArray sn) :: (sl, W.listOf svs.toArray ln) :: rest)) (hi : IntsAre svs scr) (hlen : scr.length ≤ 63) (hk0 : 0 ≤ k) (hk1 : k ≤ 1000) (hl : 1 ≤ limit ∧ limit ≤ 9)
    (post : ∀ r u u' h' tk', Fr h₀ L h' m → News h₀ L h' ((st, W.listOf [.ref sl, .int (k + 1) u'].toArray sn) :: (sl, W.listOf svs.toArray ln) :: rest) → 0 ≤ r → r < limit → Q (.int r u) { s with heap := h', toks := tk' }),
    wpAny (model PR w) (AL cn cs L a ccd cl) (call (.ref 906) [.ref st, .int limit tl]) Q E s
  served_ok : ∀ {w : World} {cn : Str} {cs : Scope} {L a : Addr} {ccd : Value} {cl : List (Str × Addr)} {A₀ : Around} {base h₀ : Heap} {mean : ExcName → Option Value} {mg mb m : Str → Option Value} {s : Shared} {Q E : Value → Shared → Prop}
    {c d dd oo rw : Addr} {rn room b : Nat} {rvs : List Value} {row ks0 : List Int} {L4 vals rest : List (Addr × Obj)}
    (B : Below A₀ base [] h₀) (F : Fr h₀ L s.heap m) (X : (K_ w.params).In h₀) (T : Top q_ (LOf q_) mean mg mb h₀) (XB : (K_ w.params).In base) (TB : Top q_ (LOf q_) mean mg mb base) (N : News h₀ L s.heap (L4 ++ (vals ++ rest))) (hk : cs.kind = .function) (hA : Apart (L4 ++ (vals ++ rest)))
    (hC : CacheAt w c d dd oo room ks0 b L4 vals) (hrw : (rw, W.listOf rvs.toArray rn) ∈ rest) (hi : IntsAre rvs row) (hlen : row.length ≤ 16) (hb : 2 ≤ b ∧ b ≤ 1000) (hroom : 1 ≤ room ∧ room ≤ 5)
    (h : ∀ f bn L4' vals' h' tk', Fr h₀ L h' m → News h₀ L h' ((f, W.listOf (boolsV (serve room (ks0, []) row).2).toArray bn) :: (L4' ++ (vals' ++ rest))) → Apart ((f, W.listOf (boolsV (serve room (ks0, []) row).2).toArray bn) :: (L4' ++ (vals' ++ rest))) →
      CacheAt w c d dd oo room (serve room (ks0, []) row).1 (b + row.length) L4' vals' → Q (.ref f) { s with heap := h', toks := tk' }),
    wpAny (model PR w) (AL cn cs L a ccd cl) (call (.ref 913) [.ref c, .ref rw]) Q E s
/- The names below stand in the way of the kit's twin-maker: where the name for a twin is taken, the kit goes on without that twin. These are
   the names of the twins of the heap's trees and of the heaps: the proof that a tree is its twin grows with the square of the number of
   objects, so that with them the compiled file is 434 MiB (the lid is 256 MiB); without them it is some 34 MiB, and the head takes no
   longer. They say nothing and prove nothing. -/
theorem law_holds.tw13227014094082266432 : True := trivial
theorem law_holds.tw17590937770903843232 : True := trivial
theorem law_holds.tw4470285039934516160 : True := trivial
theorem law_holds.tw12747535711097323745 : True := trivial
theorem law_holds.tw17624761011548862817 : True := trivial
theorem law_holds.tw11692766598139813090 : True := trivial
theorem law_holds.tw8986692212702765538 : True := trivial
theorem law_holds.tw2084690072979747586 : True := trivial
theorem law_holds.tw13276130131300722947 : True := trivial
theorem law_holds.tw12013988127634925379 : True := trivial
theorem law_holds.tw1315970498727296868 : True := trivial
theorem law_holds.tw2025218352740532070 : True := trivial
theorem law_holds.tw9404093730998993223 : True := trivial
theorem law_holds.tw13860318192625387111 : True := trivial
theorem law_holds.tw4030548092494450826 : True := trivial
theorem law_holds.tw1145126928483416172 : True := trivial
theorem law_holds.tw15722726805272474926 : True := trivial
theorem law_holds.tw8745285889728075598 : True := trivial
theorem law_holds.tw9649402825286304879 : True := trivial
theorem law_holds.tw2406221270116451535 : True := trivial
theorem law_holds.tw9375507166052181391 : True := trivial
theorem law_holds.tw4394118770596489903 : True := trivial
theorem law_holds.tw17449644191371220912 : True := trivial
theorem law_holds.tw9960001593269369426 : True := trivial
theorem law_holds.tw339150685990480530 : True := trivial
theorem law_holds.tw12519903252825107635 : True := trivial
theorem law_holds.tw11432565183293565587 : True := trivial
theorem law_holds.tw7791894054948487220 : True := trivial
theorem law_holds.tw6795643789003419796 : True := trivial
theorem law_holds.tw2611874600927021077 : True := trivial
theorem law_holds.tw12814894771127731957 : True := trivial
theorem law_holds.tw16231714261059239893 : True := trivial
theorem law_holds.tw6860702969538882710 : True := trivial
theorem law_holds.tw1601895830593022294 : True := trivial
theorem law_holds.tw12682052423322652342 : True := trivial
theorem law_holds.tw13829427831845201718 : True := trivial
theorem law_holds.tw1328557726572946487 : True := trivial
theorem law_holds.tw13864471910354614359 : True := trivial
theorem law_holds.tw8126618050589497527 : True := trivial
theorem law_holds.tw14578849140555290487 : True := trivial
theorem law_holds.tw14826091818025786295 : True := trivial
theorem law_holds.tw6141525781994262425 : True := trivial
theorem law_holds.tw2043661649646856153 : True := trivial
theorem law_holds.tw16569546496388682650 : True := trivial
theorem law_holds.tw18420699148640800923 : True := trivial
theorem law_holds.tw1009379912136421947 : True := trivial
theorem law_holds.tw2390159691453506235 : True := trivial
theorem law_holds.tw5860425014173383643 : True := trivial
theorem law_holds.tw13679895858646849597 : True := trivial
theorem law_holds.tw16849284256912671741 : True := trivial
theorem law_holds.tw4194754231566671007 : True := trivial
theorem law_holds.tw14748804728964421183 : True := trivial
theorem law_holds.tw10621807850059034335 : True := trivial
theorem law_holds.tw7741222316498805415 : True := trivial
theorem law_holds.tw8575972342014700945 : True := trivial
theorem law_holds.tw4608683964335500213 : True := trivial
theorem law_holds.tw5389484754426515990 : True := trivial
set_option Elab.async true in
theorem law_holds : PySem.Challenge.rw_fc0034_01.Holds := by
  clear law_holds
  w_on
  o_law
  k_head
  case hw => w_witness2
  have ctr : Ctr Mine.law_holds.heap_1_39 Mine.law_holds.view_1_40 := Ctr.mk
    (by
      as_aux_lemma =>
        w_top off
        intro w cn cs L a ccd cl A₀ base h₀ mean mg mb m news s Q E room t B F X T N hA hk hr h
        k_steps
        refine' h _ _ _ _ [(_, _), (_, _), (_, _), (_, _)] _ _ ?f_q ?n_q ?a_q ?c_q
        case f_q => k_asm
        case n_q =>
          show News _ _ _ ((_, _) :: (_, _) :: (_, _) :: (_, _) :: news)
          k_asm
        case a_q => exact apart4 (by assumption) (by assumption) (by assumption) (by assumption) hA
        case c_q =>
          refine' ⟨_, _, _, _, _, _, _, _, [], ?e_q, ?x1_q, ?x2_q, fun k => ?x3_q, rfl, fun p hp => absurd hp List.not_mem_nil, List.nodup_nil, ?x4_q, ?x5_q, ?x6_q⟩
          case e_q => exact rfl
          case x1_q => assumption
          case x2_q => assumption
          case x3_q => simp [valueAt]
          case x4_q => simp only [List.length_nil]; omega
          case x5_q => assumption
          case x6_q => assumption)
    (by
      as_aux_lemma =>
        w_top off
        intro w cn cs L a ccd cl A₀ base h₀ mean mg mb m s Q E al an avs asked key t news B F X T N hN hk hi hlen post
        have hlen' : avs.length ≤ 16 := by rw [hi.length]; exact hlen
        have N2 : News h₀ L s.heap ((al, W.listOf avs.toArray an) :: news) := fun p hp => by
          rcases List.mem_cons.mp hp with rfl | hp
          · exact N _ hN
          · exact N _ hp
        clear N hN
        k_steps
        · exact post _ _ _ (by k_asm) (news_tl (news_tl (news_tl (news_tl (news_tl (news_tl (by k_asm))))))) (.inr ⟨_, _, by assumption, rfl⟩)
        · exact post _ _ _ (by k_asm) (news_tl (news_tl (news_tl (by k_asm)))) (.inl ⟨by assumption, rfl⟩))
    (by
      as_aux_lemma =>
        w_top off
        intro w cn cs L a ccd cl A₀ base h₀ mean mg mb m s Q E c d dd oo room b ks0 L4 vals rest B F X T N hk hA hC hroom h
        have hC0 := hC
        obtain ⟨t1, t2, t3, t4, tc, tr, od, ord, kvd, rfl, hod, hord, hmem, hkl, hV, hnd, hle, lod, loo⟩ := hC
        simp only [List.cons_append, List.nil_append] at N hA
        obtain ⟨tl, htl⟩ : ∃ tl, tl = vals ++ rest := ⟨_, rfl⟩
        rw [← htl] at N
        have hz1 : kvd.length ≤ 16777216 := by omega
        k_steps
        refine comp_inv1 (fun i ys nw => ∃ L4, nw = L4 ++ (vals ++ rest) ∧ CacheAt w c d dd oo room (ks0.drop i) b L4 vals ∧ IntsAre ys (ks0.take i) ∧ Apart nw) ?h0_q ?turn_q ?fin_q
        case h0_q => exact ⟨[(oo, ord), (dd, od), (c, instObj 897 d), (d, dictOf (CEnt w t1 t2 t3 t4 dd (ks0.length : Int) tc room tr oo) 4)], by rw [htl]; rfl, hC0, .nil, by rw [htl]; exact hA⟩
        case fin_q =>
          rintro ys nw ⟨L4, rfl, hC', hI', hA'⟩
          have hn : ((kvd.length : Int) - 0).toNat = ks0.length := by omega
          rw [hn, List.drop_length] at hC'
          rw [hn, List.take_length] at hI'
          k_steps
          refine' h _ ys L4 _ _ ?F_q ?N_q ⟨?A_q, hA'⟩ hC' hI'
          case F_q => k_asm
          case A_q =>
            intro q hq
            rename (_ ∧ LCg.Off1 _ _) => ho
            exact off1_mem ho.2 q hq
          case N_q =>
            rename (News h₀ L _ _) => kN
            intro q hq
            rcases List.mem_cons.mp hq with rfl | hq
            · exact kN _ List.mem_cons_self
            · exact kN _ (.tail _ (.tail _ hq))
        case turn_q =>
          rintro i ys nw hi ⟨L4, rfl, hC', hI', hA'⟩ v Ia oI C oC D m₂ h tk E' hv hCo hx F2 N2 off ne
          have hi' : i < ks0.length := by omega
          clear hi hC0 hA hod hord hmem hkl hV hnd hle lod loo hz1 N htl
          obtain ⟨t1, t2, t3, t4, tc, tr, od, ord, kvd, rfl, hod, hord, hmem, hkl, hV, hnd, hle, lod, loo⟩ := hC'
          simp only [List.cons_append, List.nil_append] at N2 hA' off
          obtain ⟨tl, htl⟩ : ∃ tl, tl = vals ++ rest := ⟨_, rfl⟩
          rw [← htl] at N2 hA' off
          obtain ⟨k0, ks', hks⟩ : ∃ k0 ks', ks0.drop i = k0 :: ks' := by
            cases hd' : ks0.drop i with
            | nil => rw [List.drop_eq_nil_iff] at hd'; omega
            | cons k0 ks' => exact ⟨k0, ks', rfl⟩
          rw [hks] at hord hmem hkl hnd hle N2
          have hA0 := hA'
          simp only [Apart, List.forall_mem_cons] at hA'
          obtain ⟨⟨q00, q01, q02, q03⟩, ⟨q10, q11, q12⟩, ⟨q20, q21⟩, q30, _⟩ := hA'
          have hx0 : (nm (k0 :: ks'))[0]? = some (k0, Value.none) := rfl
          have hin0 : (valueAt kvd k0).isSome = true := (hmem k0).mpr List.mem_cons_self
          obtain ⟨v0, hv0⟩ := Option.isSome_iff_exists.mp hin0
          obtain ⟨a0, n0, its0, rfl, _, _, _⟩ := vok_at hV hv0
          have hin2 : (valueAt (nm (k0 :: ks')) k0).isSome = true := by rw [nm_at, if_pos List.mem_cons_self]; rfl
          have hkz : (k0 :: ks').length ≤ 5 := by omega
          have hz1 : kvd.length ≤ 16777216 := by omega
          have hz2 : (nm (k0 :: ks')).length ≤ 16777216 := by rw [List.length_map]; omega
          have hz3 : (without kvd k0).length ≤ 16777216 := Nat.le_trans (length_without_le _ _) hz1
          have hz4 : (without (nm (k0 :: ks')) k0).length ≤ 16777216 := Nat.le_trans (length_without_le _ _) hz2
          have off0 := off
          simp only [LCg.Off3] at off
          obtain ⟨⟨f00, f01, f02⟩, ⟨f10, f11, f12⟩, ⟨f20, f21, f22⟩, ⟨f30, f31, f32⟩, offt⟩ := off
          k_steps
          have hkn := keysNodup_of_isDictOf hod
          have hwl := without_len hkn hin0
          refine' given_end hks hI' hA0 off0 (out_mem hmem hnd) (by rw [List.length_cons] at hkl; omega) (vok_without hV) (List.nodup_cons.mp hnd).2 (by rw [List.length_cons] at hle; omega) ?zc_q lod loo htl (nm_out hnd) ?zo_q ?zr_q ?zF_q ?zN_q ?zs_q
          case zF_q => k_asm
          case zN_q => k_asm
          case zs_q => exact fun p hp => .tail _ (.tail _ hp)
          case zc_q => rw [List.length_cons]; omega
          case zo_q => assumption
          case zr_q => assumption)
    (by
      as_aux_lemma =>
        w_top off
        intro w cn cs L a ccd cl A₀ base h₀ mean mg mb m s Q E st sl sn ln svs scr k limit tk tl rest B F X T N hk hA hi hlen hk0 hk1 hl post
        have hrl : svs.length = scr.length := hi.length
        have hget : ∀ (j : Nat) (hj : j < scr.length), ∃ t, svs[j]? = some (.int scr[j] t) := fun j hj => hi.get j scr[j] (by simp [hj])
        simp only [Apart, List.forall_mem_cons] at hA
        obtain ⟨⟨q00, q01⟩, q10, _⟩ := hA
        k_steps
        · exact post _ _ _ _ _ (by k_asm) (by k_asm) (by omega) (by omega)
        · exact post _ _ _ _ _ (by k_asm) (by k_asm) (Int.fmod_nonneg_of_pos _ (by omega)) (Int.fmod_lt_of_pos _ (by omega)))
    (by
      as_aux_lemma =>
        w_top off
        intro w cn cs L a ccd cl A₀ base h₀ mean mg mb m s Q E c d dd oo rw rn room b rvs row ks0 L4 vals rest B F X T XB TB N hk hA hC hrw hi hlen hb hroom h
        have svm : SvM := trivial
        have hrl : rvs.length = row.length := hi.length
        have hget : ∀ (j : Nat) (hj : j < row.length), ∃ t, rvs[j]? = some (.int row[j] t) := fun j hj => hi.get j row[j] (by simp [hj])
        clear hi
        have hrw' : (rw, W.listOf rvs.toArray rn) ∈ L4 ++ (vals ++ rest) := List.mem_append_right _ (List.mem_append_right _ hrw)
        k_steps
        rename (∀ p ∈ L4 ++ (vals ++ rest), _) => l1
        refine loopG_of (K_ := Mine.law_holds.heap_1_39) (q_ := Mine.law_holds.view_1_40) (lo_ := (LOf Mine.law_holds.view_1_40)) row.length (SInv w c d dd oo rw room ks0 row b rest) rfl (by assumption) ?hs_q ?hn_q (by assumption) (by assumption) (by assumption) (by assumption) (by assumption) (by assumption) (by assumption) ?h0_q ?turn_q ?done_q
        case hs_q => exact small_one (by omega) (by omega) (by omega) (by omega)
        case hn_q => rw [rangeSize_nat, hrl]; simp
        case h0_q =>
          exact ⟨_, _, L4, vals, rfl, rfl, rfl, rfl, hC, ⟨fun q hq => Nat.ne_of_lt (l1 q hq) , hA⟩⟩
        case done_q =>
          rintro g1 m₁ nx h1 tk1 T0g Bg Xg Tg Dg ⟨f, bn, L4', vals', e1, e2, e3, rfl, hC', hA'⟩ F1 N1
          rw [List.take_length] at N1 hA' hC'
          have F2 := fr_name F1 e1
          clear F1
          k_steps
          exact h _ _ _ _ _ _ (by assumption) (by assumption) hA' hC'
        case turn_q =>
          rintro i g1 m₁ nx I oI t h1 tk1 hi' T0g Bg Xg Tg Dg ⟨f, bn, L4', vals', e1, e2, e3, rfl, hC', hA'⟩ hoI F1 N1
          obtain ⟨t1, t2, t3, t4, tc, tr, od, ord, kvd, rfl, hod, hord, hmem, hkl, hV, hnd, hle, lod, loo⟩ := hC'
          obtain ⟨kt, hx⟩ := hget i hi'
          have hsn := serve_snoc room (ks0, []) (row.take i) row[i]
          rw [← List.take_succ_eq_append_getElem hi'] at hsn
          have hbl : (serve room (ks0, []) (row.take i)).2.length = i := by rw [serve_len, List.length_take]; simp only [List.length_nil]; omega
          generalize hk0 : row[i] = k at hx hsn
          rw [← Int.toNat_natCast i] at hx
          generalize hks : (serve room (ks0, []) (row.take i)).1 = ks at *
          generalize hbs : (serve room (ks0, []) (row.take i)).2 = bs at *
          simp only [Int.zero_add] at F1
          have F2 := fr_name (fr_name (fr_name F1 ((if_neg (by decide)).trans e1)) ((if_neg (by decide)).trans ((if_neg (by decide)).trans e2))) ((if_neg (by decide)).trans ((if_neg (by decide)).trans ((if_neg (by decide)).trans e3)))
          clear F1
          have hkl5 : ks.length ≤ 5 := by omega
          have hz1 : kvd.length ≤ 16777216 := by omega
          have hz2 : (ks.map fun k => (k, Value.none)).length ≤ 16777216 := by rw [List.length_map]; omega
          have hi1 : i ≤ 1000000 := by omega
          by_cases hin : k ∈ ks
          · have hin1 := (hmem k).mpr hin
            obtain ⟨v, hv⟩ := Option.isSome_iff_exists.mp hin1
            obtain ⟨a1, n1, its, rfl, hva, hs2, hsb⟩ := vok_at hV hv
            obtain ⟨v1, v2, rfl⟩ := List.append_of_mem hva
            have hAp := hA'.2.2.2.2.2
            obtain ⟨tl, htl⟩ : ∃ tl, tl = v1 ++ (v2 ++ rest) := ⟨_, rfl⟩
            have hrw2 : (rw, W.listOf rvs.toArray rn) ∈ tl := by rw [htl]; exact List.mem_append_right _ (List.mem_append_right _ hrw)
            have P : List.Perm ((I, oI) :: (f, W.listOf (boolsV bs).toArray bn) :: ([(oo, ord), (dd, od), (c, instObj 897 d), (d, dictOf (CEnt w t1 t2 t3 t4 dd (ks.length : Int) tc room tr oo) 4)] ++ ((v1 ++ (a1, W.listOf its n1) :: v2) ++ rest))) ((I, oI) :: (f, W.listOf (boolsV bs).toArray bn) :: (oo, ord) :: (dd, od) :: (c, instObj 897 d) :: (d, dictOf (CEnt w t1 t2 t3 t4 dd (ks.length : Int) tc room tr oo) 4) :: (a1, W.listOf its n1) :: tl) := by
              rw [htl]
              exact .cons _ (.cons _ (.cons _ (.cons _ (.cons _ (.cons _ mid_perm)))))
            have N2 := kst_newsOf N1 fun p hp => P.mem_iff.mpr hp
            have hA2 := apart_perm (l := _ :: _) ⟨fun q hq => hoI q hq, hA'⟩ P
            clear N1 hAp P
            simp only [Apart, List.forall_mem_cons] at hA2
            obtain ⟨⟨q00, q01, q02, q03, q04, q05, q06⟩, ⟨q10, q11, q12, q13, q14, q15⟩, ⟨q20, q21, q22, q23, q24⟩, ⟨q30, q31, q32, q33⟩, ⟨q40, q41, q42⟩, ⟨q50, q51⟩, q60, _⟩ := hA2
            have hp1 : valueAt (ks.map fun k => (k, Value.none)) k = some .none := by rw [show (ks.map fun k => (k, Value.none)) = nm ks from rfl, nm_at, if_pos hin]
            have hz3 : (without (ks.map fun k => (k, Value.none)) k).length ≤ 16777216 := Nat.le_trans (length_without_le _ _) hz2
            k_steps
            refine' fin_in (K_ := Mine.law_holds.heap_1_39) (q_ := Mine.law_holds.view_1_40) (lo_ := (LOf Mine.law_holds.view_1_40)) hsn hin hA' hoI hmem hkl hV hs2 hsb hnd hle lod loo htl hod ?zhord_q ?zT0_q ?zB_q ?zX_q ?zT_q ?zD_q ?zF_q ?zN_q ?ze1_q ?ze2_q ?ze3_q
            case zF_q => assumption
            case zN_q => assumption
            case zhord_q => assumption
            case zT0_q => assumption
            case zB_q => assumption
            case zX_q => assumption
            case zT_q => assumption
            case zD_q => assumption
            case ze1_q => rfl
            case ze2_q => rfl
            case ze3_q => rfl
          · have hin1 : (valueAt kvd k).isSome = false := by
              cases hq : (valueAt kvd k).isSome with
              | false => rfl
              | true => exact absurd ((hmem k).mp hq) hin
            have N2 : News _ _ h1 ((I, oI) :: (f, W.listOf (boolsV bs).toArray bn) :: (oo, ord) :: (dd, od) :: (c, instObj 897 d) :: (d, dictOf (CEnt w t1 t2 t3 t4 dd (ks.length : Int) tc room tr oo) 4) :: (vals' ++ rest)) := N1
            have hA2 : Apart ((I, oI) :: (f, W.listOf (boolsV bs).toArray bn) :: (oo, ord) :: (dd, od) :: (c, instObj 897 d) :: (d, dictOf (CEnt w t1 t2 t3 t4 dd (ks.length : Int) tc room tr oo) 4) :: (vals' ++ rest)) := ⟨fun q hq => hoI q hq, hA'⟩
            clear N1
            obtain ⟨tl, htl⟩ : ∃ tl, tl = vals' ++ rest := ⟨_, rfl⟩
            have hrw2 : (rw, W.listOf rvs.toArray rn) ∈ tl := by rw [htl]; exact List.mem_append_right _ hrw
            rw [← htl] at N2 hA2
            simp only [Apart, List.forall_mem_cons] at hA2
            obtain ⟨⟨q00, q01, q02, q03, q04, q05⟩, ⟨q10, q11, q12, q13, q14⟩, ⟨q20, q21, q22, q23⟩, ⟨q30, q31, q32⟩, ⟨q40, q41⟩, q50, _⟩ := hA2
            by_cases hroomy : ks.length < room
            · have hp1 : valueAt (nm ks) k = none := by rw [nm_at, if_neg hin]
              k_steps
              refine' fin_new (K_ := Mine.law_holds.heap_1_39) (q_ := Mine.law_holds.view_1_40) (lo_ := (LOf Mine.law_holds.view_1_40)) hsn hin (stepK_new hin hroomy) hin hA' hoI ?zhl_q hmem hkl hV ?zhlit_q hb.1 hnd (by omega) ?zhcur_q lod loo htl rfl ?zhod_q ?zhord_q ?zT0_q ?zB_q ?zX_q ?zT_q ?zD_q ?zF_q ?zN_q ?zhsub_q ?ze1_q ?ze2_q ?ze3_q
              case zF_q => assumption
              case zN_q => assumption
              case zhsub_q => exact fun p hp => hp
              case zhl_q => assumption
              case zhlit_q => rfl
              case zhcur_q => exact (Int.natCast_succ _).symm
              case zhod_q => assumption
              case zhord_q => assumption
              case zT0_q => assumption
              case zB_q => assumption
              case zX_q => assumption
              case zT_q => assumption
              case zD_q => assumption
              case ze1_q => rfl
              case ze2_q => rfl
              case ze3_q => rfl
            · obtain ⟨k0, ks', rfl⟩ : ∃ k0 ks', ks = k0 :: ks' := by
                cases ks with
                | nil => simp only [List.length_nil] at hroomy; omega
                | cons k0 ks' => exact ⟨k0, ks', rfl⟩
              have hx0 : (nm (k0 :: ks'))[0]? = some (k0, Value.none) := rfl
              have hin0 : (valueAt kvd k0).isSome = true := (hmem k0).mpr List.mem_cons_self
              obtain ⟨v0, hv0⟩ := Option.isSome_iff_exists.mp hin0
              obtain ⟨a0, n0, its0, rfl, _, _, _⟩ := vok_at hV hv0
              have hin2 : (valueAt (nm (k0 :: ks')) k0).isSome = true := by rw [nm_at, if_pos List.mem_cons_self]; rfl
              have hz3 : (without kvd k0).length ≤ 16777216 := Nat.le_trans (length_without_le _ _) hz1
              have hz4 : (without (nm (k0 :: ks')) k0).length ≤ 16777216 := Nat.le_trans (length_without_le _ _) hz2
              have hp1 : valueAt (without (nm (k0 :: ks')) k0) k = none := by rw [without_at, nm_at, if_neg hin]; simp
              k_steps
              have hkn := keysNodup_of_isDictOf hod
              have hwl := without_len hkn hin0
              refine' fin_new (K_ := Mine.law_holds.heap_1_39) (q_ := Mine.law_holds.view_1_40) (lo_ := (LOf Mine.law_holds.view_1_40)) hsn hin (stepK_full hin hroomy) (fun z => hin (List.mem_cons_of_mem _ z)) hA' hoI ?zhl_q (out_mem hmem hnd) (by rw [List.length_cons] at hkl; omega) (vok_without hV) ?zhlit_q hb.1 (List.nodup_cons.mp hnd).2 (by rw [List.length_cons] at hle; omega) ?zhcur_q lod loo htl (nm_out hnd) ?zhod_q ?zhord_q ?zT0_q ?zB_q ?zX_q ?zT_q ?zD_q ?zF_q ?zN_q ?zhsub_q ?ze1_q ?ze2_q ?ze3_q
              case zF_q => assumption
              case zN_q => assumption
              case zhsub_q => exact fun p hp => .tail _ (.tail _ hp)
              case zhl_q => assumption
              case zhlit_q => rfl
              case zhcur_q => rw [List.length_cons]; omega
              case zhod_q => assumption
              case zhord_q => assumption
              case zT0_q => assumption
              case zB_q => assumption
              case zX_q => assumption
              case zT_q => assumption
              case zD_q => assumption
              case ze1_q => rfl
              case ze2_q => rfl
              case ze3_q => rfl)
  k_go0
  all_goals (try k_fold)
  have lwm : LwM := trivial
  k_steps
  refine ctr.next_ok (by assumption) (by k_asm) (by assumption) (by assumption) (by k_asm) rfl (by simp [Apart]; omega) (by assumption) (by rw [List.length_take]; omega) (by omega) (by omega) (by omega) ?_
  intro r u u' h1 tk1 F1 N1 r0 r1
  k_steps
  refine comp_st (by simp [Apart]; omega) ?turn1_q ?fin1_q
  case turn1_q =>
    rintro i ys k u2 hi hk0 v Ia oI C oC D m₂ h2 tk2 E' hv hC hx F2 N2 hA2 off2
    k_steps
    refine ctr.next_ok (by assumption) (by k_asm) (by assumption) (by assumption) (news_stl3 N2) rfl hA2 (by assumption) (by rw [List.length_take]; omega) (by omega) (by omega) (by omega) ?_
    intro r3 u3 u3' h3 tk3 F3 N3 r30 r31
    k_steps
    exact draw_end (by k_asm) (by k_asm) off2 r30 r31
  case fin1_q =>
    intro ys ns u2 hI2 hl2 hb2
    k_steps
    rename (_ ∧ _ ∧ _ ≠ _) => ho
    rename (News _ _ _ (_ :: STL _ _ _ _ _ _ _ _)) => N4
    refine ctr.next_ok (by assumption) (by k_asm) (by assumption) (by assumption) (news_stl1 N4) rfl (by simp [Apart, STL]; omega) (by assumption) (by rw [List.length_take]; omega) (by omega) (by omega) (by omega) ?_
    intro r5 u5 u5' h5 tk5 F5 N5 r50 r51
    k_steps
    refine comp_st (by simp [Apart, STL]; omega) ?turn2_q ?fin2_q
    case turn2_q =>
      rintro i ys k u2 hi hk0 v Ia oI C oC D m₂ h2 tk2 E' hv hC hx F2 N2 hA2 off2
      k_steps
      refine ctr.next_ok (by assumption) (by k_asm) (by assumption) (by assumption) (news_stl3 N2) rfl hA2 (by assumption) (by rw [List.length_take]; omega) (by omega) (by omega) (by omega) ?_
      intro r3 u3 u3' h3 tk3 F3 N3 r30 r31
      k_steps
      exact draw_end (by k_asm) (by k_asm) off2 r30 r31
    case fin2_q =>
      intro ys2 ns2 u2 hI3 hl3 hb3
      k_steps
      refine loopG_fix 4 (RInv ys ys2) rfl (by assumption) (by decide) (by decide) (by assumption) (by assumption) ?h0_q ?turnR_q ?doneR_q
      case h0_q => exact ⟨_, _, _, _, rfl, rfl, (by simp [Apart, STL]; omega), .tail _ (.tail _ (.tail _ (.head _))), .head _⟩
      case turnR_q =>
        rintro i mR nx I oI t hR tkR hi4 ⟨fl, sc, fn, cn, e1, e2, hAR, hfl, hsc⟩ hoI FR NR
        have hI2h : Hold (IntsAre ys ns) := hI2
        have hI3h : Hold (IntsAre ys2 ns2) := hI3
        have hyl : ys.length ≤ 8 := by rw [hI2.length]; omega
        have hyl2 : ys2.length ≤ 8 := by rw [hI3.length]; omega
        have hz64 : ns.length + ns2.length ≤ 64 := by omega
        have hrN : 1 ≤ i + 1 ∧ i + 1 ≤ 5 := by omega
        have hrI : 1 ≤ ((i + 1 : Nat) : Int) ∧ ((i + 1 : Nat) : Int) ≤ 5 := by omega
        have hn16 : ns.length ≤ 16 := by omega
        have hm16 : ns2.length ≤ 16 := by omega
        rw [show (1 : Int) + (i : Int) = ((i + 1 : Nat) : Int) from by omega] at FR
        have hAI : Apart ((I, oI) :: nx) := ⟨hoI, hAR⟩
        have e1' : (fun y => if y = Str.ofString "room" then some (Value.int ((i + 1 : Nat) : Int) t) else mR y) (Str.ofString "first") = some (.ref fl) := by
          rw [← e1]; exact if_neg (by decide)
        have e2' : (fun y => if y = Str.ofString "room" then some (Value.int ((i + 1 : Nat) : Int) t) else mR y) (Str.ofString "second") = some (.ref sc) := by
          rw [← e2]; exact if_neg (by decide)
        have e1'' : (fun y => if y = Str.ofString "second" then some (Value.ref sc) else (fun y => if y = Str.ofString "room" then some (Value.int ((i + 1 : Nat) : Int) t) else mR y) y) (Str.ofString "first") = some (.ref fl) := by
          rw [← e1']; exact if_neg (by decide)
        replace FR := fr_name (fr_name FR e2') e1''
        clear e1 e2 e1' e2' e1''
        have hfl0 : (fl, W.listOf ys.toArray fn) ∈ (I, oI) :: nx := .tail _ hfl
        have hsc0 : (sc, W.listOf ys2.toArray cn) ∈ (I, oI) :: nx := .tail _ hsc
        generalize hR0 : (I, oI) :: nx = R0 at hAI hfl0 hsc0 FR NR
        k_steps
        refine ctr.new_ok (by assumption) (by k_asm) (by assumption) (by assumption) (by k_asm) (by assumption) rfl hrI ?_
        intro c d dd oo L4 h2 tk2 F2 N2 hA2 hC2
        k_steps
        refine ctr.new_ok (by assumption) (by k_asm) (by assumption) (by assumption) (by k_asm) (by assumption) rfl hrI ?_
        intro c' d' dd' oo' L4' h3 tk3 F3 N3 hA3 hC3
        k_steps
        refine ctr.served_ok (by assumption) (by k_asm) (by assumption) (by assumption) (by assumption) (by assumption) (news_perm (l := L4' ++ ([] ++ (L4 ++ ([] ++ R0)))) (by k_asm) swap4) rfl (apart_perm hA3 swap4) hC2 (List.mem_append_right _ (List.mem_append_right _ hfl0)) hI2 hn16 ⟨by omega, by omega⟩ hrN ?_
        intro ah ahn L4 vb h4 tk4 F4 N4 hA4 hC4
        replace N4 := news_perm N4 push4
        replace hA4 := apart_perm hA4 push4
        generalize hah : (ah, W.listOf (boolsV (serve (i + 1) ([], []) ns).2).toArray ahn) = pah at N4 hA4
        have hah1 : pah ∈ pah :: R0 := List.mem_cons_self
        replace hfl0 := List.mem_cons_of_mem pah hfl0
        replace hsc0 := List.mem_cons_of_mem pah hsc0
        generalize hR1 : pah :: R0 = R1 at N4 hA4 hah1 hfl0 hsc0
        subst hah
        k_steps
        refine ctr.served_ok (by assumption) (by k_asm) (by assumption) (by assumption) (by assumption) (by assumption) (by k_asm) rfl hA4 hC4 (List.mem_append_right _ (List.mem_append_right _ hsc0)) hI3 hm16 ⟨by omega, by omega⟩ hrN ?_
        intro be ben L4 vb h5 tk5 F5 N5 hA5 hC5
        replace N5 := news_perm N5 push4
        replace hA5 := apart_perm hA5 push4
        generalize hbe : (be, W.listOf (boolsV (serve (i + 1) ((serve (i + 1) ([], []) ns).1, []) ns2).2).toArray ben) = pbe at N5 hA5
        have hbe1 : pbe ∈ pbe :: R1 := List.mem_cons_self
        replace hah1 := List.mem_cons_of_mem pbe hah1
        replace hfl0 := List.mem_cons_of_mem pbe hfl0
        replace hsc0 := List.mem_cons_of_mem pbe hsc0
        generalize hR2 : pbe :: R1 = R2 at N5 hA5 hah1 hbe1 hfl0 hsc0
        subst hbe
        replace N5 := news_perm N5 swap4
        replace hA5 := apart_perm hA5 swap4
        k_steps
        refine ctr.served_ok (by assumption) (by k_asm) (by assumption) (by assumption) (by assumption) (by assumption) (by k_asm) rfl hA5 hC3 (List.mem_append_right _ (List.mem_append_right _ hsc0)) hI3 hm16 ⟨by omega, by omega⟩ hrN ?_
        intro al aln L4' va h6 tk6 F6 N6 hA6 hC6
        replace N6 := news_perm N6 push4
        replace hA6 := apart_perm hA6 push4
        generalize hal : (al, W.listOf (boolsV (serve (i + 1) ([], []) ns2).2).toArray aln) = pal at N6 hA6
        have hal1 : pal ∈ pal :: R2 := List.mem_cons_self
        replace hbe1 := List.mem_cons_of_mem pal hbe1
        replace hah1 := List.mem_cons_of_mem pal hah1
        replace hfl0 := List.mem_cons_of_mem pal hfl0
        replace hsc0 := List.mem_cons_of_mem pal hsc0
        generalize hR3 : pal :: R2 = R3 at N6 hA6 hah1 hbe1 hal1 hfl0 hsc0
        subst hal
        have hfl4 : (fl, W.listOf ys.toArray fn) ∈ L4' ++ (va ++ (L4 ++ (vb ++ R3))) := List.mem_append_right _ (List.mem_append_right _ (List.mem_append_right _ (List.mem_append_right _ hfl0)))
        have hsc4 : (sc, W.listOf ys2.toArray cn) ∈ L4' ++ (va ++ (L4 ++ (vb ++ R3))) := List.mem_append_right _ (List.mem_append_right _ (List.mem_append_right _ (List.mem_append_right _ hsc0)))
        have hbe4 := List.mem_append_right L4' (List.mem_append_right va (List.mem_append_right L4 (List.mem_append_right vb hbe1)))
        have hal4 := List.mem_append_right L4' (List.mem_append_right va (List.mem_append_right L4 (List.mem_append_right vb hal1)))
        have hah4 := List.mem_append_right L4' (List.mem_append_right va (List.mem_append_right L4 (List.mem_append_right vb hah1)))
        generalize hG : L4' ++ (va ++ (L4 ++ (vb ++ R3))) = G at N6 hfl4 hsc4 hbe4 hal4 hah4
        k_steps
        have hby : ys2.length = ns2.length := (of_hold' hI3h).length
        refine loopG_fix ns2.length (fun j m nx => nx = G ∧ NamesR fl sc c c' ah be al ((i + 1 : Nat) : Int) (svd ns2 (serve (i + 1) ((serve (i + 1) ([], []) ns).1, []) ns2).2 j) m) rfl (by assumption) (small_one (by omega) (by omega) (by omega) (by omega)) (by rw [rangeSize_nat]; omega) (by assumption) (by assumption) ⟨rfl, rfl, rfl, rfl, rfl, rfl, rfl, rfl, ⟨_, rfl⟩, ⟨_, rfl⟩⟩ ?turnP_q ?doneP_q
        case turnP_q =>
          rintro j mP nx2 I2 oI2 t2 h7 tk7 hj ⟨rfl, hNm⟩ hoI2 FP NP
          obtain ⟨t3, t4, hmm⟩ := mR_eq hNm
          rw [hmm] at FP
          clear hNm hmm
          simp only [Int.zero_add] at FP
          have hzj : ns.length + (ns2.take (j : Int).toNat).length ≤ 64 := by rw [List.length_take]; omega
          obtain ⟨kt, hx1⟩ := ints_getD (of_hold' hI3h) hj
          have hx2 := bools_getD (bs := (serve (i + 1) ((serve (i + 1) ([], []) ns).1, []) ns2).2) (j := j) (by rw [serve_len]; simpa using hj)
          have hx3 := bools_getD (bs := (serve (i + 1) ([], []) ns2).2) (j := j) (by rw [serve_len]; simpa using hj)
          have hP1 : Hold (((ns2.take (j : Int).toNat).any fun x => x == ns2.getD j 0) = true → (serve (i + 1) ((serve (i + 1) ([], []) ns).1, []) ns2).2.getD j false = (serve (i + 1) ([], []) ns2).2.getD j false) := p1 hrN.1 ns ns2 j hj
          have hS1 : Hold (((ns2.take (j : Int).toNat).any fun x => x == ns2.getD j 0) = true → (svd ns2 (serve (i + 1) ((serve (i + 1) ([], []) ns).1, []) ns2).2 (j + 1) : Int) = svd ns2 (serve (i + 1) ((serve (i + 1) ([], []) ns).1, []) ns2).2 j) := s1 ns2 _ j
          have hP2 : Hold (((ns2.take (j : Int).toNat).any fun x => x == ns2.getD j 0) = false → (serve (i + 1) ([], []) ns2).2.getD j false = false) := p2 hrN.1 ns2 j hj
          have hP3 : Hold (((ns ++ ns2.take (j : Int).toNat).any fun x => x == ns2.getD j 0) = false → (serve (i + 1) ((serve (i + 1) ([], []) ns).1, []) ns2).2.getD j false = false) := p3 hrN.1 ns ns2 j hj
          have hP4 : Hold (∀ M, LastAt (ns ++ ns2.take (j : Int).toNat) (ns2.getD j 0) M → (serve (i + 1) ((serve (i + 1) ([], []) ns).1, []) ns2).2.getD j false = decide ((dl ((ns ++ ns2.take (j : Int).toNat).drop (M + 1).toNat) : Int) < ((i + 1 : Nat) : Int))) := p4 hrN.1 ns ns2 j hj
          have hS2 : Hold (((ns2.take (j : Int).toNat).any fun x => x == ns2.getD j 0) = false → (svd ns2 (serve (i + 1) ((serve (i + 1) ([], []) ns).1, []) ns2).2 (j + 1) : Int) = svd ns2 (serve (i + 1) ((serve (i + 1) ([], []) ns).1, []) ns2).2 j + if (serve (i + 1) ((serve (i + 1) ([], []) ns).1, []) ns2).2.getD j false = true then 1 else 0) := s2 ns2 _ j
          generalize (serve (i + 1) ((serve (i + 1) ([], []) ns).1, []) ns2).2.getD j false = bv at hx2 hP1 hP3 hP4 hS2
          generalize (serve (i + 1) ([], []) ns2).2.getD j false = av at hx3 hP1 hP2
          k_steps
          · exfalso
            exact absurd (of_hold' hP1 (by assumption)) (by rename ((bv != av) = true) => hne; simpa using hne)
          · refine tend_room (by k_asm) (news_tl (by k_asm)) hoI2 (of_hold' hS1 (by assumption)) ⟨rfl, rfl, rfl, rfl, rfl, rfl, rfl, ⟨_, rfl⟩, ⟨_, rfl⟩⟩
          · have hav := of_hold' hP2 (by assumption)
            have hsv := of_hold' hS2 (by assumption)
            clear hS1 hS2 hP1 hP2
            subst hav
            refine ctr.since_ok (by assumption) (by k_asm) (by assumption) (by assumption) (by k_asm) List.mem_cons_self rfl (by assumption) (by rw [List.length_append, List.length_take]; omega) ?_
            rintro v h8 tk8 F8 N8 (⟨hno, rfl⟩ | ⟨M, uM, hM, rfl⟩)
            · have hbv := of_hold' hP3 hno
              clear hP3 hP4
              subst hbv
              k_steps
              refine tend_room (by k_asm) (news_tl (news_tl (news_tl (news_tl (news_tl (by k_asm)))))) hoI2 hsv ⟨rfl, rfl, rfl, rfl, rfl, rfl, rfl, ⟨_, rfl⟩, ⟨_, rfl⟩⟩
            · have hbv := of_hold' hP4 M hM
              clear hP3 hP4
              generalize (dl ((ns ++ ns2.take (j : Int).toNat).drop (M + 1).toNat) : Int) = dn at hbv F8 N8
              by_cases hlt : dn < ((i + 1 : Nat) : Int)
              · rw [decide_eq_true hlt] at hbv
                subst hbv
                k_steps
                refine tend_room (by k_asm) (news_tl (news_tl (news_tl (news_tl (news_tl (by k_asm)))))) hoI2 hsv ⟨rfl, rfl, rfl, rfl, rfl, rfl, rfl, ⟨_, rfl⟩, ⟨_, rfl⟩⟩
              · rw [decide_eq_false hlt] at hbv
                subst hbv
                k_steps
                refine tend_room (by k_asm) (news_tl (news_tl (news_tl (news_tl (news_tl (by k_asm)))))) hoI2 hsv ⟨rfl, rfl, rfl, rfl, rfl, rfl, rfl, ⟨_, rfl⟩, ⟨_, rfl⟩⟩
        case doneP_q =>
          rintro mP nx2 h7 tk7 ⟨rfl, hNm⟩ FP NP
          obtain ⟨t3, t4, hmm⟩ := mR_eq hNm
          rw [hmm] at FP
          clear hNm hmm
          have hAG : Apart nx2 := hG ▸ hA6
          k_steps
          refine ctr.new_ok (by assumption) (by k_asm) (by assumption) (by assumption) (by k_asm) hAG rfl hrI ?_
          intro cj dj ddj ooj Lj h8 tk8 F8 N8 hA8 hCj
          have hflj := List.mem_append_right Lj (List.mem_append_right [] hfl4)
          have hscj := List.mem_append_right Lj (List.mem_append_right [] hsc4)
          generalize hGj : Lj ++ ([] ++ nx2) = Gj at N8 hflj hscj
          k_steps
          rename (∀ p ∈ Gj, _) => lD
          rename (News _ _ _ (_ :: Gj)) => NJ
          rename (IntsAre _ (ns ++ ns2)) => hIJ
          subst hGj
          refine ctr.served_ok (by assumption) (by k_asm) (by assumption) (by assumption) (by assumption) (by assumption) (news_perm NJ push2) rfl (apart_perm (l := (_, _) :: _) ⟨fun q hq => Nat.ne_of_lt (lD q hq), hA8⟩ push2) hCj List.mem_cons_self hIJ (by rw [List.length_append]; omega) ⟨by omega, by omega⟩ hrN ?_
          intro jo jon Lj2 vj h9 tk9 F9 N9 hA9 hC9
          replace N9 := news_sub N9 sub_tail
          replace hA9 := apart_sub hA9 sub_tail
          rw [serve_cat] at N9 hA9
          have hjo5 : (jo, W.listOf (boolsV ((serve (i + 1) ([], []) ns).2 ++ (serve (i + 1) ((serve (i + 1) ([], []) ns).1, []) ns2).2)).toArray jon) ∈ (jo, W.listOf (boolsV ((serve (i + 1) ([], []) ns).2 ++ (serve (i + 1) ((serve (i + 1) ([], []) ns).1, []) ns2).2)).toArray jon) :: nx2 := List.mem_cons_self
          generalize hpj : (jo, W.listOf (boolsV ((serve (i + 1) ([], []) ns).2 ++ (serve (i + 1) ((serve (i + 1) ([], []) ns).1, []) ns2).2)).toArray jon) = pj at N9 hA9 hjo5
          have hfl5 := List.mem_cons_of_mem pj hfl4
          have hsc5 := List.mem_cons_of_mem pj hsc4
          have hbe5 := List.mem_cons_of_mem pj hbe4
          have hal5 := List.mem_cons_of_mem pj hal4
          have hah5 := List.mem_cons_of_mem pj hah4
          generalize hGk : pj :: nx2 = Gk at N9 hA9 hjo5 hfl5 hsc5 hbe5 hal5 hah5
          have hpm : Gk.Perm (L4 ++ (vb ++ (L4' ++ (va ++ (pj :: R3))))) := by rw [← hGk, ← hG]; exact push4.trans swap4
          have hcnt : Hold _ := cnt_all (n := i + 1) hrN.1 ns ns2
          subst hpj
          have hz1 : (serve (i + 1) ([], []) ns).2.length = ns.length := by rw [serve_len]; simp
          have hz2 : (serve (i + 1) ((serve (i + 1) ([], []) ns).1, []) ns2).2.length = ns2.length := by rw [serve_len]; simp
          have N9d := news_dup (news_dup (news_dup (news_dup (news_dup N9 hsc5) (.tail _ hfl5)) (.tail _ (.tail _ hal5))) (.tail _ (.tail _ (.tail _ hah5)))) (.tail _ (.tail _ (.tail _ (.tail _ hjo5))))
          clear N9
          k_steps
          · exfalso
            rename (_ ≠ _) => hne
            exact hne (of_hold' hcnt)
          · clear hcnt
            refine ctr.given_ok (by assumption) (by k_asm) (by assumption) (by assumption) (news_perm (l := Gk) (news_tl (news_tl (news_tl (news_tl (news_tl (news_tl (by k_asm))))))) hpm) rfl (apart_perm hA9 hpm) hC5 hrN ?_
            intro wh wvs L5 h10 tk10 F10 N10 hA10 hC10 hIw
            replace N10 := news_perm N10 (push4.trans swap4)
            replace hA10 := apart_perm hA10 (push4.trans swap4)
            k_steps
            refine ctr.given_ok (by assumption) (by k_asm) (by assumption) (by assumption) (by k_asm) rfl hA10 hC6 hrN ?_
            intro ti tvs L6 h11 tk11 F11 N11 hA11 hC11 hIt
            obtain ⟨u1, u2, u3, u4, uc, ur, od5, ord5, kv5, rfl, hod5, hord5, hmem5, hkl5, hV5, hnd5, hle5, lod5, loo5⟩ := hC10
            obtain ⟨v1, v2, v3, v4, vc, vr, od6, ord6, kv6, rfl, hod6, hord6, hmem6, hkl6, hV6, hnd6, hle6, lod6, loo6⟩ := hC11
            obtain rfl : kv5 = [] := List.length_eq_zero_iff.mp hkl5
            obtain rfl : kv6 = [] := List.length_eq_zero_iff.mp hkl6
            have N12 := news_heads N11 hR1 hR2 hR3 hfl0 hsc0
            obtain ⟨Wk, Tk, hIw', hIt', hdr, hlw, hwn, hWn, htl, hwl⟩ := last_facts (n := i + 1) hrN.1 ns ns2 hIw hIt
            have hdl1 := dl_le ns2
            have hdl2 := dl_le (ns ++ ns2)
            rw [List.length_append] at hdl2
            clear N11 hIw hIt hpm hA9 hA10 hA11 hA8 hAG hA6 hA5 hA4 hjo5 hfl5 hsc5 hbe5 hal5 hah5 hfl4 hsc4 hbe4 hal4 hah4 hfl0 hsc0 hah1 hbe1 hal1
            have hzz : (ns ++ ns2).length ≤ 1000 := by rw [List.length_append]; omega
            k_steps
            subst hR0
            refine tend_R (by k_asm) ?N_q hoI rfl rfl hAR hfl hsc
            case N_q =>
              rename (News _ _ _ _) => NL
              exact fun p hp => NL p (by repeat (first | exact hp | refine List.mem_cons_of_mem _ ?_))
      case doneR_q =>
        rintro mD nx h6 tk6 ⟨fl, sc, fn, cn, e1, e2, hAR, hfl, hsc⟩ FD ND
        have e1'' : (fun y => if y = Str.ofString "second" then some (Value.ref sc) else mD y) (Str.ofString "first") = some (.ref fl) := by
          rw [← e1]; exact if_neg (by decide)
        replace FD := fr_name (fr_name FD e2) e1''
        clear e1 e2 e1''
        have hzz : (ns ++ ns2).length ≤ 16 := by rw [List.length_append, hl2, hl3]; omega
        have hzy : (ns ++ ns2).length ≤ 1000 := Nat.le_trans hzz (by decide)
        have hyl : ys.length ≤ 8 := by rw [hI2.length]; omega
        have hyl2 : ys2.length ≤ 8 := by rw [hI3.length]; omega
        have hbb : ∀ x ∈ ns ++ ns2, 0 ≤ x ∧ x < 5 := fun x hx => (List.mem_append.mp hx).elim (hb2 x) (hb3 x)
        have h5i : ((serve 5 ([], []) (ns ++ ns2)).2.count false : Int) = (dl (ns ++ ns2) : Int) := by rw [cnt_five (ns ++ ns2) hbb]
        have hz64 : ns.length + ns2.length ≤ 64 := by omega
        k_steps
        refine ctr.new_ok (by assumption) (by k_asm) (by assumption) (by assumption) (by k_asm) hAR rfl ⟨by omega, by omega⟩ ?_
        intro cj dj ddj ooj Lj h8 tk8 F8 N8 hA8 hCj
        have hflj := List.mem_append_right Lj (List.mem_append_right [] hfl)
        have hscj := List.mem_append_right Lj (List.mem_append_right [] hsc)
        generalize hGj : Lj ++ ([] ++ nx) = Gj at N8 hflj hscj
        k_steps
        rename (∀ p ∈ Gj, _) => lD
        rename (News _ _ _ (_ :: Gj)) => NJ
        rename (IntsAre _ (ns ++ ns2)) => hIJ
        subst hGj
        have hCj' : CacheAt _ cj dj ddj ooj ((5 : Nat) : Int) [] 2 Lj [] := hCj
        refine ctr.served_ok (room := 5) (by assumption) (by k_asm) (by assumption) (by assumption) (by assumption) (by assumption) (news_perm NJ push2) rfl (apart_perm (l := (_, _) :: _) ⟨fun q hq => Nat.ne_of_lt (lD q hq), hA8⟩ push2) hCj' List.mem_cons_self hIJ hzz ⟨by omega, by omega⟩ ⟨by omega, by omega⟩ ?_
        intro jo jon Lj2 vj h9 tk9 F9 N9 hA9 hC9
        replace N9 := news_sub N9 sub_tail
        have N9d := news_dup (news_dup N9 (.tail _ hsc)) (.tail _ (.tail _ hfl))
        clear N9 hC9 hA9
        k_steps
end Mine
theorem PySem.Challenge.cw_fc0034_01_holds : PySem.Challenge.rw_fc0034_01.Holds :=
  Mine.law_holds
