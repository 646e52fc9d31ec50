import PyProof.Rows.All
import Wide.All
import OpenK.AllK
import Wide.FinOn
import PySem.Challenge.RW_ij0018_01
set_option Elab.async false
set_option compiler.extract_closed false
section
open PySem PySem.W PyProof.Rows
namespace Mine
set_option maxRecDepth 100000 in
set_option maxHeartbeats 8000000 in
open_top hd for PySem.Challenge.rw_ij0018_01
end Mine
end
section
open PySem PySem.W PyProof.Rows
namespace Mine

abbrev Led := List (Addr × Obj)

/-- what a call of a def of the text does, whoever calls it -/
abbrev Does (w : World) (f : Addr) (args : List Value) (D U : Nat) (news : Led) (Post : Led → Value → Prop) : Prop :=
  ∀ (p : Program) (loose : List Str) (mean : ExcName → Option Value) (mg mb : Str → Option Value) (dp un : Nat) (gd : Option (List Code)) (cn : Str) (cs : Scope) (a : Addr) (ccd : Value) (cl : List (Str × Addr)) (outer : List Env) (A₀ : Around) (base h₀ : Heap) (L : Addr) (m : Str → Option Value) (s : Shared)
    (Q E : Value → Shared → Prop),
    Below A₀ base outer h₀ → Fr h₀ L s.heap m → (Mine.hd.heap_39 w.params).In h₀ → News h₀ L s.heap news → Top p loose mean mg mb h₀ → cs.kind = .function → dp + D < recursionLimit → un + U < cLine →
    (∀ r h' news' tk', Fr h₀ L h' m → News h₀ L h' news' → Post news' r → Q r { s with heap := h', toks := tk' }) →
    wpAny (model PySem.Challenge.rw_ij0018_01.row.prog w) (ktrTop dp un gd cn cs L a ccd cl outer) (call (.ref f) args) Q E s

theorem Does.use {w : World} {f : Addr} {args : List Value} {D U : Nat} {news : Led} {Post : Led → Value → Prop} (C : Does w f args D U news Post)
    {p : Program} {loose : List Str} {mean : ExcName → Option Value} {mg mb : Str → Option Value} {dp un : Nat} {gd : Option (List Code)} {cn : Str} {cs : Scope} {a : Addr} {ccd : Value} {cl : List (Str × Addr)} {outer : List Env} {A₀ : Around} {base h₀ : Heap} {L : Addr} {m : Str → Option Value} {s : Shared}
    {Q E : Value → Shared → Prop} (B : Below A₀ base outer h₀) (F : Fr h₀ L s.heap m) (X : (Mine.hd.heap_39 w.params).In h₀) (N : News h₀ L s.heap news) (T : Top p loose mean mg mb h₀) (hk : cs.kind = .function) (hd : dp + D < recursionLimit) (hu : un + U < cLine)
    (ret : ∀ r h' news' tk', Fr h₀ L h' m → News h₀ L h' news' → Post news' r → Q r { s with heap := h', toks := tk' }) :
    wpAny (model PySem.Challenge.rw_ij0018_01.row.prog w) (ktrTop dp un gd cn cs L a ccd cl outer) (call (.ref f) args) Q E s :=
  C p loose mean mg mb dp un gd cn cs a ccd cl outer A₀ base h₀ L m s Q E B F X N T hk hd hu ret

/-- a frame's map of which some names are known -/
noncomputable def ov (m : Str → Option Value) : List (Str × Value) → Str → Option Value
  | [], y => m y
  | (x, v) :: r, y => if y = x then some v else ov m r y
noncomputable def Has (m : Str → Option Value) : List (Str × Value) → Prop
  | [] => True
  | (x, v) :: r => m x = some v ∧ Has m r
theorem ov_eq {m : Str → Option Value} : ∀ {ps : List (Str × Value)}, Has m ps → m = ov m ps
  | [], _ => rfl
  | (x, v) :: r, h => by
    funext y
    have e := congrFun (ov_eq (ps := r) h.2) y
    rw [ov]
    by_cases hy : y = x
    · rw [if_pos hy, hy]; exact h.1
    · rw [if_neg hy]; exact e
theorem Has.fr {h₀ h : Heap} {L : Addr} {m : Str → Option Value} {ps : List (Str × Value)} (hm : Has m ps) (F : Fr h₀ L h m) : Fr h₀ L h (ov m ps) := by
  rw [← ov_eq hm]; exact F
theorem News.sub {h₀ h : Heap} {L : Addr} {l l' : Led} (N : News h₀ L h l') (k : ∀ p ∈ l, p ∈ l') : News h₀ L h l := fun p hp => N p (k p hp)
theorem News.lt {h₀ h : Heap} {L : Addr} {l : Led} (N : News h₀ L h l) : ∀ p ∈ l, p.1 < h.objs.size := fun p hp => Heap.lt_size (N p hp).1
theorem allLt_mem {d : Addr} {l : Led} (h : AllLt d l) : ∀ p ∈ l, p.1 < d := by
  induction l with
  | nil => intro p hp; cases hp
  | cons a r ih =>
    intro p hp
    rcases List.mem_cons.mp hp with e | hp
    · rw [e]; exact h.1
    · exact ih h.2 p hp
end Mine
end
section
open PySem PySem.W PyProof.Rows
namespace Mine
noncomputable abbrev tupObj (vs : List Value) (n : Nat) : Obj := { cls := .type "tuple", data := .seq vs.toArray n }
theorem DatIn.tup {I : Led} {v : Value} {ds : List Dat} (h : DatIn I v (.tuple ds)) : ∃ a vs n, v = .ref a ∧ (a, tupObj vs n) ∈ I ∧ DatAll I vs ds := by
  cases h with
  | tuple hm hd => exact ⟨_, _, _, rfl, hm, hd⟩
theorem DatIn.lst {I : Led} {v : Value} {ds : List Dat} (h : DatIn I v (.list ds)) : ∃ a vs n, v = .ref a ∧ (a, listOf vs.toArray n) ∈ I ∧ DatAll I vs ds := by
  cases h with
  | list hm hd => exact ⟨_, _, _, rfl, hm, hd⟩
theorem DatIn.strV {I : Led} {v : Value} {x : Str} (h : DatIn I v (.str x)) : ∃ t, v = .str x t := by
  cases h with
  | str _ t => exact ⟨t, rfl⟩
section
variable {prog : Program} {w : World} {A : Around} {E : Value → Shared → Prop} {s : Shared} {h₀ : Heap} {L : Addr} {m : Str → Option Value} {news : List (Addr × Obj)}

theorem tup_item {value slice : PySem.Expr} {t : Addr} {l : List Value} {n : Nat} {k : Int} {u : Tok} {x : Value} {Q : Value → Shared → Prop} (N : News h₀ L s.heap news) (hm : (t, tupObj l n) ∈ news)
    (h0 : 0 ≤ k) (hk : k < 2 ^ 63) (hx : l[k.toNat]? = some x) (h : Q x s)
    (hs : subscripted slice false (.ref t) (.int k u) = operate [.ref t, .int k u] (getItem (.ref t) (.int k u)) := by with_unfolding_all rfl) :
    wpAny (model prog w) A (subscriptTail value slice (.ref t) (.int k u)) Q E s := by
  have hlt : k.toNat < l.length := (List.getElem?_eq_some_iff.mp hx).1
  refine item_tupleT (l := l) (j := k.toNat) (News.isTup N hm) (by omega) hk ?_ hx h hs
  have h1 : ¬ k < 0 := by omega
  simp only [seqIndex?, if_neg h1]
  rw [if_pos (by simp only [Bool.and_eq_true, decide_eq_true_eq]; omega)]
theorem add_tup {t b : Addr} {vs ws : List Value} {n k : Nat} {Q : Value → Shared → Prop} (F : Fr h₀ L s.heap m) (N : News h₀ L s.heap news) (ht : (t, tupObj vs n) ∈ news) (hb : (b, tupObj ws k) ∈ news) (hv : vs ≠ [])
    (h : ∀ D h' tl j, Fr h₀ L h' m → News h₀ L h' (tl ++ news) → (∀ q ∈ tl, ∀ p ∈ news, p.1 < q.1) → (D, tupObj (vs ++ ws) j) ∈ tl ++ news → (D = t ∨ ∀ p ∈ news, p.1 < D) → Q (.ref D) { s with heap := h' })
    (hsz : vs.length + ws.length ≤ sizeLine) :
    wpAny (model prog w) A (binaryOp .Add (.ref t) (.ref b)) Q E s := by
  refine add_tuples F N (News.isTup N ht) (News.isTup N hb) (fun e => absurd e hv) (fun _ e => ?_) (fun _ _ h' F' N' => ?_) hsz
  · refine h t s.heap [] n F N (fun _ hq => nomatch hq) ?_ (.inl rfl)
    rw [e, List.append_nil]; exact ht
  · refine h _ h' [_] 0 F' N' (fun q hq p hp => ?_) (.head _) (.inr fun p hp => News.lt N p hp)
    rw [List.mem_singleton.mp hq]
    exact News.lt N p hp
end
end Mine
end
section
open PySem PySem.W PyProof.Rows PyProof.Rows.LCg
namespace Mine

/-- an iterator, told by its own object and what of the ledger it needs -/
structure Src (prog : Program) (w : World) (A : Around) (target : PySem.Expr) (I : Addr) (n : Nat) (P : Nat → Value → Prop) (need : Led) (It : Nat → Obj → Prop) : Prop where
  item : ∀ i (s : Shared) (o : Obj) (Q : Option Value → Shared → Prop) (E : Value → Shared → Prop), i < n → s.heap.get? I = some o → It i o → (∀ p ∈ need, s.heap.get? p.1 = some p.2) →
    (∀ v h' o' tk, P i v → h'.get? I = some o' → It (i + 1) o' → (∀ b x, b ≠ I → s.heap.get? b = some x → h'.get? b = some x) → Q (some v) { s with heap := h', toks := tk }) → wpAny (model prog w) A (pyNext (.ref I)) Q E s
  done : ∀ (s : Shared) (o : Obj) (Q : Option Value → Shared → Prop) (E : Value → Shared → Prop), s.heap.get? I = some o → It n o → (∀ p ∈ need, s.heap.get? p.1 = some p.2) →
    (∀ h' tk, (∀ b x, b ≠ I → s.heap.get? b = some x → h'.get? b = some x) → Q none { s with heap := h', toks := tk }) → wpAny (model prog w) A (pyNext (.ref I)) Q E s
  go : ∀ i v (s : Shared) (o : Obj) (Q : Unit → Shared → Prop) (E : Value → Shared → Prop), P i v → s.heap.get? I = some o → It (i + 1) o → Q () s → wpAny (model prog w) A (letOwnedTupleGo target (.ref I) v) Q E s
  self : ∀ i (s : Shared) (o : Obj) (Q : Value → Shared → Prop) (E : Value → Shared → Prop), s.heap.get? I = some o → It i o → Q (.ref I) s → wpAny (model prog w) A (pyIter (.ref I)) Q E s

section
variable {prog : Program} {w : World} {A : Around} {target : PySem.Expr} {I : Addr}

theorem Src.ofWalks {fp : List Addr} {n : Nat} {P : Nat → Value → Prop} {St : Nat → Heap → Prop} {need : Led} {It : Nat → Obj → Prop} (W : Walks prog w A I fp [I] n P St)
    (h1 : ∀ i h o, h.get? I = some o → It i o → (∀ p ∈ need, h.get? p.1 = some p.2) → St i h) (h2 : ∀ i h, St i h → ∃ o, h.get? I = some o ∧ It i o)
    (hgo : ∀ i v (s : Shared) (o : Obj) (Q : Unit → Shared → Prop) (E : Value → Shared → Prop), P i v → s.heap.get? I = some o → It (i + 1) o → Q () s → wpAny (model prog w) A (letOwnedTupleGo target (.ref I) v) Q E s)
    (hself : ∀ i (s : Shared) (o : Obj) (Q : Value → Shared → Prop) (E : Value → Shared → Prop), s.heap.get? I = some o → It i o → Q (.ref I) s → wpAny (model prog w) A (pyIter (.ref I)) Q E s) :
    Src prog w A target I n P need It where
  item := fun i s o Q E hi ho hIt hn hQ => W.item i s Q E hi (h1 i _ o ho hIt hn) fun v h' tk hP st hk => by
    obtain ⟨o', ho', hIt'⟩ := h2 _ _ st
    exact hQ v h' o' tk hP ho' hIt' fun b x hb e => hk b x (fun h => hb (List.mem_singleton.mp h)) e
  done := fun s o Q E ho hIt hn hQ => W.done s Q E (h1 n _ o ho hIt hn) fun h' tk hk => hQ h' tk fun b x hb e => hk b x (fun h => hb (List.mem_singleton.mp h)) e
  go := hgo
  self := hself

theorem go_name {x : Str} {px : Pos} {v : Value} {s : Shared} {Q : Unit → Shared → Prop} {E : Value → Shared → Prop} (h : Q () s) : wpAny (model prog w) A (letOwnedTupleGo (.Name x px) (.ref I) v) Q E s :=
  wpAny_pure h

/-- the items of a list -/
theorem Src.list (hh : A.handled = none) {l : Addr} (hne : l ≠ I) (vs : List Value) (n : Nat) (htar : (∃ x px, target = .Name x px) ∨ ((∃ es k ps, target = .Tuple es k ps) ∧ ∀ v ∈ vs, ∃ T, v = .ref T)) :
    Src prog w A target I vs.length (fun i v => vs[i]? = some v) [(l, listOf vs.toArray n)] (fun i o => o.cls = .type "list_iterator" ∧ o.data = .fields #[.ref l, .int i 0]) := by
  have W := Walks.list (prog := prog) (w := w) hh I l hne vs.toArray
  have hlen : vs.toArray.size = vs.length := by simp
  rw [hlen] at W
  have hP : (fun (i : Nat) (v : Value) => vs.toArray[i]? = some v) = fun i v => vs[i]? = some v := by funext i v; simp
  rw [hP] at W
  refine Src.ofWalks W (fun i h o ho hIt hn => ⟨⟨o, ho, hIt⟩, ⟨_, hn _ (.head _), rfl, n, rfl⟩⟩) (fun i h st => st.1) ?_ ?_
  · intro i v s o Q E hv ho hIt hQ
    rcases htar with ⟨x, px, rfl⟩ | ⟨⟨es, k, ps, rfl⟩, hr⟩
    · exact go_name hQ
    · obtain ⟨T, rfl⟩ := hr v (List.mem_of_getElem? hv)
      exact wpAny_letOwnedTupleGo_listiter (l := l) (i := i + 1) ⟨o, ho, hIt⟩ hQ
  · intro i s o Q E ho hIt hQ
    exact wpAny_pyIter_listiter (l := l) (i := i) ⟨o, ho, hIt⟩ hQ

/-- the items of a tuple -/
theorem Src.tuple (hh : A.handled = none) {t : Addr} (hne : t ≠ I) (vs : List Value) (n : Nat) (htar : ∃ x px, target = .Name x px) :
    Src prog w A target I vs.length (fun i v => vs[i]? = some v) [(t, tupObj vs n)] (fun i o => o.cls = .type "tuple_iterator" ∧ o.data = .fields #[.ref t, .int i 0]) := by
  have W := Walks.tuple (prog := prog) (w := w) hh I t hne vs.toArray
  have hlen : vs.toArray.size = vs.length := by simp
  rw [hlen] at W
  have hP : (fun (i : Nat) (v : Value) => vs.toArray[i]? = some v) = fun i v => vs[i]? = some v := by funext i v; simp
  rw [hP] at W
  refine Src.ofWalks W (fun i h o ho hIt hn => ⟨⟨o, ho, hIt⟩, ⟨_, hn _ (.head _), rfl, n, rfl⟩⟩) (fun i h st => st.1) ?_ ?_
  · intro i v s o Q E hv ho hIt hQ
    obtain ⟨x, px, rfl⟩ := htar
    exact go_name hQ
  · intro i s o Q E ho hIt hQ
    exact wpAny_pyIter_tupleiter (t := t) (i := i) ⟨o, ho, hIt⟩ hQ
end

/-- the end of a turn of a for -/
def TurnEnd (h₀ : Heap) (L I : Addr) (oI : Obj) (need : Led) (J : (Str → Option Value) → Led → Prop) (s : Shared) (Q : Flow → Shared → Prop) (f : Flow) (s₃ : Shared) : Prop :=
  match f with
  | .next | .cont => ∃ h' tk m' nx, s₃ = { s with heap := h', toks := tk } ∧ Fr h₀ L h' m' ∧ News h₀ L h' ((I, oI) :: nx) ∧ (∀ p ∈ nx, p.1 ≠ I) ∧ (∀ p ∈ need, p ∈ nx) ∧ J m' nx
  | .brk => Q .next s₃
  | .ret v => Q (.ret v) s₃

section
variable {prog : Program} {w : World} {A : Around} {E : Value → Shared → Prop} {Q : Flow → Shared → Prop} {s : Shared} {env : Env} {h₀ : Heap} {target : PySem.Expr} {body orelse : List Stmt}

theorem fr_but1 {h h' : Heap} {L I : Addr} {m : Str → Option Value} (F : Fr h₀ L h m) (hL : L ≠ I) (hI : h₀.get? I = none) (hk : ∀ b x, b ≠ I → h.get? b = some x → h'.get? b = some x) : Fr h₀ L h' m :=
  ⟨F.ns.at' fun o e => hk _ o hL e, fun b o e => hk b o (fun q => by rw [q, hI] at e; cases e) (F.keep b o e), F.above⟩
theorem news_but1 {h h' : Heap} {L I : Addr} {nx : Led} (N : News h₀ L h nx) (off : ∀ p ∈ nx, p.1 ≠ I) (hk : ∀ b x, b ≠ I → h.get? b = some x → h'.get? b = some x) : News h₀ L h' nx :=
  fun p hp => ⟨hk _ _ (off p hp) (N p hp).1, (N p hp).2⟩

theorem for_src {I : Addr} {n : Nat} {P : Nat → Value → Prop} {need : Led} {It : Nat → Obj → Prop} {o₀ : Obj} {m : Str → Option Value} {news : Led} {R : Result → Shared → Prop}
    (S : Src prog w A target I n P need It) (hIL : env.locals ≠ I) (hI0 : h₀.get? I = none) (hoI : s.heap.get? I = some o₀) (hIt : It 0 o₀)
    (F : Fr h₀ env.locals s.heap m) (N : News h₀ env.locals s.heap news) (hneed : ∀ p ∈ need, p ∈ news) (off : ∀ p ∈ news, p.1 ≠ I) (J : Nat → (Str → Option Value) → Led → Prop) (hJ : J 0 m news)
    (turn : ∀ i v m₁ nx h tk oI, i < n → P i v → J i m₁ nx → (∀ p ∈ need, p ∈ nx) → Fr h₀ env.locals h m₁ → News h₀ env.locals h ((I, oI) :: nx) → (∀ p ∈ nx, p.1 ≠ I) →
      wpAny (model prog w) A (assign target env v) (fun _ s₂ => wpAny (model prog w) A (execs body env) (TurnEnd h₀ env.locals I oI need (J (i + 1)) s (fun f s' => R (.ok f) s')) (notedBy (model prog w) A env fun e s' => R (.error e) s') s₂)
        (notedBy (model prog w) A env fun e s' => R (.error e) s') { s with heap := h, toks := tk })
    (done : ∀ m₁ nx h tk, J n m₁ nx → (∀ p ∈ need, p ∈ nx) → Fr h₀ env.locals h m₁ → News h₀ env.locals h nx →
      wpAny (model prog w) A (execs orelse env) (fun f s₃ => R (.ok f) s₃) (notedBy (model prog w) A env fun e s' => R (.error e) s') { s with heap := h, toks := tk }) :
    codeAny (model prog w) A (.forLoop target (.ref I) body orelse env) R s := by
  refine codeAny_forLoop_any
    (fun k s' => ∃ h' tk m' nx oI i, s' = { s with heap := h', toks := tk } ∧ h'.get? I = some oI ∧ It i oI ∧ Fr h₀ env.locals h' m' ∧ News h₀ env.locals h' nx ∧ (∀ p ∈ nx, p.1 ≠ I) ∧ (∀ p ∈ need, p ∈ nx) ∧ J i m' nx ∧ i ≤ n ∧ k = n + 1 - i) ?_ (n + 1)
    ⟨s.heap, s.toks, m, news, o₀, 0, rfl, hoI, hIt, F, N, off, hneed, hJ, Nat.zero_le _, rfl⟩
  rintro k s' ⟨h', tk, m', nx, oI, i, rfl, hoI', hIt', F', N', off', hneed', hJ', hi, rfl⟩
  by_cases hlt : i < n
  · refine S.item i _ _ _ _ hlt hoI' hIt' (fun p hp => (N' p (hneed' p hp)).1) fun v h₁ o₁ tk₁ hP ho₁ hIt₁ hk₁ => ?_
    have F₁ := fr_but1 F' hIL hI0 hk₁
    have N₁ := news_but1 N' off' hk₁
    refine S.go i v _ o₁ _ _ hP ho₁ hIt₁ ?_
    have N₂ : News h₀ env.locals h₁ ((I, o₁) :: nx) := by
      intro p hp
      rcases List.mem_cons.mp hp with rfl | hp
      · exact ⟨ho₁, Ne.symm hIL, hI0⟩
      · exact N₁ p hp
    refine wpAny_mono (turn i v m' nx h₁ tk₁ o₁ hlt hP hJ' hneed' F₁ N₂ off') (fun _ s₂ h₂ => wpAny_mono h₂ (fun f s₃ h₃ => ?_) fun _ _ e => e) fun _ _ e => e
    cases f with
    | ret v => exact h₃
    | brk => exact h₃
    | cont =>
      obtain ⟨h₃', tk₃, m₃, nx₃, rfl, F₃, N₃, off₃, hneed₃, hJ₃⟩ := h₃
      exact ⟨n + 1 - (i + 1), by omega, h₃', tk₃, m₃, nx₃, o₁, i + 1, rfl, (N₃ _ (.head _)).1, hIt₁, F₃, News.sub N₃ fun p hp => .tail _ hp, off₃, hneed₃, hJ₃, hlt, rfl⟩
    | next =>
      obtain ⟨h₃', tk₃, m₃, nx₃, rfl, F₃, N₃, off₃, hneed₃, hJ₃⟩ := h₃
      exact ⟨n + 1 - (i + 1), by omega, h₃', tk₃, m₃, nx₃, o₁, i + 1, rfl, (N₃ _ (.head _)).1, hIt₁, F₃, News.sub N₃ fun p hp => .tail _ hp, off₃, hneed₃, hJ₃, hlt, rfl⟩
  · have hin : i = n := by omega
    subst hin
    refine S.done _ _ _ _ hoI' hIt' (fun p hp => (N' p (hneed' p hp)).1) fun h₁ tk₁ hk₁ => ?_
    exact done m' nx h₁ tk₁ hJ' hneed' (fr_but1 F' hIL hI0 hk₁) (news_but1 N' off' hk₁)

/-- where a for stands when its iterable is reckoned -/
def ForAt (prog : Program) (w : World) (A : Around) (E : Value → Shared → Prop) (Q : Flow → Shared → Prop) (env : Env) (target : PySem.Expr) (body orelse : List Stmt) (xv : Value) (s₁ : Shared) : Prop :=
  wpAny (model prog w) A (pyIter xv) (fun it s₂ => codeAny (model prog w) A (.forLoop target it body orelse env) (fun r s' => match r with | .ok f => Q f s' | .error e => cameBackBy (model prog w) A env E e s') s₂) E s₁

theorem For_open {iter : PySem.Expr} {pos : Pos} (h : wpAny (model prog w) A (eval iter env) (ForAt prog w A E Q env target body orelse) E s)
    (hs : ∀ x, foldedSetIterable iter env x = pure x := by intro _; rfl) : wpAny (model prog w) A (exec (.For target iter body orelse pos) env) Q E s :=
  wpAny_For h hs

theorem ForAt_list {l : Addr} {vs : List Value} {n : Nat} {m : Str → Option Value} {news : Led} (hh : A.handled = none) (F : Fr h₀ env.locals s.heap m) (N : News h₀ env.locals s.heap news) (hl : (l, listOf vs.toArray n) ∈ news)
    (htar : (∃ x px, target = .Name x px) ∨ ((∃ es k ps, target = .Tuple es k ps) ∧ ∀ v ∈ vs, ∃ T, v = .ref T))
    (J : Nat → (Str → Option Value) → Led → Prop) (hJ : J 0 m news)
    (turn : ∀ i v m₁ nx h tk I oI, vs[i]? = some v → J i m₁ nx → (l, listOf vs.toArray n) ∈ nx → Fr h₀ env.locals h m₁ → News h₀ env.locals h ((I, oI) :: nx) → (∀ p ∈ nx, p.1 ≠ I) →
      wpAny (model prog w) A (assign target env v) (fun _ s₂ => wpAny (model prog w) A (execs body env) (TurnEnd h₀ env.locals I oI [(l, listOf vs.toArray n)] (J (i + 1)) s Q) E s₂) E { s with heap := h, toks := tk })
    (done : ∀ m₁ nx h tk, J vs.length m₁ nx → (l, listOf vs.toArray n) ∈ nx → Fr h₀ env.locals h m₁ → News h₀ env.locals h nx → wpAny (model prog w) A (execs orelse env) Q E { s with heap := h, toks := tk })
    (hE : PassesOwn (model prog w) A env E := by passes_own) : ForAt prog w A E Q env target body orelse (.ref l) s := by
  have hol : s.heap.get? l = some (listOf vs.toArray n) := (N _ hl).1
  have hls : s.heap.IsList l vs.toArray := ⟨_, hol, rfl, n, rfl⟩
  have hne : l ≠ s.heap.objs.size := Nat.ne_of_lt (Heap.lt_size hol)
  unfold ForAt
  refine wpAny_pyIter_list hls ?_
  have S := Src.list (prog := prog) (w := w) (target := target) (I := s.heap.objs.size) hh hne vs n htar
  refine for_src S (Nat.ne_of_lt F.ns.lt) (next_is_new F) (Heap.get?_push_size _ rfl) ⟨rfl, rfl⟩ (F.push _) (fun p hp => ⟨Heap.get?_push_of_some _ (N p hp).1, (N p hp).2⟩) (fun p hp => by rw [List.mem_singleton.mp hp]; exact hl)
    (fun p hp => Nat.ne_of_lt (Heap.lt_size (N p hp).1)) J hJ ?_ ?_
  · intro i v m₁ nx h tk oI _ hv hJ' hn F₁ N₁ off
    exact wpAny_mono (turn i v m₁ nx h tk _ oI hv hJ' (hn _ (.head _)) F₁ N₁ off) (fun _ s₂ h₂ => wpAny_passesOwn hE h₂) hE
  · intro m₁ nx h tk hJ' hn F₁ N₁
    exact wpAny_passesOwn hE (done m₁ nx h tk hJ' (hn _ (.head _)) F₁ N₁)

theorem ForAt_tuple {t : Addr} {vs : List Value} {n : Nat} {m : Str → Option Value} {news : Led} (hh : A.handled = none) (F : Fr h₀ env.locals s.heap m) (N : News h₀ env.locals s.heap news) (hl : (t, tupObj vs n) ∈ news)
    (htar : ∃ x px, target = .Name x px)
    (J : Nat → (Str → Option Value) → Led → Prop) (hJ : J 0 m news)
    (turn : ∀ i v m₁ nx h tk I oI, vs[i]? = some v → J i m₁ nx → (t, tupObj vs n) ∈ nx → Fr h₀ env.locals h m₁ → News h₀ env.locals h ((I, oI) :: nx) → (∀ p ∈ nx, p.1 ≠ I) →
      wpAny (model prog w) A (assign target env v) (fun _ s₂ => wpAny (model prog w) A (execs body env) (TurnEnd h₀ env.locals I oI [(t, tupObj vs n)] (J (i + 1)) s Q) E s₂) E { s with heap := h, toks := tk })
    (done : ∀ m₁ nx h tk, J vs.length m₁ nx → (t, tupObj vs n) ∈ nx → Fr h₀ env.locals h m₁ → News h₀ env.locals h nx → wpAny (model prog w) A (execs orelse env) Q E { s with heap := h, toks := tk })
    (hE : PassesOwn (model prog w) A env E := by passes_own) : ForAt prog w A E Q env target body orelse (.ref t) s := by
  have hol : s.heap.get? t = some (tupObj vs n) := (N _ hl).1
  have hls : s.heap.IsTuple t vs.toArray := ⟨_, hol, rfl, n, rfl⟩
  have hne : t ≠ s.heap.objs.size := Nat.ne_of_lt (Heap.lt_size hol)
  unfold ForAt
  refine wpAny_pyIter_tuple hls ?_
  have S := Src.tuple (prog := prog) (w := w) (target := target) (I := s.heap.objs.size) hh hne vs n htar
  refine for_src S (Nat.ne_of_lt F.ns.lt) (next_is_new F) (Heap.get?_push_size _ rfl) ⟨rfl, rfl⟩ (F.push _) (fun p hp => ⟨Heap.get?_push_of_some _ (N p hp).1, (N p hp).2⟩) (fun p hp => by rw [List.mem_singleton.mp hp]; exact hl)
    (fun p hp => Nat.ne_of_lt (Heap.lt_size (N p hp).1)) J hJ ?_ ?_
  · intro i v m₁ nx h tk oI _ hv hJ' hn F₁ N₁ off
    exact wpAny_mono (turn i v m₁ nx h tk _ oI hv hJ' (hn _ (.head _)) F₁ N₁ off) (fun _ s₂ h₂ => wpAny_passesOwn hE h₂) hE
  · intro m₁ nx h tk hJ' hn F₁ N₁
    exact wpAny_passesOwn hE (done m₁ nx h tk hJ' (hn _ (.head _)) F₁ N₁)
end
end Mine
end
section
open PySem PySem.W PyProof.Rows PyProof.Rows.LCg
namespace Mine

noncomputable abbrev compTest (ifs : List PySem.Expr) (env : Env) : Sem Bool :=
  forIn ifs true fun c r => if r = true then do let ok ← isTrue c env (eval c env); pure (ForInStep.yield ok) else pure (ForInStep.yield r)

/-- the end of an element of a list comprehension -/
def ElEnd (h₀ : Heap) (L : Addr) (m : Str → Option Value) (s : Shared) (I : Addr) (oI : Obj) (C : Addr) (oC : Obj) (D : Addr) (oD : Obj) (need : Led) (K : Value → Led → Prop) (y : Value) (s₂ : Shared) : Prop :=
  ∃ h' tk nx, s₂ = { s with heap := h', toks := tk } ∧ Fr h₀ L h' m ∧ News h₀ L h' ((I, oI) :: (C, oC) :: (D, oD) :: nx) ∧ (∀ p ∈ nx, p.1 ≠ I ∧ p.1 ≠ C ∧ p.1 ≠ D) ∧ (∀ p ∈ need, p ∈ nx) ∧ K y nx

section
variable {prog : Program} {w : World} {A : Around} {E : Value → Shared → Prop} {s : Shared}

theorem comp_loop {elt target iter : PySem.Expr} {ifs : List PySem.Expr} {scope : Scope} {pos : Pos} {it acc : Value} {env : Env} {R : Result → Shared → Prop} (J : Nat → Shared → Prop)
    (turn : ∀ n s, J n s → wpAny (model prog w) A (pyNext it) (fun r s₁ => match r with
      | none => R (.ok .next) s₁
      | some v => wpAny (model prog w) A (letOwnedTupleGo target it v) (fun _ s₀ => wpAny (model prog w) A (assign target env v) (fun _ s₂ =>
          wpAny (model prog w) A (compTest ifs env) (fun ok s₃ => if ok = true then wpAny (model prog w) A (eval elt env) (fun x s₄ =>
            wpAny (model prog w) A (call (.builtin "list.append") [acc, x]) (fun _ s₅ => ∃ m, m < n ∧ J m s₅) (notedBy (model prog w) A env fun e s' => R (.error e) s') s₄) (notedBy (model prog w) A env fun e s' => R (.error e) s') s₃
            else ∃ m, m < n ∧ J m s₃) (notedBy (model prog w) A env fun e s' => R (.error e) s') s₂)
          (notedBy (model prog w) A env fun e s' => R (.error e) s') s₀) (notedBy (model prog w) A env fun e s' => R (.error e) s') s₁) (notedBy (model prog w) A env fun e s' => R (.error e) s') s)
    (n : Nat) (h : J n s) : codeAny (model prog w) A (.compLoop (.ListComp elt [⟨target, iter, ifs, 0⟩] scope pos) 0 it acc env) R s := by
  refine codeAny_loop rfl J (fun n s hJ => ?_) n h
  show wpAny _ A ((compTurn (.ListComp elt [⟨target, iter, ifs, 0⟩] scope pos) 0 it acc env).onRaise (fun x => do noteFrame x env; theTreesLotGoes x)) _ _ s
  refine wpAny_noted ?_
  rw [compTurn_list]
  refine wpAny_bind (wpAny_standAt (wpAny_bind (wpAny_mono (turn n s hJ) (fun r s₁ h₁ => ?_) fun _ _ e => e)))
  cases r with
  | none => exact wpAny_pure h₁
  | some v =>
    refine wpAny_bind (wpAny_mono h₁ (fun _ s₀ h₀ => ?_) fun _ _ e => e)
    refine wpAny_bind (wpAny_mono h₀ (fun _ s₂ h₂ => ?_) fun _ _ e => e)
    refine wpAny_bind (wpAny_mono h₂ (fun ok s₃ h₃ => ?_) fun _ _ e => e)
    cases ok with
    | false => exact wpAny_pure ⟨rfl, h₃⟩
    | true => exact wpAny_bind (wpAny_bind (wpAny_mono h₃ (fun x s₄ h₄ => wpAny_bind (wpAny_mono h₄ (fun _ s₅ h₅ => wpAny_pure (wpAny_pure ⟨rfl, h₅⟩)) fun _ _ e => e)) fun _ _ e => e))

variable {h₀ : Heap} {L : Addr} {m : Str → Option Value} {env : Env}

theorem comp_block {elt target iter : PySem.Expr} {ifs : List PySem.Expr} {scope : Scope} {cl : List (Str × Addr)} {pos : Pos} {I : Addr} {n : Nat} {P : Nat → Value → Prop} {need : Led} {It : Nat → Obj → Prop} {o₀ : Obj} {news : Led}
    {RR : Value → Addr → Result → Shared → Prop} (J : Nat → List Value → Led → Prop) (Bd : Value → (Str → Option Value) → Prop)
    (S : Src prog w A target I n P need It) (hsz : n ≤ sizeLine) (hoI : s.heap.get? I = some o₀) (hIt : It 0 o₀)
    (hcell : ∀ y ∈ scope.names, y.2 ≠ .cell) (hkind : scope.kind = .function)
    (F : Fr h₀ L s.heap m) (N : News h₀ L s.heap news) (hIL : L ≠ I) (hI₀ : h₀.get? I = none) (off : ∀ p ∈ news, p.1 ≠ I) (hneed : ∀ p ∈ need, p ∈ news) (hJ : J 0 [] news)
    (bind : ∀ i v ys nx C (s₁ : Shared) m₁ (Q : Unit → Shared → Prop) (E' : Value → Shared → Prop), P i v → J i ys nx → (∀ p ∈ nx, s₁.heap.get? p.1 = some p.2) → s₁.heap.Ns C m₁ →
      (∀ h' tk m₂, Bd v m₂ → h'.Ns C m₂ → (∀ b o, b ≠ C → s₁.heap.get? b = some o → h'.get? b = some o) → Q () { s₁ with heap := h', toks := tk }) → wpAny (model prog w) A (assign target (compEnvC scope cl C env) v) Q E' s₁)
    (turn : ∀ i v ys nx I oI C oC D m₂ h tk (E' : Value → Shared → Prop), i < n → P i v → J i ys nx → (∀ p ∈ need, p ∈ nx) → Bd v m₂ → NsObj oC m₂ → Fr h₀ L h m → News h₀ L h ((I, oI) :: (C, oC) :: (D, lst ys) :: nx) → (∀ p ∈ nx, p.1 ≠ I ∧ p.1 ≠ C ∧ p.1 ≠ D) →
      wpAny (model prog w) A (compTest ifs (compEnvC scope cl C env)) (fun ok s₃ => if ok = true then
        wpAny (model prog w) A (eval elt (compEnvC scope cl C env)) (ElEnd h₀ L m s I oI C oC D (lst ys) need fun y nx' => J (i + 1) (ys ++ [y]) nx') E' s₃
        else ElEnd h₀ L m s I oI C oC D (lst ys) need (fun _ nx' => J (i + 1) ys nx') .none s₃) E' { s with heap := h, toks := tk })
    (hRR : ∀ D C h tk m' ys nx, (∀ p ∈ news, p.1 < D) → Fr h₀ L h m → News h₀ L h ((D, lst ys) :: nx) → (∀ p ∈ nx, p.1 ≠ D ∧ p.1 ≠ C) → h.Ns C m' → h₀.get? C = none → C ≠ L → C ≠ D → (∀ p ∈ need, p ∈ nx) → J n ys nx → RR (.ref D) C (.ok .next) { s with heap := h, toks := tk }) :
    wpAny (model prog w) A (newList []) (fun acc s₃ => wpAny (model prog w) A (newFunctionEnv scope env.globals cl [] env.qual none .none (some env)) (fun cenv s₄ =>
      codeAny (model prog w) A (.compStart (.ListComp elt [⟨target, iter, ifs, 0⟩] scope pos) 0 (.ref I) acc { cenv with scope := relabel scope env }) (RR acc cenv.locals) s₄) E s₃) E s := by
  refine wpAny_newObj_type (wpAny_newFunctionEnv hcell (by intro y hy; simp at hy) (fun h₁ hns₁ hsb₁ => ?_) hkind)
  dsimp only at hns₁ hsb₁ ⊢
  generalize hH2 : s.heap.push { cls := .type "list", dict := none, data := .seq ([] : List Value).toArray } = H2 at hns₁ hsb₁ ⊢
  have hC : H2.objs.size = s.heap.objs.size + 1 := by rw [← hH2, Heap.size_push]
  have hDC : s.heap.objs.size ≠ H2.objs.size := by rw [hC]; exact Nat.ne_of_lt (Nat.lt_succ_self _)
  have below : ∀ b, b < s.heap.objs.size → b ≠ H2.objs.size ∧ b ≠ s.heap.objs.size := fun b hb => ⟨by rw [hC]; exact Nat.ne_of_lt (Nat.lt_succ_of_lt hb), Nat.ne_of_lt hb⟩
  have old : ∀ b o, s.heap.get? b = some o → h₁.get? b = some o := fun b o e => hsb₁.extBut b o (below b (Heap.lt_size e)).1 (Heap.get?_push_of_some _ (hH2 ▸ Heap.get?_push_of_some _ e))
  have hacc : h₁.get? s.heap.objs.size = some (lst []) := hsb₁.extBut _ _ hDC (Heap.get?_push_of_some _ (hH2 ▸ Heap.get?_push_size _ rfl))
  have hIlt : I < s.heap.objs.size := Heap.lt_size hoI
  have fresh₀ : ∀ a, s.heap.objs.size ≤ a → h₀.get? a = none := fun a ha => by
    cases e : h₀.get? a with
    | none => rfl
    | some o' => exact absurd (Heap.lt_size (F.keep a o' e)) (Nat.not_lt.mpr ha)
  have hD₀ : h₀.get? s.heap.objs.size = none := fresh₀ _ (Nat.le_refl _)
  have hC₀ : h₀.get? H2.objs.size = none := fresh₀ _ (by rw [hC]; exact Nat.le_succ _)
  have hLlt : L < s.heap.objs.size := F.ns.lt
  have hDL : s.heap.objs.size ≠ L := Ne.symm (below L hLlt).2
  have hCL : H2.objs.size ≠ L := Ne.symm (below L hLlt).1
  have hCI : I ≠ H2.objs.size := (below I hIlt).1
  have hDI : I ≠ s.heap.objs.size := (below I hIlt).2
  have loop : ∀ s₃ : Shared, s₃ = { s with heap := h₁, toks := s.toks + ([] : List (Str × Value)).length } →
      codeAny (model prog w) A (.compLoop (.ListComp elt [⟨target, iter, ifs, 0⟩] scope pos) 0 (.ref I) (.ref s.heap.objs.size) (compEnvC scope cl H2.objs.size env))
        (RR (.ref s.heap.objs.size) H2.objs.size) s₃ := by
    rintro s₃ rfl
    refine comp_loop
      (fun k s' => ∃ h' tk i ys m' nx oI, s' = { s with heap := h', toks := tk } ∧ i ≤ n ∧ k = n + 1 - i ∧ ys.length ≤ i ∧ h'.get? I = some oI ∧ It i oI ∧ Fr h₀ L h' m ∧ h'.Ns H2.objs.size m' ∧ News h₀ L h' ((s.heap.objs.size, lst ys) :: nx) ∧
        (∀ p ∈ nx, p.1 ≠ I ∧ p.1 ≠ H2.objs.size ∧ p.1 ≠ s.heap.objs.size) ∧ (∀ p ∈ need, p ∈ nx) ∧ J i ys nx) ?_ (n + 1)
      ⟨h₁, _, 0, [], _, news, o₀, rfl, Nat.zero_le _, rfl, Nat.le_refl _, old _ _ hoI, hIt, F.keeps old, hns₁, ?_, fun p hp => ⟨off p hp, (below _ (Heap.lt_size (N p hp).1)).1, (below _ (Heap.lt_size (N p hp).1)).2⟩, hneed, hJ⟩
    · rintro k s' ⟨h', tk, i, ys, m', nx, oI, rfl, hi, rfl, hyl, hoI', hIt', F', hn', N', off', hneed', hJ'⟩
      by_cases hlt : i < n
      · refine S.item i _ _ _ _ hlt hoI' hIt' (fun p hp => (N' p (.tail _ (hneed' p hp))).1) fun v h₂ o₂ tk₂ hPv ho₂ hIt₂ hk₂ => ?_
        refine S.go i v _ o₂ _ _ hPv ho₂ hIt₂ ?_
        have F₂ := fr_but1 F' hIL hI₀ hk₂
        have N₂ : News h₀ L h₂ ((s.heap.objs.size, lst ys) :: nx) := news_but1 N' (fun p hp => by
          rcases List.mem_cons.mp hp with rfl | hp
          · exact Ne.symm hDI
          · exact (off' p hp).1) hk₂
        refine bind i v ys nx H2.objs.size _ m' _ _ hPv hJ' (fun p hp => (N₂ p (.tail _ hp)).1) (hn'.at' fun o e => hk₂ _ o (Ne.symm hCI) e) fun h₃ tk₃ m₂ hB hn₃ hk₃ => ?_
        obtain ⟨oC, heC, hoC⟩ := ns_obj hn₃
        have F₃ : Fr h₀ L h₃ m := fr_but1 F₂ (Ne.symm hCL) hC₀ hk₃
        have N₃ : News h₀ L h₃ ((I, o₂) :: (H2.objs.size, oC) :: (s.heap.objs.size, lst ys) :: nx) := fun p hp => by
          rcases List.mem_cons.mp hp with rfl | hp
          · exact ⟨hk₃ _ _ hCI ho₂, Ne.symm hIL, hI₀⟩
          · rcases List.mem_cons.mp hp with rfl | hp
            · exact ⟨heC, hCL, hC₀⟩
            · have z := N₂ p hp
              refine ⟨hk₃ _ _ ?_ z.1, z.2⟩
              rcases List.mem_cons.mp hp with rfl | hp
              · exact hDC
              · exact (off' p hp).2.1
        refine wpAny_mono (turn i v ys nx I o₂ H2.objs.size oC s.heap.objs.size m₂ h₃ tk₃ _ hlt hPv hJ' hneed' hB hoC F₃ N₃ off') (fun ok s₄ h₄ => ?_) fun _ _ e => e
        cases ok with
        | false =>
          simp only [Bool.false_eq_true, if_false] at h₄ ⊢
          obtain ⟨h₄, tk₄, nx₄, rfl, F₄, N₄, off₄, hneed₄, hJ₄⟩ := h₄
          have zI := (N₄ _ (.head _)).1
          have zC := (N₄ _ (.tail _ (.head _))).1
          exact ⟨n + 1 - (i + 1), by omega, h₄, tk₄, i + 1, ys, m₂, nx₄, o₂, rfl, hlt, rfl, Nat.le_succ_of_le hyl, zI, hIt₂, F₄, hoC.ns zC, News.sub N₄ (fun p hp => .tail _ (.tail _ hp)), off₄, hneed₄, hJ₄⟩
        | true =>
          simp only [if_true] at h₄ ⊢
          refine wpAny_mono h₄ (fun y s₅ h₅ => ?_) fun _ _ e => e
          obtain ⟨h₅, tk₅, nx₅, rfl, F₅, N₅, off₅, hneed₅, hJ₅⟩ := h₅
          have zI := (N₅ _ (.head _)).1
          have zC := (N₅ _ (.tail _ (.head _))).1
          have zD := (N₅ _ (.tail _ (.tail _ (.head _)))).1
          refine append_at (hsz := by show ys.toArray.size ≤ sizeLine; rw [List.size_toArray]; exact Nat.le_trans hyl (Nat.le_trans hi hsz)) zD fun h₆ hs₆ hD₆ => ?_
          refine ⟨n + 1 - (i + 1), by omega, h₆, tk₅, i + 1, ys ++ [y], m₂, nx₅, o₂, rfl, hlt, rfl, by rw [List.length_append, List.length_singleton]; omega, hs₆.extBut _ _ hDI zI, hIt₂, F₅.change hs₆ hDL hD₀, (hoC.ns zC).sameBut hs₆ (Ne.symm hDC), ?_, off₅, hneed₅, hJ₅⟩
          intro p hp
          rcases List.mem_cons.mp hp with rfl | hp
          · exact ⟨hD₆.trans (congrArg some (lst_snoc ys y)), hDL, hD₀⟩
          · have z := N₅ p (.tail _ (.tail _ (.tail _ hp)))
            exact ⟨hs₆.extBut _ _ (off₅ p hp).2.2 z.1, z.2⟩
      · obtain rfl : i = n := Nat.le_antisymm hi (Nat.not_lt.mp hlt)
        refine S.done _ _ _ _ hoI' hIt' (fun p hp => (N' p (.tail _ (hneed' p hp))).1) fun h₂ tk₂ hk₂ => ?_
        have N₂ : News h₀ L h₂ ((s.heap.objs.size, lst ys) :: nx) := news_but1 N' (fun p hp => by
          rcases List.mem_cons.mp hp with rfl | hp
          · exact Ne.symm hDI
          · exact (off' p hp).1) hk₂
        exact hRR _ _ h₂ tk₂ m' ys nx (fun p hp => Heap.lt_size (N p hp).1) (fr_but1 F' hIL hI₀ hk₂) N₂ (fun p hp => ⟨(off' p hp).2.2, (off' p hp).2.1⟩) (hn'.at' fun o e => hk₂ _ o (Ne.symm hCI) e) hC₀ hCL (Ne.symm hDC) hneed' hJ'
    · intro p hp
      rcases List.mem_cons.mp hp with rfl | hp
      · exact ⟨hacc, hDL, hD₀⟩
      · exact ⟨old _ _ (N p hp).1, (N p hp).2⟩
  exact codeAny_compStart_list (loop _ rfl) (S.self 0 _ _ _ _ (old _ _ hoI) hIt (loop _ rfl))

/-- where a list comprehension stands when its iterable is reckoned -/
def CompAt (prog : Program) (w : World) (A : Around) (E : Value → Shared → Prop) (use : Option (Value → Sem Unit)) (Q : Value → Shared → Prop) (env : Env) (elt target iter : PySem.Expr) (ifs : List PySem.Expr) (scope : Scope) (cl : List (Str × Addr)) (pos : Pos) (xv : Value) (s₁ : Shared) : Prop :=
  wpAny (model prog w) A (pyIter xv) (fun it s₂ => wpAny (model prog w) A (newList []) (fun acc s₃ => wpAny (model prog w) A (newFunctionEnv scope env.globals cl [] env.qual none .none (some env)) (fun cenv s₄ =>
    codeAny (model prog w) A (.compStart (.ListComp elt [⟨target, iter, ifs, 0⟩] scope pos) 0 it acc { cenv with scope := relabel scope env }) (compPost (model prog w) A E use Q acc cenv.locals) s₄) E s₃) E s₂) E s₁

theorem Comp_open {elt target iter : PySem.Expr} {ifs : List PySem.Expr} {scope : Scope} {cl : List (Str × Addr)} {pos : Pos} {Q : Value → Shared → Prop}
    (hclos : closureFor scope env = pure cl) (hkind : scope.kind = .function) (hnames : ∀ y ∈ scope.names, y.2 = .local → scope.names.lookup y.1 = some .local)
    (h : wpAny (model prog w) A (eval iter env) (CompAt prog w A E none Q env elt target iter ifs scope cl pos) E s)
    (hs : ∀ x, foldedSetIterable iter env x = pure x := by intro _; rfl) :
    wpAny (model prog w) A (eval (.ListComp elt [⟨target, iter, ifs, 0⟩] scope pos) env) Q E s := by
  rw [eval_ListComp]
  exact wpAny_comprehension_free (use := none) rfl hs hclos hkind hnames h

theorem Comp_assign {elt target iter : PySem.Expr} {ifs : List PySem.Expr} {scope : Scope} {cl : List (Str × Addr)} {y : Str} {py pos spos : Pos} {Q : Flow → Shared → Prop}
    (hsw : swapsWith (.ListComp elt [⟨target, iter, ifs, 0⟩] scope pos) (some (.Name y py)) spos.line env = pure true)
    (hclos : closureFor scope env = pure cl) (hkind : scope.kind = .function) (hnames : ∀ y ∈ scope.names, y.2 = .local → scope.names.lookup y.1 = some .local)
    (h : wpAny (model prog w) A (eval iter env) (CompAt prog w A E (some (assign (.Name y py) env)) (fun _ s' => Q .next s') env elt target iter ifs scope cl pos) E s)
    (hs : ∀ x, foldedSetIterable iter env x = pure x := by intro _; rfl) :
    wpAny (model prog w) A (exec (.Assign [.Name y py] (.ListComp elt [⟨target, iter, ifs, 0⟩] scope pos) spos) env) Q E s := by
  rw [exec_Assign_Name_used _ _ _ _ hsw]
  refine wpAny_bind (wpAny_standAt (wpAny_bind ?_))
  show wpAny _ A (do let _ ← comprehension (.ListComp elt [⟨target, iter, ifs, 0⟩] scope pos) scope env _ (newList []) false (eval iter env) (some (assign (.Name y py) env))) _ _ s
  exact wpAny_bind (wpAny_mono (wpAny_comprehension_free (use := some (assign (.Name y py) env)) (Q := fun _ s' => Q .next s') rfl hs hclos hkind hnames h) (fun _ s' hq => wpAny_pure (wpAny_pure hq)) fun _ _ e => e)

/-- what binds the target of a comprehension -/
inductive Tgt (scope : Scope) (keep : Led) (P : Nat → Value → Prop) : PySem.Expr → (Value → (Str → Option Value) → Prop) → Prop
  | name (x : Str) (px : Pos) (hx : scope.names.lookup x = some .local) : Tgt scope keep P (.Name x px) (fun v m => m x = some v)
  | pair (x y : Str) (px py tp : Pos) (kk : Nat) (hx : scope.names.lookup x = some .local) (hy : scope.names.lookup y = some .local) (hxy : x ≠ y)
      (hv : ∀ i v, P i v → ∃ T a b k, v = .ref T ∧ (T, tupObj [a, b] k) ∈ keep) :
      Tgt scope keep P (.Tuple [.Name x px, .Name y py] kk tp) (fun v m => ∃ T a b k, v = .ref T ∧ (T, tupObj [a, b] k) ∈ keep ∧ m x = some a ∧ m y = some b)

theorem Tgt.bind {scope : Scope} {keep : Led} {P : Nat → Value → Prop} {target : PySem.Expr} {Bd : Value → (Str → Option Value) → Prop} (T : Tgt scope keep P target Bd) (hh : A.handled = none) (hkind : scope.kind = .function) {cl : List (Str × Addr)}
    {i : Nat} {v : Value} {C : Addr} {s₁ : Shared} {m₁ : Str → Option Value} {Q : Unit → Shared → Prop} {E' : Value → Shared → Prop} (hP : P i v) (hk : ∀ p ∈ keep, s₁.heap.get? p.1 = some p.2) (hn : s₁.heap.Ns C m₁)
    (h : ∀ h' tk m₂, Bd v m₂ → h'.Ns C m₂ → (∀ b o, b ≠ C → s₁.heap.get? b = some o → h'.get? b = some o) → Q () { s₁ with heap := h', toks := tk }) :
    wpAny (model prog w) A (assign target (compEnvC scope cl C env) v) Q E' s₁ := by
  cases T with
  | name x px hx =>
    refine wpAny_assign_Name (wpAny_storeName_local (env := compEnvC scope cl C env) (lookup_relabel_local hx) hn (fun h₂ hn₂ hs₂ => ?_) (by simp [compEnvC, relabel, hkind]))
    exact h h₂ _ _ (by simp) hn₂ fun b o hb e => hs₂.extBut b o hb e
  | pair x y px py tp kk hx hy hxy hv =>
    obtain ⟨T, a, b, k, rfl, hm⟩ := hv i v hP
    refine kcp_assign (env := compEnvC scope cl C env) hh (T := T) (x := a) (y := b) ⟨_, hk _ hm, rfl, k, rfl⟩ (lookup_relabel_local hx) (lookup_relabel_local hy) (by simp [compEnvC, relabel, hkind]) hn fun h' tk hn' hs' => ?_
    exact h h' tk _ ⟨T, a, b, k, rfl, hm, by simp [hxy], by simp⟩ hn' hs'

theorem comp_src {elt target iter : PySem.Expr} {ifs : List PySem.Expr} {scope : Scope} {cl : List (Str × Addr)} {pos : Pos} {I : Addr} {n : Nat} {P : Nat → Value → Prop} {need keep : Led} {It : Nat → Obj → Prop} {o₀ : Obj} {news : Led}
    {RR : Value → Addr → Result → Shared → Prop} (J : Nat → List Value → Led → Prop) {Bd : Value → (Str → Option Value) → Prop} (T : Tgt scope keep P target Bd) (hh : A.handled = none)
    (S : Src prog w A target I n P need It) (hsz : n ≤ sizeLine) (hoI : s.heap.get? I = some o₀) (hIt : It 0 o₀)
    (hcell : ∀ y ∈ scope.names, y.2 ≠ .cell) (hkind : scope.kind = .function)
    (F : Fr h₀ L s.heap m) (N : News h₀ L s.heap news) (hIL : L ≠ I) (hI₀ : h₀.get? I = none) (off : ∀ p ∈ news, p.1 ≠ I) (hneed : ∀ p ∈ need, p ∈ keep) (hkeep : ∀ p ∈ keep, p ∈ news) (hJ : J 0 [] news)
    (turn : ∀ i v ys nx I oI C oC D m₂ h tk (E' : Value → Shared → Prop), i < n → P i v → J i ys nx → (∀ p ∈ keep, p ∈ nx) → Bd v m₂ → NsObj oC m₂ → Fr h₀ L h m → News h₀ L h ((I, oI) :: (C, oC) :: (D, lst ys) :: nx) → (∀ p ∈ nx, p.1 ≠ I ∧ p.1 ≠ C ∧ p.1 ≠ D) →
      wpAny (model prog w) A (compTest ifs (compEnvC scope cl C env)) (fun ok s₃ => if ok = true then
        wpAny (model prog w) A (eval elt (compEnvC scope cl C env)) (ElEnd h₀ L m s I oI C oC D (lst ys) keep fun y nx' => J (i + 1) (ys ++ [y]) nx') E' s₃
        else ElEnd h₀ L m s I oI C oC D (lst ys) keep (fun _ nx' => J (i + 1) ys nx') .none s₃) E' { s with heap := h, toks := tk })
    (hRR : ∀ D C h tk m' ys nx, (∀ p ∈ news, p.1 < D) → Fr h₀ L h m → News h₀ L h ((D, lst ys) :: nx) → (∀ p ∈ nx, p.1 ≠ D ∧ p.1 ≠ C) → h.Ns C m' → h₀.get? C = none → C ≠ L → C ≠ D → (∀ p ∈ keep, p ∈ nx) → J n ys nx → RR (.ref D) C (.ok .next) { s with heap := h, toks := tk }) :
    wpAny (model prog w) A (newList []) (fun acc s₃ => wpAny (model prog w) A (newFunctionEnv scope env.globals cl [] env.qual none .none (some env)) (fun cenv s₄ =>
      codeAny (model prog w) A (.compStart (.ListComp elt [⟨target, iter, ifs, 0⟩] scope pos) 0 (.ref I) acc { cenv with scope := relabel scope env }) (RR acc cenv.locals) s₄) E s₃) E s := by
  have S' : Src prog w A target I n P keep It := ⟨fun i s o Q E a b c d e => S.item i s o Q E a b c (fun p hp => d p (hneed p hp)) e, fun s o Q E a b c d => S.done s o Q E a b (fun p hp => c p (hneed p hp)) d, S.go, S.self⟩
  refine comp_block (need := keep) (fun i ys nx => J i ys nx ∧ ∀ p ∈ keep, p ∈ nx) Bd S' hsz hoI hIt hcell hkind F N hIL hI₀ off hkeep ⟨hJ, hkeep⟩ ?_ ?_ ?_
  · intro i v ys nx C s₁ m₁ Q E' hP hJ hk hn h
    exact T.bind hh hkind hP (fun p hp => hk p (hJ.2 p hp)) hn h
  · intro i v ys nx I oI C oC D m₂ h tk E' hi hP hJ hk hB hC F' N' off'
    refine wpAny_mono (turn i v ys nx I oI C oC D m₂ h tk E' hi hP hJ.1 hk hB hC F' N' off') (fun ok s₃ h₃ => ?_) fun _ _ e => e
    cases ok with
    | false =>
      simp only [Bool.false_eq_true, if_false] at h₃ ⊢
      obtain ⟨h₄, tk₄, nx₄, e, F₄, N₄, off₄, hk₄, hJ₄⟩ := h₃
      exact ⟨h₄, tk₄, nx₄, e, F₄, N₄, off₄, hk₄, hJ₄, hk₄⟩
    | true =>
      simp only [if_true] at h₃ ⊢
      refine wpAny_mono h₃ (fun y s₄ h₄ => ?_) fun _ _ e => e
      obtain ⟨h₄, tk₄, nx₄, e, F₄, N₄, off₄, hk₄, hJ₄⟩ := h₄
      exact ⟨h₄, tk₄, nx₄, e, F₄, N₄, off₄, hk₄, hJ₄, hk₄⟩
  · intro D C h tk m' ys nx lo F' N' off' hn hC₀ hCL hCD hk hJ
    exact hRR D C h tk m' ys nx lo F' N' off' hn hC₀ hCL hCD hk hJ.1

theorem CompAt_list {elt target iter : PySem.Expr} {ifs : List PySem.Expr} {scope : Scope} {cl : List (Str × Addr)} {pos : Pos} {keep news : Led} {Q : Value → Shared → Prop} {l : Addr} {vs : List Value} {nn : Nat} (hh : A.handled = none)
    (hcell : ∀ y ∈ scope.names, y.2 ≠ .cell) (hkind : scope.kind = .function) (F : Fr h₀ L s.heap m) (N : News h₀ L s.heap news) (hkeep : ∀ p ∈ keep, p ∈ news) (hl : (l, listOf vs.toArray nn) ∈ keep) (hsz : vs.length ≤ sizeLine)
    (J : Nat → List Value → Led → Prop) {Bd : Value → (Str → Option Value) → Prop} (T : Tgt scope keep (fun i v => vs[i]? = some v) target Bd) (hJ : J 0 [] news)
    (turn : ∀ i v ys nx I oI C oC D m₂ h tk (E' : Value → Shared → Prop), vs[i]? = some v → J i ys nx → (∀ p ∈ keep, p ∈ nx) → Bd v m₂ → NsObj oC m₂ → Fr h₀ L h m → News h₀ L h ((I, oI) :: (C, oC) :: (D, lst ys) :: nx) → (∀ p ∈ nx, p.1 ≠ I ∧ p.1 ≠ C ∧ p.1 ≠ D) →
      wpAny (model prog w) A (compTest ifs (compEnvC scope cl C env)) (fun ok s₃ => if ok = true then
        wpAny (model prog w) A (eval elt (compEnvC scope cl C env)) (ElEnd h₀ L m s I oI C oC D (lst ys) keep fun y nx' => J (i + 1) (ys ++ [y]) nx') E' s₃
        else ElEnd h₀ L m s I oI C oC D (lst ys) keep (fun _ nx' => J (i + 1) ys nx') .none s₃) E' { s with heap := h, toks := tk })
    (done : ∀ D ys nx h tk, (∀ p ∈ news, p.1 < D) → J vs.length ys nx → (∀ p ∈ keep, p ∈ nx) → Fr h₀ L h m → News h₀ L h ((D, lst ys) :: nx) → (∀ p ∈ nx, p.1 ≠ D) → Q (.ref D) { s with heap := h, toks := tk }) :
    CompAt prog w A E none Q env elt target iter ifs scope cl pos (.ref l) s := by
  have hol : s.heap.get? l = some (listOf vs.toArray nn) := (N _ (hkeep _ hl)).1
  have hls : s.heap.IsList l vs.toArray := ⟨_, hol, rfl, nn, rfl⟩
  have hne : l ≠ s.heap.objs.size := Nat.ne_of_lt (Heap.lt_size hol)
  unfold CompAt
  refine wpAny_pyIter_list hls ?_
  have S := Src.list (prog := prog) (w := w) (A := A) (target := target) (I := s.heap.objs.size) hh hne vs nn (by
    cases T with
    | name x px hx => exact .inl ⟨x, px, rfl⟩
    | pair x y px py tp kk hx hy hxy hv => exact .inr ⟨⟨_, _, _, rfl⟩, fun v hv' => by
        obtain ⟨i, hi⟩ := List.getElem?_of_mem hv'
        obtain ⟨T, a, b, k, e, _⟩ := hv i v hi
        exact ⟨T, e⟩⟩)
  refine comp_src (RR := fun acc C => compPost (model prog w) A E none Q acc C) J T hh S hsz (Heap.get?_push_size _ rfl) ⟨rfl, rfl⟩ hcell hkind (F.push _) (fun p hp => ⟨Heap.get?_push_of_some _ (N p hp).1, (N p hp).2⟩) (Nat.ne_of_lt F.ns.lt) (next_is_new F)
    (fun p hp => Nat.ne_of_lt (Heap.lt_size (N p hp).1)) (fun p hp => by rw [List.mem_singleton.mp hp]; exact hl) hkeep hJ ?_ ?_
  · intro i v ys nx I oI C oC D m₂ h tk E' _ hv hJ' hk hB hC F' N' off'
    exact turn i v ys nx I oI C oC D m₂ h tk E' hv hJ' hk hB hC F' N' off'
  · intro D C h tk m' ys nx lo F' N' off' hn hC₀ hCL hCD hk hJ'
    refine ⟨m', hn, fun h'' hs'' => done D ys nx h'' tk lo hJ' hk (F'.change hs'' hCL hC₀) (fun p hp => ?_) fun p hp => (off' p hp).1⟩
    refine ⟨hs''.extBut _ _ ?_ (N' p hp).1, (N' p hp).2⟩
    rcases List.mem_cons.mp hp with rfl | hp
    · exact Ne.symm hCD
    · exact (off' p hp).2

theorem CompAt_listA {elt target iter : PySem.Expr} {ifs : List PySem.Expr} {scope : Scope} {cl : List (Str × Addr)} {pos py : Pos} {y : Str} {keep news : Led} {Q : Value → Shared → Prop} {l : Addr} {vs : List Value} {nn : Nat} (hh : A.handled = none)
    (hy : env.kindOf y = some .local) (hp : (env.scope.kind == .class || (env.scope.kind == .module && env.locals != env.globals)) = false)
    (hcell : ∀ y ∈ scope.names, y.2 ≠ .cell) (hkind : scope.kind = .function) (F : Fr h₀ env.locals s.heap m) (N : News h₀ env.locals s.heap news) (hkeep : ∀ p ∈ keep, p ∈ news) (hl : (l, listOf vs.toArray nn) ∈ keep) (hsz : vs.length ≤ sizeLine)
    (J : Nat → List Value → Led → Prop) {Bd : Value → (Str → Option Value) → Prop} (T : Tgt scope keep (fun i v => vs[i]? = some v) target Bd) (hJ : J 0 [] news)
    (turn : ∀ i v ys nx I oI C oC D m₂ h tk (E' : Value → Shared → Prop), vs[i]? = some v → J i ys nx → (∀ p ∈ keep, p ∈ nx) → Bd v m₂ → NsObj oC m₂ → Fr h₀ env.locals h m → News h₀ env.locals h ((I, oI) :: (C, oC) :: (D, lst ys) :: nx) → (∀ p ∈ nx, p.1 ≠ I ∧ p.1 ≠ C ∧ p.1 ≠ D) →
      wpAny (model prog w) A (compTest ifs (compEnvC scope cl C env)) (fun ok s₃ => if ok = true then
        wpAny (model prog w) A (eval elt (compEnvC scope cl C env)) (ElEnd h₀ env.locals m s I oI C oC D (lst ys) keep fun y nx' => J (i + 1) (ys ++ [y]) nx') E' s₃
        else ElEnd h₀ env.locals m s I oI C oC D (lst ys) keep (fun _ nx' => J (i + 1) ys nx') .none s₃) E' { s with heap := h, toks := tk })
    (done : ∀ D ys nx h tk, (∀ p ∈ news, p.1 < D) → J vs.length ys nx → (∀ p ∈ keep, p ∈ nx) → Fr h₀ env.locals h (fun z => if z = y then some (.ref D) else m z) → News h₀ env.locals h ((D, lst ys) :: nx) → (∀ p ∈ nx, p.1 ≠ D) → Q .none { s with heap := h, toks := tk }) :
    CompAt prog w A E (some (assign (.Name y py) env)) Q env elt target iter ifs scope cl pos (.ref l) s := by
  have hol : s.heap.get? l = some (listOf vs.toArray nn) := (N _ (hkeep _ hl)).1
  have hls : s.heap.IsList l vs.toArray := ⟨_, hol, rfl, nn, rfl⟩
  have hne : l ≠ s.heap.objs.size := Nat.ne_of_lt (Heap.lt_size hol)
  unfold CompAt
  refine wpAny_pyIter_list hls ?_
  have S := Src.list (prog := prog) (w := w) (A := A) (target := target) (I := s.heap.objs.size) hh hne vs nn (by
    cases T with
    | name x px hx => exact .inl ⟨x, px, rfl⟩
    | pair x y px py tp kk hx hy hxy hv => exact .inr ⟨⟨_, _, _, rfl⟩, fun v hv' => by
        obtain ⟨i, hi⟩ := List.getElem?_of_mem hv'
        obtain ⟨T, a, b, k, e, _⟩ := hv i v hi
        exact ⟨T, e⟩⟩)
  refine comp_src (RR := fun acc C => compPost (model prog w) A E (some (assign (.Name y py) env)) Q acc C) J T hh S hsz (Heap.get?_push_size _ rfl) ⟨rfl, rfl⟩ hcell hkind (F.push _) (fun p hp => ⟨Heap.get?_push_of_some _ (N p hp).1, (N p hp).2⟩) (Nat.ne_of_lt F.ns.lt) (next_is_new F)
    (fun p hp => Nat.ne_of_lt (Heap.lt_size (N p hp).1)) (fun p hp => by rw [List.mem_singleton.mp hp]; exact hl) hkeep hJ ?_ ?_
  · intro i v ys nx I oI C oC D m₂ h tk E' _ hv hJ' hk hB hC F' N' off'
    exact turn i v ys nx I oI C oC D m₂ h tk E' hv hJ' hk hB hC F' N' off'
  · intro D C h tk m' ys nx lo F' N' off' hn hC₀ hCL hCD hk hJ'
    show wpAny _ A (assign (.Name y py) env (.ref D)) _ _ _
    refine wpAny_assign_Name (wpAny_storeName_local hy F'.ns (fun h₂ hn₂ hs₂ => ?_) hp)
    have hL₀ : h₀.get? env.locals = none := Heap.get?_none_of_le F'.above
    have F₂ : Fr h₀ env.locals h₂ (fun z => if z = y then some (.ref D) else m z) := ⟨hn₂, fun b o e => hs₂.extBut b o (fun q => by rw [q, hL₀] at e; cases e) (F'.keep b o e), F'.above⟩
    refine ⟨m', hn.sameBut hs₂ hCL, fun h'' hs'' => done D ys nx h'' _ lo hJ' hk (F₂.change hs'' hCL hC₀) (fun p hp => ?_) fun p hp => (off' p hp).1⟩
    have z : h₂.get? p.1 = some p.2 := hs₂.extBut _ _ (N' p hp).2.1 (N' p hp).1
    refine ⟨hs''.extBut _ _ ?_ z, (N' p hp).2⟩
    rcases List.mem_cons.mp hp with rfl | hp
    · exact Ne.symm hCD
    · exact (off' p hp).2
end
end Mine
end
section
open PySem PySem.W PyProof.Rows PyProof.Rows.LCg
namespace Mine
section
variable {prog : Program} {w : World} {A : Around} {E : Value → Shared → Prop} {s : Shared} {h₀ : Heap} {L : Addr} {m : Str → Option Value} {env : Env}

theorem CompAt_of {elt target iter : PySem.Expr} {ifs : List PySem.Expr} {scope : Scope} {cl : List (Str × Addr)} {pos : Pos} {need keep news : Led} {Q : Value → Shared → Prop} {xv : Value} {oI : Obj} {n : Nat} {P : Nat → Value → Prop} {It : Nat → Obj → Prop} (hh : A.handled = none)
    (hpy : ∀ Q' : Value → Shared → Prop, Q' (.ref s.heap.objs.size) { s with heap := s.heap.push oI } → wpAny (model prog w) A (pyIter xv) Q' E s) (hfree : oI.isFreed = false)
    (S : Src prog w A target s.heap.objs.size n P need It) (hIt : It 0 oI)
    (hcell : ∀ y ∈ scope.names, y.2 ≠ .cell) (hkind : scope.kind = .function) (F : Fr h₀ L s.heap m) (N : News h₀ L s.heap news) (hneed : ∀ p ∈ need, p ∈ keep) (hkeep : ∀ p ∈ keep, p ∈ news) (hsz : n ≤ sizeLine)
    (J : Nat → List Value → Led → Prop) {Bd : Value → (Str → Option Value) → Prop} (T : Tgt scope keep P target Bd) (hJ : J 0 [] news)
    (turn : ∀ i v ys nx I oI C oC D m₂ h tk (E' : Value → Shared → Prop), i < n → P i v → J i ys nx → (∀ p ∈ keep, p ∈ nx) → Bd v m₂ → NsObj oC m₂ → Fr h₀ L h m → News h₀ L h ((I, oI) :: (C, oC) :: (D, lst ys) :: nx) → (∀ p ∈ nx, p.1 ≠ I ∧ p.1 ≠ C ∧ p.1 ≠ D) →
      wpAny (model prog w) A (compTest ifs (compEnvC scope cl C env)) (fun ok s₃ => if ok = true then
        wpAny (model prog w) A (eval elt (compEnvC scope cl C env)) (ElEnd h₀ L m s I oI C oC D (lst ys) keep fun y nx' => J (i + 1) (ys ++ [y]) nx') E' s₃
        else ElEnd h₀ L m s I oI C oC D (lst ys) keep (fun _ nx' => J (i + 1) ys nx') .none s₃) E' { s with heap := h, toks := tk })
    (done : ∀ D ys nx h tk, (∀ p ∈ news, p.1 < D) → J n ys nx → (∀ p ∈ keep, p ∈ nx) → Fr h₀ L h m → News h₀ L h ((D, lst ys) :: nx) → (∀ p ∈ nx, p.1 ≠ D) → Q (.ref D) { s with heap := h, toks := tk }) :
    CompAt prog w A E none Q env elt target iter ifs scope cl pos xv s := by
  unfold CompAt
  refine hpy _ ?_
  refine comp_src (RR := fun acc C => compPost (model prog w) A E none Q acc C) J T hh S hsz (Heap.get?_push_size _ hfree) hIt hcell hkind (F.push _) (fun p hp => ⟨Heap.get?_push_of_some _ (N p hp).1, (N p hp).2⟩) (Nat.ne_of_lt F.ns.lt) (next_is_new F)
    (fun p hp => Nat.ne_of_lt (Heap.lt_size (N p hp).1)) hneed hkeep hJ ?_ ?_
  · intro i v ys nx I oI C oC D m₂ h tk E' hi hv hJ' hk hB hC F' N' off'
    exact turn i v ys nx I oI C oC D m₂ h tk E' hi hv hJ' hk hB hC F' N' off'
  · intro D C h tk m' ys nx lo F' N' off' hn hC₀ hCL hCD hk hJ'
    refine ⟨m', hn, fun h'' hs'' => done D ys nx h'' tk lo hJ' hk (F'.change hs'' hCL hC₀) (fun p hp => ?_) fun p hp => (off' p hp).1⟩
    refine ⟨hs''.extBut _ _ ?_ (N' p hp).1, (N' p hp).2⟩
    rcases List.mem_cons.mp hp with rfl | hp
    · exact Ne.symm hCD
    · exact (off' p hp).2

theorem CompAt_dict {elt iter : PySem.Expr} {x : Str} {px : Pos} {ifs : List PySem.Expr} {scope : Scope} {cl : List (Str × Addr)} {pos : Pos} {keep news : Led} {Q : Value → Shared → Prop} {d : Addr} {o : Obj} {kvs : List (Str × Value)} (hh : A.handled = none)
    (hcell : ∀ y ∈ scope.names, y.2 ≠ .cell) (hkind : scope.kind = .function) (hx : scope.names.lookup x = some .local) (F : Fr h₀ L s.heap m) (N : News h₀ L s.heap news) (hkeep : ∀ p ∈ keep, p ∈ news) (hl : (d, o) ∈ keep) (ho : o.IsDictOf (strKind prog w) kvs) (hd : (d == sysModules) = false) (hsz : kvs.length ≤ sizeLine)
    (J : Nat → List Value → Led → Prop) (hJ : J 0 [] news)
    (turn : ∀ i k v t ys nx I oI C oC D m₂ h tk (E' : Value → Shared → Prop), kvs[i]? = some (k, v) → J i ys nx → (∀ p ∈ keep, p ∈ nx) → m₂ x = some (.str k t) → NsObj oC m₂ → Fr h₀ L h m → News h₀ L h ((I, oI) :: (C, oC) :: (D, lst ys) :: nx) → (∀ p ∈ nx, p.1 ≠ I ∧ p.1 ≠ C ∧ p.1 ≠ D) →
      wpAny (model prog w) A (compTest ifs (compEnvC scope cl C env)) (fun ok s₃ => if ok = true then
        wpAny (model prog w) A (eval elt (compEnvC scope cl C env)) (ElEnd h₀ L m s I oI C oC D (lst ys) keep fun y nx' => J (i + 1) (ys ++ [y]) nx') E' s₃
        else ElEnd h₀ L m s I oI C oC D (lst ys) keep (fun _ nx' => J (i + 1) ys nx') .none s₃) E' { s with heap := h, toks := tk })
    (done : ∀ D ys nx h tk, (∀ p ∈ news, p.1 < D) → J kvs.length ys nx → (∀ p ∈ keep, p ∈ nx) → Fr h₀ L h m → News h₀ L h ((D, lst ys) :: nx) → (∀ p ∈ nx, p.1 ≠ D) → Q (.ref D) { s with heap := h, toks := tk }) :
    CompAt prog w A E none Q env elt (.Name x px) iter ifs scope cl pos (.ref d) s := by
  obtain ⟨ep, ha⟩ := KdkAt.of ho
  have hod : s.heap.get? d = some o := (N _ (hkeep _ hl)).1
  have hne : d ≠ s.heap.objs.size := Nat.ne_of_lt (Heap.lt_size hod)
  have W := Walks.dictKeys (prog := prog) (w := w) (A := A) (knd := strKind prog w) hh s.heap.objs.size d hne kvs ep
  have S : Src prog w A (.Name x px) s.heap.objs.size kvs.length (fun i v => ∃ k x, kvs[i]? = some (k, x) ∧ (strKind prog w).is k v = true) [(d, o)] (fun i oI => KdkIter oI d i kvs.length ep) :=
    Src.ofWalks W (fun i h oI hoI hIt hn => ⟨hIt.at hoI, ha.dictAt (hn _ (.head _))⟩) (fun i h st => let ⟨oI, e, c⟩ := st.1; ⟨oI, e, c⟩) (fun i v s o Q E _ _ _ hQ => go_name hQ) (fun i s oI Q E hoI hIt hQ => wpAny_pyIter_keyiter (hIt.at hoI) hQ)
  refine CompAt_of hh (fun Q' hQ' => wpAny_pyIter_dict hd (ha.dictAt hod) hQ') rfl S ⟨rfl, rfl⟩ hcell hkind F N (fun p hp => by rw [List.mem_singleton.mp hp]; exact hl) hkeep hsz J (Tgt.name x px hx) hJ ?_ done
  rintro i v ys nx I oI C oC D m₂ h tk E' hi ⟨k, y, hky, hkv⟩ hJ' hk hB hC F' N' off'
  obtain ⟨t, rfl⟩ := Value.isStrOf_shape hkv
  exact turn i k y t ys nx I oI C oC D m₂ h tk E' hky hJ' hk hB hC F' N' off'

theorem CompAt_range {elt iter : PySem.Expr} {x : Str} {px : Pos} {ifs : List PySem.Expr} {scope : Scope} {cl : List (Str × Addr)} {pos : Pos} {keep news : Led} {Q : Value → Shared → Prop} {r : Addr} {a b : Int} {t u v : Tok} {n : Nat} (hh : A.handled = none)
    (hcell : ∀ y ∈ scope.names, y.2 ≠ .cell) (hkind : scope.kind = .function) (hx : scope.names.lookup x = some .local) (F : Fr h₀ L s.heap m) (N : News h₀ L s.heap news) (hkeep : ∀ p ∈ keep, p ∈ news)
    (hr : IsRange s.heap r a b 1 t u v) (hsm : Builtin.Range.small a b 1 = true) (hn : Builtin.Range.rangeSize a b 1 = ((n : Nat) : Int)) (hsz : n ≤ sizeLine)
    (J : Nat → List Value → Led → Prop) (hJ : J 0 [] news)
    (turn : ∀ i t ys nx I oI C oC D m₂ h tk (E' : Value → Shared → Prop), i < n → J i ys nx → (∀ p ∈ keep, p ∈ nx) → m₂ x = some (.int (a + (i : Int)) t) → NsObj oC m₂ → Fr h₀ L h m → News h₀ L h ((I, oI) :: (C, oC) :: (D, lst ys) :: nx) → (∀ p ∈ nx, p.1 ≠ I ∧ p.1 ≠ C ∧ p.1 ≠ D) →
      wpAny (model prog w) A (compTest ifs (compEnvC scope cl C env)) (fun ok s₃ => if ok = true then
        wpAny (model prog w) A (eval elt (compEnvC scope cl C env)) (ElEnd h₀ L m s I oI C oC D (lst ys) keep fun y nx' => J (i + 1) (ys ++ [y]) nx') E' s₃
        else ElEnd h₀ L m s I oI C oC D (lst ys) keep (fun _ nx' => J (i + 1) ys nx') .none s₃) E' { s with heap := h, toks := tk })
    (done : ∀ D ys nx h tk, (∀ p ∈ news, p.1 < D) → J n ys nx → (∀ p ∈ keep, p ∈ nx) → Fr h₀ L h m → News h₀ L h ((D, lst ys) :: nx) → (∀ p ∈ nx, p.1 ≠ D) → Q (.ref D) { s with heap := h, toks := tk }) :
    CompAt prog w A E none Q env elt (.Name x px) iter ifs scope cl pos (.ref r) s := by
  have W := range_walks (prog := prog) (w := w) (A := A) (I := s.heap.objs.size) hh a n
  have S : Src prog w A (.Name x px) s.heap.objs.size n (fun i v => ∃ t, v = .int (a + (i : Int)) t) [] (fun i oI => oI = { cls := .type "range_iterator", data := .fields #[rawInt (a + (i : Nat) * 1), rawInt ((n : Int) - (i : Nat)), rawInt 1] }) :=
    Src.ofWalks W (fun i h oI hoI hIt _ => by show h.get? _ = some _; rw [hoI, hIt]) (fun i h st => ⟨_, st, rfl⟩) (fun i v s o Q E _ _ _ hQ => go_name hQ)
      (fun i s oI Q E hoI hIt hQ => wpAny_pyIter_rangeiter (x := a + (i : Nat) * 1) (left := (n : Int) - (i : Nat)) (step := 1) (by show s.heap.get? _ = some _; rw [hoI, hIt]) hQ)
  refine CompAt_of hh (fun Q' hQ' => wpAny_pyIter_range hr hsm hQ') rfl S (by rw [hn]; simp) hcell hkind F N (fun _ hp => nomatch hp) hkeep hsz J (Tgt.name x px hx) hJ ?_ done
  rintro i v ys nx I oI C oC D m₂ h tk E' hi ⟨t, rfl⟩ hJ' hk hB hC F' N' off'
  exact turn i t ys nx I oI C oC D m₂ h tk E' hi hJ' hk hB hC F' N' off'
end
end Mine
end
section
open PySem PySem.W PyProof.Rows PySem.Calls
set_option maxRecDepth 100000
namespace Mine
section
variable {prog : Program} {w : World} {A : Around} {E : Value → Shared → Prop} {s : Shared} {h₀ : Heap} {L : Addr} {m : Str → Option Value} {news : Led}

/-- how many items t[:k] has -/
noncomputable def cut (k : Int) (n : Nat) : Nat := if k < 0 then n - (-k).toNat else min k.toNat n
theorem cut_le (k : Int) (n : Nat) : cut k n ≤ n := by unfold cut; split <;> omega

theorem sliceApplied_upto {sl : Addr} {k : Int} {n : Nat} {u : Tok} {Q : Int × Int × Nat → Shared → Prop} (hs : s.heap.IsSliceOf sl .none (.int k u) .none) (h : Q (0, 1, cut k n) s) :
    wpAny (model prog w) A (Builtin.Slice.sliceApplied (.ref sl) (pure (n : Int))) Q E s := by
  obtain ⟨os, hos, hcs, hds⟩ := id hs
  unfold Builtin.Slice.sliceApplied Builtin.Slice.sliceFields
  refine wpAny_bind (wpAny_bind (wpAny_field hos hds (x := .none) rfl (wpAny_bind (wpAny_field hos hds (x := .int k u) rfl (wpAny_bind (wpAny_field hos hds (x := .none) rfl (wpAny_pure ?_)))))))
  refine wpAny_bind (slicePart_none ?_)
  show wpAny _ _ (if ((1 : Int) == 0) = true then _ else _) _ _ s
  rw [if_neg (by decide)]
  refine wpAny_bind (slicePart_none (wpAny_bind (slicePart_int (wpAny_bind (wpAny_pure ?_)))))
  have e : Builtin.Slice.sliceAdjust none (some k) 1 (n : Int) = (0, (cut k n : Int)) := by
    unfold Builtin.Slice.sliceAdjust cut
    have h1 : ¬ ((1 : Int) < 0) := by omega
    simp only [h1, if_false]
    congr 1
    split <;> omega
  have e2 : Builtin.Slice.slicePlaces 0 (cut k n : Int) 1 = cut k n := by
    unfold Builtin.Slice.slicePlaces
    have h1 : (1 : Int) > 0 := by omega
    simp only [h1, if_true, Int.ediv_one]
    split <;> omega
  show wpAny _ _ (match Builtin.Slice.sliceAdjust none (some k) 1 (n : Int) with | (lo, hi) => pure (lo, (1 : Int), Builtin.Slice.slicePlaces lo hi 1)) _ _ s
  rw [e]
  show wpAny _ _ (pure ((0 : Int), (1 : Int), Builtin.Slice.slicePlaces 0 (cut k n : Int) 1)) _ _ s
  rw [e2]
  exact wpAny_pure h

theorem pick_upto (xs : Array Value) (c : Nat) : ((List.range c).filterMap fun (k : Nat) => xs[((0 : Int) + (k : Int) * 1).toNat]?).toArray = (xs.toList.take c).toArray := by
  have e : (fun (k : Nat) => xs[((0 : Int) + (k : Int) * 1).toNat]?) = fun k => xs[0 + k]? := by
    funext k
    have : ((0 : Int) + (k : Int) * 1).toNat = 0 + k := by omega
    rw [this]
  rw [e]
  have q := pick_run xs 0 c
  rw [List.filterMap_map] at q
  have e2 : ((fun x => xs[x]?) ∘ fun x => 0 + x) = fun k => xs[0 + k]? := rfl
  rw [e2, List.drop_zero] at q
  rw [q]

theorem getItem_tuple_upto {t sl : Addr} {items : Array Value} {k : Int} {u : Tok} {Q : Value → Shared → Prop} (ht : ∃ o, s.heap.get? t = some o ∧ o.cls = .type "tuple" ∧ ∃ n, o.data = .seq items n) (hs : s.heap.IsSliceOf sl .none (.int k u) .none)
    (hw : cut k items.size = items.size → Q (.ref t) s)
    (h : Q (.ref s.heap.objs.size) { s with heap := s.heap.push { cls := .type "tuple", data := .seq (items.toList.take (cut k items.size)).toArray } })
    (hsz : items.size ≤ sizeLine := by size_fits) : wpAny (model prog w) A (getItem (.ref t) (.ref sl)) Q E s := by
  have ht' : IsTup s.heap t items := ht
  have hdrop : sizeOk (.seq (items.toList.take (cut k items.size)).toArray) := by
    show (items.toList.take (cut k items.size)).toArray.size ≤ sizeLine
    rw [List.size_toArray, List.length_take, Array.length_toList]
    omega
  obtain ⟨os, hos, hcs, hds⟩ := id hs
  have hTs : s.TypeIs (.ref sl) "slice" := ⟨os, hos, hcs⟩
  unfold getItem
  try with_reducible refine wpAny_holding ?_
  first | refine wpAny_bind (wpAny_pure ?_) | skip
  refine wpAny_bind (wpAny_sequenceKey ht'.typeIs (by decide) ?_)
  refine wpAny_bind (wpAny_callSpecial?_slot (name := Str.ofString "__getitem__") ht'.typeIs slot_tuple_getitem
    (wpAny_call_entry slot_tuple_getitem ht'.typeIs entry_tuple_getitem ?_ (args_tuple_getitem _ _)))
  show wpAny _ _ (Builtin.Tuple.tupleItemsOf (.ref t) >>= _) _ _ s
  refine wpAny_bind (tupleItemsOf_ ht' ?_)
  refine wpAny_bind (wpAny_typeOf hTs ?_)
  rw [if_pos (by decide)]
  refine wpAny_bind (sliceApplied_upto hs ?_)
  by_cases hc : cut k items.size = items.size
  · show wpAny _ _ (if ((0 : Int) == 0 && (1 : Int) == 1 && (cut k items.size) == items.size) = true then _ else _) _ _ s
    rw [if_pos (by simp [hc])]
    have hq := hw hc
    obtain ⟨o, ho, hcl, n, hd⟩ := ht
    have hex : ∀ {A' : Around} {E' : Value → Shared → Prop} {Q' : Bool → Shared → Prop}, Q' true s → wpAny (model prog w) A' (Builtin.Tuple.tupleIsExact (.ref t)) Q' E' s := by
      intro A' E' Q' hQ'
      unfold Builtin.Tuple.tupleIsExact
      exact wpAny_bind (wpAny_typeOf ht'.typeIs (wpAny_pure hQ'))
    refine wpAny_bind (hex ?_)
    rw [if_pos rfl]
    exact wpAny_bind (wpAny_rule (wpAny_pure ⟨_, rfl, wpAny_pure hq⟩))
  · have hno : ¬ (((0 : Int) == 0 && (1 : Int) == 1 && (cut k items.size) == items.size) = true) := by simp [hc]
    show wpAny _ _ (if ((0 : Int) == 0 && (1 : Int) == 1 && (cut k items.size) == items.size) = true then _ else _) _ _ s
    rw [if_neg hno, pick_upto items]
    first
      | exact wpAny_bind (m := Builtin.Tuple.tupleExact _) (wpAny_newObj_type (wpAny_pure ⟨_, rfl, wpAny_pure h⟩) hdrop)
      | exact wpAny_bind (m := Builtin.Tuple.tupleExact _) (wpAny_newObj_type (wpAny_bind (wpAny_pure (wpAny_pure ⟨_, rfl, wpAny_pure h⟩))) hdrop)
      | exact wpAny_bind (wpAny_bind (m := Builtin.Tuple.tupleExact _) (wpAny_newObj_type (wpAny_pure (wpAny_pure ⟨_, rfl, wpAny_pure h⟩)) hdrop))
      | exact wpAny_bind (wpAny_bind (m := Builtin.Tuple.tupleExact _) (wpAny_newObj_type (wpAny_pure ⟨_, rfl, wpAny_pure h⟩) hdrop))

/-- t[:k] of a tuple of the ledger -/
theorem tup_upto {value slice : PySem.Expr} {t : Addr} {vs : List Value} {n : Nat} {k : Int} {u : Tok} {Q : Value → Shared → Prop} (F : Fr h₀ L s.heap m) (N : News h₀ L s.heap news) (hm : (t, tupObj vs n) ∈ news)
    (h : ∀ D h' tl j, Fr h₀ L h' m → News h₀ L h' (tl ++ news) → (∀ q ∈ tl, ∀ p ∈ news, p.1 < q.1) → (D, tupObj (vs.take (cut k vs.length)) j) ∈ tl ++ news → Q (.ref D) { s with heap := h' })
    (hsz : vs.length ≤ sizeLine)
    (hs : subscripted slice false (.ref t) (.ref s.heap.objs.size) = operate [.ref s.heap.objs.size, .ref t] (getItem (.ref t) (.ref s.heap.objs.size)) := by with_unfolding_all rfl)
    (hg : ∀ r, letTemporaryGo value (.ref t) r = pure () := by intro _; with_unfolding_all rfl) :
    wpAny (model prog w) A (subscriptTail value slice (.ref t) (.ref s.heap.objs.size)) Q E { s with heap := s.heap.push { cls := .type "slice", data := .fields #[.none, .int k u, .none] } } := by
  have ht : IsTup s.heap t vs.toArray := News.isTup N hm
  have ht' : IsTup (s.heap.push { cls := .type "slice", data := .fields #[.none, .int k u, .none] }) t vs.toArray := ht.keeps fun _ _ e => Heap.get?_push_of_some _ e
  refine subscriptTail_ops (s := { s with heap := s.heap.push { cls := .type "slice", data := .fields #[.none, .int k u, .none] } }) ht'.typeIs slot_tuple_getitem.lookup
    (getItem_tuple_upto ht' (Heap.IsSliceOf.new ..) ?_ ?_ (by simpa using hsz)) hs hg
  · intro hc
    refine h t _ [] n (F.push _) (N.grown fun _ _ e => Heap.get?_push_of_some _ e) (fun _ hq => nomatch hq) ?_
    have e : cut k vs.length = vs.length := by simpa using hc
    rw [e, List.take_length]
    exact hm
  · have N1 := News.push (F.push { cls := .type "slice", data := .fields #[.none, .int k u, .none] }) (N.grown fun _ _ e => Heap.get?_push_of_some _ e) { cls := .type "tuple", data := .seq (vs.toArray.toList.take (cut k vs.toArray.size)).toArray }
    rw [Heap.size_push] at N1
    show Q (.ref (s.heap.push _).objs.size) _
    rw [Heap.size_push]
    have e1 : vs.toArray.toList = vs := rfl
    have e2 : vs.toArray.size = vs.length := by simp
    rw [e1, e2] at N1 ⊢
    refine h _ _ [_] 0 ((F.push _).push _) N1 (fun q hq p hp => ?_) (.head _)
    rw [List.mem_singleton.mp hq]
    exact Nat.lt_succ_of_lt (Heap.lt_size (N p hp).1)
end
end Mine
end
section
open PySem PySem.W PyProof.Rows PySem.Calls PyProof.V
set_option maxRecDepth 100000
namespace Mine

abbrev Way := List Str
noncomputable def nameAt (k : Nat) : Str := if k = 0 then Str.ofString "a" else if k = 1 then Str.ofString "b" else Str.ofString ""
noncomputable def wayD (p : Way) : Dat := .tuple (p.map .str)
noncomputable def rowD (r : List Way) : Dat := .list (r.map wayD)
/-- a way whose names are the three -/
def WOk (p : Way) : Prop := ∀ x ∈ p, ∃ k, x = nameAt k

theorem strOk_nameAt (k : Nat) : PyData.strOk (nameAt k) = true := by
  unfold nameAt
  split
  · decide +kernel
  · split <;> decide +kernel
theorem str_inj {p q : List Str} (h : p.map Dat.str = q.map Dat.str) : p = q := by
  induction p generalizing q with
  | nil => cases q with
    | nil => rfl
    | cons _ _ => cases h
  | cons x p ih =>
    cases q with
    | nil => cases h
    | cons y q =>
      injection h with h1 h2
      injection h1 with h1
      rw [h1, ih h2]
theorem wayD_inj {p q : Way} : wayD p = wayD q ↔ p = q := by
  constructor
  · intro h
    injection h with h
    exact str_inj h
  · rintro rfl; rfl
theorem wayD_ok {p : Way} (h : WOk p) (n : Nat) : kqdOk (n + 1) (wayD p) = true := by
  unfold wayD
  simp only [kqdOk, List.all_eq_true]
  intro d hd
  obtain ⟨x, hx, rfl⟩ := List.mem_map.mp hd
  obtain ⟨k, rfl⟩ := h x hx
  cases n <;> exact strOk_nameAt k
theorem waysD_ok {ps : List Way} (h : ∀ p ∈ ps, WOk p) (n : Nat) : ∀ d ∈ ps.map wayD, kqdOk (n + 1) d = true := by
  intro d hd
  obtain ⟨p, hp, rfl⟩ := List.mem_map.mp hd
  exact wayD_ok (h p hp) n
theorem waysD_mem {ps : List Way} {p : Way} : wayD p ∈ ps.map wayD ↔ p ∈ ps := by
  constructor
  · intro h
    obtain ⟨q, hq, e⟩ := List.mem_map.mp h
    rw [← wayD_inj.mp e]; exact hq
  · intro h; exact List.mem_map.mpr ⟨p, h, rfl⟩
theorem waysD_inj {ps qs : List Way} : ps.map wayD = qs.map wayD ↔ ps = qs := by
  constructor
  · intro h
    induction ps generalizing qs with
    | nil => cases qs with
      | nil => rfl
      | cons _ _ => cases h
    | cons x p ih =>
      cases qs with
      | nil => cases h
      | cons y q =>
        injection h with h1 h2
        rw [wayD_inj.mp h1, ih h2]
  · rintro rfl; rfl

section
variable {prog : Program} {w : World} {A : Around} {E : Value → Shared → Prop} {s : Shared} {h₀ : Heap} {L : Addr} {m : Str → Option Value} {news I I' : Led} {a b : Value} {d e : Dat} {Q : Value → Shared → Prop}

theorem dat_shaped {n : Nat} (hn : n ≤ 60) (h : kqdOk n d = true) : SeqAt.shaped (kqdP d) = true := by
  have l := kqd_lay n d h
  unfold SeqAt.shaped
  rw [l.1, Bool.true_and]
  exact decide_eq_true (Nat.le_trans l.2 (by omega))
theorem dat_eqv {n k : Nat} (hd : kqdOk n d = true) (he : kqdOk k e = true) {c : Bool} (hc : c = true ↔ d = e) : PyData.eqv (kqdP d) (kqdP e) = c := by
  have q := kqd_eqv n d e k hd he
  cases c with
  | true => exact q.mpr (hc.mp rfl)
  | false => exact Bool.eq_false_iff.mpr fun x => by simpa using hc.mpr (q.mp x)

theorem dat_eq {c : Bool} (n k : Nat) (N : News h₀ L s.heap news) (Da : DatIn I a d) (Db : DatIn I' b e) (sa : ∀ p ∈ I, p ∈ news) (sb : ∀ p ∈ I', p ∈ news) (hd : kqdOk n d = true) (he : kqdOk k e = true) (hn : n ≤ 60) (hk : k ≤ 60)
    (hu : A.units + 64 < cLine) (hc : c = true ↔ d = e) (h : Q (.bool c) s) : wpAny (model prog w) A (compareOp .Eq a b) Q E s := by
  obtain ⟨as, ra⟩ := kqd_in N n (Da.mono sa) hd
  obtain ⟨bs, rb⟩ := kqd_in N k (Db.mono sb) he
  refine eq_dataH ra rb (dat_shaped hn hd) (dat_shaped hk he) hu ?_
  rw [dat_eqv hd he hc]; exact h
theorem dat_ne {c : Bool} (n k : Nat) (N : News h₀ L s.heap news) (Da : DatIn I a d) (Db : DatIn I' b e) (sa : ∀ p ∈ I, p ∈ news) (sb : ∀ p ∈ I', p ∈ news) (hd : kqdOk n d = true) (he : kqdOk k e = true) (hn : n ≤ 60) (hk : k ≤ 60)
    (hu : A.units + 64 < cLine) (hc : c = true ↔ d = e) (h : Q (.bool (!c)) s) : wpAny (model prog w) A (compareOp .NotEq a b) Q E s := by
  obtain ⟨as, ra⟩ := kqd_in N n (Da.mono sa) hd
  obtain ⟨bs, rb⟩ := kqd_in N k (Db.mono sb) he
  refine ne_dataH ra rb (dat_shaped hn hd) (dat_shaped hk he) hu ?_
  rw [dat_eqv hd he hc]; exact h

theorem way_eq {p q : Way} (N : News h₀ L s.heap news) (Da : DatIn I a (wayD p)) (Db : DatIn I' b (wayD q)) (sa : ∀ p ∈ I, p ∈ news) (sb : ∀ p ∈ I', p ∈ news) (hp : WOk p) (hq : WOk q)
    (hu : A.units + 64 < cLine) (h : Q (.bool (decide (p = q))) s) : wpAny (model prog w) A (compareOp .Eq a b) Q E s :=
  dat_eq 1 1 N Da Db sa sb (wayD_ok hp 0) (wayD_ok hq 0) (by omega) (by omega) hu (by rw [wayD_inj, decide_eq_true_eq]) h
theorem way_ne {p q : Way} (N : News h₀ L s.heap news) (Da : DatIn I a (wayD p)) (Db : DatIn I' b (wayD q)) (sa : ∀ p ∈ I, p ∈ news) (sb : ∀ p ∈ I', p ∈ news) (hp : WOk p) (hq : WOk q)
    (hu : A.units + 64 < cLine) (h : Q (.bool (!decide (p = q))) s) : wpAny (model prog w) A (compareOp .NotEq a b) Q E s :=
  dat_ne 1 1 N Da Db sa sb (wayD_ok hp 0) (wayD_ok hq 0) (by omega) (by omega) hu (by rw [wayD_inj, decide_eq_true_eq]) h

/-- p in a list of ways -/
theorem way_in {l : Addr} {vs : List Value} {n : Nat} {ps : List Way} {p : Way} {c : Bool} (N : News h₀ L s.heap news) (hm : (l, listOf vs.toArray n) ∈ news) (Ds : DatAll I vs (ps.map wayD)) (Da : DatIn I' a (wayD p)) (sa : ∀ p ∈ I, p ∈ news) (sb : ∀ p ∈ I', p ∈ news)
    (hps : ∀ p ∈ ps, WOk p) (hp : WOk p) (hu : A.units + 64 < cLine) (hc : c = true ↔ p ∈ ps) (h : Q (.bool c) s) : wpAny (model prog w) A (compareOp .In a (.ref l)) Q E s := by
  refine kqd_isIn N hm rfl rfl Ds sa Da sb (waysD_ok hps 7) (wayD_ok hp 7) hu ?_
  have e1 : ∀ i : Decidable (wayD p ∈ ps.map wayD), @decide _ i = c := fun i => by
    cases c with
    | true => exact decide_eq_true (waysD_mem.mpr (hc.mp rfl))
    | false => exact decide_eq_false fun q => by simpa using hc.mpr (waysD_mem.mp q)
  rw [e1]; exact h
theorem way_notIn {l : Addr} {vs : List Value} {n : Nat} {ps : List Way} {p : Way} {c : Bool} (N : News h₀ L s.heap news) (hm : (l, listOf vs.toArray n) ∈ news) (Ds : DatAll I vs (ps.map wayD)) (Da : DatIn I' a (wayD p)) (sa : ∀ p ∈ I, p ∈ news) (sb : ∀ p ∈ I', p ∈ news)
    (hps : ∀ p ∈ ps, WOk p) (hp : WOk p) (hu : A.units + 64 < cLine) (hc : c = true ↔ p ∈ ps) (h : Q (.bool (!c)) s) : wpAny (model prog w) A (compareOp .NotIn a (.ref l)) Q E s := by
  refine kqd_notIn N hm rfl rfl Ds sa Da sb (waysD_ok hps 7) (wayD_ok hp 7) hu ?_
  have e1 : ∀ i : Decidable (wayD p ∈ ps.map wayD), @decide _ i = c := fun i => by
    cases c with
    | true => exact decide_eq_true (waysD_mem.mpr (hc.mp rfl))
    | false => exact decide_eq_false fun q => by simpa using hc.mpr (waysD_mem.mp q)
  rw [e1]; exact h

theorem isi_yes {x : Value} {T : String} (hx : s.TypeIs x T) (hty : typeOf (.type T) = pure (.type "type")) (hsub : isSubtype (.type T) (.type T) = pure true) (h : Q (.bool true) s) : wpAny (model prog w) A (call (.builtin "isinstance") [x, .type T]) Q E s :=
  call_isinstance_yes hx hty hsub h
end

section
variable {prog : Program} {w : World} {A : Around} {E : Value → Shared → Prop} {s : Shared} {h₀ : Heap} {L : Addr} {m : Str → Option Value} {news : Led}

/-- an object of the ledger is put in another's place -/
theorem News.put {h h' : Heap} {a : Addr} {o o' : Obj} (N : News h₀ L h news) (hm : (a, o) ∈ news) (hs : Heap.SameBut a h h') (ho : h'.get? a = some o') : News h₀ L h' ((a, o') :: news.filter fun p => decide (p.1 ≠ a)) := by
  intro p hp
  rcases List.mem_cons.mp hp with rfl | hp
  · exact ⟨ho, (N _ hm).2⟩
  · obtain ⟨h1, h2⟩ := List.mem_filter.mp hp
    have h2 : p.1 ≠ a := by simpa using h2
    exact ⟨(hs.2 _ h2).trans (N p h1).1, (N p h1).2⟩
theorem Fr.put {h h' : Heap} {a : Addr} {o : Obj} (F : Fr h₀ L h m) (N : News h₀ L h news) (hm : (a, o) ∈ news) (hs : Heap.SameBut a h h') : Fr h₀ L h' m :=
  F.change hs (N _ hm).2.1 (N _ hm).2.2

theorem led_append {l : Addr} {vs : List Value} {n : Nat} {x : Value} {Q : Value → Shared → Prop} (F : Fr h₀ L s.heap m) (N : News h₀ L s.heap news) (hm : (l, listOf vs.toArray n) ∈ news)
    (h : ∀ h' news', Fr h₀ L h' m → News h₀ L h' news' → (l, listOf (vs ++ [x]).toArray (n + 1)) ∈ news' → (∀ p ∈ news, p.1 ≠ l → p ∈ news') → (∀ p ∈ news', p = (l, listOf (vs ++ [x]).toArray (n + 1)) ∨ (p ∈ news ∧ p.1 ≠ l)) → Q .none { s with heap := h' })
    (hsz : vs.length ≤ sizeLine) : wpAny (model prog w) A (call (.builtin "list.append") [.ref l, x]) Q E s := by
  refine append_at (N _ hm).1 (fun h' hs ho => ?_) (by simpa using hsz)
  have ho' : h'.get? l = some (listOf (vs ++ [x]).toArray (n + 1)) := by rw [ho]; simp
  refine h h' _ (Fr.put F N hm hs) (News.put N hm hs ho') (.head _) (fun p hp hpl => List.mem_cons_of_mem _ (List.mem_filter.mpr ⟨hp, by simpa using hpl⟩)) fun p hp => ?_
  rcases List.mem_cons.mp hp with rfl | hp
  · exact .inl rfl
  · obtain ⟨h1, h2⟩ := List.mem_filter.mp hp
    exact .inr ⟨h1, by simpa using h2⟩

/-! dicts by names -/
theorem dict_notIn {d : Addr} {o : Obj} {kvs : List (Str × Value)} {x : Str} {t : Tok} {Q : Value → Shared → Prop} (N : News h₀ L s.heap news) (hm : (d, o) ∈ news) (ho : o.IsDictOf (strKind prog w) kvs) (hd : (d == sysModules) = false)
    (h : Q (.bool (!(valueAt kvs x).isSome)) { s with toks := s.toks + 1 }) : wpAny (model prog w) A (compareOp .NotIn (.str x t) (.ref d)) Q E s :=
  wpAny_notIn_of (strKind_is prog w x t) hd (Heap.DictOf.mapOf (Heap.dictOf_iff.mpr ⟨o, (N _ hm).1, ho⟩)) h
theorem dict_get {value slice : PySem.Expr} {d : Addr} {o : Obj} {kvs : List (Str × Value)} {x : Str} {t : Tok} {v : Value} {Q : Value → Shared → Prop} (N : News h₀ L s.heap news) (hm : (d, o) ∈ news) (ho : o.IsDictOf (strKind prog w) kvs) (hv : valueAt kvs x = some v)
    (h : Q v { s with toks := s.toks + 1 })
    (hs : subscripted slice false (.ref d) (.str x t) = operate [.ref d, .str x t] (getItem (.ref d) (.str x t)) := by with_unfolding_all rfl) : wpAny (model prog w) A (subscriptTail value slice (.ref d) (.str x t)) Q E s :=
  have hD : s.heap.DictOf (strKind prog w) d kvs := Heap.dictOf_iff.mpr ⟨o, (N _ hm).1, ho⟩
  tail_any hD.typeIs slot_dict_getitem.lookup (wpAny_getItem_of (strKind_is prog w x t) (Heap.DictOf.mapOf hD) hv h) hs
theorem dict_set {d : Addr} {o : Obj} {kvs : List (Str × Value)} {x : Str} {t : Tok} {v : Value} {Q : Unit → Shared → Prop} (F : Fr h₀ L s.heap m) (N : News h₀ L s.heap news) (hm : (d, o) ∈ news) (ho : o.IsDictOf (strKind prog w) kvs)
    (h : ∀ h' news' o', Fr h₀ L h' m → News h₀ L h' news' → (d, o') ∈ news' → o'.IsDictOf (strKind prog w) (stored kvs x v) → (∀ p ∈ news, p.1 ≠ d → p ∈ news') → (∀ p ∈ news', p = (d, o') ∨ (p ∈ news ∧ p.1 ≠ d)) → Q () { s with heap := h', toks := s.toks + 1 })
    (hsz : kvs.length ≤ sizeLine) : wpAny (model prog w) A (setItem (.ref d) (.str x t) v) Q E s := by
  refine wpAny_setItem_pairs (strKind_is prog w x t) (Heap.dictOf_iff.mpr ⟨o, (N _ hm).1, ho⟩) (fun h' hD hs => ?_) hsz
  obtain ⟨o', ho', hD'⟩ := Heap.dictOf_iff.mp hD
  refine h h' _ o' (Fr.put F N hm hs) (News.put N hm hs ho') (.head _) hD' (fun p hp hpl => List.mem_cons_of_mem _ (List.mem_filter.mpr ⟨hp, by simpa using hpl⟩)) fun p hp => ?_
  rcases List.mem_cons.mp hp with rfl | hp
  · exact .inl rfl
  · obtain ⟨h1, h2⟩ := List.mem_filter.mp hp
    exact .inr ⟨h1, by simpa using h2⟩
theorem dict_type {d : Addr} {o : Obj} {kvs : List (Str × Value)} (N : News h₀ L s.heap news) (hm : (d, o) ∈ news) (ho : o.IsDictOf (strKind prog w) kvs) : s.TypeIs (.ref d) "dict" :=
  Heap.DictOf.typeIs (knd := strKind prog w) (kvs := kvs) (Heap.dictOf_iff.mpr ⟨o, (N _ hm).1, ho⟩)
end
end Mine
end
section
open PySem PySem.W PyProof.Rows
namespace Mine


noncomputable def wayF : Nat → Nat → Way → Way
  | 0, _, acc => acc
  | f + 1, n, acc => if n = 0 then acc else wayF f ((n - 1) / 3) (nameAt ((n - 1) % 3) :: acc)
theorem wayF_enough : ∀ (f g n : Nat) (acc : Way), n ≤ f → n ≤ g → wayF f n acc = wayF g n acc
  | 0, 0, _, _, _, _ => rfl
  | 0, g + 1, n, acc, h, _ => by
    have : n = 0 := by omega
    simp [wayF, this]
  | f + 1, 0, n, acc, _, h => by
    have : n = 0 := by omega
    simp [wayF, this]
  | f + 1, g + 1, n, acc, h1, h2 => by
    by_cases h : n = 0
    · simp [wayF, h]
    · simp only [wayF, if_neg h]
      exact wayF_enough f g _ _ (by omega) (by omega)
noncomputable def wayAcc (n : Nat) (acc : Way) : Way := wayF n n acc
theorem wayAcc_zero (acc : Way) : wayAcc 0 acc = acc := rfl
theorem wayAcc_pos {n : Nat} (h : n ≠ 0) (acc : Way) : wayAcc n acc = wayAcc ((n - 1) / 3) (nameAt ((n - 1) % 3) :: acc) := by
  obtain ⟨m, rfl⟩ : ∃ m, n = m + 1 := ⟨n - 1, by omega⟩
  show wayF (m + 1) (m + 1) acc = _
  rw [wayF, if_neg h]
  exact wayF_enough _ _ _ _ (by omega) (Nat.le_refl _)
noncomputable def wayOf (n : Nat) : Way := wayAcc n []

theorem way_fm (j : Nat) (hj : (0 : Int) < j) : (((j : Int) - 1).fmod 3) = (((j - 1) % 3 : Nat) : Int) := by
  rw [Int.fmod_eq_emod_of_nonneg _ (by decide)]; omega
theorem way_fd (j : Nat) (hj : (0 : Int) < j) : (((j : Int) - 1).fdiv 3) = (((j - 1) / 3 : Nat) : Int) := by
  rw [Int.fdiv_eq_ediv_of_nonneg _ (by decide)]; omega
theorem way_r3 (j : Nat) : (j - 1) % 3 = 0 ∨ (j - 1) % 3 = 1 ∨ (j - 1) % 3 = 2 := by omega
theorem way_at {k : Nat} (h : k = 0 ∨ k = 1 ∨ k = 2) (t0 t1 t2 : Tok) :
    ∃ t', ([Value.str (Str.ofString "a") t0, Value.str (Str.ofString "b") t1, Value.str (Str.ofString "") t2] : List Value)[((k : Nat) : Int).toNat]? = some (.str (nameAt k) t') := by
  rcases h with rfl | rfl | rfl
  · exact ⟨t0, rfl⟩
  · exact ⟨t1, rfl⟩
  · exact ⟨t2, rfl⟩

set_option maxRecDepth 100000 in
set_option maxHeartbeats 8000000 in
theorem way_does (w : World) (n : Nat) (hn : n ≤ 1000) (t : Tok) (news : Led) : Does w 78 [.int n t] 3 100 news (fun news' r => ∃ tl, news' = tl ++ news ∧ (∀ q ∈ tl, ∀ p ∈ news, p.1 < q.1) ∧ DatIn tl r (wayD (wayOf n))) := by
  unfold Does
  k_fill
  intro p loose mean mg mb dp un gd cn cs a ccd cl outer A₀ base h₀ L m s Q E B F X N T hk hd hu hret
  refine wpAny_call ?_
  k_dflt ktr_enter
  (repeat' ((fail_if_success (with_reducible first | show wpAny _ _ (exec (Stmt.While _ _ _ _) _) _ _ _ | show wpAny _ _ (exec (Stmt.For _ _ _ _ _) _) _ _ _)); first | (k_unfold; (try dsimp only)) | walk1 | (dsimp only; walk1) | (leave1; (try dsimp only)) | fail "no step"))
  rename Fr _ _ _ _ => F1
  rename News _ _ _ _ => N1
  rename (∀ p ∈ news, _) => l1
  refine While_inv2 (fun j m₁ nx => ∃ (v : Value) (k : Nat) (u : Tok) (acc : Way) (tl : Led), j = k ∧ nx = tl ++ news ∧ (∀ q ∈ tl, ∀ p ∈ news, p.1 < q.1) ∧ DatIn tl v (wayD acc) ∧ wayAcc k acc = wayOf n ∧ acc.length + k ≤ n ∧
    Has m₁ [(Str.ofString "way", v), (Str.ofString "number", .int k u)]) (n₀ := n) F1 N1 ?_ ?_
  · refine ⟨_, n, t, [], [_], rfl, rfl, ?_, .tuple (vs := []) (n := 0) (.head _) .nil, rfl, by simp, rfl, rfl, trivial⟩
    intro q hq p hp
    rw [List.mem_singleton.mp hq]
    exact l1 p hp
  · clear F1 N1
    rintro j m₁ nx h₁ tk₁ F1 N1 ⟨v, k, u, acc, tl, rfl, rfl, hlt, hD, hacc, hle, hm⟩
    replace F1 := hm.fr F1
    with_reducible show wpAny _ _ _ _ _ _
    k_fold
    (repeat' ((fail_if_success (with_reducible first | show wpAny _ _ (exec (Stmt.While _ _ _ _) _) _ _ _ | show wpAny _ _ (exec (Stmt.For _ _ _ _ _) _) _ _ _)); first | (k_unfold; (try dsimp only)) | walk1 | (dsimp only; walk1) | (leave1; (try dsimp only)) | fail "no step"))
    · rename (_ < _) => hj
      have hfm := way_fm j hj
      have hfd := way_fd j hj
      rw [hfm]
      rename News _ _ _ _ => N2
      obtain ⟨t', hx⟩ := way_at (way_r3 j) _ _ _
      refine tup_item N2 (.head _) (by omega) (by omega) hx ?_
      (repeat' ((fail_if_success (with_reducible first | show wpAny _ _ (exec (Stmt.While _ _ _ _) _) _ _ _ | show wpAny _ _ (exec (Stmt.For _ _ _ _ _) _) _ _ _)); first | (k_unfold; (try dsimp only)) | walk1 | (dsimp only; walk1) | (leave1; (try dsimp only)) | fail "no step"))
      rename Fr _ _ _ _ => F3
      rename News _ _ _ _ => N3
      rename (_ ∧ _ ∧ AllLt _ _) => l3
      obtain ⟨b1, vs1, n1, rfl, hmem, hall⟩ := DatIn.tup hD
      have hlen := hall.length
      refine add_tup (ws := vs1) (k := n1) F3 N3 (.head _) (.tail _ (.tail _ (.tail _ (List.mem_append_left _ hmem)))) (by simp) ?_ ?_
      · intro D h4 tl4 j4 F4 N4 hlt4 hD4 hDD
        clear F3
        (repeat' ((fail_if_success (with_reducible first | show wpAny _ _ (exec (Stmt.While _ _ _ _) _) _ _ _ | show wpAny _ _ (exec (Stmt.For _ _ _ _ _) _) _ _ _)); first | (k_unfold; (try dsimp only)) | walk1 | (dsimp only; walk1) | (leave1; (try dsimp only)) | fail "no step"))
        rename Fr _ _ _ _ => F5
        rename News _ _ _ _ => N5
        rw [hfd] at F5
        refine ⟨_, _, _, _, (j - 1) / 3, rfl, F5, News.sub (l := ((D, tupObj ([Value.str (nameAt ((j - 1) % 3)) t'] ++ vs1) j4) :: tl) ++ news) N5 ?_, ?_, .ref D, (j - 1) / 3, _, nameAt ((j - 1) % 3) :: acc, _, rfl, rfl, ?_, .tuple (.head _) (DatAll.cons (.str _ _) (hall.mono fun q hq => List.mem_cons_of_mem _ hq)), ?_, ?_, rfl, rfl, trivial⟩
        · intro q hq
          rcases List.mem_cons.mp hq with rfl | hq
          · exact hD4
          · exact List.mem_append_right _ (.tail _ (.tail _ (.tail _ hq)))
        · omega
        · intro q hq p hp
          rcases List.mem_cons.mp hq with rfl | hq
          · rcases hDD with rfl | hDD
            · exact allLt_mem l3.2.2 p (List.mem_append_right _ hp)
            · exact hDD p (.tail _ (.tail _ (.tail _ (List.mem_append_right _ hp))))
          · exact hlt q hq p hp
        · rw [← hacc, wayAcc_pos (n := j) (by omega)]
        · rw [List.length_cons]; omega
      · rw [List.length_map] at hlen
        simp only [List.length_cons, List.length_nil, hlen, sizeLine_eq]; omega
    · (repeat' ((fail_if_success (with_reducible first | show wpAny _ _ (exec (Stmt.While _ _ _ _) _) _ _ _ | show wpAny _ _ (exec (Stmt.For _ _ _ _ _) _) _ _ _)); first | (k_unfold; (try dsimp only)) | walk1 | (dsimp only; walk1) | (leave1; (try dsimp only)) | fail "no step"))
      have hj0 : j = 0 := by omega
      subst hj0
      rw [wayAcc_zero] at hacc
      subst hacc
      exact hret _ _ _ _ (by assumption) (by assumption) ⟨tl, rfl, hlt, hD⟩
end Mine
end
section
open PySem PySem.W PyProof.Rows PyProof.Rows.LCg
namespace Mine

noncomputable def lastN (q : Way) : Str := q.getLastD (Str.ofString "")
noncomputable def isKid (p q : Way) : Bool := decide (q ≠ [] ∧ q.dropLast = p)
noncomputable def kidsOf (P : List Way) (p : Way) : List Way := P.filter (isKid p)
noncomputable def kids (P : List Way) (val : Way → Value) (p : Way) : List (Str × Value) := (kidsOf P p).map fun q => (lastN q, val q)
noncomputable def toldF (P : List Way) (th : Way → Option Dat) : Nat → Way → Dat
  | 0, _ => .list []
  | n + 1, p => .list ((kidsOf P p).map fun q => .tuple [.str (lastN q), match th q with | none => toldF P th n q | some d => .tuple [d]])

/-- the places P laid as dicts of the ledger; I: what does not change -/
structure Tree (prog : Program) (w : World) (T I : Led) (P : List Way) (th : Way → Option Dat) (val : Way → Value) : Prop where
  nest : ∀ p, (p = [] ∨ p ∈ P) → th p = none → ∃ a o, val p = .ref a ∧ (a == sysModules) = false ∧ (a, o) ∈ T ∧ o.IsDictOf (strKind prog w) (kids P val p)
  thing : ∀ p ∈ P, ∀ d, th p = some d → DatIn I (val p) d

theorem isKid_iff {p q : Way} : isKid p q = true ↔ ∃ x, q = p ++ [x] := by
  unfold isKid
  rw [decide_eq_true_eq]
  constructor
  · rintro ⟨h1, h2⟩
    refine ⟨q.getLast h1, ?_⟩
    rw [← h2, List.dropLast_concat_getLast h1]
  · rintro ⟨x, rfl⟩
    simp
theorem lastN_snoc (p : Way) (x : Str) : lastN (p ++ [x]) = x := by simp [lastN]
theorem mem_kidsOf {P : List Way} {p q : Way} : q ∈ kidsOf P p ↔ q ∈ P ∧ ∃ x, q = p ++ [x] := by
  unfold kidsOf
  rw [List.mem_filter, isKid_iff]
/-- the child under a name -/
theorem valueAt_kids (P : List Way) (val : Way → Value) (p : Way) (x : Str) : valueAt (kids P val p) x = if p ++ [x] ∈ P then some (val (p ++ [x])) else none := by
  unfold kids valueAt kidsOf
  induction P with
  | nil => simp
  | cons q P ih =>
    by_cases hk : isKid p q = true
    · obtain ⟨y, rfl⟩ := isKid_iff.mp hk
      rw [List.filter_cons_of_pos hk, List.map_cons, List.find?_cons, lastN_snoc]
      by_cases hxy : y = x
      · subst hxy
        simp
      · have h1 : ¬ (p ++ [x] = p ++ [y]) := fun e => hxy (by simpa using e.symm)
        have h2 : (p ++ [x] ∈ (p ++ [y]) :: P) ↔ p ++ [x] ∈ P := by
          rw [List.mem_cons]
          exact ⟨fun h => h.resolve_left h1, .inr⟩
        simp only [decide_eq_false hxy, h2]
        exact ih
    · rw [List.filter_cons_of_neg hk]
      have h1 : ¬ (p ++ [x] = q) := fun e => hk (isKid_iff.mpr ⟨x, e.symm⟩)
      have h2 : (p ++ [x] ∈ q :: P) ↔ p ++ [x] ∈ P := by
        rw [List.mem_cons]
        exact ⟨fun h => h.resolve_left h1, .inr⟩
      simp only [h2]
      exact ih
end Mine
end
section
open PySem PySem.W PyProof.Rows PyProof.Rows.LCg
set_option maxRecDepth 100000
namespace Mine

/-- new objects lie above the old -/
def Fresh (new old : Led) : Prop := ∀ q ∈ new, ∀ p ∈ old, p.1 < q.1
theorem Fresh.nil {old : Led} : Fresh [] old := fun _ hq => nomatch hq
theorem Fresh.cons {new old : Led} {D : Addr} {o : Obj} (h : ∀ p ∈ old, p.1 < D) (r : Fresh new old) : Fresh ((D, o) :: new) old := by
  intro q hq
  rcases List.mem_cons.mp hq with rfl | hq
  · exact h
  · exact r q hq
theorem Fresh.app {a b old : Led} (h : Fresh a old) (r : Fresh b old) : Fresh (a ++ b) old := by
  intro q hq
  rcases List.mem_append.mp hq with hq | hq
  · exact h q hq
  · exact r q hq
theorem Fresh.sub {a old old' : Led} (h : Fresh a old) (k : ∀ p ∈ old', p ∈ old) : Fresh a old' := fun q hq p hp => h q hq p (k p hp)

theorem ElEnd.grow {h₀ : Heap} {L : Addr} {m : Str → Option Value} {s : Shared} {I C D : Addr} {oI oC oD : Obj} {need nx all : Led} {K : Value → Led → Prop} {y : Value} {h' : Heap} {tk : Nat} (new : Led)
    (F : Fr h₀ L h' m) (N : News h₀ L h' all) (hall : ∀ p ∈ new ++ (I, oI) :: (C, oC) :: (D, oD) :: nx, p ∈ all) (hf : Fresh new ((I, oI) :: (C, oC) :: (D, oD) :: nx)) (off : ∀ p ∈ nx, p.1 ≠ I ∧ p.1 ≠ C ∧ p.1 ≠ D) (hk : ∀ p ∈ need, p ∈ nx) (hK : K y (new ++ nx)) :
    ElEnd h₀ L m s I oI C oC D oD need K y { s with heap := h', toks := tk } := by
  refine ⟨h', tk, new ++ nx, rfl, F, News.sub N fun p hp => hall p ?_, fun p hp => ?_, fun p hp => List.mem_append_right _ (hk p hp), hK⟩
  · simp only [List.mem_cons, List.mem_append] at hp ⊢
    rcases hp with h | h | h | h | h
    · exact .inr (.inl h)
    · exact .inr (.inr (.inl h))
    · exact .inr (.inr (.inr (.inl h)))
    · exact .inl h
    · exact .inr (.inr (.inr (.inr h)))
  · rcases List.mem_append.mp hp with h | h
    · exact ⟨Nat.ne_of_gt (hf p h (I, oI) (.head _)), Nat.ne_of_gt (hf p h (C, oC) (.tail _ (.head _))), Nat.ne_of_gt (hf p h (D, oD) (.tail _ (.tail _ (.head _))))⟩
    · exact off p h

/-- the four things -/
def IsThing (d : Dat) : Prop := d = .int 0 ∨ d = .str (Str.ofString "") ∨ d = .tuple [] ∨ d = .list [.int 0]

theorem take_snoc {α : Type} {I : Led} {ys : List Value} {y : Value} {f : α → Dat} {l : List α} {i : Nat} {q : α} (h : DatAll I ys ((l.take i).map f)) (hq : l[i]? = some q) (hy : DatIn I y (f q)) : DatAll I (ys ++ [y]) ((l.take (i + 1)).map f) := by
  have e : l.take (i + 1) = l.take i ++ [q] := by rw [List.take_add_one, hq]; rfl
  rw [e, List.map_append]
  exact h.append (DatAll.one hy)

section
variable {prog : Program} {w : World} {A : Around} {E : Value → Shared → Prop} {s : Shared} {h₀ : Heap} {L : Addr} {m : Str → Option Value} {news I : Led} {Q : Value → Shared → Prop}

theorem isi_thing_dict {v : Value} {d : Dat} (N : News h₀ L s.heap news) (hI : ∀ p ∈ I, p ∈ news) (hd : IsThing d) (hv : DatIn I v d) (h : ∀ tk, Q (.bool false) { s with toks := tk }) :
    wpAny (model prog w) A (call (.builtin "isinstance") [v, .type "dict"]) Q E s := by
  rcases hd with rfl | rfl | rfl | rfl
  · cases hv with | int _ t => exact PySem.IsiPair.int_dict (h _)
  · cases hv with | str _ t => exact PySem.IsiPair.str_dict (h _)
  · obtain ⟨a, vs, n, rfl, hm, _⟩ := DatIn.tup hv
    exact PySem.IsiPair.tuple_dict (N _ (hI _ hm)).1 rfl (h _)
  · obtain ⟨a, vs, n, rfl, hm, _⟩ := DatIn.lst hv
    exact PySem.IsiPair.list_dict (N _ (hI _ hm)).1 rfl (h _)
theorem isi_nest_dict {a : Addr} {o : Obj} {kvs : List (Str × Value)} (N : News h₀ L s.heap news) (hm : (a, o) ∈ news) (ho : o.IsDictOf (strKind prog w) kvs) (h : ∀ tk, Q (.bool true) { s with toks := tk }) :
    wpAny (model prog w) A (call (.builtin "isinstance") [.ref a, .type "dict"]) Q E s := by
  obtain ⟨o', e, hc⟩ := dict_type N hm ho
  exact PySem.IsiPair.dict_dict e hc (h _)
theorem isi_nest_list {a : Addr} {o : Obj} {kvs : List (Str × Value)} (N : News h₀ L s.heap news) (hm : (a, o) ∈ news) (ho : o.IsDictOf (strKind prog w) kvs) (h : ∀ tk, Q (.bool false) { s with toks := tk }) :
    wpAny (model prog w) A (call (.builtin "isinstance") [.ref a, .type "list"]) Q E s := by
  obtain ⟨o', e, hc⟩ := dict_type N hm ho
  exact PySem.IsiPair.dict_list e hc (h _)
theorem isi_thing_list {v : Value} {d : Dat} (N : News h₀ L s.heap news) (hI : ∀ p ∈ I, p ∈ news) (hd : IsThing d) (hv : DatIn I v d)
    (h : d ≠ .list [.int 0] → ∀ tk, Q (.bool false) { s with toks := tk })
    (h' : d = .list [.int 0] → ∀ a t n, v = .ref a → (a, listOf [Value.int 0 t].toArray n) ∈ I → ∀ tk, Q (.bool true) { s with toks := tk }) :
    wpAny (model prog w) A (call (.builtin "isinstance") [v, .type "list"]) Q E s := by
  rcases hd with rfl | rfl | rfl | rfl
  · cases hv with | int _ t => exact PySem.IsiPair.int_list (h (by intro e; cases e) _)
  · cases hv with | str _ t => exact PySem.IsiPair.str_list (h (by intro e; cases e) _)
  · obtain ⟨a, vs, n, rfl, hm, _⟩ := DatIn.tup hv
    exact PySem.IsiPair.tuple_list (N _ (hI _ hm)).1 rfl (h (by intro e; cases e) _)
  · obtain ⟨a, vs, n, rfl, hm, hd⟩ := DatIn.lst hv
    cases hd with
    | cons hd1 hd2 =>
      cases hd2
      cases hd1 with
      | int _ t => exact PySem.IsiPair.list_list (N _ (hI _ hm)).1 rfl (h' rfl a t n rfl hm _)
end
end Mine
end
section
open PySem PySem.W PyProof.Rows PyProof.Rows.LCg
set_option maxRecDepth 100000
namespace Mine
section
variable {prog : Program} {w : World} {A : Around} {E : Value → Shared → Prop} {s : Shared} {h₀ : Heap} {L : Addr} {m : Str → Option Value} {news : Led}

theorem lst_item {value slice : PySem.Expr} {l : Addr} {vs : List Value} {n : Nat} {k : Int} {u : Tok} {x : Value} {Q : Value → Shared → Prop} (N : News h₀ L s.heap news) (hm : (l, listOf vs.toArray n) ∈ news)
    (h0 : 0 ≤ k) (hk : k < 2 ^ 63) (hx : vs[k.toNat]? = some x) (h : Q x s)
    (hs : subscripted slice false (.ref l) (.int k u) = operate [.ref l, .int k u] (getItem (.ref l) (.int k u)) := by with_unfolding_all rfl) (hg : ∀ r, letTemporaryGo value (.ref l) r = pure () := by intro _; with_unfolding_all rfl) :
    wpAny (model prog w) A (subscriptTail value slice (.ref l) (.int k u)) Q E s :=
  item_listL ⟨_, (N _ hm).1, rfl, n, rfl⟩ h0 hk hx h hs hg

theorem lst_from {value slice : PySem.Expr} {l : Addr} {vs : List Value} {n k : Nat} {u : Tok} {Q : Value → Shared → Prop} (F : Fr h₀ L s.heap m) (N : News h₀ L s.heap news) (hm : (l, listOf vs.toArray n) ∈ news)
    (h : ∀ D h', Fr h₀ L h' m → News h₀ L h' ((D, listOf (vs.drop k).toArray 0) :: news) → (∀ p ∈ news, p.1 < D) → Q (.ref D) { s with heap := h' })
    (hz : vs.length ≤ sizeLine)
    (hs : subscripted slice false (.ref l) (.ref s.heap.objs.size) = operate [.ref s.heap.objs.size, .ref l] (getItem (.ref l) (.ref s.heap.objs.size)) := by with_unfolding_all rfl) (ht : ∀ r, letTemporaryGo value (.ref l) r = pure () := by intro _; with_unfolding_all rfl) :
    wpAny (model prog w) A (subscriptTail value slice (.ref l) (.ref s.heap.objs.size)) Q E { s with heap := s.heap.push { cls := .type "slice", data := .fields #[.int k u, .none, .none] } } := by
  refine kms_slice_lit F N (l := l) (its := vs.toArray) (lo := some k) (hi := none) ⟨_, (N _ hm).1, rfl, n, rfl⟩ (.int _ _) .none ?_ h hs ht (by simpa using hz)
  unfold kms_pick kms_lo kms_hi
  have h1 : ¬ ((k : Int) < 0) := by omega
  simp only [h1, if_false]
  by_cases h2 : k ≤ vs.length
  · have e : min ((k : Int)).toNat vs.length = k := by omega
    rw [e, List.take_of_length_le (by rw [List.length_drop]; omega)]
  · have e : min ((k : Int)).toNat vs.length = vs.length := by omega
    rw [e, List.drop_length, List.take_nil, List.drop_of_length_le (by omega)]

theorem lst_upto {value slice : PySem.Expr} {l : Addr} {vs : List Value} {n k : Nat} {u : Tok} {Q : Value → Shared → Prop} (F : Fr h₀ L s.heap m) (N : News h₀ L s.heap news) (hm : (l, listOf vs.toArray n) ∈ news)
    (h : ∀ D h', Fr h₀ L h' m → News h₀ L h' ((D, listOf (vs.take k).toArray 0) :: news) → (∀ p ∈ news, p.1 < D) → Q (.ref D) { s with heap := h' })
    (hz : vs.length ≤ sizeLine)
    (hs : subscripted slice false (.ref l) (.ref s.heap.objs.size) = operate [.ref s.heap.objs.size, .ref l] (getItem (.ref l) (.ref s.heap.objs.size)) := by with_unfolding_all rfl) (ht : ∀ r, letTemporaryGo value (.ref l) r = pure () := by intro _; with_unfolding_all rfl) :
    wpAny (model prog w) A (subscriptTail value slice (.ref l) (.ref s.heap.objs.size)) Q E { s with heap := s.heap.push { cls := .type "slice", data := .fields #[.none, .int k u, .none] } } := by
  refine kms_slice_lit F N (l := l) (its := vs.toArray) (lo := none) (hi := some k) ⟨_, (N _ hm).1, rfl, n, rfl⟩ .none (.int _ _) ?_ h hs ht (by simpa using hz)
  unfold kms_pick kms_lo kms_hi
  have h1 : ¬ ((k : Int) < 0) := by omega
  simp only [h1, if_false, List.drop_zero, Nat.sub_zero]
  by_cases h2 : k ≤ vs.length
  · have e : min ((k : Int)).toNat vs.length = k := by omega
    rw [e]
  · have e : min ((k : Int)).toNat vs.length = vs.length := by omega
    rw [e, List.take_length, List.take_of_length_le (by omega)]

theorem lst_truthy {l : Addr} {vs : List Value} {n : Nat} {Q : Bool → Shared → Prop} (N : News h₀ L s.heap news) (hm : (l, listOf vs.toArray n) ∈ news) (hsz : vs.length < 2 ^ 63)
    (h : Q (!vs.isEmpty) { s with toks := s.toks + 1 + 1 }) : wpAny (model prog w) A (truthy (.ref l)) Q E s :=
  wpAny_truthy_list (items := vs.toArray) ⟨_, (N _ hm).1, rfl, n, rfl⟩ (by simp; omega) (by simpa using h)

theorem led_method_append {l : Addr} {vs : List Value} {n : Nat} {pl : Sem Bool} {Q : Value × List Value → Shared → Prop} (N : News h₀ L s.heap news) (hm : (l, listOf vs.toArray n) ∈ news) (h : Q (.builtin "list.append", [.ref l]) s) : wpAny (model prog w) A (getMethod (.ref l) (Str.ofString "append") pl) Q E s :=
  kl_method N hm PySem.F.slot_list_append PySem.F.type_list_append h
theorem led_method_extend {l : Addr} {vs : List Value} {n : Nat} {pl : Sem Bool} {Q : Value × List Value → Shared → Prop} (N : News h₀ L s.heap news) (hm : (l, listOf vs.toArray n) ∈ news) (h : Q (.builtin "list.extend", [.ref l]) s) : wpAny (model prog w) A (getMethod (.ref l) (Str.ofString "extend") pl) Q E s :=
  kl_method N hm PySem.F.slot_list_extend PySem.F.type_list_extend h
theorem led_method_index {l : Addr} {vs : List Value} {n : Nat} {pl : Sem Bool} {Q : Value × List Value → Shared → Prop} (N : News h₀ L s.heap news) (hm : (l, listOf vs.toArray n) ∈ news) (h : Q (.builtin "list.index", [.ref l]) s) : wpAny (model prog w) A (getMethod (.ref l) (Str.ofString "index") pl) Q E s :=
  kl_method N hm PySem.F.slot_list_index PySem.F.type_list_index h
theorem led_del0 {l : Addr} {v : Value} {vs : List Value} {n : Nat} {u : Tok} {Q : Unit → Shared → Prop} (F : Fr h₀ L s.heap m) (N : News h₀ L s.heap news) (hm : (l, listOf (v :: vs).toArray n) ∈ news)
    (h : ∀ h' news', Fr h₀ L h' m → News h₀ L h' news' → (l, listOf vs.toArray (n + 1)) ∈ news' → (∀ p ∈ news, p.1 ≠ l → p ∈ news') → (∀ p ∈ news', p = (l, listOf vs.toArray (n + 1)) ∨ (p ∈ news ∧ p.1 ≠ l)) → Q () { s with heap := h' })
    (hsz : (v :: vs).length ≤ sizeLine) : wpAny (model prog w) A (delItem (.ref l) (.int 0 u)) Q E s := by
  refine delItem_at (k := 0) (N _ hm).1 (by decide) (by
    unfold seqIndex?
    simp) (fun h' hs ho => ?_) (by simpa using hsz)
  have ho' : h'.get? l = some (listOf vs.toArray (n + 1)) := by rw [ho]; simp
  refine h h' _ (Fr.put F N hm hs) (News.put N hm hs ho') (.head _) (fun p hp hpl => List.mem_cons_of_mem _ (List.mem_filter.mpr ⟨hp, by simpa using hpl⟩)) fun p hp => ?_
  rcases List.mem_cons.mp hp with rfl | hp
  · exact .inl rfl
  · obtain ⟨h1, h2⟩ := List.mem_filter.mp hp
    exact .inr ⟨h1, by simpa using h2⟩
end

theorem DatAll.drop1 {I : Led} {vs : List Value} {s : List Way} (h : DatAll I vs (s.map wayD)) : DatAll I (vs.drop 1) (s.tail.map wayD) := by
  cases s with
  | nil => cases h; exact .nil
  | cons c r => rw [List.map_cons] at h; cases h with | cons _ h => exact h
/-! c3, plain -/
abbrev Row := List Way
noncomputable def goodHead (ss : List Row) (h : Way) : Bool := ss.all fun s => !(s.tail.contains h)
noncomputable def pick (ss : List Row) : Option Way := (ss.filterMap List.head?).find? (goodHead ss)
noncomputable def drop1 (h : Way) (s : Row) : Row := if s.head? = some h then s.tail else s
noncomputable def c3 : Nat → List Row → Row → Option Row
  | 0, _, _ => none
  | n + 1, seqs, out =>
    let ss := seqs.filter (· ≠ [])
    if ss = [] then some out else match pick ss with
      | none => none
      | some h => c3 n (ss.map (drop1 h)) (out ++ [h])

noncomputable def total (ss : List Row) : Nat := (ss.map List.length).sum
theorem total_filter (ss : List Row) : total (ss.filter (· ≠ [])) = total ss := by
  induction ss with
  | nil => rfl
  | cons s r ih =>
    by_cases h : s = []
    · rw [List.filter_cons_of_neg (by simp [h])]
      simp only [total, List.map_cons, List.sum_cons, h, List.length_nil, Nat.zero_add] at ih ⊢
      exact ih
    · rw [List.filter_cons_of_pos (by simp [h])]
      simp only [total, List.map_cons, List.sum_cons] at ih ⊢
      rw [ih]
theorem total_ge {ss : List Row} {i : Nat} {s : Row} (h : ss[i]? = some s) : s.length ≤ total ss := by
  induction ss generalizing i with
  | nil => cases h
  | cons x r ih =>
    simp only [total, List.map_cons, List.sum_cons] at ih ⊢
    cases i with
    | zero => simp only [List.getElem?_cons_zero, Option.some.injEq] at h; rw [h]; omega
    | succ k => rw [List.getElem?_cons_succ] at h; have := ih h; omega
theorem drop1_le (h : Way) (s : Row) : (drop1 h s).length ≤ s.length := by
  unfold drop1
  split
  · rw [List.length_tail]; omega
  · omega
theorem total_drop_le (h : Way) (ss : List Row) : total (ss.map (drop1 h)) ≤ total ss := by
  induction ss with
  | nil => exact Nat.le_refl _
  | cons s r ih =>
    simp only [total, List.map_cons, List.sum_cons] at ih ⊢
    have := drop1_le h s
    omega
theorem total_drop_lt {h : Way} {ss : List Row} {s : Row} (hs : s ∈ ss) (hh : s.head? = some h) : total (ss.map (drop1 h)) < total ss := by
  induction ss with
  | nil => cases hs
  | cons x r ih =>
    simp only [total, List.map_cons, List.sum_cons] at ih ⊢
    rcases List.mem_cons.mp hs with rfl | hs
    · have h1 := total_drop_le h r
      simp only [total] at h1
      have : (drop1 h s).length < s.length := by
        unfold drop1
        rw [if_pos hh, List.length_tail]
        cases s with
        | nil => cases hh
        | cons _ _ => simp
      omega
    · have := ih hs
      have := drop1_le h x
      omega
theorem pick_head {ss : List Row} {h : Way} (hp : pick ss = some h) : ∃ s ∈ ss, s.head? = some h := by
  have := List.mem_of_find?_eq_some hp
  obtain ⟨s, hs, e⟩ := List.mem_filterMap.mp this
  exact ⟨s, hs, e⟩

/-- lists of ways at addresses -/
structure Seqs (nx I : Led) (as : List Addr) (ss : List Row) : Prop where
  len : as.length = ss.length
  at_ : ∀ (i : Nat) a s, as[i]? = some a → ss[i]? = some s → ∃ (vs : List Value) (n : Nat), (a, listOf vs.toArray n) ∈ nx ∧ DatAll I vs (s.map wayD)
  nodup : as.Nodup
theorem Seqs.mono {nx nx' I : Led} {as : List Addr} {ss : List Row} (S : Seqs nx I as ss) (h : ∀ p ∈ nx, p ∈ nx') : Seqs nx' I as ss :=
  ⟨S.len, fun i a s h1 h2 => let ⟨vs, n, m, d⟩ := S.at_ i a s h1 h2; ⟨vs, n, h _ m, d⟩, S.nodup⟩
theorem Seqs.mono' {nx nx' I : Led} {as : List Addr} {ss : List Row} (S : Seqs nx I as ss) (h : ∀ p ∈ nx, p.1 ∈ as → p ∈ nx') : Seqs nx' I as ss :=
  ⟨S.len, fun i a s h1 h2 => let ⟨vs, n, m, d⟩ := S.at_ i a s h1 h2; ⟨vs, n, h _ m (List.mem_of_getElem? h1), d⟩, S.nodup⟩
theorem Seqs.snoc {nx I : Led} {as : List Addr} {ss : List Row} {a : Addr} {s : Row} {vs : List Value} {n : Nat} (S : Seqs nx I as ss) (h : (a, listOf vs.toArray n) ∈ nx) (d : DatAll I vs (s.map wayD)) (ha : a ∉ as) : Seqs nx I (as ++ [a]) (ss ++ [s]) := by
  refine ⟨by simp [S.len], fun i b t h1 h2 => ?_, ?_⟩
  · by_cases hi : i < as.length
    · rw [List.getElem?_append_left hi] at h1
      rw [List.getElem?_append_left (by rw [← S.len]; exact hi)] at h2
      exact S.at_ i b t h1 h2
    · rw [List.getElem?_append_right (by omega)] at h1
      rw [List.getElem?_append_right (by rw [← S.len]; omega), ← S.len] at h2
      cases e : i - as.length with
      | zero =>
        rw [e] at h1 h2
        simp only [List.getElem?_cons_zero, Option.some.injEq] at h1 h2
        subst h1 h2
        exact ⟨vs, n, h, d⟩
      | succ k => rw [e] at h1; cases h1
  · rw [List.nodup_append]
    refine ⟨S.nodup, by simp, fun x hx y hy => ?_⟩
    rw [List.mem_singleton.mp hy]
    exact fun q => ha (q ▸ hx)
theorem nodup_take {α : Type} {l : List α} {i : Nat} {a : α} (h : l.Nodup) (ha : l[i]? = some a) : a ∉ l.take i := by
  intro hm
  obtain ⟨j, hj⟩ := List.getElem?_of_mem hm
  have hlt := (List.getElem?_eq_some_iff.mp hj).1
  rw [List.length_take] at hlt
  rw [List.getElem?_take_of_lt (by omega)] at hj
  have hi := (List.getElem?_eq_some_iff.mp ha).1
  obtain ⟨hj', ej⟩ := List.getElem?_eq_some_iff.mp hj
  obtain ⟨hi', ei⟩ := List.getElem?_eq_some_iff.mp ha
  exact (List.pairwise_iff_getElem.mp h) j i hj' hi' (by omega) (ej.trans ei.symm)
theorem filter_take {α : Type} {l : List α} {f : α → Bool} {i : Nat} {a : α} (ha : l[i]? = some a) : (l.take (i + 1)).filter f = (l.take i).filter f ++ if f a = true then [a] else [] := by
  rw [List.take_add_one, ha, List.filter_append]
  congr 1
  show List.filter f [a] = _
  by_cases h : f a = true
  · rw [if_pos h, List.filter_cons_of_pos h, List.filter_nil]
  · rw [if_neg h, List.filter_cons_of_neg h, List.filter_nil]
theorem mem_take {α : Type} {l : List α} {i : Nat} {a : α} (ha : l[i]? = some a) : a ∈ l.take (i + 1) := by
  rw [List.take_add_one, ha]; simp
theorem mem_take_succ {α : Type} {l : List α} {i : Nat} {a : α} (ha : a ∈ l.take i) : a ∈ l.take (i + 1) := by
  rw [List.take_add_one]; simp [ha]
theorem Seqs.row {nx I : Led} {as : List Addr} {ss : List Row} (S : Seqs nx I as ss) {i : Nat} {v : Value} (h : (as.map Value.ref)[i]? = some v) : ∃ a s vs n, v = .ref a ∧ as[i]? = some a ∧ ss[i]? = some s ∧ (a, listOf vs.toArray n) ∈ nx ∧ DatAll I vs (s.map wayD) := by
  rw [List.getElem?_map] at h
  obtain ⟨a, ha, rfl⟩ := Option.map_eq_some_iff.mp h
  have hlt := (List.getElem?_eq_some_iff.mp ha).1
  rw [S.len] at hlt
  obtain ⟨vs, n, hm, hd⟩ := S.at_ i a _ ha (List.getElem?_eq_getElem hlt)
  exact ⟨a, _, vs, n, rfl, ha, List.getElem?_eq_getElem hlt, hm, hd⟩
theorem pick_at {G : List Row} {c : Way} (hg : goodHead G c = true) : ∀ {ss : List Row} {i : Nat} {s' : Row}, ss[i]? = some (c :: s') → (∀ k < i, ∀ s, ss[k]? = some s → ∀ h, s.head? = some h → goodHead G h = false) → (ss.filterMap List.head?).find? (goodHead G) = some c
  | [], _, _, h, _ => by cases h
  | s :: r, 0, s', h, _ => by
    simp only [List.getElem?_cons_zero, Option.some.injEq] at h
    subst h
    rw [List.filterMap_cons]
    simp [hg]
  | s :: r, i + 1, s', h, hb => by
    rw [List.getElem?_cons_succ] at h
    have ih := pick_at hg h (fun k hk t ht => hb (k + 1) (by omega) t (by rw [List.getElem?_cons_succ]; exact ht))
    rw [List.filterMap_cons]
    cases hh : s.head? with
    | none => exact ih
    | some x =>
      have := hb 0 (by omega) s rfl x hh
      simp only [List.find?_cons, this]
      exact ih
theorem pick_none {G ss : List Row} (hb : ∀ s ∈ ss, ∀ h, s.head? = some h → goodHead G h = false) : (ss.filterMap List.head?).find? (goodHead G) = none := by
  rw [List.find?_eq_none]
  intro x hx
  obtain ⟨s, hs, e⟩ := List.mem_filterMap.mp hx
  rw [hb s hs x e]; decide
theorem Seqs.set {nx nx' I : Led} {as : List Addr} {ss : List Row} {i : Nat} {a : Addr} {vs : List Value} {n : Nat} {s' : Row} (S : Seqs nx I as ss) (ha : as[i]? = some a) (hk : ∀ p ∈ nx, p.1 ≠ a → p ∈ nx') (hm : (a, listOf vs.toArray n) ∈ nx') (hd : DatAll I vs (s'.map wayD)) : Seqs nx' I as (ss.set i s') := by
  refine ⟨by rw [List.length_set]; exact S.len, fun j b t hb ht => ?_, S.nodup⟩
  by_cases e : i = j
  · subst e
    rw [ha] at hb
    obtain rfl := Option.some.inj hb
    have hi : i < ss.length := by rw [← S.len]; exact (List.getElem?_eq_some_iff.mp ha).1
    rw [List.getElem?_set_self hi] at ht
    obtain rfl := Option.some.inj ht
    exact ⟨vs, n, hm, hd⟩
  · rw [List.getElem?_set_ne e] at ht
    obtain ⟨ws, k, hw, hdw⟩ := S.at_ j b t hb ht
    refine ⟨ws, k, hk _ hw ?_, hdw⟩
    intro q
    obtain ⟨h1, e1⟩ := List.getElem?_eq_some_iff.mp ha
    obtain ⟨h2, e2⟩ := List.getElem?_eq_some_iff.mp hb
    have q : b = a := q
    rcases Nat.lt_or_gt_of_ne e with h | h
    · exact (List.pairwise_iff_getElem.mp S.nodup) i j h1 h2 h (by rw [e1, e2, q])
    · exact (List.pairwise_iff_getElem.mp S.nodup) j i h2 h1 h (by rw [e1, e2, q])
/-- the first i done -/
noncomputable def part (f : Row → Row) (ss : List Row) (i : Nat) : List Row := (ss.take i).map f ++ ss.drop i
theorem part_get {f : Row → Row} {ss : List Row} {i : Nat} {s : Row} (h : ss[i]? = some s) : (part f ss i)[i]? = some s := by
  have hi := (List.getElem?_eq_some_iff.mp h).1
  unfold part
  rw [List.getElem?_append_right (by rw [List.length_map, List.length_take]; omega), List.length_map, List.length_take, Nat.min_eq_left (Nat.le_of_lt hi), Nat.sub_self, List.getElem?_drop, Nat.add_zero, h]
theorem part_succ {f : Row → Row} {ss : List Row} {i : Nat} {s : Row} (h : ss[i]? = some s) : part f ss (i + 1) = (part f ss i).set i (f s) := by
  have hi := (List.getElem?_eq_some_iff.mp h).1
  unfold part
  rw [List.set_append, if_neg (by rw [List.length_map, List.length_take]; omega), List.length_map, List.length_take, Nat.min_eq_left (Nat.le_of_lt hi), Nat.sub_self]
  have e : ss.drop i = s :: ss.drop (i + 1) := by
    rw [List.drop_eq_getElem_cons hi]
    congr 1
    exact (List.getElem?_eq_some_iff.mp h).2
  rw [e, List.set_cons_zero, List.take_add_one, h, List.map_append]
  simp
theorem part_same {f : Row → Row} {ss : List Row} {i : Nat} {s : Row} (h : ss[i]? = some s) (hf : f s = s) : part f ss (i + 1) = part f ss i := by
  rw [part_succ h, hf]
  have e := part_get (f := f) h
  obtain ⟨h1, e1⟩ := List.getElem?_eq_some_iff.mp e
  rw [← e1, List.set_getElem_self]
theorem part_all {f : Row → Row} {ss : List Row} {n : Nat} (h : n = ss.length) : part f ss n = ss.map f := by
  unfold part; rw [h]; simp
theorem part_zero {f : Row → Row} {ss : List Row} : part f ss 0 = ss := by
  unfold part; simp
theorem RaisedS.sub {base G : Heap} {l : List Env} {e t : Addr} {cls : Value} {vs : List Value} {news news' : Led} {h : Heap} (R : RaisedS base G l e cls t vs news h) (k : ∀ p ∈ news', p ∈ news) : RaisedS base G l e cls t vs news' h := by
  obtain ⟨⟨B, hB, hBG, hl, hfl, hnew⟩, htup⟩ := R
  exact ⟨⟨B, hB, hBG, fun q hq => hl q (k q hq), hfl, hnew⟩, htup⟩
section
variable {h₀ h' : Heap} {L I : Addr} {oI : Obj} {need nx : Led} {J : (Str → Option Value) → Led → Prop} {m' : Str → Option Value} {s s₃ : Shared} {Q : Flow → Shared → Prop} {tk : Nat} {v : Value}
theorem TurnEnd.brk (h : Q .next s₃) : TurnEnd h₀ L I oI need J s Q .brk s₃ := h
theorem TurnEnd.ret (h : Q (.ret v) s₃) : TurnEnd h₀ L I oI need J s Q (.ret v) s₃ := h
theorem TurnEnd.next (m' : Str → Option Value) (nx : Led) (F : Fr h₀ L h' m') (N : News h₀ L h' ((I, oI) :: nx)) (off : ∀ p ∈ nx, p.1 ≠ I) (hn : ∀ p ∈ need, p ∈ nx) (hJ : J m' nx) : TurnEnd h₀ L I oI need J s Q .next { s with heap := h', toks := tk } :=
  ⟨h', tk, m', nx, rfl, F, N, off, hn, hJ⟩
theorem TurnEnd.cont (m' : Str → Option Value) (nx : Led) (F : Fr h₀ L h' m') (N : News h₀ L h' ((I, oI) :: nx)) (off : ∀ p ∈ nx, p.1 ≠ I) (hn : ∀ p ∈ need, p ∈ nx) (hJ : J m' nx) : TurnEnd h₀ L I oI need J s Q .cont { s with heap := h', toks := tk } :=
  ⟨h', tk, m', nx, rfl, F, N, off, hn, hJ⟩
end
theorem WhileStep2.retd {h₀ : Heap} {L : Addr} {s s₃ : Shared} {J : Nat → (Str → Option Value) → Led → Prop} {Q : Flow → Shared → Prop} {n : Nat} {v : Value} (h : Q (.ret v) s₃) : WhileStep2 h₀ L s J Q n (.ret v) s₃ := h
theorem WhileStep2.nextd {h₀ h' : Heap} {L : Addr} {s : Shared} {J : Nat → (Str → Option Value) → Led → Prop} {Q : Flow → Shared → Prop} {n n' tk : Nat} (m₂ : Str → Option Value) (news₂ : Led) (F : Fr h₀ L h' m₂) (N : News h₀ L h' news₂) (hn : n' < n) (hJ : J n' m₂ news₂) : WhileStep2 h₀ L s J Q n .next { s with heap := h', toks := tk } :=
  ⟨h', tk, m₂, news₂, n', rfl, F, N, hn, hJ⟩
end Mine
end
section
open PySem PySem.W PyProof.Rows PyProof.Rows.LCg
namespace Mine
/-- a place in the ledger -/
local macro_rules | `(tactic| walk_at "m:mem") => `(tactic| first | assumption | exact List.Mem.head _ | (refine List.mem_cons_of_mem _ ?_; walk_at "m:mem") | (refine List.mem_append_right _ ?_; walk_at "m:mem") | (refine List.mem_append_left _ ?_; walk_at "m:mem"))

/-- the walk leaves «below» as it is -/
local macro_rules | `(tactic| k_lt $_h:ident) => `(tactic| skip)
/-- a name within a comprehension's block -/
local macro_rules | `(tactic| walk_at "eval Name") => `(tactic| ((with_reducible show wpAny _ _ (eval (Expr.Name _ _) (compEnvC _ _ _ _)) _ _ _); k_dflt (first
  | (refine' LCgL.ld_own ?N ?m ?c ?x ?_; (case N => k_asm); (case c => assumption); (case m => walk_at "m:mem"); (case x => assumption); k_whole)
  | (refine' lcf_cell ?N ?c ?m ?d ?_ rfl rfl; (case N => k_asm); (case c => rfl); (case m => walk_at "m:mem"); (case d => assumption); k_whole)
  | (refine' LCgL.ld_global ?F ?X ?T ?e ?_; (case F => k_asm); (case X => k_asm); (case T => k_asm); (case e => k_is); k_whole)
  | (refine' LCgL.ld_built ?F ?X ?T ?e ?v ?n ?_; (case F => k_asm); (case X => k_asm); (case T => k_asm); (case e => k_is); (case v => boot_fast); (case n => decide); k_whole))))

/-- a list's method -/
local macro_rules | `(tactic| walk_at "getMethod ref") => `(tactic| ((with_reducible first | refine' led_method_append ?N ?m ?_ | refine' led_method_extend ?N ?m ?_ | refine' led_method_index ?N ?m ?_); k_dflt ((case N => k_asm); (case m => walk_at "m:mem"))))
section
open PySem PySem.W PyProof.Rows PyProof.Rows.LCg
set_option maxRecDepth 100000 in
set_option maxHeartbeats 8000000 in
theorem told_does (w : World) (T I : Led) (P : List Way) (th : Way → Option Dat) (val : Way → Value) (hlen : ∀ p ∈ P, p.length ≤ 3) (hPn : P.length ≤ 1000) (hth : ∀ p d, th p = some d → IsThing d) (tr : Tree PySem.Challenge.rw_ij0018_01.row.prog w T I P th val) :
    ∀ (n : Nat) (p : Way) (a : Addr) (news : Led), p.length + n = 3 → (p = [] ∨ p ∈ P) → th p = none → val p = .ref a → (∀ q ∈ T, q ∈ news) → (∀ q ∈ I, q ∈ news) →
    Does w 83 [.ref a] (10 * (n + 1)) (1000 * (n + 1)) news (fun news' r => ∃ tl, news' = tl ++ news ∧ Fresh tl news ∧ DatIn (tl ++ I) r (toldF P th (n + 1) p)) := by
  intro n
  induction n using Nat.strongRecOn with
  | ind n ih =>
    intro pl a news hpl hP hth0 hva hT hI
    obtain ⟨a', o, hva', hsys, hao, hdict⟩ := tr.nest pl hP hth0
    obtain rfl : a' = a := by rw [hva'] at hva; injection hva
    clear hva
    unfold Does
    k_fill
    intro p loose mean mg mb dp un gd cn cs ad ccd cl outer A₀ base h₀ L m s Q E B F X N Tp hk hd hu hret
    refine wpAny_call ?_
    k_dflt ((refine' code_defC ?k1 ?k2 ?k3 ?k4 ?k5 ?kA ?kF ?kK ?k6 ?k7 ?k8 ?k9 ?kB ?kD ?_ ?c2 ?c3 ?c4; (case kA => exact rfl); (case kF => exact rfl); (case kK => assumption); (case k1 => k_asm); (case k2 => k_asm); (case k3 => k_asm); (case k4 => k_asm); (case k5 => k_asm); (case k6 => k_is); (case k7 => k_is); (case k8 => ktr_room); (case k9 => exact BindsTo.of_eq rfl); (case kB => exact rfl); (case kD => decide +kernel); (case c2 => exact rfl); (case c3 => exact rfl); (case c4 => exact rfl); k_whole))
    intro g L1 h1 tk1 cells FG F1 N1 Y B1 X1 T1 l0
    obtain ⟨oc, rfl, hcd⟩ := CellsAre.one Y
    replace hcd := hcd.trans (by with_unfolding_all rfl : _ = Data.cell (some (Value.ref a')))
    generalize hm1 : bindL _ _ _ = m1 at F1
    clear hm1 Y
    with_reducible show wpAny _ _ _ _ _ _
    k_fold
    (repeat' ( (fail_if_success (with_reducible first | show TurnEnd _ _ _ _ _ _ _ _ _ _ | show WhileStep2 _ _ _ _ _ _ _ _ | show wpAny _ _ (eval (Expr.ListComp _ _ _ _) _) _ _ _ | show wpAny _ _ (exec (Stmt.While _ _ _ _) _) _ _ _ | show wpAny _ _ (exec (Stmt.For _ _ _ _ _) _) _ _ _ | show wpAny _ _ (exec (Stmt.Assign _ (Expr.ListComp _ _ _ _) _) _) _ _ _ | show wpAny _ _ (subscriptTail _ _ _ _) _ _ _ | show wpAny _ _ (PySem.call _ _ _) _ _ _ | show wpAny _ _ (compareOp _ (Value.ref _) _) _ _ _ | show wpAny _ _ (compareOp _ _ (Value.ref _)) _ _ _ | show wpAny _ _ (binaryOp _ (Value.ref _) _) _ _ _ | show wpAny _ _ (setItem _ _ _) _ _ _)); first | (k_unfold; (try dsimp only)) | walk1 | (dsimp only; walk1) | (leave1; (try dsimp only)) | fail "no step"))
    refine Comp_open (by with_unfolding_all rfl) (by rfl) (by decide) ?_
    (repeat' ( (fail_if_success (with_reducible first | show TurnEnd _ _ _ _ _ _ _ _ _ _ | show WhileStep2 _ _ _ _ _ _ _ _ | show wpAny _ _ (eval (Expr.ListComp _ _ _ _) _) _ _ _ | show wpAny _ _ (exec (Stmt.While _ _ _ _) _) _ _ _ | show wpAny _ _ (exec (Stmt.For _ _ _ _ _) _) _ _ _ | show wpAny _ _ (exec (Stmt.Assign _ (Expr.ListComp _ _ _ _) _) _) _ _ _ | show wpAny _ _ (subscriptTail _ _ _ _) _ _ _ | show wpAny _ _ (PySem.call _ _ _) _ _ _ | show wpAny _ _ (compareOp _ (Value.ref _) _) _ _ _ | show wpAny _ _ (compareOp _ _ (Value.ref _)) _ _ _ | show wpAny _ _ (binaryOp _ (Value.ref _) _) _ _ _ | show wpAny _ _ (setItem _ _ _) _ _ _)); first | (k_unfold; (try dsimp only)) | walk1 | (dsimp only; walk1) | (leave1; (try dsimp only)) | fail "no step"))
    obtain ⟨K0, hK0⟩ : ∃ K0 : Led, K0 = [(L1 + 1, oc)] ++ news := ⟨_, rfl⟩
    have hcK : (L1 + 1, oc) ∈ K0 := by rw [hK0]; simp
    have hnK : ∀ q ∈ news, q ∈ K0 := by intro q hq; rw [hK0]; simp [hq]
    refine CompAt_dict (keep := K0) (news := K0) (o := o) (by rfl) (by decide) (by rfl) (by rfl) F1 (by rw [hK0]; exact N1) (fun _ h => h) (hnK _ (hT _ hao)) hdict hsys ?_
      (fun i ys nx => ∃ tl, nx = tl ++ K0 ∧ Fresh tl K0 ∧ DatAll (tl ++ I) ys (((kidsOf P pl).take i).map fun q => .tuple [.str (lastN q), match th q with | none => toldF P th n q | some d => .tuple [d]])) ⟨[], rfl, .nil, .nil⟩ ?_ ?_
    · unfold kids kidsOf
      rw [List.length_map, sizeLine_eq]
      exact Nat.le_trans (List.length_filter_le _ _) (by omega)
    · intro i k v t ys nx Ia oI C oC D m₂ h tk E' hkv hJ hkeep hx hC F' N' off
      obtain ⟨tl, rfl, hfr, hDs⟩ := hJ
      obtain ⟨q, hq, hqe⟩ : ∃ q, (kidsOf P pl)[i]? = some q ∧ (lastN q, val q) = (k, v) := by
        unfold kids at hkv
        rw [List.getElem?_map] at hkv
        exact Option.map_eq_some_iff.mp hkv
      injection hqe with e1 e2
      subst e1 e2
      have hcx := hkeep _ hcK
      have hqP : q ∈ P ∧ ∃ x, q = pl ++ [x] := mem_kidsOf.mp (List.mem_of_getElem? hq)
      have hqv : valueAt (kids P val pl) (lastN q) = some (val q) := by
        obtain ⟨x, hxq⟩ := hqP.2
        rw [hxq, lastN_snoc, valueAt_kids, ← hxq, if_pos hqP.1]
      have haoT : (a', o) ∈ tl ++ K0 := hkeep _ (hnK _ (hT _ hao))
      refine wpAny_tests_nil ?_
      simp only [if_true]
      clear F1 N1
      (repeat' ( (fail_if_success (with_reducible first | show TurnEnd _ _ _ _ _ _ _ _ _ _ | show WhileStep2 _ _ _ _ _ _ _ _ | show wpAny _ _ (eval (Expr.ListComp _ _ _ _) _) _ _ _ | show wpAny _ _ (exec (Stmt.While _ _ _ _) _) _ _ _ | show wpAny _ _ (exec (Stmt.For _ _ _ _ _) _) _ _ _ | show wpAny _ _ (exec (Stmt.Assign _ (Expr.ListComp _ _ _ _) _) _) _ _ _ | show wpAny _ _ (subscriptTail _ _ _ _) _ _ _ | show wpAny _ _ (PySem.call _ _ _) _ _ _ | show wpAny _ _ (compareOp _ (Value.ref _) _) _ _ _ | show wpAny _ _ (compareOp _ _ (Value.ref _)) _ _ _ | show wpAny _ _ (binaryOp _ (Value.ref _) _) _ _ _ | show wpAny _ _ (setItem _ _ _) _ _ _)); first | (k_unfold; (try dsimp only)) | walk1 | (dsimp only; walk1) | (leave1; (try dsimp only)) | fail "no step"))
      refine dict_get N' (o := o) (by walk_at "m:mem") hdict hqv ?_
      (repeat' ( (fail_if_success (with_reducible first | show TurnEnd _ _ _ _ _ _ _ _ _ _ | show WhileStep2 _ _ _ _ _ _ _ _ | show wpAny _ _ (eval (Expr.ListComp _ _ _ _) _) _ _ _ | show wpAny _ _ (exec (Stmt.While _ _ _ _) _) _ _ _ | show wpAny _ _ (exec (Stmt.For _ _ _ _ _) _) _ _ _ | show wpAny _ _ (exec (Stmt.Assign _ (Expr.ListComp _ _ _ _) _) _) _ _ _ | show wpAny _ _ (subscriptTail _ _ _ _) _ _ _ | show wpAny _ _ (PySem.call _ _ _) _ _ _ | show wpAny _ _ (compareOp _ (Value.ref _) _) _ _ _ | show wpAny _ _ (compareOp _ _ (Value.ref _)) _ _ _ | show wpAny _ _ (binaryOp _ (Value.ref _) _) _ _ _ | show wpAny _ _ (setItem _ _ _) _ _ _)); first | (k_unfold; (try dsimp only)) | walk1 | (dsimp only; walk1) | (leave1; (try dsimp only)) | fail "no step"))
      cases hthq : th q with
      | none =>
        obtain ⟨aq, oq, hvq, hsq, haq, hdq⟩ := tr.nest q (.inr hqP.1) hthq
        rw [hvq]
        have haqT : (aq, oq) ∈ tl ++ K0 := hkeep _ (hnK _ (hT _ haq))
        refine isi_nest_dict N' (o := oq) (by walk_at "m:mem") hdq fun tk2 => ?_
        (repeat' ( (fail_if_success (with_reducible first | show TurnEnd _ _ _ _ _ _ _ _ _ _ | show WhileStep2 _ _ _ _ _ _ _ _ | show wpAny _ _ (eval (Expr.ListComp _ _ _ _) _) _ _ _ | show wpAny _ _ (exec (Stmt.While _ _ _ _) _) _ _ _ | show wpAny _ _ (exec (Stmt.For _ _ _ _ _) _) _ _ _ | show wpAny _ _ (exec (Stmt.Assign _ (Expr.ListComp _ _ _ _) _) _) _ _ _ | show wpAny _ _ (subscriptTail _ _ _ _) _ _ _ | show wpAny _ _ (PySem.call _ _ _) _ _ _ | show wpAny _ _ (compareOp _ (Value.ref _) _) _ _ _ | show wpAny _ _ (compareOp _ _ (Value.ref _)) _ _ _ | show wpAny _ _ (binaryOp _ (Value.ref _) _) _ _ _ | show wpAny _ _ (setItem _ _ _) _ _ _)); first | (k_unfold; (try dsimp only)) | walk1 | (dsimp only; walk1) | (leave1; (try dsimp only)) | fail "no step"))
        rename News _ _ _ _ => N2
        refine dict_get N2 (o := o) (by walk_at "m:mem") hdict hqv ?_
        (repeat' ( (fail_if_success (with_reducible first | show TurnEnd _ _ _ _ _ _ _ _ _ _ | show WhileStep2 _ _ _ _ _ _ _ _ | show wpAny _ _ (eval (Expr.ListComp _ _ _ _) _) _ _ _ | show wpAny _ _ (exec (Stmt.While _ _ _ _) _) _ _ _ | show wpAny _ _ (exec (Stmt.For _ _ _ _ _) _) _ _ _ | show wpAny _ _ (exec (Stmt.Assign _ (Expr.ListComp _ _ _ _) _) _) _ _ _ | show wpAny _ _ (subscriptTail _ _ _ _) _ _ _ | show wpAny _ _ (PySem.call _ _ _) _ _ _ | show wpAny _ _ (compareOp _ (Value.ref _) _) _ _ _ | show wpAny _ _ (compareOp _ _ (Value.ref _)) _ _ _ | show wpAny _ _ (binaryOp _ (Value.ref _) _) _ _ _ | show wpAny _ _ (setItem _ _ _) _ _ _)); first | (k_unfold; (try dsimp only)) | walk1 | (dsimp only; walk1) | (leave1; (try dsimp only)) | fail "no step"))
        rw [hvq]
        obtain ⟨n', rfl⟩ : ∃ n', n = n' + 1 := ⟨n - 1, by
          have h3 := hlen q hqP.1
          obtain ⟨x, hxq⟩ := hqP.2
          have h4 : q.length = pl.length + 1 := by rw [hxq, List.length_append, List.length_singleton]
          omega⟩
        have Cq := ih n' (Nat.lt_succ_self _) q aq ((Ia, oI) :: (C, oC) :: (D, lst ys) :: (tl ++ K0)) (by obtain ⟨x, rfl⟩ := hqP.2; rw [List.length_append, List.length_singleton]; omega) (.inr hqP.1) hthq hvq (by intro q hq; have := hkeep _ (hnK _ (hT _ hq)); simp [this]) (by intro q hq; have := hkeep _ (hnK _ (hI _ hq)); simp [this])
        k_dflt (refine' Does.use Cq ?k1 ?k2 ?k3 ?k4 ?k5 ?kK ?kd ?ku ?_; (((case k1 => k_asm); (case k2 => k_asm); (case k3 => k_asm); (case k4 => k_asm); (case k5 => k_asm); (case kK => first | exact rfl | assumption); (case kd => ktr_room); (case ku => ktr_units))))
        intro r h3 news3 tk3 F3 N3 hpost
        obtain ⟨tl3, rfl, hfr3, hD3⟩ := hpost
        (repeat' ( (fail_if_success (with_reducible first | show TurnEnd _ _ _ _ _ _ _ _ _ _ | show WhileStep2 _ _ _ _ _ _ _ _ | show wpAny _ _ (eval (Expr.ListComp _ _ _ _) _) _ _ _ | show wpAny _ _ (exec (Stmt.While _ _ _ _) _) _ _ _ | show wpAny _ _ (exec (Stmt.For _ _ _ _ _) _) _ _ _ | show wpAny _ _ (exec (Stmt.Assign _ (Expr.ListComp _ _ _ _) _) _) _ _ _ | show wpAny _ _ (subscriptTail _ _ _ _) _ _ _ | show wpAny _ _ (PySem.call _ _ _) _ _ _ | show wpAny _ _ (compareOp _ (Value.ref _) _) _ _ _ | show wpAny _ _ (compareOp _ _ (Value.ref _)) _ _ _ | show wpAny _ _ (binaryOp _ (Value.ref _) _) _ _ _ | show wpAny _ _ (setItem _ _ _) _ _ _)); first | (k_unfold; (try dsimp only)) | walk1 | (dsimp only; walk1) | (leave1; (try dsimp only)) | fail "no step"))
        rename_i D4 h4 F4 N4 l4
        refine ElEnd.grow ((D4, tupObj [Value.str (lastN q) t, r] 0) :: tl3) F4 N4 (by ((intro x hx; (try simp only [List.mem_append, List.mem_cons, List.not_mem_nil, or_false, false_or] at hx); (repeat' (refine Or.elim hx (fun hx => ?_) (fun hx => ?_))); (all_goals (first | (subst hx; walk_at "m:mem") | walk_at "m:mem" | (exfalso; exact hx)))))) (.cons (fun x hx => l4 x (by walk_at "m:mem")) hfr3) off hkeep ⟨((D4, tupObj [Value.str (lastN q) t, r] 0) :: tl3) ++ tl, by simp, ?_, ?_⟩
        · exact .app (.cons (fun x hx => l4 x (by walk_at "m:mem")) (.sub hfr3 (by ((intro x hx; (try simp only [List.mem_append, List.mem_cons, List.not_mem_nil, or_false, false_or] at hx); (repeat' (refine Or.elim hx (fun hx => ?_) (fun hx => ?_))); (all_goals (first | (subst hx; walk_at "m:mem") | walk_at "m:mem" | (exfalso; exact hx)))))))) hfr
        · refine take_snoc (hDs.mono (by ((intro x hx; (try simp only [List.mem_append, List.mem_cons, List.not_mem_nil, or_false, false_or] at hx); (repeat' (refine Or.elim hx (fun hx => ?_) (fun hx => ?_))); (all_goals (first | (subst hx; walk_at "m:mem") | walk_at "m:mem" | (exfalso; exact hx))))))) hq ?_
          rw [hthq]
          exact .tuple (.head _) (.cons (.str _ _) (.cons (hD3.mono (by ((intro x hx; (try simp only [List.mem_append, List.mem_cons, List.not_mem_nil, or_false, false_or] at hx); (repeat' (refine Or.elim hx (fun hx => ?_) (fun hx => ?_))); (all_goals (first | (subst hx; walk_at "m:mem") | walk_at "m:mem" | (exfalso; exact hx))))))) .nil))
      | some d =>
        refine isi_thing_dict N' (I := I) (by intro q hq; have := hkeep _ (hnK _ (hI _ hq)); simp [this]) (hth _ _ hthq) (tr.thing q hqP.1 d hthq) fun tk2 => ?_
        (repeat' ( (fail_if_success (with_reducible first | show TurnEnd _ _ _ _ _ _ _ _ _ _ | show WhileStep2 _ _ _ _ _ _ _ _ | show wpAny _ _ (eval (Expr.ListComp _ _ _ _) _) _ _ _ | show wpAny _ _ (exec (Stmt.While _ _ _ _) _) _ _ _ | show wpAny _ _ (exec (Stmt.For _ _ _ _ _) _) _ _ _ | show wpAny _ _ (exec (Stmt.Assign _ (Expr.ListComp _ _ _ _) _) _) _ _ _ | show wpAny _ _ (subscriptTail _ _ _ _) _ _ _ | show wpAny _ _ (PySem.call _ _ _) _ _ _ | show wpAny _ _ (compareOp _ (Value.ref _) _) _ _ _ | show wpAny _ _ (compareOp _ _ (Value.ref _)) _ _ _ | show wpAny _ _ (binaryOp _ (Value.ref _) _) _ _ _ | show wpAny _ _ (setItem _ _ _) _ _ _)); first | (k_unfold; (try dsimp only)) | walk1 | (dsimp only; walk1) | (leave1; (try dsimp only)) | fail "no step"))
        refine dict_get N' (o := o) (by walk_at "m:mem") hdict hqv ?_
        (repeat' ( (fail_if_success (with_reducible first | show TurnEnd _ _ _ _ _ _ _ _ _ _ | show WhileStep2 _ _ _ _ _ _ _ _ | show wpAny _ _ (eval (Expr.ListComp _ _ _ _) _) _ _ _ | show wpAny _ _ (exec (Stmt.While _ _ _ _) _) _ _ _ | show wpAny _ _ (exec (Stmt.For _ _ _ _ _) _) _ _ _ | show wpAny _ _ (exec (Stmt.Assign _ (Expr.ListComp _ _ _ _) _) _) _ _ _ | show wpAny _ _ (subscriptTail _ _ _ _) _ _ _ | show wpAny _ _ (PySem.call _ _ _) _ _ _ | show wpAny _ _ (compareOp _ (Value.ref _) _) _ _ _ | show wpAny _ _ (compareOp _ _ (Value.ref _)) _ _ _ | show wpAny _ _ (binaryOp _ (Value.ref _) _) _ _ _ | show wpAny _ _ (setItem _ _ _) _ _ _)); first | (k_unfold; (try dsimp only)) | walk1 | (dsimp only; walk1) | (leave1; (try dsimp only)) | fail "no step"))
        rename_i D4 h4 l4 D5 h5 F5 N5 l5
        have hvd := tr.thing q hqP.1 d hthq
        refine ElEnd.grow [(D5, tupObj [Value.str (lastN q) t, .ref D4] 0), (D4, tupObj [val q] 0)] F5 N5 (by ((intro x hx; (try simp only [List.mem_append, List.mem_cons, List.not_mem_nil, or_false, false_or] at hx); (repeat' (refine Or.elim hx (fun hx => ?_) (fun hx => ?_))); (all_goals (first | (subst hx; walk_at "m:mem") | walk_at "m:mem" | (exfalso; exact hx)))))) (.cons (fun x hx => l5 x (by walk_at "m:mem")) (.cons (fun x hx => l4 x (by walk_at "m:mem")) .nil)) off hkeep ⟨[(D5, tupObj [Value.str (lastN q) t, .ref D4] 0), (D4, tupObj [val q] 0)] ++ tl, by simp, ?_, ?_⟩
        · exact .app (.cons (fun x hx => l5 x (by walk_at "m:mem")) (.cons (fun x hx => l4 x (by walk_at "m:mem")) .nil)) hfr
        · refine take_snoc (hDs.mono (by ((intro x hx; (try simp only [List.mem_append, List.mem_cons, List.not_mem_nil, or_false, false_or] at hx); (repeat' (refine Or.elim hx (fun hx => ?_) (fun hx => ?_))); (all_goals (first | (subst hx; walk_at "m:mem") | walk_at "m:mem" | (exfalso; exact hx))))))) hq ?_
          rw [hthq]
          exact .tuple (.head _) (.cons (.str _ _) (.cons (.tuple (.tail _ (.head _)) (.cons (hvd.mono (by ((intro x hx; (try simp only [List.mem_append, List.mem_cons, List.not_mem_nil, or_false, false_or] at hx); (repeat' (refine Or.elim hx (fun hx => ?_) (fun hx => ?_))); (all_goals (first | (subst hx; walk_at "m:mem") | walk_at "m:mem" | (exfalso; exact hx))))))) .nil)) .nil))
    · intro D ys nx h tk lo hJ hkeep F' N' off
      obtain ⟨tl, rfl, hfr, hDs⟩ := hJ
      (repeat' ( (fail_if_success (with_reducible first | show TurnEnd _ _ _ _ _ _ _ _ _ _ | show WhileStep2 _ _ _ _ _ _ _ _ | show wpAny _ _ (eval (Expr.ListComp _ _ _ _) _) _ _ _ | show wpAny _ _ (exec (Stmt.While _ _ _ _) _) _ _ _ | show wpAny _ _ (exec (Stmt.For _ _ _ _ _) _) _ _ _ | show wpAny _ _ (exec (Stmt.Assign _ (Expr.ListComp _ _ _ _) _) _) _ _ _ | show wpAny _ _ (subscriptTail _ _ _ _) _ _ _ | show wpAny _ _ (PySem.call _ _ _) _ _ _ | show wpAny _ _ (compareOp _ (Value.ref _) _) _ _ _ | show wpAny _ _ (compareOp _ _ (Value.ref _)) _ _ _ | show wpAny _ _ (binaryOp _ (Value.ref _) _) _ _ _ | show wpAny _ _ (setItem _ _ _) _ _ _)); first | (k_unfold; (try dsimp only)) | walk1 | (dsimp only; walk1) | (leave1; (try dsimp only)) | fail "no step"))
      rename_i kF kN _ _
      refine hret _ _ _ _ kF (News.sub (l := (((D, lst ys) :: tl) ++ [(L1 + 1, oc)]) ++ news) kN (by rw [hK0]; ((intro x hx; (try simp only [List.mem_append, List.mem_cons, List.not_mem_nil, or_false, false_or] at hx); (repeat' (refine Or.elim hx (fun hx => ?_) (fun hx => ?_))); (all_goals (first | (subst hx; walk_at "m:mem") | walk_at "m:mem" | (exfalso; exact hx))))))) ⟨((D, lst ys) :: tl) ++ [(L1 + 1, oc)], rfl, ?_, ?_⟩
      · exact .app (.cons (fun x hx => lo x (hnK x hx)) (.sub hfr hnK)) (.cons (fun x hx => Nat.lt_succ_of_lt (l0 x hx)) .nil)
      · have e : kids P val pl = (kidsOf P pl).map fun q => (lastN q, val q) := rfl
        rw [e, List.length_map, List.take_length] at hDs
        exact .list (.head _) (hDs.mono (by ((intro x hx; (try simp only [List.mem_append, List.mem_cons, List.not_mem_nil, or_false, false_or] at hx); (repeat' (refine Or.elim hx (fun hx => ?_) (fun hx => ?_))); (all_goals (first | (subst hx; walk_at "m:mem") | walk_at "m:mem" | (exfalso; exact hx)))))))
end
section
open PySem PySem.W PyProof.Rows PyProof.Rows.LCg
abbrev DoesE (w : World) (f : Addr) (args : List Value) (D U : Nat) (news : Led) (Post : Led → Value → Prop) (X : String) (PostE : Led → List Value → Prop) : Prop :=
  ∀ (p : Program) (loose : List Str) (mean : ExcName → Option Value) (mg mb : Str → Option Value) (dp un : Nat) (gd : Option (List Code)) (cn : Str) (cs : Scope) (a : Addr) (ccd : Value) (cl : List (Str × Addr)) (outer : List Env) (A₀ : Around) (base h₀ : Heap) (L : Addr) (m : Str → Option Value) (s : Shared)
    (Q E : Value → Shared → Prop),
    Below A₀ base outer h₀ → Fr h₀ L s.heap m → (Mine.hd.heap_39 w.params).In h₀ → News h₀ L s.heap news → Top p loose mean mg mb h₀ → cs.kind = .function → dp + D < recursionLimit → un + U < cLine →
    (∀ r h' news' tk', Fr h₀ L h' m → News h₀ L h' news' → Post news' r → Q r { s with heap := h', toks := tk' }) →
    (∀ e t ws G h' news' tk', Fr h₀ L G m → RaisedS base G (envX cn cs L a ccd cl :: outer) e (.type X) t ws news' h' → G.UpToSlots h' → PostE news' ws → E (.ref e) { s with heap := h', toks := tk' }) →
    wpAny (model PySem.Challenge.rw_ij0018_01.row.prog w) (ktrTop dp un gd cn cs L a ccd cl outer) (call (.ref f) args) Q E s

set_option maxRecDepth 100000 in
set_option maxHeartbeats 8000000 in
theorem c3_does (w : World) (K0 : Led) (as₀ : List Addr) (ss₀ : List Row) (l0 : Addr) (nl : Nat) (news : Led) (hl0 : (l0, listOf (as₀.map Value.ref).toArray nl) ∈ news) (hK0 : ∀ p ∈ K0, p ∈ news) (hss : Seqs news K0 as₀ ss₀)
    (hfr : ∀ a ∈ as₀, ∀ p ∈ K0, p.1 < a) (hl0a : l0 ∉ as₀) (hok : ∀ s ∈ ss₀, ∀ p ∈ s, WOk p) (n₀ : Nat) (hn₀ : total ss₀ < n₀) (hns : ss₀.length ≤ 1000) (hnt : n₀ ≤ 1000) :
    DoesE w 71 [.ref l0] 10 1000 news (fun news' r => ∃ tl out, news' = tl ++ K0 ∧ Fresh tl K0 ∧ c3 n₀ ss₀ [] = some out ∧ DatIn (tl ++ K0) r (rowD out)) "RuntimeError"
      (fun news' ws => news' = K0 ∧ c3 n₀ ss₀ [] = none ∧ ∃ t, ws = [.str (Str.ofString "Inconsistent hierarchy") t]) := by
  unfold DoesE
  k_fill
  intro p loose mean mg mb dp un gd cn cs ad ccd cl outer A₀ base h₀ L m s Q E B F X N Tp hk hd hu hret hexc
  refine wpAny_call ?_
  k_dflt ((refine' code_def ?k1 ?k2 ?k3 ?k4 ?k5 ?kA ?kF ?kK ?k6 ?k7 ?k8 ?k9 ?kB ?_ ?c2 ?c3 ?c4 ?c5; (case kA => exact rfl); (case kF => exact rfl); (case kK => assumption); (case k1 => k_asm); (case k2 => k_asm); (case k3 => k_asm); (case k4 => k_asm); (case k5 => k_asm); (case k6 => k_is); (case k7 => k_is); (case k8 => ktr_room); (case k9 => exact BindsTo.of_eq rfl); (case c5 => decide); (case kB => exact locs rfl); (case c2 => exact rfl); (case c3 => exact rfl); (case c4 => exact rfl); k_whole))
  intro g L1 h1 FG F1 N1 B1 X1 T1
  obtain ⟨m1, hmS, F1⟩ : ∃ m1 : Str → Option Value, Has m1 [(Str.ofString "sequences", Value.ref l0)] ∧ Fr g L1 h1 m1 := ⟨_, ⟨rfl, trivial⟩, F1⟩
  with_reducible show wpAny _ _ _ _ _ _
  k_fold
  (repeat' ( (fail_if_success (with_reducible first | show TurnEnd _ _ _ _ _ _ _ _ _ _ | show WhileStep2 _ _ _ _ _ _ _ _ | show wpAny _ _ (eval (Expr.ListComp _ _ _ _) _) _ _ _ | show wpAny _ _ (exec (Stmt.While _ _ _ _) _) _ _ _ | show wpAny _ _ (exec (Stmt.For _ _ _ _ _) _) _ _ _ | show wpAny _ _ (exec (Stmt.Assign _ (Expr.ListComp _ _ _ _) _) _) _ _ _ | show wpAny _ _ (subscriptTail _ _ _ _) _ _ _ | show wpAny _ _ (PySem.call _ _ _) _ _ _ | show wpAny _ _ (compareOp _ (Value.ref _) _) _ _ _ | show wpAny _ _ (compareOp _ _ (Value.ref _)) _ _ _ | show wpAny _ _ (binaryOp _ (Value.ref _) _) _ _ _ | show wpAny _ _ (setItem _ _ _) _ _ _)); first | (k_unfold; (try dsimp only)) | ((with_reducible show wpAny _ _ (leaving _ (Value.ref _)) _ _ _); (refine' leave_raiseS ?k1 ?k0 ?k2 ?k3 ?_; (case k0 => first | assumption | exact Heap.MadeExc.of (by assumption)); (case k2 => assumption); (case k1 => assumption); (case k3 => k_asm); k_whole; intro h' t' S' R' U'; (try dsimp only at S' R' U' ⊢))) | ((with_reducible show wpAny _ _ (exec (Stmt.Raise (some (Expr.Call (Expr.Name ("RuntimeError" : Str) _) _ [] _)) none _) _) _ _ _); (with_reducible rename Fr _ _ _ _ => kF); with_unfolding_all refine Raise_madeB PySem.F.excCall_RuntimeError PySem.F.excRaise_RuntimeError rfl (name_B kF (by assumption) (topRead_of (by assumption)) (by k_is) PyProof.Rows.Boot.«RuntimeError» (by decide) ⟨rfl, ?_⟩)) | walk1 | (dsimp only; walk1) | (leave1; (try dsimp only)) | fail "no step"))
  rename Fr _ _ _ _ => F2
  rename News _ _ _ _ => N2
  rename (∀ p ∈ news, _) => lR
  refine While_inv2 (fun j m₁ nx => ∃ (R : Addr) (rs : List Value) (nr : Nat) (S : Addr) (nS : Nat) (as : List Addr) (ss : List Row) (out : Row),
    Has m₁ [(Str.ofString "result", .ref R), (Str.ofString "sequences", .ref S)] ∧ (∀ p ∈ K0, p ∈ nx) ∧ (R, listOf rs.toArray nr) ∈ nx ∧ DatAll K0 rs (out.map wayD) ∧ (S, listOf (as.map Value.ref).toArray nS) ∈ nx ∧ Seqs nx K0 as ss ∧
    R ∉ as ∧ S ∉ as ∧ (∀ a ∈ as, ∀ p ∈ K0, p.1 < a) ∧ (∀ p ∈ K0, p.1 < R) ∧ (∀ s ∈ ss, ∀ p ∈ s, WOk p) ∧ c3 j ss out = c3 n₀ ss₀ [] ∧ total ss < j ∧ ss.length ≤ 1000 ∧ out.length + total ss ≤ 1000) (n₀ := n₀) F2 N2 ?_ ?_
  · refine ⟨_, [], 0, l0, nl, as₀, ss₀, [], ⟨rfl, hmS.1, trivial⟩, fun p hp => .tail _ (hK0 p hp), .head _, .nil, .tail _ hl0, hss.mono fun p hp => .tail _ hp, ?_, hl0a, hfr, fun p hp => lR p (hK0 p hp), hok, rfl, hn₀, hns, by simp; omega⟩
    intro hR
    obtain ⟨i, hi⟩ := List.getElem?_of_mem hR
    have hlt := (List.getElem?_eq_some_iff.mp hi).1
    rw [hss.len] at hlt
    obtain ⟨vs, n, hm, _⟩ := hss.at_ i _ _ hi (List.getElem?_eq_getElem hlt)
    exact absurd (lR _ hm) (Nat.lt_irrefl _)
  · clear F2 N2 hmS lR
    rintro j m₁ K1 h₁ tk₁ F1 N1 ⟨R, rs, nr, S, nS, as, ss, out, hm, hK, hRm, hRD, hSm, hSq, hRa, hSa, hfa, hfR, hWk, hc3, htot, hsl, hol⟩
    replace F1 := hm.fr F1
    with_reducible show wpAny _ _ _ _ _ _
    k_fold
    (repeat' ( (fail_if_success (with_reducible first | show TurnEnd _ _ _ _ _ _ _ _ _ _ | show WhileStep2 _ _ _ _ _ _ _ _ | show wpAny _ _ (eval (Expr.ListComp _ _ _ _) _) _ _ _ | show wpAny _ _ (exec (Stmt.While _ _ _ _) _) _ _ _ | show wpAny _ _ (exec (Stmt.For _ _ _ _ _) _) _ _ _ | show wpAny _ _ (exec (Stmt.Assign _ (Expr.ListComp _ _ _ _) _) _) _ _ _ | show wpAny _ _ (subscriptTail _ _ _ _) _ _ _ | show wpAny _ _ (PySem.call _ _ _) _ _ _ | show wpAny _ _ (compareOp _ (Value.ref _) _) _ _ _ | show wpAny _ _ (compareOp _ _ (Value.ref _)) _ _ _ | show wpAny _ _ (binaryOp _ (Value.ref _) _) _ _ _ | show wpAny _ _ (setItem _ _ _) _ _ _)); first | (k_unfold; (try dsimp only)) | ((with_reducible show wpAny _ _ (leaving _ (Value.ref _)) _ _ _); (refine' leave_raiseS ?k1 ?k0 ?k2 ?k3 ?_; (case k0 => first | assumption | exact Heap.MadeExc.of (by assumption)); (case k2 => assumption); (case k1 => assumption); (case k3 => k_asm); k_whole; intro h' t' S' R' U'; (try dsimp only at S' R' U' ⊢))) | ((with_reducible show wpAny _ _ (exec (Stmt.Raise (some (Expr.Call (Expr.Name ("RuntimeError" : Str) _) _ [] _)) none _) _) _ _ _); (with_reducible rename Fr _ _ _ _ => kF); with_unfolding_all refine Raise_madeB PySem.F.excCall_RuntimeError PySem.F.excRaise_RuntimeError rfl (name_B kF (by assumption) (topRead_of (by assumption)) (by k_is) PyProof.Rows.Boot.«RuntimeError» (by decide) ⟨rfl, ?_⟩)) | walk1 | (dsimp only; walk1) | (leave1; (try dsimp only)) | fail "no step"))
    refine Comp_assign (cl := []) (by rfl) (by with_unfolding_all rfl) (by rfl) (by decide) ?_
    (repeat' ( (fail_if_success (with_reducible first | show TurnEnd _ _ _ _ _ _ _ _ _ _ | show WhileStep2 _ _ _ _ _ _ _ _ | show wpAny _ _ (eval (Expr.ListComp _ _ _ _) _) _ _ _ | show wpAny _ _ (exec (Stmt.While _ _ _ _) _) _ _ _ | show wpAny _ _ (exec (Stmt.For _ _ _ _ _) _) _ _ _ | show wpAny _ _ (exec (Stmt.Assign _ (Expr.ListComp _ _ _ _) _) _) _ _ _ | show wpAny _ _ (subscriptTail _ _ _ _) _ _ _ | show wpAny _ _ (PySem.call _ _ _) _ _ _ | show wpAny _ _ (compareOp _ (Value.ref _) _) _ _ _ | show wpAny _ _ (compareOp _ _ (Value.ref _)) _ _ _ | show wpAny _ _ (binaryOp _ (Value.ref _) _) _ _ _ | show wpAny _ _ (setItem _ _ _) _ _ _)); first | (k_unfold; (try dsimp only)) | ((with_reducible show wpAny _ _ (leaving _ (Value.ref _)) _ _ _); (refine' leave_raiseS ?k1 ?k0 ?k2 ?k3 ?_; (case k0 => first | assumption | exact Heap.MadeExc.of (by assumption)); (case k2 => assumption); (case k1 => assumption); (case k3 => k_asm); k_whole; intro h' t' S' R' U'; (try dsimp only at S' R' U' ⊢))) | ((with_reducible show wpAny _ _ (exec (Stmt.Raise (some (Expr.Call (Expr.Name ("RuntimeError" : Str) _) _ [] _)) none _) _) _ _ _); (with_reducible rename Fr _ _ _ _ => kF); with_unfolding_all refine Raise_madeB PySem.F.excCall_RuntimeError PySem.F.excRaise_RuntimeError rfl (name_B kF (by assumption) (topRead_of (by assumption)) (by k_is) PyProof.Rows.Boot.«RuntimeError» (by decide) ⟨rfl, ?_⟩)) | walk1 | (dsimp only; walk1) | (leave1; (try dsimp only)) | fail "no step"))
    have hln : (as.map Value.ref).length ≤ sizeLine := by rw [List.length_map, hSq.len, sizeLine_eq]; omega
    refine CompAt_listA (keep := K1) (news := K1) (by rfl) (by rfl) (by rfl) (by decide) (by rfl) F1 N1 (fun _ h => h) hSm hln
      (fun i ys nx => nx = K1 ∧ ∃ as', ys = as'.map Value.ref ∧ Seqs K1 K0 as' ((ss.take i).filter (· ≠ [])) ∧ ∀ a ∈ as', a ∈ as.take i) (Tgt.name _ _ ?_) ⟨rfl, [], rfl, ⟨rfl, fun _ _ _ h => (nomatch h), List.nodup_nil⟩, fun _ h => nomatch h⟩ ?_ ?_
    · rfl
    · intro i v ys nx Ia oI C oC D m₂ h tk E' hiv hJ hkeep hx hC F' N' off
      obtain ⟨rfl, as', rfl, hS', hsub⟩ := hJ
      obtain ⟨a, s, vs, n, rfl, ha, hs, hma, hDa⟩ := hSq.row hiv
      refine wpAny_tests_one ?_
      clear F1 N1
      (repeat' ( (fail_if_success (with_reducible first | show TurnEnd _ _ _ _ _ _ _ _ _ _ | show WhileStep2 _ _ _ _ _ _ _ _ | show wpAny _ _ (eval (Expr.ListComp _ _ _ _) _) _ _ _ | show wpAny _ _ (exec (Stmt.While _ _ _ _) _) _ _ _ | show wpAny _ _ (exec (Stmt.For _ _ _ _ _) _) _ _ _ | show wpAny _ _ (exec (Stmt.Assign _ (Expr.ListComp _ _ _ _) _) _) _ _ _ | show wpAny _ _ (subscriptTail _ _ _ _) _ _ _ | show wpAny _ _ (PySem.call _ _ _) _ _ _ | show wpAny _ _ (compareOp _ (Value.ref _) _) _ _ _ | show wpAny _ _ (compareOp _ _ (Value.ref _)) _ _ _ | show wpAny _ _ (binaryOp _ (Value.ref _) _) _ _ _ | show wpAny _ _ (setItem _ _ _) _ _ _)); first | (k_unfold; (try dsimp only)) | ((with_reducible show wpAny _ _ (leaving _ (Value.ref _)) _ _ _); (refine' leave_raiseS ?k1 ?k0 ?k2 ?k3 ?_; (case k0 => first | assumption | exact Heap.MadeExc.of (by assumption)); (case k2 => assumption); (case k1 => assumption); (case k3 => k_asm); k_whole; intro h' t' S' R' U'; (try dsimp only at S' R' U' ⊢))) | ((with_reducible show wpAny _ _ (exec (Stmt.Raise (some (Expr.Call (Expr.Name ("RuntimeError" : Str) _) _ [] _)) none _) _) _ _ _); (with_reducible rename Fr _ _ _ _ => kF); with_unfolding_all refine Raise_madeB PySem.F.excCall_RuntimeError PySem.F.excRaise_RuntimeError rfl (name_B kF (by assumption) (topRead_of (by assumption)) (by k_is) PyProof.Rows.Boot.«RuntimeError» (by decide) ⟨rfl, ?_⟩)) | walk1 | (dsimp only; walk1) | (leave1; (try dsimp only)) | fail "no step"))
      have hsv : vs.length = s.length := by rw [hDa.length, List.length_map]
      have hsl1 := total_ge hs
      refine lst_truthy N' (by walk_at "m:mem") (vs := vs) (n := n) (by omega) ?_
      by_cases hv : s = []
      · subst hv
        obtain rfl : vs = [] := List.eq_nil_of_length_eq_zero hDa.length
        simp only [List.isEmpty_nil, Bool.not_true, Bool.false_eq_true, if_false]
        refine ElEnd.grow [] F' N' (by ((intro x hx; (try simp only [List.mem_append, List.mem_cons, List.not_mem_nil, or_false, false_or] at hx); (repeat' (refine Or.elim hx (fun hx => ?_) (fun hx => ?_))); (all_goals (first | (subst hx; walk_at "m:mem") | walk_at "m:mem" | (exfalso; exact hx)))))) .nil off hkeep ⟨rfl, as', rfl, ?_, fun a ha => mem_take_succ (hsub a ha)⟩
        rw [filter_take hs, if_neg (by simp), List.append_nil]
        exact hS'
      · have hv' : vs.isEmpty = false := by
          cases vs with
          | nil => exact absurd (List.eq_nil_of_length_eq_zero hDa.length.symm) (by simpa using hv)
          | cons _ _ => rfl
        simp only [hv', Bool.not_false, if_true]
        (repeat' ( (fail_if_success (with_reducible first | show TurnEnd _ _ _ _ _ _ _ _ _ _ | show WhileStep2 _ _ _ _ _ _ _ _ | show wpAny _ _ (eval (Expr.ListComp _ _ _ _) _) _ _ _ | show wpAny _ _ (exec (Stmt.While _ _ _ _) _) _ _ _ | show wpAny _ _ (exec (Stmt.For _ _ _ _ _) _) _ _ _ | show wpAny _ _ (exec (Stmt.Assign _ (Expr.ListComp _ _ _ _) _) _) _ _ _ | show wpAny _ _ (subscriptTail _ _ _ _) _ _ _ | show wpAny _ _ (PySem.call _ _ _) _ _ _ | show wpAny _ _ (compareOp _ (Value.ref _) _) _ _ _ | show wpAny _ _ (compareOp _ _ (Value.ref _)) _ _ _ | show wpAny _ _ (binaryOp _ (Value.ref _) _) _ _ _ | show wpAny _ _ (setItem _ _ _) _ _ _)); first | (k_unfold; (try dsimp only)) | ((with_reducible show wpAny _ _ (leaving _ (Value.ref _)) _ _ _); (refine' leave_raiseS ?k1 ?k0 ?k2 ?k3 ?_; (case k0 => first | assumption | exact Heap.MadeExc.of (by assumption)); (case k2 => assumption); (case k1 => assumption); (case k3 => k_asm); k_whole; intro h' t' S' R' U'; (try dsimp only at S' R' U' ⊢))) | ((with_reducible show wpAny _ _ (exec (Stmt.Raise (some (Expr.Call (Expr.Name ("RuntimeError" : Str) _) _ [] _)) none _) _) _ _ _); (with_reducible rename Fr _ _ _ _ => kF); with_unfolding_all refine Raise_madeB PySem.F.excCall_RuntimeError PySem.F.excRaise_RuntimeError rfl (name_B kF (by assumption) (topRead_of (by assumption)) (by k_is) PyProof.Rows.Boot.«RuntimeError» (by decide) ⟨rfl, ?_⟩)) | walk1 | (dsimp only; walk1) | (leave1; (try dsimp only)) | fail "no step"))
        refine ElEnd.grow [] F' N' (by ((intro x hx; (try simp only [List.mem_append, List.mem_cons, List.not_mem_nil, or_false, false_or] at hx); (repeat' (refine Or.elim hx (fun hx => ?_) (fun hx => ?_))); (all_goals (first | (subst hx; walk_at "m:mem") | walk_at "m:mem" | (exfalso; exact hx)))))) .nil off hkeep ⟨rfl, as' ++ [a], by simp, ?_, fun b hb => ?_⟩
        · rw [filter_take hs, if_pos (by simpa using hv)]
          exact hS'.snoc hma hDa fun q => nodup_take hSq.nodup ha (hsub a q)
        · rcases List.mem_append.mp hb with hb | hb
          · exact mem_take_succ (hsub b hb)
          · rw [List.mem_singleton.mp hb]; exact mem_take ha
    · clear F1 N1
      intro D ys nx h tk lo hJ hkeep F1 N1 off
      obtain ⟨rfl, as1, rfl, hS1, hsub⟩ := hJ
      have hfl : (as.map Value.ref).length = ss.length := by rw [List.length_map, hSq.len]
      rw [hfl, List.take_length] at hS1
      rw [hfl, ← hSq.len, List.take_length] at hsub
      obtain ⟨j', rfl⟩ : ∃ j', j = j' + 1 := ⟨j - 1, by omega⟩
      rw [c3] at hc3
      have ht1 := total_filter ss
      have hl1 : (ss.filter (· ≠ [])).length ≤ 1000 := Nat.le_trans (List.length_filter_le _ _) hsl
      have hW1 : ∀ s ∈ ss.filter (· ≠ []), ∀ p ∈ s, WOk p := fun s hs => hWk s (List.mem_filter.mp hs).1
      have hne1 : ∀ s ∈ ss.filter (· ≠ []), s ≠ [] := fun s hs => by simpa using (List.mem_filter.mp hs).2
      rw [← ht1] at htot hol
      generalize ss.filter (· ≠ []) = ss1 at *
      clear ht1 hSq hfl hln hsl hWk
      have hRa1 : R ∉ as1 := fun q => hRa (hsub _ q)
      have hfa1 : ∀ a ∈ as1, ∀ p ∈ K0, p.1 < a := fun a q => hfa a (hsub _ q)
      have hD1 : D ∉ as1 := by
        intro q
        obtain ⟨i, hi⟩ := List.getElem?_of_mem q
        have hlt := (List.getElem?_eq_some_iff.mp hi).1
        rw [hS1.len] at hlt
        obtain ⟨vs, n, hm, _⟩ := hS1.at_ i _ _ hi (List.getElem?_eq_getElem hlt)
        exact absurd (lo _ hm) (Nat.lt_irrefl _)
      clear hRa hSa hfa hSm hsub
      dsimp only
      with_reducible show wpAny _ _ _ _ _ _
      k_fold
      (repeat' ( (fail_if_success (with_reducible first | show TurnEnd _ _ _ _ _ _ _ _ _ _ | show WhileStep2 _ _ _ _ _ _ _ _ | show wpAny _ _ (eval (Expr.ListComp _ _ _ _) _) _ _ _ | show wpAny _ _ (exec (Stmt.While _ _ _ _) _) _ _ _ | show wpAny _ _ (exec (Stmt.For _ _ _ _ _) _) _ _ _ | show wpAny _ _ (exec (Stmt.Assign _ (Expr.ListComp _ _ _ _) _) _) _ _ _ | show wpAny _ _ (subscriptTail _ _ _ _) _ _ _ | show wpAny _ _ (PySem.call _ _ _) _ _ _ | show wpAny _ _ (compareOp _ (Value.ref _) _) _ _ _ | show wpAny _ _ (compareOp _ _ (Value.ref _)) _ _ _ | show wpAny _ _ (binaryOp _ (Value.ref _) _) _ _ _ | show wpAny _ _ (setItem _ _ _) _ _ _)); first | (k_unfold; (try dsimp only)) | ((with_reducible show wpAny _ _ (leaving _ (Value.ref _)) _ _ _); (refine' leave_raiseS ?k1 ?k0 ?k2 ?k3 ?_; (case k0 => first | assumption | exact Heap.MadeExc.of (by assumption)); (case k2 => assumption); (case k1 => assumption); (case k3 => k_asm); k_whole; intro h' t' S' R' U'; (try dsimp only at S' R' U' ⊢))) | ((with_reducible show wpAny _ _ (exec (Stmt.Raise (some (Expr.Call (Expr.Name ("RuntimeError" : Str) _) _ [] _)) none _) _) _ _ _); (with_reducible rename Fr _ _ _ _ => kF); with_unfolding_all refine Raise_madeB PySem.F.excCall_RuntimeError PySem.F.excRaise_RuntimeError rfl (name_B kF (by assumption) (topRead_of (by assumption)) (by k_is) PyProof.Rows.Boot.«RuntimeError» (by decide) ⟨rfl, ?_⟩)) | walk1 | (dsimp only; walk1) | (leave1; (try dsimp only)) | fail "no step"))
      have hl2 : (as1.map Value.ref).length = ss1.length := by rw [List.length_map, hS1.len]
      refine lst_truthy (l := D) (vs := as1.map Value.ref) N1 (.head _) (by omega) ?_
      by_cases hse : ss1 = []
      · obtain rfl : as1 = [] := List.eq_nil_of_length_eq_zero (by rw [hS1.len, hse]; rfl)
        simp only [List.map_nil, List.isEmpty_nil, Bool.not_true, Bool.not_false, if_true]
        rw [if_pos hse] at hc3
        (repeat' ( (fail_if_success (with_reducible first | show TurnEnd _ _ _ _ _ _ _ _ _ _ | show WhileStep2 _ _ _ _ _ _ _ _ | show wpAny _ _ (eval (Expr.ListComp _ _ _ _) _) _ _ _ | show wpAny _ _ (exec (Stmt.While _ _ _ _) _) _ _ _ | show wpAny _ _ (exec (Stmt.For _ _ _ _ _) _) _ _ _ | show wpAny _ _ (exec (Stmt.Assign _ (Expr.ListComp _ _ _ _) _) _) _ _ _ | show wpAny _ _ (subscriptTail _ _ _ _) _ _ _ | show wpAny _ _ (PySem.call _ _ _) _ _ _ | show wpAny _ _ (compareOp _ (Value.ref _) _) _ _ _ | show wpAny _ _ (compareOp _ _ (Value.ref _)) _ _ _ | show wpAny _ _ (binaryOp _ (Value.ref _) _) _ _ _ | show wpAny _ _ (setItem _ _ _) _ _ _)); first | (k_unfold; (try dsimp only)) | ((with_reducible show wpAny _ _ (leaving _ (Value.ref _)) _ _ _); (refine' leave_raiseS ?k1 ?k0 ?k2 ?k3 ?_; (case k0 => first | assumption | exact Heap.MadeExc.of (by assumption)); (case k2 => assumption); (case k1 => assumption); (case k3 => k_asm); k_whole; intro h' t' S' R' U'; (try dsimp only at S' R' U' ⊢))) | ((with_reducible show wpAny _ _ (exec (Stmt.Raise (some (Expr.Call (Expr.Name ("RuntimeError" : Str) _) _ [] _)) none _) _) _ _ _); (with_reducible rename Fr _ _ _ _ => kF); with_unfolding_all refine Raise_madeB PySem.F.excCall_RuntimeError PySem.F.excRaise_RuntimeError rfl (name_B kF (by assumption) (topRead_of (by assumption)) (by k_is) PyProof.Rows.Boot.«RuntimeError» (by decide) ⟨rfl, ?_⟩)) | walk1 | (dsimp only; walk1) | (leave1; (try dsimp only)) | fail "no step"))
        dsimp only
        (repeat' ( (fail_if_success (with_reducible first | show TurnEnd _ _ _ _ _ _ _ _ _ _ | show WhileStep2 _ _ _ _ _ _ _ _ | show wpAny _ _ (eval (Expr.ListComp _ _ _ _) _) _ _ _ | show wpAny _ _ (exec (Stmt.While _ _ _ _) _) _ _ _ | show wpAny _ _ (exec (Stmt.For _ _ _ _ _) _) _ _ _ | show wpAny _ _ (exec (Stmt.Assign _ (Expr.ListComp _ _ _ _) _) _) _ _ _ | show wpAny _ _ (subscriptTail _ _ _ _) _ _ _ | show wpAny _ _ (PySem.call _ _ _) _ _ _ | show wpAny _ _ (compareOp _ (Value.ref _) _) _ _ _ | show wpAny _ _ (compareOp _ _ (Value.ref _)) _ _ _ | show wpAny _ _ (binaryOp _ (Value.ref _) _) _ _ _ | show wpAny _ _ (setItem _ _ _) _ _ _)); first | (k_unfold; (try dsimp only)) | ((with_reducible show wpAny _ _ (leaving _ (Value.ref _)) _ _ _); (refine' leave_raiseS ?k1 ?k0 ?k2 ?k3 ?_; (case k0 => first | assumption | exact Heap.MadeExc.of (by assumption)); (case k2 => assumption); (case k1 => assumption); (case k3 => k_asm); k_whole; intro h' t' S' R' U'; (try dsimp only at S' R' U' ⊢))) | ((with_reducible show wpAny _ _ (exec (Stmt.Raise (some (Expr.Call (Expr.Name ("RuntimeError" : Str) _) _ [] _)) none _) _) _ _ _); (with_reducible rename Fr _ _ _ _ => kF); with_unfolding_all refine Raise_madeB PySem.F.excCall_RuntimeError PySem.F.excRaise_RuntimeError rfl (name_B kF (by assumption) (topRead_of (by assumption)) (by k_is) PyProof.Rows.Boot.«RuntimeError» (by decide) ⟨rfl, ?_⟩)) | walk1 | (dsimp only; walk1) | (leave1; (try dsimp only)) | fail "no step"))
        refine WhileStep2.retd ?_
        (repeat' ( (fail_if_success (with_reducible first | show TurnEnd _ _ _ _ _ _ _ _ _ _ | show WhileStep2 _ _ _ _ _ _ _ _ | show wpAny _ _ (eval (Expr.ListComp _ _ _ _) _) _ _ _ | show wpAny _ _ (exec (Stmt.While _ _ _ _) _) _ _ _ | show wpAny _ _ (exec (Stmt.For _ _ _ _ _) _) _ _ _ | show wpAny _ _ (exec (Stmt.Assign _ (Expr.ListComp _ _ _ _) _) _) _ _ _ | show wpAny _ _ (subscriptTail _ _ _ _) _ _ _ | show wpAny _ _ (PySem.call _ _ _) _ _ _ | show wpAny _ _ (compareOp _ (Value.ref _) _) _ _ _ | show wpAny _ _ (compareOp _ _ (Value.ref _)) _ _ _ | show wpAny _ _ (binaryOp _ (Value.ref _) _) _ _ _ | show wpAny _ _ (setItem _ _ _) _ _ _)); first | (k_unfold; (try dsimp only)) | ((with_reducible show wpAny _ _ (leaving _ (Value.ref _)) _ _ _); (refine' leave_raiseS ?k1 ?k0 ?k2 ?k3 ?_; (case k0 => first | assumption | exact Heap.MadeExc.of (by assumption)); (case k2 => assumption); (case k1 => assumption); (case k3 => k_asm); k_whole; intro h' t' S' R' U'; (try dsimp only at S' R' U' ⊢))) | ((with_reducible show wpAny _ _ (exec (Stmt.Raise (some (Expr.Call (Expr.Name ("RuntimeError" : Str) _) _ [] _)) none _) _) _ _ _); (with_reducible rename Fr _ _ _ _ => kF); with_unfolding_all refine Raise_madeB PySem.F.excCall_RuntimeError PySem.F.excRaise_RuntimeError rfl (name_B kF (by assumption) (topRead_of (by assumption)) (by k_is) PyProof.Rows.Boot.«RuntimeError» (by decide) ⟨rfl, ?_⟩)) | walk1 | (dsimp only; walk1) | (leave1; (try dsimp only)) | fail "no step"))
        rename Fr _ _ _ _ => kF
        rename News _ _ _ _ => kN
        refine hret _ _ _ _ kF (News.sub (l := [(R, listOf rs.toArray nr)] ++ K0) kN (fun p hp => .tail _ ((List.mem_cons.mp hp).elim (fun e => e ▸ hRm) (hK p)))) ⟨[(R, listOf rs.toArray nr)], out, rfl, .cons hfR .nil, hc3.symm, ?_⟩
        exact .list (.head _) (hRD.mono fun p hp => .tail _ hp)
      · rw [if_neg hse] at hc3
        have hne : (as1.map Value.ref).isEmpty = false := by
          cases as1 with
          | nil => exact absurd (List.eq_nil_of_length_eq_zero hS1.len.symm) hse
          | cons _ _ => rfl
        simp only [hne, Bool.not_true, Bool.not_false, Bool.false_eq_true, if_false]
        (repeat' ( (fail_if_success (with_reducible first | show TurnEnd _ _ _ _ _ _ _ _ _ _ | show WhileStep2 _ _ _ _ _ _ _ _ | show wpAny _ _ (eval (Expr.ListComp _ _ _ _) _) _ _ _ | show wpAny _ _ (exec (Stmt.While _ _ _ _) _) _ _ _ | show wpAny _ _ (exec (Stmt.For _ _ _ _ _) _) _ _ _ | show wpAny _ _ (exec (Stmt.Assign _ (Expr.ListComp _ _ _ _) _) _) _ _ _ | show wpAny _ _ (subscriptTail _ _ _ _) _ _ _ | show wpAny _ _ (PySem.call _ _ _) _ _ _ | show wpAny _ _ (compareOp _ (Value.ref _) _) _ _ _ | show wpAny _ _ (compareOp _ _ (Value.ref _)) _ _ _ | show wpAny _ _ (binaryOp _ (Value.ref _) _) _ _ _ | show wpAny _ _ (setItem _ _ _) _ _ _)); first | (k_unfold; (try dsimp only)) | ((with_reducible show wpAny _ _ (leaving _ (Value.ref _)) _ _ _); (refine' leave_raiseS ?k1 ?k0 ?k2 ?k3 ?_; (case k0 => first | assumption | exact Heap.MadeExc.of (by assumption)); (case k2 => assumption); (case k1 => assumption); (case k3 => k_asm); k_whole; intro h' t' S' R' U'; (try dsimp only at S' R' U' ⊢))) | ((with_reducible show wpAny _ _ (exec (Stmt.Raise (some (Expr.Call (Expr.Name ("RuntimeError" : Str) _) _ [] _)) none _) _) _ _ _); (with_reducible rename Fr _ _ _ _ => kF); with_unfolding_all refine Raise_madeB PySem.F.excCall_RuntimeError PySem.F.excRaise_RuntimeError rfl (name_B kF (by assumption) (topRead_of (by assumption)) (by k_is) PyProof.Rows.Boot.«RuntimeError» (by decide) ⟨rfl, ?_⟩)) | walk1 | (dsimp only; walk1) | (leave1; (try dsimp only)) | fail "no step"))
        refine For_open ?_
        (repeat' ( (fail_if_success (with_reducible first | show TurnEnd _ _ _ _ _ _ _ _ _ _ | show WhileStep2 _ _ _ _ _ _ _ _ | show wpAny _ _ (eval (Expr.ListComp _ _ _ _) _) _ _ _ | show wpAny _ _ (exec (Stmt.While _ _ _ _) _) _ _ _ | show wpAny _ _ (exec (Stmt.For _ _ _ _ _) _) _ _ _ | show wpAny _ _ (exec (Stmt.Assign _ (Expr.ListComp _ _ _ _) _) _) _ _ _ | show wpAny _ _ (subscriptTail _ _ _ _) _ _ _ | show wpAny _ _ (PySem.call _ _ _) _ _ _ | show wpAny _ _ (compareOp _ (Value.ref _) _) _ _ _ | show wpAny _ _ (compareOp _ _ (Value.ref _)) _ _ _ | show wpAny _ _ (binaryOp _ (Value.ref _) _) _ _ _ | show wpAny _ _ (setItem _ _ _) _ _ _)); first | (k_unfold; (try dsimp only)) | ((with_reducible show wpAny _ _ (leaving _ (Value.ref _)) _ _ _); (refine' leave_raiseS ?k1 ?k0 ?k2 ?k3 ?_; (case k0 => first | assumption | exact Heap.MadeExc.of (by assumption)); (case k2 => assumption); (case k1 => assumption); (case k3 => k_asm); k_whole; intro h' t' S' R' U'; (try dsimp only at S' R' U' ⊢))) | ((with_reducible show wpAny _ _ (exec (Stmt.Raise (some (Expr.Call (Expr.Name ("RuntimeError" : Str) _) _ [] _)) none _) _) _ _ _); (with_reducible rename Fr _ _ _ _ => kF); with_unfolding_all refine Raise_madeB PySem.F.excCall_RuntimeError PySem.F.excRaise_RuntimeError rfl (name_B kF (by assumption) (topRead_of (by assumption)) (by k_is) PyProof.Rows.Boot.«RuntimeError» (by decide) ⟨rfl, ?_⟩)) | walk1 | (dsimp only; walk1) | (leave1; (try dsimp only)) | fail "no step"))
        refine ForAt_list (news := (D, lst (as1.map Value.ref)) :: nx) (vs := as1.map Value.ref) (by rfl) F1 N1 (.head _) (.inl ⟨_, _, rfl⟩)
          (fun i m nx' => nx' = (D, lst (as1.map Value.ref)) :: nx ∧ Has m [(Str.ofString "result", .ref R), (Str.ofString "sequences", .ref D)] ∧ (0 < i → m (Str.ofString "candidate") = some .none) ∧ ∀ k < i, ∀ s, ss1[k]? = some s → ∀ h, s.head? = some h → goodHead ss1 h = false)
          ⟨rfl, ⟨rfl, rfl, trivial⟩, fun h => absurd h (Nat.lt_irrefl _), fun k hk => absurd hk (Nat.not_lt_zero _)⟩ ?_ ?_
        · clear F1 N1
          rintro i v m₃ nx3 h₃ tk₃ Ia oI hiv ⟨rfl, hm3, hcn, hbad⟩ hlm F1 N1 off3
          obtain ⟨a, s1, vs, n, rfl, ha, hs, hma, hDa⟩ := hS1.row hiv
          replace F1 := hm3.fr F1
          dsimp only
          (repeat' ( (fail_if_success (with_reducible first | show TurnEnd _ _ _ _ _ _ _ _ _ _ | show WhileStep2 _ _ _ _ _ _ _ _ | show wpAny _ _ (eval (Expr.ListComp _ _ _ _) _) _ _ _ | show wpAny _ _ (exec (Stmt.While _ _ _ _) _) _ _ _ | show wpAny _ _ (exec (Stmt.For _ _ _ _ _) _) _ _ _ | show wpAny _ _ (exec (Stmt.Assign _ (Expr.ListComp _ _ _ _) _) _) _ _ _ | show wpAny _ _ (subscriptTail _ _ _ _) _ _ _ | show wpAny _ _ (PySem.call _ _ _) _ _ _ | show wpAny _ _ (compareOp _ (Value.ref _) _) _ _ _ | show wpAny _ _ (compareOp _ _ (Value.ref _)) _ _ _ | show wpAny _ _ (binaryOp _ (Value.ref _) _) _ _ _ | show wpAny _ _ (setItem _ _ _) _ _ _)); first | (k_unfold; (try dsimp only)) | ((with_reducible show wpAny _ _ (leaving _ (Value.ref _)) _ _ _); (refine' leave_raiseS ?k1 ?k0 ?k2 ?k3 ?_; (case k0 => first | assumption | exact Heap.MadeExc.of (by assumption)); (case k2 => assumption); (case k1 => assumption); (case k3 => k_asm); k_whole; intro h' t' S' R' U'; (try dsimp only at S' R' U' ⊢))) | ((with_reducible show wpAny _ _ (exec (Stmt.Raise (some (Expr.Call (Expr.Name ("RuntimeError" : Str) _) _ [] _)) none _) _) _ _ _); (with_reducible rename Fr _ _ _ _ => kF); with_unfolding_all refine Raise_madeB PySem.F.excCall_RuntimeError PySem.F.excRaise_RuntimeError rfl (name_B kF (by assumption) (topRead_of (by assumption)) (by k_is) PyProof.Rows.Boot.«RuntimeError» (by decide) ⟨rfl, ?_⟩)) | walk1 | (dsimp only; walk1) | (leave1; (try dsimp only)) | fail "no step"))
          rename Fr _ _ _ _ => F2
          rename News _ _ _ _ => N2
          have hsv : vs.length = s1.length := by rw [hDa.length, List.length_map]
          have hsl1 := total_ge hs
          have hs1m : s1 ∈ ss1 := List.mem_of_getElem? hs
          obtain ⟨c, s1', rfl⟩ : ∃ c s1', s1 = c :: s1' := by
            cases s1 with
            | nil => exact absurd rfl (hne1 _ hs1m)
            | cons c r => exact ⟨c, r, rfl⟩
          rw [List.map_cons] at hDa
          cases hDa with
          | @cons cv vs' _ _ hcv hvs' =>
          obtain ⟨tc, tcv, tcn, rfl, htc, _⟩ := DatIn.tup hcv
          refine lst_item N2 (l := a) (vs := .ref tc :: vs') (n := n) (by walk_at "m:mem") (by decide) (by decide) (x := .ref tc) (by rfl) ?_
          (repeat' ( (fail_if_success (with_reducible first | show TurnEnd _ _ _ _ _ _ _ _ _ _ | show WhileStep2 _ _ _ _ _ _ _ _ | show wpAny _ _ (eval (Expr.ListComp _ _ _ _) _) _ _ _ | show wpAny _ _ (exec (Stmt.While _ _ _ _) _) _ _ _ | show wpAny _ _ (exec (Stmt.For _ _ _ _ _) _) _ _ _ | show wpAny _ _ (exec (Stmt.Assign _ (Expr.ListComp _ _ _ _) _) _) _ _ _ | show wpAny _ _ (subscriptTail _ _ _ _) _ _ _ | show wpAny _ _ (PySem.call _ _ _) _ _ _ | show wpAny _ _ (compareOp _ (Value.ref _) _) _ _ _ | show wpAny _ _ (compareOp _ _ (Value.ref _)) _ _ _ | show wpAny _ _ (binaryOp _ (Value.ref _) _) _ _ _ | show wpAny _ _ (setItem _ _ _) _ _ _)); first | (k_unfold; (try dsimp only)) | ((with_reducible show wpAny _ _ (leaving _ (Value.ref _)) _ _ _); (refine' leave_raiseS ?k1 ?k0 ?k2 ?k3 ?_; (case k0 => first | assumption | exact Heap.MadeExc.of (by assumption)); (case k2 => assumption); (case k1 => assumption); (case k3 => k_asm); k_whole; intro h' t' S' R' U'; (try dsimp only at S' R' U' ⊢))) | ((with_reducible show wpAny _ _ (exec (Stmt.Raise (some (Expr.Call (Expr.Name ("RuntimeError" : Str) _) _ [] _)) none _) _) _ _ _); (with_reducible rename Fr _ _ _ _ => kF); with_unfolding_all refine Raise_madeB PySem.F.excCall_RuntimeError PySem.F.excRaise_RuntimeError rfl (name_B kF (by assumption) (topRead_of (by assumption)) (by k_is) PyProof.Rows.Boot.«RuntimeError» (by decide) ⟨rfl, ?_⟩)) | walk1 | (dsimp only; walk1) | (leave1; (try dsimp only)) | fail "no step"))
          refine For_open ?_
          (repeat' ( (fail_if_success (with_reducible first | show TurnEnd _ _ _ _ _ _ _ _ _ _ | show WhileStep2 _ _ _ _ _ _ _ _ | show wpAny _ _ (eval (Expr.ListComp _ _ _ _) _) _ _ _ | show wpAny _ _ (exec (Stmt.While _ _ _ _) _) _ _ _ | show wpAny _ _ (exec (Stmt.For _ _ _ _ _) _) _ _ _ | show wpAny _ _ (exec (Stmt.Assign _ (Expr.ListComp _ _ _ _) _) _) _ _ _ | show wpAny _ _ (subscriptTail _ _ _ _) _ _ _ | show wpAny _ _ (PySem.call _ _ _) _ _ _ | show wpAny _ _ (compareOp _ (Value.ref _) _) _ _ _ | show wpAny _ _ (compareOp _ _ (Value.ref _)) _ _ _ | show wpAny _ _ (binaryOp _ (Value.ref _) _) _ _ _ | show wpAny _ _ (setItem _ _ _) _ _ _)); first | (k_unfold; (try dsimp only)) | ((with_reducible show wpAny _ _ (leaving _ (Value.ref _)) _ _ _); (refine' leave_raiseS ?k1 ?k0 ?k2 ?k3 ?_; (case k0 => first | assumption | exact Heap.MadeExc.of (by assumption)); (case k2 => assumption); (case k1 => assumption); (case k3 => k_asm); k_whole; intro h' t' S' R' U'; (try dsimp only at S' R' U' ⊢))) | ((with_reducible show wpAny _ _ (exec (Stmt.Raise (some (Expr.Call (Expr.Name ("RuntimeError" : Str) _) _ [] _)) none _) _) _ _ _); (with_reducible rename Fr _ _ _ _ => kF); with_unfolding_all refine Raise_madeB PySem.F.excCall_RuntimeError PySem.F.excRaise_RuntimeError rfl (name_B kF (by assumption) (topRead_of (by assumption)) (by k_is) PyProof.Rows.Boot.«RuntimeError» (by decide) ⟨rfl, ?_⟩)) | walk1 | (dsimp only; walk1) | (leave1; (try dsimp only)) | fail "no step"))
          rename Fr _ _ _ _ => F3
          refine ForAt_list (news := (Ia, oI) :: (D, lst (as1.map Value.ref)) :: nx) (vs := as1.map Value.ref) (by rfl) F3 (by assumption) (.tail _ (.head _)) (.inl ⟨_, _, rfl⟩)
            (fun i m nx' => nx' = (Ia, oI) :: (D, lst (as1.map Value.ref)) :: nx ∧ Has m [(Str.ofString "result", .ref R), (Str.ofString "sequences", .ref D), (Str.ofString "candidate", .ref tc)] ∧ ∀ k < i, ∀ s, ss1[k]? = some s → c ∉ s.tail)
            ⟨rfl, ⟨rfl, rfl, rfl, trivial⟩, fun k hk => absurd hk (Nat.not_lt_zero _)⟩ ?_ ?_
          · clear F3
            rintro i2 v2 m4 nx4 h4 tk4 I2 oI2 hiv2 ⟨rfl, hm4, hno⟩ hlm4 F1 N1 off4
            obtain ⟨a2, s2, vs2, n2, rfl, ha2, hs2, hma2, hDa2⟩ := hS1.row hiv2
            replace F1 := hm4.fr F1
            dsimp only
            (repeat' ( (fail_if_success (with_reducible first | show TurnEnd _ _ _ _ _ _ _ _ _ _ | show WhileStep2 _ _ _ _ _ _ _ _ | show wpAny _ _ (eval (Expr.ListComp _ _ _ _) _) _ _ _ | show wpAny _ _ (exec (Stmt.While _ _ _ _) _) _ _ _ | show wpAny _ _ (exec (Stmt.For _ _ _ _ _) _) _ _ _ | show wpAny _ _ (exec (Stmt.Assign _ (Expr.ListComp _ _ _ _) _) _) _ _ _ | show wpAny _ _ (subscriptTail _ _ _ _) _ _ _ | show wpAny _ _ (PySem.call _ _ _) _ _ _ | show wpAny _ _ (compareOp _ (Value.ref _) _) _ _ _ | show wpAny _ _ (compareOp _ _ (Value.ref _)) _ _ _ | show wpAny _ _ (binaryOp _ (Value.ref _) _) _ _ _ | show wpAny _ _ (setItem _ _ _) _ _ _)); first | (k_unfold; (try dsimp only)) | ((with_reducible show wpAny _ _ (leaving _ (Value.ref _)) _ _ _); (refine' leave_raiseS ?k1 ?k0 ?k2 ?k3 ?_; (case k0 => first | assumption | exact Heap.MadeExc.of (by assumption)); (case k2 => assumption); (case k1 => assumption); (case k3 => k_asm); k_whole; intro h' t' S' R' U'; (try dsimp only at S' R' U' ⊢))) | ((with_reducible show wpAny _ _ (exec (Stmt.Raise (some (Expr.Call (Expr.Name ("RuntimeError" : Str) _) _ [] _)) none _) _) _ _ _); (with_reducible rename Fr _ _ _ _ => kF); with_unfolding_all refine Raise_madeB PySem.F.excCall_RuntimeError PySem.F.excRaise_RuntimeError rfl (name_B kF (by assumption) (topRead_of (by assumption)) (by k_is) PyProof.Rows.Boot.«RuntimeError» (by decide) ⟨rfl, ?_⟩)) | walk1 | (dsimp only; walk1) | (leave1; (try dsimp only)) | fail "no step"))
            rename Fr _ _ _ _ => F5
            rename News _ _ _ _ => N5
            have hs2m : s2 ∈ ss1 := List.mem_of_getElem? hs2
            have hsv2 : vs2.length = s2.length := by rw [hDa2.length, List.length_map]
            have hsl2 := total_ge hs2
            refine lst_from (l := a2) (vs := vs2) (n := n2) (k := 1) F5 N5 (by walk_at "m:mem") ?_ (by rw [sizeLine_eq]; omega)
            clear F5 N5
            intro D6 h6 F6 N6 l6
            (repeat' ( (fail_if_success (with_reducible first | show TurnEnd _ _ _ _ _ _ _ _ _ _ | show WhileStep2 _ _ _ _ _ _ _ _ | show wpAny _ _ (eval (Expr.ListComp _ _ _ _) _) _ _ _ | show wpAny _ _ (exec (Stmt.While _ _ _ _) _) _ _ _ | show wpAny _ _ (exec (Stmt.For _ _ _ _ _) _) _ _ _ | show wpAny _ _ (exec (Stmt.Assign _ (Expr.ListComp _ _ _ _) _) _) _ _ _ | show wpAny _ _ (subscriptTail _ _ _ _) _ _ _ | show wpAny _ _ (PySem.call _ _ _) _ _ _ | show wpAny _ _ (compareOp _ (Value.ref _) _) _ _ _ | show wpAny _ _ (compareOp _ _ (Value.ref _)) _ _ _ | show wpAny _ _ (binaryOp _ (Value.ref _) _) _ _ _ | show wpAny _ _ (setItem _ _ _) _ _ _)); first | (k_unfold; (try dsimp only)) | ((with_reducible show wpAny _ _ (leaving _ (Value.ref _)) _ _ _); (refine' leave_raiseS ?k1 ?k0 ?k2 ?k3 ?_; (case k0 => first | assumption | exact Heap.MadeExc.of (by assumption)); (case k2 => assumption); (case k1 => assumption); (case k3 => k_asm); k_whole; intro h' t' S' R' U'; (try dsimp only at S' R' U' ⊢))) | ((with_reducible show wpAny _ _ (exec (Stmt.Raise (some (Expr.Call (Expr.Name ("RuntimeError" : Str) _) _ [] _)) none _) _) _ _ _); (with_reducible rename Fr _ _ _ _ => kF); with_unfolding_all refine Raise_madeB PySem.F.excCall_RuntimeError PySem.F.excRaise_RuntimeError rfl (name_B kF (by assumption) (topRead_of (by assumption)) (by k_is) PyProof.Rows.Boot.«RuntimeError» (by decide) ⟨rfl, ?_⟩)) | walk1 | (dsimp only; walk1) | (leave1; (try dsimp only)) | fail "no step"))
            have hin : ∃ b : Bool, b = s2.tail.contains c := ⟨_, rfl⟩
            obtain ⟨b, hb⟩ := hin
            refine way_in (ps := s2.tail) (p := c) (I := K0) (I' := K0) (vs := vs2.drop 1) (n := 0) N6 (.head _) ?_ hcv (fun p hp => .tail _ (.tail _ (.tail _ (.tail _ (hK p hp))))) (fun p hp => .tail _ (.tail _ (.tail _ (.tail _ (hK p hp))))) (fun p hp => hW1 s2 hs2m p (List.mem_of_mem_tail hp)) (hW1 _ hs1m _ (.head _)) ?_ (c := b) (by rw [hb]; simp) ?_
            · exact DatAll.drop1 hDa2
            · ktr_units
            cases b with
            | true =>
              (repeat' ( (fail_if_success (with_reducible first | show TurnEnd _ _ _ _ _ _ _ _ _ _ | show WhileStep2 _ _ _ _ _ _ _ _ | show wpAny _ _ (eval (Expr.ListComp _ _ _ _) _) _ _ _ | show wpAny _ _ (exec (Stmt.While _ _ _ _) _) _ _ _ | show wpAny _ _ (exec (Stmt.For _ _ _ _ _) _) _ _ _ | show wpAny _ _ (exec (Stmt.Assign _ (Expr.ListComp _ _ _ _) _) _) _ _ _ | show wpAny _ _ (subscriptTail _ _ _ _) _ _ _ | show wpAny _ _ (PySem.call _ _ _) _ _ _ | show wpAny _ _ (compareOp _ (Value.ref _) _) _ _ _ | show wpAny _ _ (compareOp _ _ (Value.ref _)) _ _ _ | show wpAny _ _ (binaryOp _ (Value.ref _) _) _ _ _ | show wpAny _ _ (setItem _ _ _) _ _ _)); first | (k_unfold; (try dsimp only)) | ((with_reducible show wpAny _ _ (leaving _ (Value.ref _)) _ _ _); (refine' leave_raiseS ?k1 ?k0 ?k2 ?k3 ?_; (case k0 => first | assumption | exact Heap.MadeExc.of (by assumption)); (case k2 => assumption); (case k1 => assumption); (case k3 => k_asm); k_whole; intro h' t' S' R' U'; (try dsimp only at S' R' U' ⊢))) | ((with_reducible show wpAny _ _ (exec (Stmt.Raise (some (Expr.Call (Expr.Name ("RuntimeError" : Str) _) _ [] _)) none _) _) _ _ _); (with_reducible rename Fr _ _ _ _ => kF); with_unfolding_all refine Raise_madeB PySem.F.excCall_RuntimeError PySem.F.excRaise_RuntimeError rfl (name_B kF (by assumption) (topRead_of (by assumption)) (by k_is) PyProof.Rows.Boot.«RuntimeError» (by decide) ⟨rfl, ?_⟩)) | walk1 | (dsimp only; walk1) | (leave1; (try dsimp only)) | fail "no step"))
              rename Fr _ _ _ _ => F7
              rename News _ _ _ _ => N7
              dsimp only
              (repeat' ( (fail_if_success (with_reducible first | show TurnEnd _ _ _ _ _ _ _ _ _ _ | show WhileStep2 _ _ _ _ _ _ _ _ | show wpAny _ _ (eval (Expr.ListComp _ _ _ _) _) _ _ _ | show wpAny _ _ (exec (Stmt.While _ _ _ _) _) _ _ _ | show wpAny _ _ (exec (Stmt.For _ _ _ _ _) _) _ _ _ | show wpAny _ _ (exec (Stmt.Assign _ (Expr.ListComp _ _ _ _) _) _) _ _ _ | show wpAny _ _ (subscriptTail _ _ _ _) _ _ _ | show wpAny _ _ (PySem.call _ _ _) _ _ _ | show wpAny _ _ (compareOp _ (Value.ref _) _) _ _ _ | show wpAny _ _ (compareOp _ _ (Value.ref _)) _ _ _ | show wpAny _ _ (binaryOp _ (Value.ref _) _) _ _ _ | show wpAny _ _ (setItem _ _ _) _ _ _)); first | (k_unfold; (try dsimp only)) | ((with_reducible show wpAny _ _ (leaving _ (Value.ref _)) _ _ _); (refine' leave_raiseS ?k1 ?k0 ?k2 ?k3 ?_; (case k0 => first | assumption | exact Heap.MadeExc.of (by assumption)); (case k2 => assumption); (case k1 => assumption); (case k3 => k_asm); k_whole; intro h' t' S' R' U'; (try dsimp only at S' R' U' ⊢))) | ((with_reducible show wpAny _ _ (exec (Stmt.Raise (some (Expr.Call (Expr.Name ("RuntimeError" : Str) _) _ [] _)) none _) _) _ _ _); (with_reducible rename Fr _ _ _ _ => kF); with_unfolding_all refine Raise_madeB PySem.F.excCall_RuntimeError PySem.F.excRaise_RuntimeError rfl (name_B kF (by assumption) (topRead_of (by assumption)) (by k_is) PyProof.Rows.Boot.«RuntimeError» (by decide) ⟨rfl, ?_⟩)) | walk1 | (dsimp only; walk1) | (leave1; (try dsimp only)) | fail "no step"))
              refine TurnEnd.brk ?_
              (repeat' ( (fail_if_success (with_reducible first | show TurnEnd _ _ _ _ _ _ _ _ _ _ | show WhileStep2 _ _ _ _ _ _ _ _ | show wpAny _ _ (eval (Expr.ListComp _ _ _ _) _) _ _ _ | show wpAny _ _ (exec (Stmt.While _ _ _ _) _) _ _ _ | show wpAny _ _ (exec (Stmt.For _ _ _ _ _) _) _ _ _ | show wpAny _ _ (exec (Stmt.Assign _ (Expr.ListComp _ _ _ _) _) _) _ _ _ | show wpAny _ _ (subscriptTail _ _ _ _) _ _ _ | show wpAny _ _ (PySem.call _ _ _) _ _ _ | show wpAny _ _ (compareOp _ (Value.ref _) _) _ _ _ | show wpAny _ _ (compareOp _ _ (Value.ref _)) _ _ _ | show wpAny _ _ (binaryOp _ (Value.ref _) _) _ _ _ | show wpAny _ _ (setItem _ _ _) _ _ _)); first | (k_unfold; (try dsimp only)) | ((with_reducible show wpAny _ _ (leaving _ (Value.ref _)) _ _ _); (refine' leave_raiseS ?k1 ?k0 ?k2 ?k3 ?_; (case k0 => first | assumption | exact Heap.MadeExc.of (by assumption)); (case k2 => assumption); (case k1 => assumption); (case k3 => k_asm); k_whole; intro h' t' S' R' U'; (try dsimp only at S' R' U' ⊢))) | ((with_reducible show wpAny _ _ (exec (Stmt.Raise (some (Expr.Call (Expr.Name ("RuntimeError" : Str) _) _ [] _)) none _) _) _ _ _); (with_reducible rename Fr _ _ _ _ => kF); with_unfolding_all refine Raise_madeB PySem.F.excCall_RuntimeError PySem.F.excRaise_RuntimeError rfl (name_B kF (by assumption) (topRead_of (by assumption)) (by k_is) PyProof.Rows.Boot.«RuntimeError» (by decide) ⟨rfl, ?_⟩)) | walk1 | (dsimp only; walk1) | (leave1; (try dsimp only)) | fail "no step"))
              refine TurnEnd.next _ _ F7 (News.sub (l := (Ia, oI) :: (D, lst (as1.map Value.ref)) :: nx) N7 (by ((intro x hx; (try simp only [List.mem_append, List.mem_cons, List.not_mem_nil, or_false, false_or] at hx); (repeat' (refine Or.elim hx (fun hx => ?_) (fun hx => ?_))); (all_goals (first | (subst hx; walk_at "m:mem") | walk_at "m:mem" | (exfalso; exact hx))))))) off3 (by ((intro x hx; (try simp only [List.mem_append, List.mem_cons, List.not_mem_nil, or_false, false_or] at hx); (repeat' (refine Or.elim hx (fun hx => ?_) (fun hx => ?_))); (all_goals (first | (subst hx; walk_at "m:mem") | walk_at "m:mem" | (exfalso; exact hx)))))) ⟨rfl, ⟨rfl, rfl, trivial⟩, fun _ => rfl, ?_⟩
              intro k hk s hks h hh
              by_cases e : k = i
              · rw [e, hs] at hks
                obtain rfl := Option.some.inj hks
                obtain rfl := Option.some.inj hh
                rw [goodHead, List.all_eq_false]
                exact ⟨s2, hs2m, by rw [← hb]; simp⟩
              · exact hbad k (by omega) s hks h hh
            | false =>
              (repeat' ( (fail_if_success (with_reducible first | show TurnEnd _ _ _ _ _ _ _ _ _ _ | show WhileStep2 _ _ _ _ _ _ _ _ | show wpAny _ _ (eval (Expr.ListComp _ _ _ _) _) _ _ _ | show wpAny _ _ (exec (Stmt.While _ _ _ _) _) _ _ _ | show wpAny _ _ (exec (Stmt.For _ _ _ _ _) _) _ _ _ | show wpAny _ _ (exec (Stmt.Assign _ (Expr.ListComp _ _ _ _) _) _) _ _ _ | show wpAny _ _ (subscriptTail _ _ _ _) _ _ _ | show wpAny _ _ (PySem.call _ _ _) _ _ _ | show wpAny _ _ (compareOp _ (Value.ref _) _) _ _ _ | show wpAny _ _ (compareOp _ _ (Value.ref _)) _ _ _ | show wpAny _ _ (binaryOp _ (Value.ref _) _) _ _ _ | show wpAny _ _ (setItem _ _ _) _ _ _)); first | (k_unfold; (try dsimp only)) | ((with_reducible show wpAny _ _ (leaving _ (Value.ref _)) _ _ _); (refine' leave_raiseS ?k1 ?k0 ?k2 ?k3 ?_; (case k0 => first | assumption | exact Heap.MadeExc.of (by assumption)); (case k2 => assumption); (case k1 => assumption); (case k3 => k_asm); k_whole; intro h' t' S' R' U'; (try dsimp only at S' R' U' ⊢))) | ((with_reducible show wpAny _ _ (exec (Stmt.Raise (some (Expr.Call (Expr.Name ("RuntimeError" : Str) _) _ [] _)) none _) _) _ _ _); (with_reducible rename Fr _ _ _ _ => kF); with_unfolding_all refine Raise_madeB PySem.F.excCall_RuntimeError PySem.F.excRaise_RuntimeError rfl (name_B kF (by assumption) (topRead_of (by assumption)) (by k_is) PyProof.Rows.Boot.«RuntimeError» (by decide) ⟨rfl, ?_⟩)) | walk1 | (dsimp only; walk1) | (leave1; (try dsimp only)) | fail "no step"))
              rename Fr _ _ _ _ => F7
              refine TurnEnd.next _ _ F7 (News.sub (l := (I2, oI2) :: (Ia, oI) :: (D, lst (as1.map Value.ref)) :: nx) N6 (by ((intro x hx; (try simp only [List.mem_append, List.mem_cons, List.not_mem_nil, or_false, false_or] at hx); (repeat' (refine Or.elim hx (fun hx => ?_) (fun hx => ?_))); (all_goals (first | (subst hx; walk_at "m:mem") | walk_at "m:mem" | (exfalso; exact hx))))))) off4 (by ((intro x hx; (try simp only [List.mem_append, List.mem_cons, List.not_mem_nil, or_false, false_or] at hx); (repeat' (refine Or.elim hx (fun hx => ?_) (fun hx => ?_))); (all_goals (first | (subst hx; walk_at "m:mem") | walk_at "m:mem" | (exfalso; exact hx)))))) ⟨rfl, ⟨rfl, rfl, rfl, trivial⟩, ?_⟩
              intro k hk s hks
              by_cases e : k = i2
              · rw [e, hs2] at hks
                obtain rfl := Option.some.inj hks
                simpa using hb.symm
              · exact hno k (by omega) s hks
          · clear F3
            rintro m4 nx4 h4 tk4 ⟨rfl, hm4, hno⟩ hlm4 F1 N1
            replace F1 := hm4.fr F1
            dsimp only
            (repeat' ( (fail_if_success (with_reducible first | show TurnEnd _ _ _ _ _ _ _ _ _ _ | show WhileStep2 _ _ _ _ _ _ _ _ | show wpAny _ _ (eval (Expr.ListComp _ _ _ _) _) _ _ _ | show wpAny _ _ (exec (Stmt.While _ _ _ _) _) _ _ _ | show wpAny _ _ (exec (Stmt.For _ _ _ _ _) _) _ _ _ | show wpAny _ _ (exec (Stmt.Assign _ (Expr.ListComp _ _ _ _) _) _) _ _ _ | show wpAny _ _ (subscriptTail _ _ _ _) _ _ _ | show wpAny _ _ (PySem.call _ _ _) _ _ _ | show wpAny _ _ (compareOp _ (Value.ref _) _) _ _ _ | show wpAny _ _ (compareOp _ _ (Value.ref _)) _ _ _ | show wpAny _ _ (binaryOp _ (Value.ref _) _) _ _ _ | show wpAny _ _ (setItem _ _ _) _ _ _)); first | (k_unfold; (try dsimp only)) | ((with_reducible show wpAny _ _ (leaving _ (Value.ref _)) _ _ _); (refine' leave_raiseS ?k1 ?k0 ?k2 ?k3 ?_; (case k0 => first | assumption | exact Heap.MadeExc.of (by assumption)); (case k2 => assumption); (case k1 => assumption); (case k3 => k_asm); k_whole; intro h' t' S' R' U'; (try dsimp only at S' R' U' ⊢))) | ((with_reducible show wpAny _ _ (exec (Stmt.Raise (some (Expr.Call (Expr.Name ("RuntimeError" : Str) _) _ [] _)) none _) _) _ _ _); (with_reducible rename Fr _ _ _ _ => kF); with_unfolding_all refine Raise_madeB PySem.F.excCall_RuntimeError PySem.F.excRaise_RuntimeError rfl (name_B kF (by assumption) (topRead_of (by assumption)) (by k_is) PyProof.Rows.Boot.«RuntimeError» (by decide) ⟨rfl, ?_⟩)) | walk1 | (dsimp only; walk1) | (leave1; (try dsimp only)) | fail "no step"))
            dsimp only
            (repeat' ( (fail_if_success (with_reducible first | show TurnEnd _ _ _ _ _ _ _ _ _ _ | show WhileStep2 _ _ _ _ _ _ _ _ | show wpAny _ _ (eval (Expr.ListComp _ _ _ _) _) _ _ _ | show wpAny _ _ (exec (Stmt.While _ _ _ _) _) _ _ _ | show wpAny _ _ (exec (Stmt.For _ _ _ _ _) _) _ _ _ | show wpAny _ _ (exec (Stmt.Assign _ (Expr.ListComp _ _ _ _) _) _) _ _ _ | show wpAny _ _ (subscriptTail _ _ _ _) _ _ _ | show wpAny _ _ (PySem.call _ _ _) _ _ _ | show wpAny _ _ (compareOp _ (Value.ref _) _) _ _ _ | show wpAny _ _ (compareOp _ _ (Value.ref _)) _ _ _ | show wpAny _ _ (binaryOp _ (Value.ref _) _) _ _ _ | show wpAny _ _ (setItem _ _ _) _ _ _)); first | (k_unfold; (try dsimp only)) | ((with_reducible show wpAny _ _ (leaving _ (Value.ref _)) _ _ _); (refine' leave_raiseS ?k1 ?k0 ?k2 ?k3 ?_; (case k0 => first | assumption | exact Heap.MadeExc.of (by assumption)); (case k2 => assumption); (case k1 => assumption); (case k3 => k_asm); k_whole; intro h' t' S' R' U'; (try dsimp only at S' R' U' ⊢))) | ((with_reducible show wpAny _ _ (exec (Stmt.Raise (some (Expr.Call (Expr.Name ("RuntimeError" : Str) _) _ [] _)) none _) _) _ _ _); (with_reducible rename Fr _ _ _ _ => kF); with_unfolding_all refine Raise_madeB PySem.F.excCall_RuntimeError PySem.F.excRaise_RuntimeError rfl (name_B kF (by assumption) (topRead_of (by assumption)) (by k_is) PyProof.Rows.Boot.«RuntimeError» (by decide) ⟨rfl, ?_⟩)) | walk1 | (dsimp only; walk1) | (leave1; (try dsimp only)) | fail "no step"))
            refine TurnEnd.brk ?_
            (repeat' ( (fail_if_success (with_reducible first | show TurnEnd _ _ _ _ _ _ _ _ _ _ | show WhileStep2 _ _ _ _ _ _ _ _ | show wpAny _ _ (eval (Expr.ListComp _ _ _ _) _) _ _ _ | show wpAny _ _ (exec (Stmt.While _ _ _ _) _) _ _ _ | show wpAny _ _ (exec (Stmt.For _ _ _ _ _) _) _ _ _ | show wpAny _ _ (exec (Stmt.Assign _ (Expr.ListComp _ _ _ _) _) _) _ _ _ | show wpAny _ _ (subscriptTail _ _ _ _) _ _ _ | show wpAny _ _ (PySem.call _ _ _) _ _ _ | show wpAny _ _ (compareOp _ (Value.ref _) _) _ _ _ | show wpAny _ _ (compareOp _ _ (Value.ref _)) _ _ _ | show wpAny _ _ (binaryOp _ (Value.ref _) _) _ _ _ | show wpAny _ _ (setItem _ _ _) _ _ _)); first | (k_unfold; (try dsimp only)) | ((with_reducible show wpAny _ _ (leaving _ (Value.ref _)) _ _ _); (refine' leave_raiseS ?k1 ?k0 ?k2 ?k3 ?_; (case k0 => first | assumption | exact Heap.MadeExc.of (by assumption)); (case k2 => assumption); (case k1 => assumption); (case k3 => k_asm); k_whole; intro h' t' S' R' U'; (try dsimp only at S' R' U' ⊢))) | ((with_reducible show wpAny _ _ (exec (Stmt.Raise (some (Expr.Call (Expr.Name ("RuntimeError" : Str) _) _ [] _)) none _) _) _ _ _); (with_reducible rename Fr _ _ _ _ => kF); with_unfolding_all refine Raise_madeB PySem.F.excCall_RuntimeError PySem.F.excRaise_RuntimeError rfl (name_B kF (by assumption) (topRead_of (by assumption)) (by k_is) PyProof.Rows.Boot.«RuntimeError» (by decide) ⟨rfl, ?_⟩)) | walk1 | (dsimp only; walk1) | (leave1; (try dsimp only)) | fail "no step"))
            walk1
            (repeat' ( (fail_if_success (with_reducible first | show TurnEnd _ _ _ _ _ _ _ _ _ _ | show WhileStep2 _ _ _ _ _ _ _ _ | show wpAny _ _ (eval (Expr.ListComp _ _ _ _) _) _ _ _ | show wpAny _ _ (exec (Stmt.While _ _ _ _) _) _ _ _ | show wpAny _ _ (exec (Stmt.For _ _ _ _ _) _) _ _ _ | show wpAny _ _ (exec (Stmt.Assign _ (Expr.ListComp _ _ _ _) _) _) _ _ _ | show wpAny _ _ (subscriptTail _ _ _ _) _ _ _ | show wpAny _ _ (PySem.call _ _ _) _ _ _ | show wpAny _ _ (compareOp _ (Value.ref _) _) _ _ _ | show wpAny _ _ (compareOp _ _ (Value.ref _)) _ _ _ | show wpAny _ _ (binaryOp _ (Value.ref _) _) _ _ _ | show wpAny _ _ (setItem _ _ _) _ _ _)); first | (k_unfold; (try dsimp only)) | ((with_reducible show wpAny _ _ (leaving _ (Value.ref _)) _ _ _); (refine' leave_raiseS ?k1 ?k0 ?k2 ?k3 ?_; (case k0 => first | assumption | exact Heap.MadeExc.of (by assumption)); (case k2 => assumption); (case k1 => assumption); (case k3 => k_asm); k_whole; intro h' t' S' R' U'; (try dsimp only at S' R' U' ⊢))) | ((with_reducible show wpAny _ _ (exec (Stmt.Raise (some (Expr.Call (Expr.Name ("RuntimeError" : Str) _) _ [] _)) none _) _) _ _ _); (with_reducible rename Fr _ _ _ _ => kF); with_unfolding_all refine Raise_madeB PySem.F.excCall_RuntimeError PySem.F.excRaise_RuntimeError rfl (name_B kF (by assumption) (topRead_of (by assumption)) (by k_is) PyProof.Rows.Boot.«RuntimeError» (by decide) ⟨rfl, ?_⟩)) | walk1 | (dsimp only; walk1) | (leave1; (try dsimp only)) | fail "no step"))
            rename Fr _ _ _ _ => F2
            rename News _ _ _ _ => N2
            have hgood : goodHead ss1 c = true := by
              rw [goodHead, List.all_eq_true]
              intro t ht
              obtain ⟨k, hk⟩ := List.getElem?_of_mem ht
              have := hno k (by rw [hl2]; exact (List.getElem?_eq_some_iff.mp hk).1) t hk
              simpa using this
            have hpick : pick ss1 = some c := pick_at hgood hs hbad
            rw [hpick] at hc3
            refine led_append F2 N2 (l := R) (vs := rs) (n := nr) (by walk_at "m:mem") ?_ (by have := hRD.length; rw [List.length_map] at this; rw [sizeLine_eq]; omega)
            clear F2 N2 F1 N1
            intro h5 news5 F1 N1 hR5 hk5 ho5
            (repeat' ( (fail_if_success (with_reducible first | show TurnEnd _ _ _ _ _ _ _ _ _ _ | show WhileStep2 _ _ _ _ _ _ _ _ | show wpAny _ _ (eval (Expr.ListComp _ _ _ _) _) _ _ _ | show wpAny _ _ (exec (Stmt.While _ _ _ _) _) _ _ _ | show wpAny _ _ (exec (Stmt.For _ _ _ _ _) _) _ _ _ | show wpAny _ _ (exec (Stmt.Assign _ (Expr.ListComp _ _ _ _) _) _) _ _ _ | show wpAny _ _ (subscriptTail _ _ _ _) _ _ _ | show wpAny _ _ (PySem.call _ _ _) _ _ _ | show wpAny _ _ (compareOp _ (Value.ref _) _) _ _ _ | show wpAny _ _ (compareOp _ _ (Value.ref _)) _ _ _ | show wpAny _ _ (binaryOp _ (Value.ref _) _) _ _ _ | show wpAny _ _ (setItem _ _ _) _ _ _)); first | (k_unfold; (try dsimp only)) | ((with_reducible show wpAny _ _ (leaving _ (Value.ref _)) _ _ _); (refine' leave_raiseS ?k1 ?k0 ?k2 ?k3 ?_; (case k0 => first | assumption | exact Heap.MadeExc.of (by assumption)); (case k2 => assumption); (case k1 => assumption); (case k3 => k_asm); k_whole; intro h' t' S' R' U'; (try dsimp only at S' R' U' ⊢))) | ((with_reducible show wpAny _ _ (exec (Stmt.Raise (some (Expr.Call (Expr.Name ("RuntimeError" : Str) _) _ [] _)) none _) _) _ _ _); (with_reducible rename Fr _ _ _ _ => kF); with_unfolding_all refine Raise_madeB PySem.F.excCall_RuntimeError PySem.F.excRaise_RuntimeError rfl (name_B kF (by assumption) (topRead_of (by assumption)) (by k_is) PyProof.Rows.Boot.«RuntimeError» (by decide) ⟨rfl, ?_⟩)) | walk1 | (dsimp only; walk1) | (leave1; (try dsimp only)) | fail "no step"))
            refine For_open ?_
            (repeat' ( (fail_if_success (with_reducible first | show TurnEnd _ _ _ _ _ _ _ _ _ _ | show WhileStep2 _ _ _ _ _ _ _ _ | show wpAny _ _ (eval (Expr.ListComp _ _ _ _) _) _ _ _ | show wpAny _ _ (exec (Stmt.While _ _ _ _) _) _ _ _ | show wpAny _ _ (exec (Stmt.For _ _ _ _ _) _) _ _ _ | show wpAny _ _ (exec (Stmt.Assign _ (Expr.ListComp _ _ _ _) _) _) _ _ _ | show wpAny _ _ (subscriptTail _ _ _ _) _ _ _ | show wpAny _ _ (PySem.call _ _ _) _ _ _ | show wpAny _ _ (compareOp _ (Value.ref _) _) _ _ _ | show wpAny _ _ (compareOp _ _ (Value.ref _)) _ _ _ | show wpAny _ _ (binaryOp _ (Value.ref _) _) _ _ _ | show wpAny _ _ (setItem _ _ _) _ _ _)); first | (k_unfold; (try dsimp only)) | ((with_reducible show wpAny _ _ (leaving _ (Value.ref _)) _ _ _); (refine' leave_raiseS ?k1 ?k0 ?k2 ?k3 ?_; (case k0 => first | assumption | exact Heap.MadeExc.of (by assumption)); (case k2 => assumption); (case k1 => assumption); (case k3 => k_asm); k_whole; intro h' t' S' R' U'; (try dsimp only at S' R' U' ⊢))) | ((with_reducible show wpAny _ _ (exec (Stmt.Raise (some (Expr.Call (Expr.Name ("RuntimeError" : Str) _) _ [] _)) none _) _) _ _ _); (with_reducible rename Fr _ _ _ _ => kF); with_unfolding_all refine Raise_madeB PySem.F.excCall_RuntimeError PySem.F.excRaise_RuntimeError rfl (name_B kF (by assumption) (topRead_of (by assumption)) (by k_is) PyProof.Rows.Boot.«RuntimeError» (by decide) ⟨rfl, ?_⟩)) | walk1 | (dsimp only; walk1) | (leave1; (try dsimp only)) | fail "no step"))
            have hRD' : R ≠ D := fun e => absurd (lo _ hRm) (by show ¬ R < D; rw [e]; exact Nat.lt_irrefl _)
            have hKR : ∀ p ∈ K0, p.1 ≠ R := fun p hp => Nat.ne_of_lt (hfR p hp)
            refine ForAt_list (news := news5) (vs := as1.map Value.ref) (l := D) (n := (as1.map Value.ref).length) (by rfl) F1 N1 (hk5 _ (by simp) (Ne.symm hRD')) (.inl ⟨_, _, rfl⟩)
              (fun i m nx' => Has m [(Str.ofString "result", .ref R), (Str.ofString "sequences", .ref D), (Str.ofString "candidate", .ref tc)] ∧ (∀ p ∈ K0, p ∈ nx') ∧ (R, listOf (rs ++ [Value.ref tc]).toArray (nr + 1)) ∈ nx' ∧ Seqs nx' K0 as1 (part (drop1 c) ss1 i))
              ⟨⟨rfl, rfl, rfl, trivial⟩, fun p hp => hk5 p (by simp [hK p hp]) (hKR p hp), hR5, ?_⟩ ?_ ?_
            · rw [part_zero]
              refine hS1.mono' fun p hp hpa => hk5 _ (by simp [hp]) fun e => hRa1 (e ▸ hpa)
            · clear F1 N1
              rintro i5 v5 m6 nx6 h6 tk6 I6 oI6 hiv6 ⟨hm6, hK6, hR6, hS6⟩ hlm6 F1 N1 off6
              replace F1 := hm6.fr F1
              obtain ⟨a6, s6, vs6, n6, rfl, ha6, hs6, hma6, hDa6⟩ := hS6.row hiv6
              have hi6 : i5 < ss1.length := by rw [← hS1.len]; exact (List.getElem?_eq_some_iff.mp ha6).1
              have hs6' : ss1[i5]? = some s6 := by
                have := part_get (f := drop1 c) (List.getElem?_eq_getElem hi6)
                rw [hs6] at this
                rw [List.getElem?_eq_getElem hi6, ← Option.some.inj this]
              have hs6m : s6 ∈ ss1 := List.mem_of_getElem? hs6'
              have ha6m : a6 ∈ as1 := List.mem_of_getElem? ha6
              obtain ⟨x6, s6', rfl⟩ : ∃ c s1', s6 = c :: s1' := by
                cases s6 with
                | nil => exact absurd rfl (hne1 _ hs6m)
                | cons c r => exact ⟨c, r, rfl⟩
              have hsl6 := total_ge hs6'
              have hvl6 := hDa6.length
              rw [List.map_cons] at hDa6
              cases hDa6 with
              | @cons xv vs6' _ _ hxv hvs6 =>
              dsimp only
              (repeat' ( (fail_if_success (with_reducible first | show TurnEnd _ _ _ _ _ _ _ _ _ _ | show WhileStep2 _ _ _ _ _ _ _ _ | show wpAny _ _ (eval (Expr.ListComp _ _ _ _) _) _ _ _ | show wpAny _ _ (exec (Stmt.While _ _ _ _) _) _ _ _ | show wpAny _ _ (exec (Stmt.For _ _ _ _ _) _) _ _ _ | show wpAny _ _ (exec (Stmt.Assign _ (Expr.ListComp _ _ _ _) _) _) _ _ _ | show wpAny _ _ (subscriptTail _ _ _ _) _ _ _ | show wpAny _ _ (PySem.call _ _ _) _ _ _ | show wpAny _ _ (compareOp _ (Value.ref _) _) _ _ _ | show wpAny _ _ (compareOp _ _ (Value.ref _)) _ _ _ | show wpAny _ _ (binaryOp _ (Value.ref _) _) _ _ _ | show wpAny _ _ (setItem _ _ _) _ _ _)); first | (k_unfold; (try dsimp only)) | ((with_reducible show wpAny _ _ (leaving _ (Value.ref _)) _ _ _); (refine' leave_raiseS ?k1 ?k0 ?k2 ?k3 ?_; (case k0 => first | assumption | exact Heap.MadeExc.of (by assumption)); (case k2 => assumption); (case k1 => assumption); (case k3 => k_asm); k_whole; intro h' t' S' R' U'; (try dsimp only at S' R' U' ⊢))) | ((with_reducible show wpAny _ _ (exec (Stmt.Raise (some (Expr.Call (Expr.Name ("RuntimeError" : Str) _) _ [] _)) none _) _) _ _ _); (with_reducible rename Fr _ _ _ _ => kF); with_unfolding_all refine Raise_madeB PySem.F.excCall_RuntimeError PySem.F.excRaise_RuntimeError rfl (name_B kF (by assumption) (topRead_of (by assumption)) (by k_is) PyProof.Rows.Boot.«RuntimeError» (by decide) ⟨rfl, ?_⟩)) | walk1 | (dsimp only; walk1) | (leave1; (try dsimp only)) | fail "no step"))
              rename Fr _ _ _ _ => F7
              rename News _ _ _ _ => N7
              refine lst_item N7 (l := a6) (vs := xv :: vs6') (n := n6) (by walk_at "m:mem") (by decide) (by decide) (x := xv) (by rfl) ?_
              (repeat' ( (fail_if_success (with_reducible first | show TurnEnd _ _ _ _ _ _ _ _ _ _ | show WhileStep2 _ _ _ _ _ _ _ _ | show wpAny _ _ (eval (Expr.ListComp _ _ _ _) _) _ _ _ | show wpAny _ _ (exec (Stmt.While _ _ _ _) _) _ _ _ | show wpAny _ _ (exec (Stmt.For _ _ _ _ _) _) _ _ _ | show wpAny _ _ (exec (Stmt.Assign _ (Expr.ListComp _ _ _ _) _) _) _ _ _ | show wpAny _ _ (subscriptTail _ _ _ _) _ _ _ | show wpAny _ _ (PySem.call _ _ _) _ _ _ | show wpAny _ _ (compareOp _ (Value.ref _) _) _ _ _ | show wpAny _ _ (compareOp _ _ (Value.ref _)) _ _ _ | show wpAny _ _ (binaryOp _ (Value.ref _) _) _ _ _ | show wpAny _ _ (setItem _ _ _) _ _ _)); first | (k_unfold; (try dsimp only)) | ((with_reducible show wpAny _ _ (leaving _ (Value.ref _)) _ _ _); (refine' leave_raiseS ?k1 ?k0 ?k2 ?k3 ?_; (case k0 => first | assumption | exact Heap.MadeExc.of (by assumption)); (case k2 => assumption); (case k1 => assumption); (case k3 => k_asm); k_whole; intro h' t' S' R' U'; (try dsimp only at S' R' U' ⊢))) | ((with_reducible show wpAny _ _ (exec (Stmt.Raise (some (Expr.Call (Expr.Name ("RuntimeError" : Str) _) _ [] _)) none _) _) _ _ _); (with_reducible rename Fr _ _ _ _ => kF); with_unfolding_all refine Raise_madeB PySem.F.excCall_RuntimeError PySem.F.excRaise_RuntimeError rfl (name_B kF (by assumption) (topRead_of (by assumption)) (by k_is) PyProof.Rows.Boot.«RuntimeError» (by decide) ⟨rfl, ?_⟩)) | walk1 | (dsimp only; walk1) | (leave1; (try dsimp only)) | fail "no step"))
              refine way_eq (p := x6) (q := c) (I := K0) (I' := K0) N7 hxv hcv (fun p hp => .tail _ (hK6 p hp)) (fun p hp => .tail _ (hK6 p hp)) (hW1 _ hs6m _ (.head _)) (hW1 _ hs1m _ (.head _)) ?_ ?_
              · ktr_units
              by_cases hxc : x6 = c
              · simp only [hxc, decide_true]
                (repeat' ( (fail_if_success (with_reducible first | show TurnEnd _ _ _ _ _ _ _ _ _ _ | show WhileStep2 _ _ _ _ _ _ _ _ | show wpAny _ _ (eval (Expr.ListComp _ _ _ _) _) _ _ _ | show wpAny _ _ (exec (Stmt.While _ _ _ _) _) _ _ _ | show wpAny _ _ (exec (Stmt.For _ _ _ _ _) _) _ _ _ | show wpAny _ _ (exec (Stmt.Assign _ (Expr.ListComp _ _ _ _) _) _) _ _ _ | show wpAny _ _ (subscriptTail _ _ _ _) _ _ _ | show wpAny _ _ (PySem.call _ _ _) _ _ _ | show wpAny _ _ (compareOp _ (Value.ref _) _) _ _ _ | show wpAny _ _ (compareOp _ _ (Value.ref _)) _ _ _ | show wpAny _ _ (binaryOp _ (Value.ref _) _) _ _ _ | show wpAny _ _ (setItem _ _ _) _ _ _)); first | (k_unfold; (try dsimp only)) | ((with_reducible show wpAny _ _ (leaving _ (Value.ref _)) _ _ _); (refine' leave_raiseS ?k1 ?k0 ?k2 ?k3 ?_; (case k0 => first | assumption | exact Heap.MadeExc.of (by assumption)); (case k2 => assumption); (case k1 => assumption); (case k3 => k_asm); k_whole; intro h' t' S' R' U'; (try dsimp only at S' R' U' ⊢))) | ((with_reducible show wpAny _ _ (exec (Stmt.Raise (some (Expr.Call (Expr.Name ("RuntimeError" : Str) _) _ [] _)) none _) _) _ _ _); (with_reducible rename Fr _ _ _ _ => kF); with_unfolding_all refine Raise_madeB PySem.F.excCall_RuntimeError PySem.F.excRaise_RuntimeError rfl (name_B kF (by assumption) (topRead_of (by assumption)) (by k_is) PyProof.Rows.Boot.«RuntimeError» (by decide) ⟨rfl, ?_⟩)) | walk1 | (dsimp only; walk1) | (leave1; (try dsimp only)) | fail "no step"))
                have haK : ∀ p ∈ K0, p.1 ≠ a6 := fun p hp => Nat.ne_of_lt (hfa1 a6 ha6m p hp)
                have haI : I6 ≠ a6 := fun e => off6 _ hma6 e.symm
                refine led_del0 F7 N7 (l := a6) (v := xv) (vs := vs6') (n := n6) (by walk_at "m:mem") ?_ (by rw [hvl6, sizeLine_eq, List.length_map]; omega)
                clear F7 N7
                intro h8 news8 F8 N8 hm8 hk8 ho8
                (repeat' ( (fail_if_success (with_reducible first | show TurnEnd _ _ _ _ _ _ _ _ _ _ | show WhileStep2 _ _ _ _ _ _ _ _ | show wpAny _ _ (eval (Expr.ListComp _ _ _ _) _) _ _ _ | show wpAny _ _ (exec (Stmt.While _ _ _ _) _) _ _ _ | show wpAny _ _ (exec (Stmt.For _ _ _ _ _) _) _ _ _ | show wpAny _ _ (exec (Stmt.Assign _ (Expr.ListComp _ _ _ _) _) _) _ _ _ | show wpAny _ _ (subscriptTail _ _ _ _) _ _ _ | show wpAny _ _ (PySem.call _ _ _) _ _ _ | show wpAny _ _ (compareOp _ (Value.ref _) _) _ _ _ | show wpAny _ _ (compareOp _ _ (Value.ref _)) _ _ _ | show wpAny _ _ (binaryOp _ (Value.ref _) _) _ _ _ | show wpAny _ _ (setItem _ _ _) _ _ _)); first | (k_unfold; (try dsimp only)) | ((with_reducible show wpAny _ _ (leaving _ (Value.ref _)) _ _ _); (refine' leave_raiseS ?k1 ?k0 ?k2 ?k3 ?_; (case k0 => first | assumption | exact Heap.MadeExc.of (by assumption)); (case k2 => assumption); (case k1 => assumption); (case k3 => k_asm); k_whole; intro h' t' S' R' U'; (try dsimp only at S' R' U' ⊢))) | ((with_reducible show wpAny _ _ (exec (Stmt.Raise (some (Expr.Call (Expr.Name ("RuntimeError" : Str) _) _ [] _)) none _) _) _ _ _); (with_reducible rename Fr _ _ _ _ => kF); with_unfolding_all refine Raise_madeB PySem.F.excCall_RuntimeError PySem.F.excRaise_RuntimeError rfl (name_B kF (by assumption) (topRead_of (by assumption)) (by k_is) PyProof.Rows.Boot.«RuntimeError» (by decide) ⟨rfl, ?_⟩)) | walk1 | (dsimp only; walk1) | (leave1; (try dsimp only)) | fail "no step"))
                refine TurnEnd.next _ ((a6, listOf vs6'.toArray (n6 + 1)) :: nx6.filter (fun p => decide (p.1 ≠ a6))) F8 (News.sub N8 ?_) ?_ ?_ ⟨⟨rfl, rfl, rfl, trivial⟩, ?_, ?_, ?_⟩
                · intro p hp
                  rcases List.mem_cons.mp hp with rfl | hp
                  · exact hk8 _ (.head _) haI
                  rcases List.mem_cons.mp hp with rfl | hp
                  · exact hm8
                  obtain ⟨h1, h2⟩ := List.mem_filter.mp hp
                  exact hk8 _ (.tail _ h1) (by simpa using h2)
                · intro p hp
                  rcases List.mem_cons.mp hp with rfl | hp
                  · exact Ne.symm haI
                  · exact off6 p (List.mem_filter.mp hp).1
                · intro p hp
                  rw [List.mem_singleton.mp hp]
                  exact .tail _ (List.mem_filter.mpr ⟨hlm6, by simpa using fun e : D = a6 => hD1 (e ▸ ha6m)⟩)
                · exact fun p hp => .tail _ (List.mem_filter.mpr ⟨hK6 p hp, by simpa using haK p hp⟩)
                · exact .tail _ (List.mem_filter.mpr ⟨hR6, by simpa using fun e : R = a6 => hRa1 (e ▸ ha6m)⟩)
                · rw [part_succ hs6']
                  refine hS6.set ha6 (fun p hp hpa => .tail _ (List.mem_filter.mpr ⟨hp, by simpa using hpa⟩)) (.head _) (s' := drop1 c (x6 :: s6')) ?_
                  unfold drop1
                  rw [if_pos (by rw [hxc]; rfl)]
                  exact hvs6
              · simp only [hxc, decide_false]
                (repeat' ( (fail_if_success (with_reducible first | show TurnEnd _ _ _ _ _ _ _ _ _ _ | show WhileStep2 _ _ _ _ _ _ _ _ | show wpAny _ _ (eval (Expr.ListComp _ _ _ _) _) _ _ _ | show wpAny _ _ (exec (Stmt.While _ _ _ _) _) _ _ _ | show wpAny _ _ (exec (Stmt.For _ _ _ _ _) _) _ _ _ | show wpAny _ _ (exec (Stmt.Assign _ (Expr.ListComp _ _ _ _) _) _) _ _ _ | show wpAny _ _ (subscriptTail _ _ _ _) _ _ _ | show wpAny _ _ (PySem.call _ _ _) _ _ _ | show wpAny _ _ (compareOp _ (Value.ref _) _) _ _ _ | show wpAny _ _ (compareOp _ _ (Value.ref _)) _ _ _ | show wpAny _ _ (binaryOp _ (Value.ref _) _) _ _ _ | show wpAny _ _ (setItem _ _ _) _ _ _)); first | (k_unfold; (try dsimp only)) | ((with_reducible show wpAny _ _ (leaving _ (Value.ref _)) _ _ _); (refine' leave_raiseS ?k1 ?k0 ?k2 ?k3 ?_; (case k0 => first | assumption | exact Heap.MadeExc.of (by assumption)); (case k2 => assumption); (case k1 => assumption); (case k3 => k_asm); k_whole; intro h' t' S' R' U'; (try dsimp only at S' R' U' ⊢))) | ((with_reducible show wpAny _ _ (exec (Stmt.Raise (some (Expr.Call (Expr.Name ("RuntimeError" : Str) _) _ [] _)) none _) _) _ _ _); (with_reducible rename Fr _ _ _ _ => kF); with_unfolding_all refine Raise_madeB PySem.F.excCall_RuntimeError PySem.F.excRaise_RuntimeError rfl (name_B kF (by assumption) (topRead_of (by assumption)) (by k_is) PyProof.Rows.Boot.«RuntimeError» (by decide) ⟨rfl, ?_⟩)) | walk1 | (dsimp only; walk1) | (leave1; (try dsimp only)) | fail "no step"))
                refine TurnEnd.next _ _ F7 (News.sub (l := (I6, oI6) :: nx6) N7 (by ((intro x hx; (try simp only [List.mem_append, List.mem_cons, List.not_mem_nil, or_false, false_or] at hx); (repeat' (refine Or.elim hx (fun hx => ?_) (fun hx => ?_))); (all_goals (first | (subst hx; walk_at "m:mem") | walk_at "m:mem" | (exfalso; exact hx))))))) off6 (by ((intro x hx; (try simp only [List.mem_append, List.mem_cons, List.not_mem_nil, or_false, false_or] at hx); (repeat' (refine Or.elim hx (fun hx => ?_) (fun hx => ?_))); (all_goals (first | (subst hx; walk_at "m:mem") | walk_at "m:mem" | (exfalso; exact hx)))))) ⟨⟨rfl, rfl, rfl, trivial⟩, hK6, hR6, ?_⟩
                rw [part_same hs6' (by unfold drop1; rw [if_neg (by simpa using hxc)])]
                exact hS6
            · clear F1 N1
              rintro m6 nx6 h6 tk6 ⟨hm6, hK6, hR6, hS6⟩ hlm6 F1 N1
              rw [part_all hl2] at hS6
              dsimp only
              (repeat' ( (fail_if_success (with_reducible first | show TurnEnd _ _ _ _ _ _ _ _ _ _ | show WhileStep2 _ _ _ _ _ _ _ _ | show wpAny _ _ (eval (Expr.ListComp _ _ _ _) _) _ _ _ | show wpAny _ _ (exec (Stmt.While _ _ _ _) _) _ _ _ | show wpAny _ _ (exec (Stmt.For _ _ _ _ _) _) _ _ _ | show wpAny _ _ (exec (Stmt.Assign _ (Expr.ListComp _ _ _ _) _) _) _ _ _ | show wpAny _ _ (subscriptTail _ _ _ _) _ _ _ | show wpAny _ _ (PySem.call _ _ _) _ _ _ | show wpAny _ _ (compareOp _ (Value.ref _) _) _ _ _ | show wpAny _ _ (compareOp _ _ (Value.ref _)) _ _ _ | show wpAny _ _ (binaryOp _ (Value.ref _) _) _ _ _ | show wpAny _ _ (setItem _ _ _) _ _ _)); first | (k_unfold; (try dsimp only)) | ((with_reducible show wpAny _ _ (leaving _ (Value.ref _)) _ _ _); (refine' leave_raiseS ?k1 ?k0 ?k2 ?k3 ?_; (case k0 => first | assumption | exact Heap.MadeExc.of (by assumption)); (case k2 => assumption); (case k1 => assumption); (case k3 => k_asm); k_whole; intro h' t' S' R' U'; (try dsimp only at S' R' U' ⊢))) | ((with_reducible show wpAny _ _ (exec (Stmt.Raise (some (Expr.Call (Expr.Name ("RuntimeError" : Str) _) _ [] _)) none _) _) _ _ _); (with_reducible rename Fr _ _ _ _ => kF); with_unfolding_all refine Raise_madeB PySem.F.excCall_RuntimeError PySem.F.excRaise_RuntimeError rfl (name_B kF (by assumption) (topRead_of (by assumption)) (by k_is) PyProof.Rows.Boot.«RuntimeError» (by decide) ⟨rfl, ?_⟩)) | walk1 | (dsimp only; walk1) | (leave1; (try dsimp only)) | fail "no step"))
              refine WhileStep2.nextd (n' := j') _ _ F1 N1 (Nat.lt_succ_self _) ⟨R, _, _, D, _, as1, ss1.map (drop1 c), out ++ [c], ⟨hm6.1, hm6.2.1, trivial⟩, hK6, hR6, ?_, hlm6, hS6, hRa1, hD1, hfa1, hfR, ?_, hc3, ?_, ?_, ?_⟩
              · rw [List.map_append]
                exact hRD.append (DatAll.one hcv)
              · intro t ht p hp
                obtain ⟨t0, ht0, rfl⟩ := List.mem_map.mp ht
                refine hW1 t0 ht0 p ?_
                unfold drop1 at hp
                split at hp
                · exact List.mem_of_mem_tail hp
                · exact hp
              · have := total_drop_lt (h := c) hs1m rfl
                omega
              · rw [List.length_map]; exact hl1
              · have := total_drop_lt (h := c) hs1m rfl
                rw [List.length_append, List.length_singleton]
                omega
        · clear F1 N1
          rintro m₃ nx3 h₃ tk₃ ⟨rfl, hm3, hcn, hbad⟩ hlm F1 N1
          have hcn := hcn (by rw [hl2]; exact Nat.pos_of_ne_zero fun e => hse (List.eq_nil_of_length_eq_zero e))
          replace F1 := (show Has m₃ [(Str.ofString "result", .ref R), (Str.ofString "sequences", .ref D), (Str.ofString "candidate", .none)] from ⟨hm3.1, hm3.2.1, hcn, trivial⟩).fr F1
          have hpick : pick ss1 = none := pick_none fun t ht => by
            obtain ⟨k, hk⟩ := List.getElem?_of_mem ht
            exact hbad k (by rw [hl2]; exact (List.getElem?_eq_some_iff.mp hk).1) t hk
          rw [hpick] at hc3
          dsimp only
          (repeat' ( (fail_if_success (with_reducible first | show TurnEnd _ _ _ _ _ _ _ _ _ _ | show WhileStep2 _ _ _ _ _ _ _ _ | show wpAny _ _ (eval (Expr.ListComp _ _ _ _) _) _ _ _ | show wpAny _ _ (exec (Stmt.While _ _ _ _) _) _ _ _ | show wpAny _ _ (exec (Stmt.For _ _ _ _ _) _) _ _ _ | show wpAny _ _ (exec (Stmt.Assign _ (Expr.ListComp _ _ _ _) _) _) _ _ _ | show wpAny _ _ (subscriptTail _ _ _ _) _ _ _ | show wpAny _ _ (PySem.call _ _ _) _ _ _ | show wpAny _ _ (compareOp _ (Value.ref _) _) _ _ _ | show wpAny _ _ (compareOp _ _ (Value.ref _)) _ _ _ | show wpAny _ _ (binaryOp _ (Value.ref _) _) _ _ _ | show wpAny _ _ (setItem _ _ _) _ _ _)); first | (k_unfold; (try dsimp only)) | ((with_reducible show wpAny _ _ (leaving _ (Value.ref _)) _ _ _); (refine' leave_raiseS ?k1 ?k0 ?k2 ?k3 ?_; (case k0 => first | assumption | exact Heap.MadeExc.of (by assumption)); (case k2 => assumption); (case k1 => assumption); (case k3 => k_asm); k_whole; intro h' t' S' R' U'; (try dsimp only at S' R' U' ⊢))) | ((with_reducible show wpAny _ _ (exec (Stmt.Raise (some (Expr.Call (Expr.Name ("RuntimeError" : Str) _) _ [] _)) none _) _) _ _ _); (with_reducible rename Fr _ _ _ _ => kF); with_unfolding_all refine Raise_madeB PySem.F.excCall_RuntimeError PySem.F.excRaise_RuntimeError rfl (name_B kF (by assumption) (topRead_of (by assumption)) (by k_is) PyProof.Rows.Boot.«RuntimeError» (by decide) ⟨rfl, ?_⟩)) | walk1 | (dsimp only; walk1) | (leave1; (try dsimp only)) | fail "no step"))
          rename RaisedS _ _ _ _ _ _ _ _ _ => RS
          refine hexc _ _ _ _ _ _ _ FG (Mine.RaisedS.sub RS (news' := K0) ?_) (by assumption) ⟨rfl, hc3.symm, _, rfl⟩
          exact fun p hp => .tail _ (hK p hp)
end
section
open PySem PySem.W PyProof.Rows PyProof.Rows.LCg
theorem DoesE.use {w : World} {f : Addr} {args : List Value} {D U : Nat} {news : Led} {Post : Led → Value → Prop} {X : String} {PostE : Led → List Value → Prop} (C : DoesE w f args D U news Post X PostE)
    {p : Program} {loose : List Str} {mean : ExcName → Option Value} {mg mb : Str → Option Value} {dp un : Nat} {gd : Option (List Code)} {cn : Str} {cs : Scope} {a : Addr} {ccd : Value} {cl : List (Str × Addr)} {outer : List Env} {A₀ : Around} {base h₀ : Heap} {L : Addr} {m : Str → Option Value} {s : Shared}
    {Q E : Value → Shared → Prop} (B : Below A₀ base outer h₀) (F : Fr h₀ L s.heap m) (X1 : (Mine.hd.heap_39 w.params).In h₀) (N : News h₀ L s.heap news) (T : Top p loose mean mg mb h₀) (hk : cs.kind = .function) (hd : dp + D < recursionLimit) (hu : un + U < cLine)
    (ret : ∀ r h' news' tk', Fr h₀ L h' m → News h₀ L h' news' → Post news' r → Q r { s with heap := h', toks := tk' })
    (exc : ∀ e t ws G h' news' tk', Fr h₀ L G m → RaisedS base G (envX cn cs L a ccd cl :: outer) e (.type X) t ws news' h' → G.UpToSlots h' → PostE news' ws → E (.ref e) { s with heap := h', toks := tk' }) :
    wpAny (model PySem.Challenge.rw_ij0018_01.row.prog w) (ktrTop dp un gd cn cs L a ccd cl outer) (call (.ref f) args) Q E s :=
  C p loose mean mg mb dp un gd cn cs a ccd cl outer A₀ base h₀ L m s Q E B F X1 N T hk hd hu ret exc

section
variable {prog : Program} {w : World} {A₀ A : Around} {s : Shared} {base h₀ : Heap} {L : Addr} {m : Str → Option Value} {env : Env} {news : Led} {K : Frag} {p : Program} {loose : List Str} {mean : ExcName → Option Value} {mg mb : Str → Option Value}
    {R : Result → Shared → Prop} {name qual : Str} {params : Arguments} {body : List Stmt} {scope : Scope} {dV kV doc pm cdv ct oc : Value} {an od : Option Addr} {osl : Array (Option Value)} {f : Addr} {args : Args} {binds : List (Str × Value)}
/-- a def that may catch is entered from the base frame, whatever its cells -/
theorem enterS (B : Below A₀ base [] h₀) (F : Fr h₀ L s.heap m) (X₀ : K.In h₀) (N : News h₀ L s.heap news) (T : Top p loose mean mg mb h₀) (hA : A.frames = some [env]) (hf : env.frame = some L) (hke : env.scope.kind = .function)
    (ho : K.lookup f = some ⟨oc, od, .func (fnOf name qual params body scope dV kV doc pm an cdv ct), osl⟩) (hcd : codeIn K cdv qual = true) (hroom : A.depth < recursionLimit)
    (hbind : BindsTo s (fnOf name qual params body scope dV kV doc pm an cdv ct) args binds) (hloc : ∀ y ∈ binds, scope.names.lookup y.1 = some .local)
    (h : ∀ g L' h₁, Fr h₀ L g m → Fr g L' h₁ (fun y => binds.reverse.lookup y) → News g L' h₁ news → Below A base [env] g → K.In g → Top p loose mean mg mb g → KtsDicts ([env].filterMap (·.frame)) g → (∀ p ∈ news, p.1 < L') →
      wpAny (model prog w) (A.deeper (envOf qual scope L' f cdv)) (execs body (envOf qual scope L' f cdv))
        (fun fl s' => LeaveS0 ([env].filterMap (·.frame)) h₀ L m g R (match fl with | .ret v => v | _ => .none) s')
        (fun e s' => wpAny (model prog w) (A.deeper (envOf qual scope L' f cdv)) (leaving (envOf qual scope L' f cdv) e) (fun _ s'' => R (.error e) s'') (fun e' s'' => R (.error e') s'') s')
        { s with heap := h₁, toks := s.toks + binds.length })
    (hco : scope.isCoroutine = false) (hgen : scope.isGenerator = false) (hk : scope.kind = .function) (hcell : ∀ x ∈ scope.names, x.2 ≠ .cell) : codeAny (model prog w) A (.call (.ref f) args) R s := by
  have X := X₀.keeps F.keep
  obtain ⟨FG, BG, st, _⟩ := groundX (R := R) B F N hA hf hke
  have hfm : [env].filterMap (·.frame) = [L] := by simp [hf]
  have hL₀ : h₀.get? L = none := kts_self F
  refine codeAny_call_def (fd := fnOf name qual params body scope dV kV doc pm an cdv ct) (body := body) (binds := binds) hroom (X _ _ ho) rfl (T.nolimit.keeps F.keep) (codeRec_of X hcd) rfl hbind hcell hloc (fun h₁ hns hk₁ => ?_) hco hgen hk
  have hdL : KtsDicts ([env].filterMap (·.frame)) (hideAll s.heap (news.map (·.1))) := by
    intro b hb
    rw [hfm, List.mem_singleton] at hb
    obtain ⟨oL, es, ep, hL, hd, _⟩ := FG.ns
    exact ⟨oL, es, ep, by rw [hb]; exact hL, hd⟩
  refine wpAny_mono (h _ s.heap.objs.size h₁ FG ⟨hns, fun b o e => hk₁ b o (of_hideAll _ e), Nat.le_of_eq (hideAll_size _ _)⟩
    (fun p hp => ⟨hk₁ _ _ (N p hp).1, Nat.ne_of_lt (Heap.lt_size (N p hp).1), hideAll_none _ (List.mem_map_of_mem hp)⟩) BG (X₀.keeps st) (T.keeps st) hdL fun p hp => Heap.lt_size (N p hp).1) (fun fl s' hl => ?_) fun _ _ y => y
  obtain ⟨g', L', m', news', T', F', N', k⟩ := hl
  have up : Heap.UpToSlots (hideAll s.heap (news.map (·.1))) s'.heap := fun b o hb _ => by
    obtain ⟨sl, hs⟩ := T'.up hb
    exact ⟨sl, F'.keep _ _ hs⟩
  refine k ⟨up.ns FG.ns, fun b o e => F'.keep b o (T'.other b o (st b o e) fun q => ?_), F.above⟩ fun p hp => ⟨(N' p hp).1, fun q => ?_, ?_⟩
  · rw [hfm, List.mem_singleton] at q
    rw [q, hL₀] at e; cases e
  · obtain ⟨oL, _, _, hL, _⟩ := FG.ns
    obtain ⟨sl, hs⟩ := T'.up hL
    have := (N' p hp).2.2
    rw [q, hs] at this; cases this
  · cases q : h₀.get? p.1 with
    | none => rfl
    | some o =>
      obtain ⟨sl, hs⟩ := T'.up (st _ _ q)
      have := (N' p hp).2.2
      rw [hs] at this; cases this
end
/-- what a call from the law's own frame does -/
abbrev Does0 (w : World) (f : Addr) (args : List Value) (D U : Nat) (news : Led) (Post : Led → Value → Prop) : Prop :=
  ∀ (p : Program) (loose : List Str) (mean : ExcName → Option Value) (mg mb : Str → Option Value) (dp un : Nat) (gd : Option (List Code)) (cn : Str) (cs : Scope) (a : Addr) (ccd : Value) (cl : List (Str × Addr)) (A₀ : Around) (h₀ : Heap) (L : Addr) (m : Str → Option Value) (s : Shared)
    (Q E : Value → Shared → Prop),
    Below A₀ h₀ [] h₀ → Fr h₀ L s.heap m → (Mine.hd.heap_39 w.params).In h₀ → News h₀ L s.heap news → Top p loose mean mg mb h₀ → cs.kind = .function → dp + D < recursionLimit → un + U < cLine →
    (∀ r h' news' tk', Fr h₀ L h' m → News h₀ L h' news' → Post news' r → Q r { s with heap := h', toks := tk' }) →
    wpAny (model PySem.Challenge.rw_ij0018_01.row.prog w) (ktrTop dp un gd cn cs L a ccd cl []) (call (.ref f) args) Q E s

theorem Does0.use {w : World} {f : Addr} {args : List Value} {D U : Nat} {news : Led} {Post : Led → Value → Prop} (C : Does0 w f args D U news Post)
    {p : Program} {loose : List Str} {mean : ExcName → Option Value} {mg mb : Str → Option Value} {dp un : Nat} {gd : Option (List Code)} {cn : Str} {cs : Scope} {a : Addr} {ccd : Value} {cl : List (Str × Addr)} {A₀ : Around} {h₀ : Heap} {L : Addr} {m : Str → Option Value} {s : Shared}
    {Q E : Value → Shared → Prop} (B : Below A₀ h₀ [] h₀) (F : Fr h₀ L s.heap m) (X : (Mine.hd.heap_39 w.params).In h₀) (N : News h₀ L s.heap news) (T : Top p loose mean mg mb h₀) (hk : cs.kind = .function) (hd : dp + D < recursionLimit) (hu : un + U < cLine)
    (ret : ∀ r h' news' tk', Fr h₀ L h' m → News h₀ L h' news' → Post news' r → Q r { s with heap := h', toks := tk' }) :
    wpAny (model PySem.Challenge.rw_ij0018_01.row.prog w) (ktrTop dp un gd cn cs L a ccd cl []) (call (.ref f) args) Q E s :=
  C p loose mean mg mb dp un gd cn cs a ccd cl A₀ h₀ L m s Q E B F X N T hk hd hu ret

noncomputable def rowsD (rs : List Row) : Dat := .list (rs.map rowD)
noncomputable def mergedD (rs : List Row) : Dat := match c3 (total rs + 1) rs [] with | some out => rowD out | none => .str (Str.ofString "Inconsistent hierarchy")

theorem Seqs.mem {nx I : Led} {as : List Addr} {ss : List Row} (S : Seqs nx I as ss) {a : Addr} (ha : a ∈ as) : ∃ o, (a, o) ∈ nx := by
  obtain ⟨i, hi⟩ := List.getElem?_of_mem ha
  have hlt := (List.getElem?_eq_some_iff.mp hi).1
  rw [S.len] at hlt
  obtain ⟨vs, n, hm, _⟩ := S.at_ i _ _ hi (List.getElem?_eq_getElem hlt)
  exact ⟨_, hm⟩

set_option maxRecDepth 100000 in
set_option maxHeartbeats 8000000 in
theorem merged_does (w : World) (K0 : Led) (lr : Value) (rs : List Row) (hlr : DatIn K0 lr (rowsD rs)) (hok : ∀ s ∈ rs, ∀ p ∈ s, WOk p) (hns : rs.length ≤ 900) (hnt : total rs ≤ 900) :
    Does0 w 100 [lr] 20 2000 K0 (fun news' r => ∃ tl, news' = tl ++ K0 ∧ Fresh tl K0 ∧ DatIn (tl ++ K0) r (mergedD rs)) := by
  obtain ⟨al, rvs, nr, rfl, hal, hDr⟩ := DatIn.lst hlr
  unfold Does0
  k_fill
  intro p loose mean mg mb dp un gd cn cs ad ccd cl A₀ h₀ L m s Q E B F X N Tp hk hd hu hret
  refine wpAny_call ?_
  k_dflt (refine' enterS ?k1 ?k2 ?k3 ?k4 ?k5 ?kA ?kF ?kK ?k6 ?k7 ?k8 ?k9 ?kB ?_ ?c2 ?c3 ?c4 ?c5; (case kA => exact rfl); (case kF => exact rfl); (case kK => assumption); (case k1 => k_asm); (case k2 => k_asm); (case k3 => k_asm); (case k4 => k_asm); (case k5 => k_asm); (case k6 => k_is); (case k7 => k_is); (case k8 => ktr_room); (case k9 => exact BindsTo.of_eq rfl); (case c5 => decide); (case kB => exact locs rfl); (case c2 => exact rfl); (case c3 => exact rfl); (case c4 => exact rfl); k_whole)
  intro g L1 h1 FG F1 N1 B1 X1 T1 kdX l0
  obtain ⟨m1, hmS, F1⟩ : ∃ m1 : Str → Option Value, Has m1 [(Str.ofString "rows", Value.ref al)] ∧ Fr g L1 h1 m1 := ⟨_, ⟨rfl, trivial⟩, F1⟩
  replace F1 := hmS.fr F1
  with_reducible show wpAny _ _ _ _ _ _
  k_fold
  (repeat' ( (fail_if_success (with_reducible first | show TurnEnd _ _ _ _ _ _ _ _ _ _ | show WhileStep2 _ _ _ _ _ _ _ _ | show wpAny _ _ (eval (Expr.ListComp _ _ _ _) _) _ _ _ | show wpAny _ _ (exec (Stmt.While _ _ _ _) _) _ _ _ | show wpAny _ _ (exec (Stmt.For _ _ _ _ _) _) _ _ _ | show wpAny _ _ (exec (Stmt.Assign _ (Expr.ListComp _ _ _ _) _) _) _ _ _ | show wpAny _ _ (subscriptTail _ _ _ _) _ _ _ | show wpAny _ _ (PySem.call _ _ _) _ _ _ | show wpAny _ _ (compareOp _ (Value.ref _) _) _ _ _ | show wpAny _ _ (compareOp _ _ (Value.ref _)) _ _ _ | show wpAny _ _ (binaryOp _ (Value.ref _) _) _ _ _ | show wpAny _ _ (setItem _ _ _) _ _ _)); first | (k_unfold; (try dsimp only)) | walk1 | (dsimp only; walk1) | (leave1; (try dsimp only)) | fail "no step"))
  refine Comp_open (cl := []) (by with_unfolding_all rfl) (by rfl) (by decide) ?_
  (repeat' ( (fail_if_success (with_reducible first | show TurnEnd _ _ _ _ _ _ _ _ _ _ | show WhileStep2 _ _ _ _ _ _ _ _ | show wpAny _ _ (eval (Expr.ListComp _ _ _ _) _) _ _ _ | show wpAny _ _ (exec (Stmt.While _ _ _ _) _) _ _ _ | show wpAny _ _ (exec (Stmt.For _ _ _ _ _) _) _ _ _ | show wpAny _ _ (exec (Stmt.Assign _ (Expr.ListComp _ _ _ _) _) _) _ _ _ | show wpAny _ _ (subscriptTail _ _ _ _) _ _ _ | show wpAny _ _ (PySem.call _ _ _) _ _ _ | show wpAny _ _ (compareOp _ (Value.ref _) _) _ _ _ | show wpAny _ _ (compareOp _ _ (Value.ref _)) _ _ _ | show wpAny _ _ (binaryOp _ (Value.ref _) _) _ _ _ | show wpAny _ _ (setItem _ _ _) _ _ _)); first | (k_unfold; (try dsimp only)) | walk1 | (dsimp only; walk1) | (leave1; (try dsimp only)) | fail "no step"))
  have hvl : rvs.length = rs.length := by rw [hDr.length, List.length_map]
  refine CompAt_list (keep := K0) (news := K0) (by rfl) (by decide) (by rfl) F1 N1 (fun _ h => h) hal (by rw [hvl, sizeLine_eq]; omega)
    (fun i ys nx => ∃ tl as, nx = tl ++ K0 ∧ Fresh tl K0 ∧ ys = as.map Value.ref ∧ Seqs tl K0 as (rs.take i)) (Tgt.name _ _ (by rfl)) ⟨[], [], rfl, .nil, rfl, rfl, fun _ _ _ h => (nomatch h), List.nodup_nil⟩ ?_ ?_
  · intro i v ys nx Ia oI C oC D m₂ h tk E' hiv hJ hkeep hx hC F' N' off
    obtain ⟨tl, as, rfl, hfr, rfl, hS⟩ := hJ
    have hi : i < rs.length := by rw [← hvl]; exact (List.getElem?_eq_some_iff.mp hiv).1
    obtain ⟨v', hv', hDv⟩ := hDr.get (k := i) (by rw [List.length_map]; exact hi)
    obtain rfl : v' = v := Option.some.inj (hv'.symm.trans hiv)
    rw [List.getElem_map] at hDv
    have hsi : rs[i]? = some rs[i] := List.getElem?_eq_getElem hi
    generalize rs[i] = row at *
    obtain ⟨ar, vs, n, rfl, har, hDa⟩ := DatIn.lst hDv
    have hsl1 := total_ge hsi
    have hsv : vs.length = row.length := by rw [hDa.length, List.length_map]
    refine wpAny_tests_nil ?_
    simp only [if_true]
    clear F1 N1
    (repeat' ( (fail_if_success (with_reducible first | show TurnEnd _ _ _ _ _ _ _ _ _ _ | show WhileStep2 _ _ _ _ _ _ _ _ | show wpAny _ _ (eval (Expr.ListComp _ _ _ _) _) _ _ _ | show wpAny _ _ (exec (Stmt.While _ _ _ _) _) _ _ _ | show wpAny _ _ (exec (Stmt.For _ _ _ _ _) _) _ _ _ | show wpAny _ _ (exec (Stmt.Assign _ (Expr.ListComp _ _ _ _) _) _) _ _ _ | show wpAny _ _ (subscriptTail _ _ _ _) _ _ _ | show wpAny _ _ (PySem.call _ _ _) _ _ _ | show wpAny _ _ (compareOp _ (Value.ref _) _) _ _ _ | show wpAny _ _ (compareOp _ _ (Value.ref _)) _ _ _ | show wpAny _ _ (binaryOp _ (Value.ref _) _) _ _ _ | show wpAny _ _ (setItem _ _ _) _ _ _)); first | (k_unfold; (try dsimp only)) | walk1 | (dsimp only; walk1) | (leave1; (try dsimp only)) | fail "no step"))
    refine list_copyK (items := vs.toArray) F' N' ⟨_, (N' _ (.tail _ (.tail _ (.tail _ (hkeep _ har))))).1, rfl, n, rfl⟩ ?_ (by rw [List.size_toArray, sizeLine_eq]; omega)
    intro D2 c2 h2 F2 N2 l2
    refine ElEnd.grow [(D2, listOf vs.toArray c2)] F2 N2 (by ((intro x hx; (try simp only [List.mem_append, List.mem_cons, List.not_mem_nil, or_false, false_or] at hx); (repeat' (refine Or.elim hx (fun hx => ?_) (fun hx => ?_))); (all_goals (first | (subst hx; walk_at "m:mem") | walk_at "m:mem" | (exfalso; exact hx)))))) (.cons (fun x hx => l2 x (by walk_at "m:mem")) .nil) off hkeep ⟨(D2, listOf vs.toArray c2) :: tl, as ++ [D2], by simp, .cons (fun x hx => l2 x (by simp [hx])) hfr, by simp, ?_⟩
    rw [List.take_add_one, hsi]
    refine Seqs.snoc (hS.mono (fun p hp => .tail _ hp)) (.head _) hDa fun q => ?_
    obtain ⟨o, ho⟩ := hS.mem q
    exact absurd (l2 (D2, o) (by simp [ho])) (Nat.lt_irrefl _)
  · clear F1 N1
    intro D ys nx h tk lo hJ hkeep F1 N1 off
    obtain ⟨tl, as, rfl, hfr, rfl, hS⟩ := hJ
    rw [hvl, List.take_length] at hS
    have hlo : ∀ p ∈ tl ++ K0, p.1 ≠ D := off
    have C := c3_does w K0 as rs D _ ((D, lst (as.map Value.ref)) :: (tl ++ K0)) (.head _) (fun p hp => by simp [hp]) (hS.mono fun p hp => by simp [hp]) (fun a ha p hp => by
      obtain ⟨o, ho⟩ := hS.mem ha
      exact hfr _ ho p hp) (fun q => by
      obtain ⟨o, ho⟩ := hS.mem q
      exact hlo (D, o) (by simp [ho]) rfl) hok (total rs + 1) (Nat.lt_succ_self _) (by omega) (by omega)
    (repeat' ( (fail_if_success (with_reducible first | show TurnEnd _ _ _ _ _ _ _ _ _ _ | show WhileStep2 _ _ _ _ _ _ _ _ | show wpAny _ _ (eval (Expr.ListComp _ _ _ _) _) _ _ _ | show wpAny _ _ (exec (Stmt.While _ _ _ _) _) _ _ _ | show wpAny _ _ (exec (Stmt.For _ _ _ _ _) _) _ _ _ | show wpAny _ _ (exec (Stmt.Assign _ (Expr.ListComp _ _ _ _) _) _) _ _ _ | show wpAny _ _ (subscriptTail _ _ _ _) _ _ _ | show wpAny _ _ (PySem.call _ _ _) _ _ _ | show wpAny _ _ (compareOp _ (Value.ref _) _) _ _ _ | show wpAny _ _ (compareOp _ _ (Value.ref _)) _ _ _ | show wpAny _ _ (binaryOp _ (Value.ref _) _) _ _ _ | show wpAny _ _ (setItem _ _ _) _ _ _)); first | (k_unfold; (try dsimp only)) | walk1 | (dsimp only; walk1) | (leave1; (try dsimp only)) | fail "no step"))
    k_dflt (refine' DoesE.use C ?k1 ?k2 ?k3 ?k4 ?k5 ?kK ?kd ?ku ?_ ?_; (((case k1 => k_asm); (case k2 => k_asm); (case k3 => k_asm); (case k4 => k_asm); (case k5 => k_asm); (case kK => first | exact rfl | assumption); (case kd => ktr_room); (case ku => ktr_units))))
    · intro r h3 news3 tk3 F3 N3 hpost
      obtain ⟨tl3, out, rfl, hfr3, hc3, hD3⟩ := hpost
      (repeat' ( (fail_if_success (with_reducible first | show TurnEnd _ _ _ _ _ _ _ _ _ _ | show WhileStep2 _ _ _ _ _ _ _ _ | show wpAny _ _ (eval (Expr.ListComp _ _ _ _) _) _ _ _ | show wpAny _ _ (exec (Stmt.While _ _ _ _) _) _ _ _ | show wpAny _ _ (exec (Stmt.For _ _ _ _ _) _) _ _ _ | show wpAny _ _ (exec (Stmt.Assign _ (Expr.ListComp _ _ _ _) _) _) _ _ _ | show wpAny _ _ (subscriptTail _ _ _ _) _ _ _ | show wpAny _ _ (PySem.call _ _ _) _ _ _ | show wpAny _ _ (compareOp _ (Value.ref _) _) _ _ _ | show wpAny _ _ (compareOp _ _ (Value.ref _)) _ _ _ | show wpAny _ _ (binaryOp _ (Value.ref _) _) _ _ _ | show wpAny _ _ (setItem _ _ _) _ _ _)); first | (k_unfold; (try dsimp only)) | walk1 | (dsimp only; walk1) | (leave1; (try dsimp only)) | fail "no step"))
      rename Fr h₀ _ _ _ => kF
      rename News h₀ _ _ _ => kN
      refine hret _ _ _ _ kF kN ⟨tl3, rfl, hfr3, ?_⟩
      rw [mergedD, hc3]
      exact hD3
    · intro e t ws G h3 news3 tk3 F3 R3 U3 hpost
      obtain ⟨rfl, hc3, tw, rfl⟩ := hpost
      (repeat' ( (fail_if_success (with_reducible first | show TurnEnd _ _ _ _ _ _ _ _ _ _ | show WhileStep2 _ _ _ _ _ _ _ _ | show wpAny _ _ (eval (Expr.ListComp _ _ _ _) _) _ _ _ | show wpAny _ _ (exec (Stmt.While _ _ _ _) _) _ _ _ | show wpAny _ _ (exec (Stmt.For _ _ _ _ _) _) _ _ _ | show wpAny _ _ (exec (Stmt.Assign _ (Expr.ListComp _ _ _ _) _) _) _ _ _ | show wpAny _ _ (subscriptTail _ _ _ _) _ _ _ | show wpAny _ _ (PySem.call _ _ _) _ _ _ | show wpAny _ _ (compareOp _ (Value.ref _) _) _ _ _ | show wpAny _ _ (compareOp _ _ (Value.ref _)) _ _ _ | show wpAny _ _ (binaryOp _ (Value.ref _) _) _ _ _ | show wpAny _ _ (setItem _ _ _) _ _ _)); first | (k_unfold; (try dsimp only)) | walk1 | (dsimp only; walk1) | (leave1; (try dsimp only)) | fail "no step"))
      walk1
      (repeat' ( (fail_if_success (with_reducible first | show TurnEnd _ _ _ _ _ _ _ _ _ _ | show WhileStep2 _ _ _ _ _ _ _ _ | show wpAny _ _ (eval (Expr.ListComp _ _ _ _) _) _ _ _ | show wpAny _ _ (exec (Stmt.While _ _ _ _) _) _ _ _ | show wpAny _ _ (exec (Stmt.For _ _ _ _ _) _) _ _ _ | show wpAny _ _ (exec (Stmt.Assign _ (Expr.ListComp _ _ _ _) _) _) _ _ _ | show wpAny _ _ (subscriptTail _ _ _ _) _ _ _ | show wpAny _ _ (PySem.call _ _ _) _ _ _ | show wpAny _ _ (compareOp _ (Value.ref _) _) _ _ _ | show wpAny _ _ (compareOp _ _ (Value.ref _)) _ _ _ | show wpAny _ _ (binaryOp _ (Value.ref _) _) _ _ _ | show wpAny _ _ (setItem _ _ _) _ _ _)); first | (k_unfold; (try dsimp only)) | walk1 | (dsimp only; walk1) | (leave1; (try dsimp only)) | fail "no step"))
      rename Fr h₀ _ _ _ => kF
      rename News h₀ _ _ _ => kN
      refine hret _ _ _ _ kF kN ⟨[], rfl, .nil, ?_⟩
      rw [mergedD, hc3]
      exact .str _ _
end
section
open PySem PySem.W PyProof.Rows PyProof.Rows.LCg
set_option maxRecDepth 100000

def isNest (P : List Way) (th : Way → Option Dat) (p : Way) : Prop := (p = [] ∨ p ∈ P) ∧ th p = none
noncomputable def upd {α : Type} (f : Way → α) (q : Way) (v : α) : Way → α := fun r => if r = q then v else f r
theorem upd_self {α : Type} (f : Way → α) (q : Way) (v : α) : upd f q v q = v := if_pos rfl
theorem upd_ne {α : Type} (f : Way → α) {q r : Way} (v : α) (h : r ≠ q) : upd f q v r = f r := if_neg h

/-- a tree that may be changed -/
structure TreeM (prog : Program) (w : World) (T I : Led) (P : List Way) (th : Way → Option Dat) (val : Way → Value) : Prop extends Tree prog w T I P th val where
  closed : ∀ p x, p ++ [x] ∈ P → isNest P th p
  root : [] ∉ P
  nodup : P.Nodup
  thP : ∀ q d, th q = some d → q ∈ P
  inj : ∀ p p' a, isNest P th p → isNest P th p' → val p = .ref a → val p' = .ref a → p = p'
  apart : ∀ p a, isNest P th p → val p = .ref a → ∀ e ∈ I, e.1 ≠ a

theorem kidsOf_snoc (P : List Way) (p q : Way) : kidsOf (P ++ [q]) p = kidsOf P p ++ if isKid p q = true then [q] else [] := by
  unfold kidsOf
  rw [List.filter_append]
  congr 1
  by_cases h : isKid p q = true
  · rw [if_pos h, List.filter_cons_of_pos h, List.filter_nil]
  · rw [if_neg h, List.filter_cons_of_neg h, List.filter_nil]
theorem isKid_snoc {p p' : Way} {x : Str} : isKid p' (p ++ [x]) = true ↔ p' = p := by
  rw [isKid_iff]
  constructor
  · rintro ⟨y, e⟩
    exact (List.append_inj' e rfl).1.symm
  · rintro rfl; exact ⟨x, rfl⟩
theorem kids_add {P : List Way} {val : Way → Value} {p p' : Way} {x : Str} {v : Value} (hq : p ++ [x] ∉ P) :
    kids (P ++ [p ++ [x]]) (upd val (p ++ [x]) v) p' = if p' = p then stored (kids P val p) x v else kids P val p' := by
  have old : ∀ p'', (kidsOf P p'').map (fun q => (lastN q, upd val (p ++ [x]) v q)) = kids P val p'' := by
    intro p''
    refine List.map_congr_left fun q hq' => ?_
    rw [upd_ne]
    rintro rfl
    exact hq (mem_kidsOf.mp hq').1
  unfold kids at *
  rw [kidsOf_snoc, List.map_append, old p']
  by_cases h : p' = p
  · subst h
    rw [if_pos rfl, if_pos (isKid_snoc.mpr rfl), List.map_cons, List.map_nil, lastN_snoc, upd_self, stored_absent]
    have := valueAt_kids P val p' x
    unfold kids at this
    rw [this, if_neg hq]
  · rw [if_neg h, if_neg (fun e => h (isKid_snoc.mp e)), List.map_nil, List.append_nil]
theorem kids_none {P : List Way} {val : Way → Value} {p : Way} (h : ∀ x, p ++ [x] ∉ P) : kids P val p = [] := by
  unfold kids
  rw [List.map_eq_nil_iff, List.eq_nil_iff_forall_not_mem]
  intro q hq
  obtain ⟨hP, x, rfl⟩ := mem_kidsOf.mp hq
  exact h x hP

section
variable {prog : Program} {w : World} {T T' I : Led} {P : List Way} {th : Way → Option Dat} {val : Way → Value} {p : Way} {x : Str} {a : Addr} {o' : Obj}

theorem snoc_ne (p : Way) (x : Str) : p ++ [x] ≠ [] := by simp
theorem snoc_ne' (p : Way) (x : Str) : p ++ [x] ≠ p := fun e => by
  have := congrArg List.length e
  simp at this

/-- a new nest is laid -/
theorem TreeM.addNest (M : TreeM prog w T I P th val) (hp : isNest P th p) (hq : p ++ [x] ∉ P) (ha : val p = .ref a) {D : Addr} {oD : Obj} (ho' : o'.IsDictOf (strKind prog w) (stored (kids P val p) x (.ref D)))
    (hoD : oD.IsDictOf (strKind prog w) []) (hD : (D == sysModules) = false) (hfr : ∀ e ∈ T, e.1 < D) (hfI : ∀ e ∈ I, e.1 < D) (hT : ∀ e ∈ T, e.1 ≠ a → e ∈ T') (hm : (a, o') ∈ T') (hmD : (D, oD) ∈ T') :
    TreeM prog w T' I (P ++ [p ++ [x]]) th (upd val (p ++ [x]) (.ref D)) := by
  have hthq : th (p ++ [x]) = none := by
    cases e : th (p ++ [x]) with
    | none => rfl
    | some d => exact absurd (M.thP _ _ e) hq
  have oldN : ∀ p', isNest P th p' → p' ≠ p ++ [x] := by
    rintro p' ⟨h | h, _⟩
    · rw [h]; exact (snoc_ne p x).symm
    · rintro rfl; exact hq h
  have up : ∀ p', isNest (P ++ [p ++ [x]]) th p' → p' = p ++ [x] ∨ isNest P th p' := by
    rintro p' ⟨h, h2⟩
    by_cases e : p' = p ++ [x]
    · exact .inl e
    · refine .inr ⟨h.imp_right fun h => ?_, h2⟩
      rcases List.mem_append.mp h with h | h
      · exact h
      · exact absurd (List.mem_singleton.mp h) e
  have lift : ∀ p', isNest P th p' → isNest (P ++ [p ++ [x]]) th p' := fun p' h => ⟨h.1.imp_right fun h => List.mem_append_left _ h, h.2⟩
  have noD : ∀ p', isNest P th p' → val p' ≠ .ref D := by
    intro p' h e
    obtain ⟨a', o, hv, _, hm', _⟩ := M.nest p' h.1 h.2
    rw [e] at hv
    injection hv with hv
    have := hfr _ hm'
    rw [hv] at this
    exact Nat.lt_irrefl _ this
  refine { nest := ?_, thing := ?_, closed := ?_, root := ?_, nodup := ?_, thP := ?_, inj := ?_, apart := ?_ }
  · intro p' h1 h2
    rcases up p' ⟨h1, h2⟩ with rfl | h
    · refine ⟨D, oD, upd_self .., hD, hmD, ?_⟩
      have e : kids (P ++ [p ++ [x]]) (upd val (p ++ [x]) (.ref D)) (p ++ [x]) = [] := by
        rw [kids_add hq, if_neg (snoc_ne' p x)]
        refine kids_none fun y hy => ?_
        rcases (M.closed _ _ hy).1 with e | e
        · exact snoc_ne _ _ e
        · exact hq e
      rw [e]; exact hoD
    · obtain ⟨a', o, hv, hs, hm', hk⟩ := M.nest p' h.1 h.2
      rw [kids_add hq, upd_ne _ _ (oldN p' h)]
      by_cases e : p' = p
      · subst e
        rw [if_pos rfl]
        obtain rfl : a' = a := by rw [hv] at ha; injection ha
        exact ⟨a', o', hv, hs, hm, ho'⟩
      · rw [if_neg e]
        refine ⟨a', o, hv, hs, hT _ hm' fun q => e (M.inj _ _ a h hp (by rw [hv, ← q]) ha), hk⟩
  · intro q hq' d hd
    have hne : q ≠ p ++ [x] := by rintro rfl; rw [hthq] at hd; cases hd
    rw [upd_ne _ _ hne]
    rcases List.mem_append.mp hq' with h | h
    · exact M.thing q h d hd
    · exact absurd (List.mem_singleton.mp h) hne
  · intro p' y hy
    rcases List.mem_append.mp hy with h | h
    · exact lift _ (M.closed p' y h)
    · have := List.mem_singleton.mp h
      rw [(List.append_inj' this rfl).1]
      exact lift _ hp
  · intro h
    rcases List.mem_append.mp h with h | h
    · exact M.root h
    · exact snoc_ne p x (List.mem_singleton.mp h).symm
  · rw [List.nodup_append]
    refine ⟨M.nodup, by simp, fun y hy z hz => ?_⟩
    rw [List.mem_singleton.mp hz]
    rintro rfl; exact hq hy
  · intro q d hd
    exact List.mem_append_left _ (M.thP q d hd)
  · intro p1 p2 a' h1 h2 v1 v2
    rcases up p1 h1 with rfl | n1 <;> rcases up p2 h2 with rfl | n2
    · rfl
    · rw [upd_self] at v1
      rw [upd_ne _ _ (oldN p2 n2)] at v2
      exact absurd (v2.trans v1.symm) (noD p2 n2)
    · rw [upd_self] at v2
      rw [upd_ne _ _ (oldN p1 n1)] at v1
      exact absurd (v1.trans v2.symm) (noD p1 n1)
    · rw [upd_ne _ _ (oldN p1 n1)] at v1
      rw [upd_ne _ _ (oldN p2 n2)] at v2
      exact M.inj _ _ a' n1 n2 v1 v2
  · intro p1 a' h1 v1 e he
    rcases up p1 h1 with rfl | n1
    · rw [upd_self] at v1
      injection v1 with v1
      rw [← v1]
      exact Nat.ne_of_lt (hfI e he)
    · rw [upd_ne _ _ (oldN p1 n1)] at v1
      exact M.apart _ _ n1 v1 e he

/-- a thing is laid -/
theorem TreeM.addThing (M : TreeM prog w T I P th val) (hp : isNest P th p) (hq : p ++ [x] ∉ P) (ha : val p = .ref a) {v : Value} {d : Dat} {I' : Led} (ho' : o'.IsDictOf (strKind prog w) (stored (kids P val p) x v))
    (hv : DatIn I' v d) (hI : ∀ e ∈ I, e ∈ I') (hap : ∀ p' a', isNest P th p' → val p' = .ref a' → ∀ e ∈ I', e.1 ≠ a') (hT : ∀ e ∈ T, e.1 ≠ a → e ∈ T') (hm : (a, o') ∈ T') :
    TreeM prog w T' I' (P ++ [p ++ [x]]) (upd th (p ++ [x]) (some d)) (upd val (p ++ [x]) v) := by
  have oldN : ∀ p', isNest P th p' → p' ≠ p ++ [x] := by
    rintro p' ⟨h | h, _⟩
    · rw [h]; exact (snoc_ne p x).symm
    · rintro rfl; exact hq h
  have up : ∀ p', isNest (P ++ [p ++ [x]]) (upd th (p ++ [x]) (some d)) p' → isNest P th p' := by
    rintro p' ⟨h, h2⟩
    have e : p' ≠ p ++ [x] := by rintro rfl; rw [upd_self] at h2; cases h2
    rw [upd_ne _ _ e] at h2
    refine ⟨h.imp_right fun h => ?_, h2⟩
    rcases List.mem_append.mp h with h | h
    · exact h
    · exact absurd (List.mem_singleton.mp h) e
  have lift : ∀ p', isNest P th p' → isNest (P ++ [p ++ [x]]) (upd th (p ++ [x]) (some d)) p' := fun p' h =>
    ⟨h.1.imp_right fun h => List.mem_append_left _ h, by rw [upd_ne _ _ (oldN p' h)]; exact h.2⟩
  refine { nest := ?_, thing := ?_, closed := ?_, root := ?_, nodup := ?_, thP := ?_, inj := ?_, apart := ?_ }
  · intro p' h1 h2
    have h := up p' ⟨h1, h2⟩
    obtain ⟨a', o, hv', hs, hm', hk⟩ := M.nest p' h.1 h.2
    rw [kids_add hq, upd_ne _ _ (oldN p' h)]
    by_cases e : p' = p
    · subst e
      rw [if_pos rfl]
      obtain rfl : a' = a := by rw [hv'] at ha; injection ha
      exact ⟨a', o', hv', hs, hm, ho'⟩
    · rw [if_neg e]
      refine ⟨a', o, hv', hs, hT _ hm' fun q => e (M.inj _ _ a h hp (by rw [hv', ← q]) ha), hk⟩
  · intro q hq' d' hd
    by_cases hne : q = p ++ [x]
    · subst hne
      rw [upd_self] at hd ⊢
      obtain rfl := Option.some.inj hd
      exact hv
    · rw [upd_ne _ _ hne] at hd ⊢
      rcases List.mem_append.mp hq' with h | h
      · exact (M.thing q h d' hd).mono hI
      · exact absurd (List.mem_singleton.mp h) hne
  · intro p' y hy
    rcases List.mem_append.mp hy with h | h
    · exact lift _ (M.closed p' y h)
    · have := List.mem_singleton.mp h
      rw [(List.append_inj' this rfl).1]
      exact lift _ hp
  · intro h
    rcases List.mem_append.mp h with h | h
    · exact M.root h
    · exact snoc_ne p x (List.mem_singleton.mp h).symm
  · rw [List.nodup_append]
    refine ⟨M.nodup, by simp, fun y hy z hz => ?_⟩
    rw [List.mem_singleton.mp hz]
    rintro rfl; exact hq hy
  · intro q d' hd
    by_cases hne : q = p ++ [x]
    · rw [hne]; simp
    · rw [upd_ne _ _ hne] at hd
      exact List.mem_append_left _ (M.thP q d' hd)
  · intro p1 p2 a' h1 h2 v1 v2
    have n1 := up p1 h1
    have n2 := up p2 h2
    rw [upd_ne _ _ (oldN p1 n1)] at v1
    rw [upd_ne _ _ (oldN p2 n2)] at v2
    exact M.inj _ _ a' n1 n2 v1 v2
  · intro p1 a' h1 v1 e he
    have n1 := up p1 h1
    rw [upd_ne _ _ (oldN p1 n1)] at v1
    exact hap _ _ n1 v1 e he

/-- the empty tree -/
theorem TreeM.empty {D : Addr} {oD : Obj} (hoD : oD.IsDictOf (strKind prog w) []) (hD : (D == sysModules) = false) (hm : (D, oD) ∈ T) (hI : ∀ e ∈ I, e.1 ≠ D) : TreeM prog w T I [] (fun _ => none) (fun _ => .ref D) := by
  have one : ∀ p, isNest [] (fun _ => none) p → p = [] := fun p h => h.1.resolve_right (by simp)
  refine { nest := fun p h _ => ⟨D, oD, rfl, hD, hm, by unfold kids kidsOf; exact hoD⟩, thing := fun p h => (nomatch h), closed := fun p x h => (nomatch h), root := by simp, nodup := List.nodup_nil, thP := fun q d h => (nomatch h), inj := fun p p' a h h' _ _ => (one p h).trans (one p' h').symm, apart := fun p a _ hv e he => ?_ }
  injection hv with hv
  rw [← hv]
  exact hI e he
end
end
section
open PySem PySem.W PyProof.Rows PyProof.Rows.LCg
theorem led_cell {M : Model} {A : Around} {E : Value → Shared → Prop} {s : Shared} {h₀ : Heap} {L : Addr} {m : Str → Option Value} {env : Env} {x : Str} {v : Value} {Q : Unit → Shared → Prop} {news : Led} {c : Addr} {o : Obj} {v₀ : Option Value}
    (F : Fr h₀ L s.heap m) (N : News h₀ L s.heap news) (hc : env.cells.lookup x = some c) (hm : (c, o) ∈ news) (hd : o.data = .cell v₀)
    (h : ∀ h' o' news', Fr h₀ L h' m → News h₀ L h' news' → o'.data = .cell (some v) → (c, o') ∈ news' → (∀ p ∈ news, p.1 ≠ c → p ∈ news') → (∀ p ∈ news', p = (c, o') ∨ (p ∈ news ∧ p.1 ≠ c)) → Q () { s with heap := h' })
    (hk : env.scope.kind = .function) (hx : env.kindOf x = some .cell) : wpAny M A (storeName env x v) Q E s := by
  refine wpAny_storeName_cell hk hx hc ⟨o, (N _ hm).1, hd⟩ fun h' hv hs => ?_
  obtain ⟨o', ho', hd'⟩ := hv
  refine h h' o' _ (Fr.put F N hm hs) (News.put N hm hs ho') hd' (.head _) (fun p hp hpl => List.mem_cons_of_mem _ (List.mem_filter.mpr ⟨hp, by simpa using hpl⟩)) fun p hp => ?_
  rcases List.mem_cons.mp hp with rfl | hp
  · exact .inl rfl
  · obtain ⟨h1, h2⟩ := List.mem_filter.mp hp
    exact .inr ⟨h1, by simpa using h2⟩
/-- unlike objects lie apart -/
theorem News.ne {h₀ h : Heap} {L a b : Addr} {o o' : Obj} {news : Led} (N : News h₀ L h news) (ha : (a, o) ∈ news) (hb : (b, o') ∈ news) (h : o ≠ o') : a ≠ b := by
  rintro rfl
  exact h (Option.some.inj ((N _ ha).1.symm.trans (N _ hb).1))
section
variable {prog : Program} {w : World} {A : Around} {E : Value → Shared → Prop} {s : Shared} {h₀ : Heap} {L : Addr} {m : Str → Option Value} {news : Led}
theorem lst_last {value slice : PySem.Expr} {l : Addr} {vs : List Value} {n : Nat} {u : Tok} {x : Value} {Q : Value → Shared → Prop} (N : News h₀ L s.heap news) (hm : (l, listOf (vs ++ [x]).toArray n) ∈ news) (h : Q x s)
    (hs : subscripted slice false (.ref l) (.int (-1) u) = operate [.ref l, .int (-1) u] (getItem (.ref l) (.int (-1) u)) := by with_unfolding_all rfl) (hg : ∀ r, letTemporaryGo value (.ref l) r = pure () := by intro _; with_unfolding_all rfl) :
    wpAny (model prog w) A (subscriptTail value slice (.ref l) (.int (-1) u)) Q E s := by
  have hl : s.heap.IsList l (vs ++ [x]).toArray := ⟨_, (N _ hm).1, rfl, n, rfl⟩
  have hz : (vs ++ [x]).toArray.size = vs.length + 1 := by rw [List.size_toArray, List.length_append, List.length_singleton]
  refine subscriptTail_builtin hl.typeIs slot_list_getitem.lookup (wpAny_getItem_list_neg hl (by decide) (by rw [hz]; omega) (by decide) ?_ h) hs hg
  have e : ((-1 : Int) + ((vs ++ [x]).toArray.size : Nat)).toNat = vs.length := by rw [hz]; omega
  rw [e]
  simp
theorem tup_last {value slice : PySem.Expr} {t : Addr} {vs : List Value} {n : Nat} {u : Tok} {x : Value} {Q : Value → Shared → Prop} (N : News h₀ L s.heap news) (hm : (t, tupObj (vs ++ [x]) n) ∈ news) (h : Q x s)
    (hs : subscripted slice false (.ref t) (.int (-1) u) = operate [.ref t, .int (-1) u] (getItem (.ref t) (.int (-1) u)) := by with_unfolding_all rfl) :
    wpAny (model prog w) A (subscriptTail value slice (.ref t) (.int (-1) u)) Q E s := by
  refine item_tupleT (l := vs ++ [x]) (j := vs.length) (News.isTup N hm) (by decide) (by decide) ?_ (by simp) h hs
  have e := seqIndex_neg (k := -1) (n := (vs ++ [x]).length) (by decide) (by rw [List.length_append, List.length_singleton]; omega)
  rw [e]
  congr 1
  rw [List.length_append, List.length_singleton]
  omega
theorem valueAt_new {kvs : List (Str × Value)} {k : Str} {v : Value} (h : valueAt kvs k = none) : valueAt (stored kvs k v) k = some v := by
  rw [stored_absent h]
  unfold valueAt at *
  rw [Option.map_eq_none_iff] at h
  rw [List.find?_append, h]
  simp
end
theorem DatAll.take {I : Led} {vs : List Value} {ds : List Dat} (h : DatAll I vs ds) (k : Nat) : DatAll I (vs.take k) (ds.take k) := by
  induction k generalizing vs ds with
  | zero => exact .nil
  | succ k ih =>
    cases h with
    | nil => exact .nil
    | cons h1 h2 => exact .cons h1 (ih h2)
theorem DatAll.snoc_inv {I : Led} {d : Dat} {ds : List Dat} : ∀ {vs : List Value}, DatAll I vs (ds ++ [d]) → ∃ ws v, vs = ws ++ [v] ∧ DatAll I ws ds ∧ DatIn I v d := by
  induction ds with
  | nil =>
    intro vs h
    rw [List.nil_append] at h
    cases h with
    | cons h r =>
      cases r
      exact ⟨[], _, rfl, .nil, h⟩
  | cons e es ih =>
    intro vs h
    rw [List.cons_append] at h
    cases h with
    | cons h r =>
      obtain ⟨ws, v, rfl, h1, h2⟩ := ih r
      exact ⟨_ :: ws, v, rfl, .cons h h1, h2⟩
end
section
open PySem PySem.W PyProof.Rows PyProof.Rows.LCg
set_option maxRecDepth 100000
section
variable {prog : Program} {w : World} {A : Around} {E : Value → Shared → Prop} {s : Shared} {rest : List Value}
/-- KeyError(..) is made: its arguments are kept -/
theorem key_made {Q : Value → Shared → Prop} (h : ∀ h' e, Heap.MadeExc s.heap h' e "KeyError" rest → Q (.ref e) { s with heap := h' }) (hrest : rest.length ≤ sizeLine) : wpAny (model prog w) A (call (.type "KeyError") rest) Q E s := by
  have hc := excClass_KeyError
  obtain ⟨l, hl, hle⟩ := hc.mro
  refine wpAny_call (codeAny_of_tree ?_)
  show wpAny _ _ (callAny (.type "KeyError") ⟨rest, []⟩) _ _ s
  simp only [callAny]
  refine wpAny_pure ⟨Code.quiet_builtin _ (by decide +kernel), codeAny_builtin entry_type_call ?_⟩
  rw [Around.under_plain (weight_type_call "KeyError" _ _) (by kernel_rfl)]
  unfold Builtin.«type.__call__»
  dsimp only
  rw [if_neg (by rw [hc.notType]; exact Bool.false_ne_true), if_neg (by rw [hc.canNew]; exact Bool.false_ne_true)]
  refine wpAny_bind (wpAny_of_eq (hc.typeCall rest) (wpAny_bind (wpAny_of_eq hl ?_)))
  rw [if_neg (by rw [hle]; exact Bool.false_ne_true)]
  refine wpAny_bind (wpAny_of_eq hc.madeBy ?_)
  dsimp only
  refine wpAny_bind (wpAny_pure (wpAny_bind (wpAny_holding (new_exc hc ?_ hrest))))
  generalize hH : (s.heap.push { cls := .type "tuple", data := .seq rest.toArray }) = H
  have hsz : H.objs.size = s.heap.objs.size + 1 := by rw [← hH, Heap.size_push]
  have at1 : (H.push { cls := .type "KeyError", data := .fields #[.ref s.heap.objs.size, .none, .none, .none, .bool false, .none] }).get? H.objs.size = some { cls := .type "KeyError", data := .fields #[.ref s.heap.objs.size, .none, .none, .none, .bool false, .none] } := Heap.get?_push_size _ rfl
  refine wpAny_bind (wpAny_isInstance (T := "KeyError") ⟨_, at1, rfl⟩ hc.self ?_)
  simp only [Bool.not_true, Bool.false_eq_true, if_false]
  refine wpAny_bind (wpAny_holding (wpAny_callSpecial?_slot (name := Str.ofString "__init__") (T := "KeyError") ⟨_, at1, rfl⟩ hc.init (init_exc hc at1 rfl rfl rfl ?_ hrest)))
  dsimp only
  rw [if_neg (by simp)]
  have hs2 : (H.push { cls := .type "KeyError", data := .fields #[.ref s.heap.objs.size, .none, .none, .none, .bool false, .none] }).objs.size = s.heap.objs.size + 2 := by rw [Heap.size_push, hsz]
  refine wpAny_pure (h _ _ ⟨fun b o hb => ?_, ?_, s.heap.objs.size + 2, ?_, ?_, ?_⟩)
  · have hb' : b < s.heap.objs.size := Heap.lt_size hb
    have hne : H.objs.size ≠ b := by rw [hsz]; exact Nat.ne_of_gt (Nat.lt_succ_of_lt hb')
    rw [Heap.get?_update_other _ _ hne]
    exact Heap.get?_push_of_some _ (Heap.get?_push_of_some _ (hH ▸ Heap.get?_push_of_some _ hb))
  · exact Heap.get?_none_of_le (by rw [hsz]; exact Nat.le_succ _)
  · rw [Heap.get?_update_self _ (Heap.get?_push_of_some _ at1) rfl, hs2]
    rfl
  · exact Heap.get?_none_of_le (Nat.le_add_right _ _)
  · rw [Heap.get?_update_other _ _ (show H.objs.size ≠ s.heap.objs.size + 2 by omega), ← hs2]
    exact Heap.get?_push_size _ rfl
theorem key_raise (h : ∀ h' e, Heap.MadeExc s.heap h' e "KeyError" rest → E (.ref e) { s with heap := h' }) (hrest : rest.length ≤ sizeLine) : wpAny (model prog w) A (call (.type "KeyError") rest) (Raisable E) E s :=
  key_made (fun h' e hx => by
    obtain ⟨t, he, _⟩ := hx.there
    exact ⟨e, _, _, "KeyError", _, _, excClass_KeyError, rfl, he, rfl, rfl, rfl, h h' e hx⟩) hrest
end
end
section
open PySem PySem.W PyProof.Rows PySem.Builtin PySem.Builtin.Str
set_option maxRecDepth 100000
theorem keyStr_slot : Slot "KeyError" "__str__" "KeyError.__str__" :=
  .of (owner := "KeyError") (n := "__str__") (by rw [typeLookup_type, builtinLookup_eq_fast]; kernel_rfl) (by decide +kernel) (by decide +kernel) (by decide +kernel)
    (by first | exact .inl (by decide +kernel) | exact .inr (by decide +kernel)) (by rw [isSubtype_type]; kernel_rfl)
theorem keyStr_entry : entryFor table "KeyError.__str__" = some Builtin.«KeyError.__str__» := by first | exact entryFor_of_fast (by kernel_rfl) | exact entryFor_of_tree (by kernel_rfl)
theorem keyStr_args (a : Value) : argsOk "KeyError.__str__" ⟨[a], []⟩ := by unfold argsOk; kernel_rfl
section
variable {prog : Program} {w : World} {A : Around} {E : Value → Shared → Prop} {s : Shared} {e t0 : Addr}
theorem excRepr_str {m : Str} {tk : Tok} {Q : Value → Shared → Prop} (h : Q (.str (reprText m) s.toks) { s with toks := s.toks + 1 }) (hx : (reprText m).length ≤ sizeLine) : wpAny (model prog w) A (Builtin.Exceptions.excReprObject (.str m tk)) Q E s := by
  unfold Builtin.Exceptions.excReprObject
  have hv : [Value.str m tk].any Value.onHeap = false := rfl
  simp only [cRoomFor, hv, Bool.false_eq_true, if_false, pure_bind]
  refine wpAny_bind (m := callSpecialIfBound? (.str m tk) (Str.ofString "__repr__")) (wpAny_callSpecialIfBound?_slot (name := Str.ofString "__repr__") (typeIs_str _ _ _) PySem.F.slot_str_repr (call_gives PySem.F.slot_str_repr (typeIs_str _ _ _) PySem.F.entry_str_repr (PySem.F.args_str_repr_1 _) (gives_str_repr _ _) ⟨hx, ?_⟩))
  exact wpAny_bind (wpAny_isInstance (T := "str") (b := true) rfl isSubtype_str_str (wpAny_pure h))
theorem keyStr_one {m : Str} {tk : Tok} {Q : Fin → Shared → Prop} (x : s.heap.ExcAt e "KeyError" (.ref t0)) (ht : s.heap.TupAt t0 [.str m tk]) (hq : Q (.done (.ret (.str (reprText m) s.toks))) { s with toks := s.toks + 1 }) (hx : (reprText m).length ≤ sizeLine) :
    wpAny (model prog w) A (Builtin.«KeyError.__str__» ⟨[.ref e], []⟩) Q E s := by
  obtain ⟨o, vs, ho, _, hd, h0⟩ := x
  obtain ⟨ot, k, hto, _, htd⟩ := ht
  unfold Builtin.«KeyError.__str__»
  repeat (first | with_reducible refine wpAny_field ho hd h0 ?_ | (fail_if_success (with_reducible refine wpAny_seqItems hto htd ?_)); wp_step)
  refine wpAny_seqItems hto htd ?_
  show wpAny _ _ (rule "KeyError.__str__.one-argument" >>= fun _ => Builtin.Exceptions.excReprObject (.str m tk) >>= fun r => ret r) _ _ _
  refine wpAny_bind (wpAny_rule ?_)
  exact wpAny_bind (excRepr_str (wpAny_pure hq) hx)
theorem keyStr_call {m : Str} {tk : Tok} {Q : Value → Shared → Prop} (x : s.heap.ExcAt e "KeyError" (.ref t0)) (ht : s.heap.TupAt t0 [.str m tk]) (hq : Q (.str (reprText m) s.toks) { s with toks := s.toks + 1 }) (hx : (reprText m).length ≤ sizeLine) :
    wpAny (model prog w) A (call (.builtin "KeyError.__str__") [.ref e]) Q E s :=
  wpAny_call_entry keyStr_slot x.typeIs keyStr_entry (keyStr_one x ht ⟨_, rfl, hq⟩ hx) (keyStr_args _)
theorem keyStr_of {m : Str} {tk : Tok} {Q : Value → Shared → Prop} (hu : A.units < cLine) (x : s.heap.ExcAt e "KeyError" (.ref t0)) (ht : s.heap.TupAt t0 [.str m tk]) (hq : Q (.str (reprText m) s.toks) { s with toks := s.toks + 1 }) (hx : (reprText m).length ≤ sizeLine) :
    wpAny (model prog w) A (Builtin.Str.strOf (.ref e)) Q E s := by
  unfold Builtin.Str.strOf
  repeat (first | with_reducible refine wpAny_cRoomFor hu ?_ | with_reducible refine wpAny_callSpecial?_slot x.typeIs keyStr_slot (keyStr_call x ht ?_ hx) | wp_step)
  exact hq
theorem keyStr {m : Str} {tk : Tok} {Q : Value → Shared → Prop} (hu : A.units + 2 < cLine) (x : s.heap.ExcAt e "KeyError" (.ref t0)) (ht : s.heap.TupAt t0 [.str m tk]) (h : Q (.str (reprText m) s.toks) { s with toks := s.toks + 1 }) (hx : (reprText m).length ≤ sizeLine) :
    wpAny (model prog w) A (call (.type "str") [.ref e]) Q E s :=
  callType_new F.called_str (by decide) (F.typeCall_str_1 _) (F.newCall_str_1 _) (fun obj => F.args_object_init_2 obj _) F.entry_str_new
    (meets_str_new (S := fun A' R s' => A'.units + 1 < cLine ∧ s'.heap.ExcAt e "KeyError" (.ref t0) ∧ s'.heap.TupAt t0 [.str m tk] ∧ R (.ok (.ret (.str (reprText m) s'.toks))) { s' with toks := s'.toks + 1 })
      fun _ _ A' _ _ hq => keyStr_of (A := A'.in1) hq.1 hq.2.1 hq.2.2.1 hq.2.2.2 hx)
    ⟨(show A.units + 1 + 1 < cLine from hu), x, ht, typeIs_str _ _ _, h⟩
theorem keyStr_got {h₀ : Heap} {L t : Addr} {news : Led} {m : Str} {u : Tok} {Q : Value → Shared → Prop} (N : News h₀ L s.heap news) (G : Got news e t (.type "KeyError") [.str m u]) (hu : A.units + 2 < cLine) (h : Q (.str (reprText m) s.toks) { s with toks := s.toks + 1 }) (hx : (reprText m).length ≤ sizeLine) :
    wpAny (model prog w) A (call (.type "str") [.ref e]) Q E s :=
  keyStr hu (Got.excAt N G).1 (Got.excAt N G).2 h hx
theorem keyText : reprText (Str.ofString "There is no nest behind this key") = Str.ofString "'There is no nest behind this key'" := by decide +kernel
end
end
section
open PySem PySem.W PyProof.Rows PyProof.Rows.LCg
/-- what a tree of calls does, whoever calls it, returning or raising X -/
abbrev DoesC (w : World) (c : Sem Value) (D U : Nat) (news : Led) (Post : Led → Value → Prop) (X : String) (PostE : Led → List Value → Prop) : Prop :=
  ∀ (p : Program) (loose : List Str) (mean : ExcName → Option Value) (mg mb : Str → Option Value) (dp un : Nat) (gd : Option (List Code)) (cn : Str) (cs : Scope) (a : Addr) (ccd : Value) (cl : List (Str × Addr)) (outer : List Env) (A₀ : Around) (base h₀ : Heap) (L : Addr) (m : Str → Option Value) (s : Shared)
    (Q E : Value → Shared → Prop),
    Below A₀ base outer h₀ → Fr h₀ L s.heap m → (Mine.hd.heap_39 w.params).In h₀ → News h₀ L s.heap news → Top p loose mean mg mb h₀ → cs.kind = .function → dp + D < recursionLimit → un + U < cLine →
    (∀ r h' news' tk', Fr h₀ L h' m → News h₀ L h' news' → Post news' r → Q r { s with heap := h', toks := tk' }) →
    (∀ e t ws G h' news' tk', Fr h₀ L G m → RaisedS base G (envX cn cs L a ccd cl :: outer) e (.type X) t ws news' h' → G.UpToSlots h' → PostE news' ws → E (.ref e) { s with heap := h', toks := tk' }) →
    wpAny (model PySem.Challenge.rw_ij0018_01.row.prog w) (ktrTop dp un gd cn cs L a ccd cl outer) c Q E s

noncomputable def stepP (P : List Way) (q : Way) : List Way := if q ∈ P then P else P ++ [q]
noncomputable def growN (P : List Way) (goal : Way) : Nat → List Way
  | 0 => P
  | i + 1 => stepP (growN P goal i) (goal.take (i + 1))
/-- the dict of a NestedDict's own names -/
noncomputable abbrev ownD (w : World) (d0 : Addr) (t0 : Tok) (c0 : Nat) : Obj := dictOf [{ hash := PyData.keyHash w.params (Str.ofString "dict"), key := .str (Str.ofString "dict") t0, val := .ref d0 }] c0

theorem stepP_sub {P : List Way} {q r : Way} (h : r ∈ P) : r ∈ stepP P q := by
  unfold stepP; split
  · exact h
  · exact List.mem_append_left _ h
theorem growN_sub {P : List Way} {goal r : Way} (h : r ∈ P) : ∀ i, r ∈ growN P goal i
  | 0 => h
  | i + 1 => stepP_sub (growN_sub h i)
theorem growN_length (P : List Way) (goal : Way) : ∀ i, (growN P goal i).length ≤ P.length + i
  | 0 => Nat.le_refl _
  | i + 1 => by
    have := growN_length P goal i
    unfold growN stepP
    split
    · omega
    · rw [List.length_append, List.length_singleton]; omega

structure NestSt (prog : Program) (w : World) (news I : Led) (P : List Way) (th : Way → Option Dat) (val : Way → Value) (goal : Way) (i : Nat) (nx T' : Led) (val' : Way → Value) (a : Addr) : Prop where
  tr : TreeM prog w T' I (growN P goal i) th val'
  at_ : isNest (growN P goal i) th (goal.take i)
  cur : val' (goal.take i) = .ref a
  sub : ∀ e ∈ T', e ∈ nx
  keep : ∀ e ∈ news, (∀ q, isNest P th q → val q ≠ .ref e.1) → e ∈ nx
  old : ∀ q, (q = [] ∨ q ∈ P) → val' q = val q
  new : ∀ q, isNest (growN P goal i) th q → isNest P th q ∨ ∃ D, val' q = .ref D ∧ ∀ e ∈ news, e.1 < D
  same : growN P goal i = P → ∀ e ∈ news, e ∈ nx
  free : ∀ k ≤ i, th (goal.take k) = none

section
variable {prog : Program} {w : World} {news I : Led} {P : List Way} {th : Way → Option Dat} {val : Way → Value} {goal : Way} {i : Nat} {nx nx' T' T'' : Led} {val' : Way → Value} {a : Addr}
theorem take_succ {i : Nat} {y : Str} (hi : goal[i]? = some y) : goal.take (i + 1) = goal.take i ++ [y] := by rw [List.take_add_one, hi]; rfl

/-- one is there already -/
theorem NestSt.there (S : NestSt prog w news I P th val goal i nx T' val' a) (hq : goal.take (i + 1) ∈ growN P goal i) (hn : th (goal.take (i + 1)) = none) {a' : Addr} (hv : val' (goal.take (i + 1)) = .ref a') : NestSt prog w news I P th val goal (i + 1) nx T' val' a' := by
  have e : growN P goal (i + 1) = growN P goal i := if_pos hq
  refine { tr := by rw [e]; exact S.tr, at_ := ⟨.inr (by rw [e]; exact hq), hn⟩, cur := hv, sub := S.sub, keep := S.keep, old := S.old, new := by rw [e]; exact S.new, same := by rw [e]; exact S.same, free := fun k hk => ?_ }
  rcases Nat.lt_or_ge i k with h | h
  · rw [show k = i + 1 by omega]; exact hn
  · exact S.free k h

/-- a nest is added -/
theorem NestSt.add (S : NestSt prog w news I P th val goal i nx T' val' a) {y : Str} (hi : goal[i]? = some y) (hq : goal.take (i + 1) ∉ growN P goal i) {D : Addr} {o' oD : Obj} (ho' : o'.IsDictOf (strKind prog w) (stored (kids (growN P goal i) val' (goal.take i)) y (.ref D)))
    (hoD : oD.IsDictOf (strKind prog w) []) (hD : (D == sysModules) = false) (hfr : ∀ e ∈ nx, e.1 < D) (hfN : ∀ e ∈ news, e.1 < D) (hIn : ∀ e ∈ I, e ∈ nx) (hT : ∀ e ∈ T', e.1 ≠ a → e ∈ T'') (hm : (a, o') ∈ T'') (hmD : (D, oD) ∈ T'')
    (hsub : ∀ e ∈ T'', e ∈ nx') (hk : ∀ e ∈ nx, e.1 ≠ a → e ∈ nx') : NestSt prog w news I P th val goal (i + 1) nx' T'' (upd val' (goal.take (i + 1)) (.ref D)) D := by
  have e1 := take_succ hi
  have e : growN P goal (i + 1) = growN P goal i ++ [goal.take i ++ [y]] := by rw [growN, stepP, if_neg hq, e1]
  have hqP : goal.take (i + 1) ∉ P := fun h => hq (growN_sub h i)
  have hq0 : goal.take (i + 1) ≠ [] := by rw [e1]; simp
  have hthq : th (goal.take (i + 1)) = none := by
    cases h : th (goal.take (i + 1)) with
    | none => rfl
    | some d => exact absurd (S.tr.thP _ _ h) hq
  have tr' : TreeM prog w T'' I (growN P goal (i + 1)) th (upd val' (goal.take (i + 1)) (.ref D)) := by
    rw [e, e1]
    rw [e1] at hq
    exact S.tr.addNest S.at_ hq S.cur ho' hoD hD (fun e he => hfr e (S.sub e he)) (fun e he => hfr e (hIn e he)) hT hm hmD
  -- the dict that changes is no thing of the caller's but a nest
  have hna : ∀ e ∈ news, (∀ q, isNest P th q → val q ≠ .ref e.1) → e.1 ≠ a := by
    intro e he hz
    rintro rfl
    rcases S.new _ S.at_ with h | ⟨D', h1, h2⟩
    · exact hz _ h (by rw [← S.old _ h.1]; exact S.cur)
    · rw [S.cur] at h1
      injection h1 with h1
      have := h2 e he
      rw [← h1] at this
      exact Nat.lt_irrefl _ this
  refine { tr := tr', at_ := ⟨.inr ?_, hthq⟩, cur := upd_self .., sub := hsub, keep := fun e he hz => hk e (S.keep e he hz) (hna e he hz), old := fun q hq' => ?_, new := fun q hq' => ?_, same := fun h => ?_, free := fun k hk => ?_ }
  · rw [e, e1]; simp
  · rw [upd_ne, S.old q hq']
    rintro rfl
    exact hq'.elim hq0 hqP
  · by_cases h : q = goal.take (i + 1)
    · subst h
      exact .inr ⟨D, upd_self .., hfN⟩
    · have : isNest (growN P goal i) th q := by
        refine ⟨hq'.1.imp_right fun h' => ?_, hq'.2⟩
        rw [e] at h'
        rcases List.mem_append.mp h' with h' | h'
        · exact h'
        · exact absurd ((List.mem_singleton.mp h').trans e1.symm) h
      rw [upd_ne _ _ h]
      exact S.new q this
  · exfalso
    have := growN_sub (P := P) (goal := goal) (r := goal.take (i + 1)) (by rw [← h, e, e1]; simp) i
    exact hq this
  · rcases Nat.lt_or_ge i k with h | h
    · rw [show k = i + 1 by omega]; exact hthq
    · exact S.free k h

theorem NestSt.below (S : NestSt prog w news I P th val goal i nx T' val' a) {D : Addr} (h : ∀ e ∈ nx, e.1 < D) : ∀ e ∈ news, e.1 < D := by
  intro e he
  by_cases hz : ∃ q, isNest P th q ∧ val q = .ref e.1
  · obtain ⟨q, hq, hv⟩ := hz
    obtain ⟨a', o, hv', _, hm, _⟩ := S.tr.nest q (hq.1.imp_right fun h => growN_sub h i) hq.2
    rw [S.old q hq.1, hv] at hv'
    injection hv' with hv'
    rw [hv']
    exact h _ (S.sub _ hm)
  · exact h e (S.keep e he fun q hq hv => hz ⟨q, hq, hv⟩)
/-- where a thing bars the way nothing was laid -/
theorem NestSt.barred (S : NestSt prog w news I P th val goal i nx T' val' a) (hin : ∀ k, 0 < k → k ≤ i + 1 → goal.take k ∈ P) : growN P goal i = P := by
  have : ∀ j ≤ i, growN P goal j = P := by
    intro j
    induction j with
    | zero => intro _; rfl
    | succ j ih =>
      intro hj
      rw [growN, ih (by omega), stepP, if_pos (hin (j + 1) (by omega) (by omega))]
  exact this i (Nat.le_refl _)
/-- the beginnings of a place are places -/
theorem TreeM.upTo {T : Led} (M : TreeM prog w T I P th val) {q : Way} (hq : q ∈ P) : ∀ k, 0 < k → k ≤ q.length → q.take k ∈ P := by
  intro k h0 hk
  obtain ⟨d, hd⟩ : ∃ d, q.length = k + d := ⟨q.length - k, by omega⟩
  induction d generalizing q with
  | zero => rw [List.take_of_length_le (by omega)]; exact hq
  | succ d ih =>
    have hne : q ≠ [] := by rintro rfl; simp at hd; 
    have e := List.dropLast_concat_getLast hne
    rw [← e] at hq
    have hl : q.dropLast.length = k + d := by rw [List.length_dropLast]; omega
    rcases (M.closed _ _ hq).1 with h | h
    · rw [h] at hl; simp at hl; omega
    · have := ih h (by omega) hl
      rw [← e, List.take_append_of_le_length (by omega)]
      exact this
end
end
section
open PySem PySem.W PyProof.Rows PyProof.Rows.LCg
set_option maxRecDepth 100000 in
set_option maxHeartbeats 8000000 in
theorem nest_does (w : World) (T I R : Led) (P : List Way) (th : Way → Option Dat) (val : Way → Value) (tr : TreeM PySem.Challenge.rw_ij0018_01.row.prog w T I P th val) (hPn : P.length ≤ 1000) (hth : ∀ p d, th p = some d → IsThing d)
    (x dn d0 gt : Addr) (t0 : Tok) (c0 gn : Nat) (goal : Way) (gvs : List Value) (b : Bool) (hTR : ∀ e ∈ T, e ∈ R) (hIR : ∀ e ∈ I, e ∈ R) (hgt : (gt, tupObj gvs gn) ∈ I) (hgv : DatAll I gvs (goal.map .str)) (hgl : goal.length ≤ 3)
    (hd0 : val [] = .ref d0) :
    DoesC w (call (.ref 43) [.ref x, .ref gt] [(Str.ofString "access_lists", .bool b)]) 20 2000 ((x, instObj 53 dn) :: (dn, ownD w d0 t0 c0) :: R)
      (fun news' r => ∃ T' val' a, r = .ref a ∧ NestSt PySem.Challenge.rw_ij0018_01.row.prog w ((x, instObj 53 dn) :: (dn, ownD w d0 t0 c0) :: R) I P th val goal goal.length news' T' val' a) "KeyError"
      (fun news' ws => (∃ k, k ≤ goal.length ∧ th (goal.take k) ≠ none) ∧ news' = (x, instObj 53 dn) :: (dn, ownD w d0 t0 c0) :: R ∧ ∃ t, ws = [.str (Str.ofString "There is no nest behind this key") t]) := by
  have hth0 : th [] = none := by
    cases e : th [] with
    | none => rfl
    | some d => exact absurd (tr.thP _ _ e) tr.root
  unfold DoesC
  k_fill
  intro p loose mean mg mb dp un gd cn cs ad ccd cl outer A₀ base h₀ L m s Q E B F X N Tp hk hd hu hret hexc
  refine wpAny_call ?_
  k_dflt ((refine' code_def ?k1 ?k2 ?k3 ?k4 ?k5 ?kA ?kF ?kK ?k6 ?k7 ?k8 ?k9 ?kB ?_ ?c2 ?c3 ?c4 ?c5; (case kA => exact rfl); (case kF => exact rfl); (case kK => assumption); (case k1 => k_asm); (case k2 => k_asm); (case k3 => k_asm); (case k4 => k_asm); (case k5 => k_asm); (case k6 => k_is); (case k7 => k_is); (case k8 => ktr_room); (case k9 => exact BindsTo.of_eq rfl); (case c5 => decide); (case kB => exact locs rfl); (case c2 => exact rfl); (case c3 => exact rfl); (case c4 => exact rfl); k_whole))
  intro g L1 h1 FG F1 N1 B1 X1 T1
  obtain ⟨m1, hmS, F1⟩ : ∃ m1 : Str → Option Value, Has m1 [(Str.ofString "self", Value.ref x), (Str.ofString "key", Value.ref gt), (Str.ofString "access_lists", .bool b)] ∧ Fr g L1 h1 m1 := ⟨_, ⟨rfl, rfl, rfl, trivial⟩, F1⟩
  replace F1 := hmS.fr F1
  with_reducible show wpAny _ _ _ _ _ _
  k_fold
  (repeat' ( (fail_if_success (with_reducible first | show TurnEnd _ _ _ _ _ _ _ _ _ _ | show WhileStep2 _ _ _ _ _ _ _ _ | show wpAny _ _ (eval (Expr.ListComp _ _ _ _) _) _ _ _ | show wpAny _ _ (exec (Stmt.While _ _ _ _) _) _ _ _ | show wpAny _ _ (exec (Stmt.For _ _ _ _ _) _) _ _ _ | show wpAny _ _ (exec (Stmt.Assign _ (Expr.ListComp _ _ _ _) _) _) _ _ _ | show wpAny _ _ (subscriptTail _ _ _ _) _ _ _ | show wpAny _ _ (PySem.call _ _ _) _ _ _ | show wpAny _ _ (compareOp _ (Value.ref _) _) _ _ _ | show wpAny _ _ (compareOp _ _ (Value.ref _)) _ _ _ | show wpAny _ _ (binaryOp _ (Value.ref _) _) _ _ _ | show wpAny _ _ (setItem _ _ _) _ _ _)); first | (k_unfold; (try dsimp only)) | ((with_reducible show wpAny _ _ (leaving _ (Value.ref _)) _ _ _); (refine' leave_raiseS ?k1 ?k0 ?k2 ?k3 ?_; (case k0 => first | assumption | exact Heap.MadeExc.of (by assumption)); (case k2 => assumption); (case k1 => assumption); (case k3 => k_asm); k_whole; intro h' t' S' R' U'; (try dsimp only at S' R' U' ⊢))) | walk1 | (dsimp only; walk1) | (leave1; (try dsimp only)) | fail "no step"))
  refine For_open ?_
  (repeat' ( (fail_if_success (with_reducible first | show TurnEnd _ _ _ _ _ _ _ _ _ _ | show WhileStep2 _ _ _ _ _ _ _ _ | show wpAny _ _ (eval (Expr.ListComp _ _ _ _) _) _ _ _ | show wpAny _ _ (exec (Stmt.While _ _ _ _) _) _ _ _ | show wpAny _ _ (exec (Stmt.For _ _ _ _ _) _) _ _ _ | show wpAny _ _ (exec (Stmt.Assign _ (Expr.ListComp _ _ _ _) _) _) _ _ _ | show wpAny _ _ (subscriptTail _ _ _ _) _ _ _ | show wpAny _ _ (PySem.call _ _ _) _ _ _ | show wpAny _ _ (compareOp _ (Value.ref _) _) _ _ _ | show wpAny _ _ (compareOp _ _ (Value.ref _)) _ _ _ | show wpAny _ _ (binaryOp _ (Value.ref _) _) _ _ _ | show wpAny _ _ (setItem _ _ _) _ _ _)); first | (k_unfold; (try dsimp only)) | ((with_reducible show wpAny _ _ (leaving _ (Value.ref _)) _ _ _); (refine' leave_raiseS ?k1 ?k0 ?k2 ?k3 ?_; (case k0 => first | assumption | exact Heap.MadeExc.of (by assumption)); (case k2 => assumption); (case k1 => assumption); (case k3 => k_asm); k_whole; intro h' t' S' R' U'; (try dsimp only at S' R' U' ⊢))) | walk1 | (dsimp only; walk1) | (leave1; (try dsimp only)) | fail "no step"))
  rename Fr _ _ _ _ => F2
  rename News _ _ _ _ => N2
  generalize hn0 : (x, instObj 53 dn) :: (dn, ownD w d0 t0 c0) :: R = news at *
  have hRn : ∀ e ∈ R, e ∈ news := fun e he => by rw [← hn0]; simp [he]
  have hIn : ∀ e ∈ I, e ∈ news := fun e he => hRn e (hIR e he)
  refine ForAt_tuple (news := news) (vs := gvs) (t := gt) (n := gn) (by rfl) F2 N2 (hIn _ hgt) ⟨_, _, rfl⟩
    (fun i m nx => ∃ T' val' a, Has m [(Str.ofString "cont", .ref a), (Str.ofString "access_lists", .bool b)] ∧ NestSt PySem.Challenge.rw_ij0018_01.row.prog w news I P th val goal i nx T' val' a)
    ⟨T, val, d0, ⟨rfl, rfl, trivial⟩, { tr := tr, at_ := ⟨.inl rfl, hth0⟩, cur := hd0, sub := fun e he => hRn e (hTR e he), keep := fun e he _ => he, old := fun _ _ => rfl, new := fun q h => .inl h, same := fun _ e he => he, free := fun k hk => by rw [Nat.le_zero.mp hk]; exact hth0 }⟩ ?_ ?_
  · clear F2 N2
    rintro i v m2 nx h2 tk2 Ia oI hiv ⟨T', val', a, hm2, S⟩ hgn F1 N1 off
    replace F1 := hm2.fr F1
    have hi : i < goal.length := by have := hgv.length; rw [List.length_map] at this; rw [← this]; exact (List.getElem?_eq_some_iff.mp hiv).1
    obtain ⟨v', hv', hDv⟩ := hgv.get (k := i) (by rw [List.length_map]; exact hi)
    obtain rfl : v' = v := Option.some.inj (hv'.symm.trans hiv)
    rw [List.getElem_map] at hDv
    have hgi : goal[i]? = some goal[i] := List.getElem?_eq_getElem hi
    generalize goal[i] = y at *
    obtain ⟨ty, rfl⟩ := DatIn.strV hDv
    clear hDv hv'
    have hq1 := take_succ hgi
    have hInx : ∀ e ∈ I, e ∈ nx := fun e he => S.keep e (hIn e he) fun q hq hv => tr.apart q _ hq hv e he rfl
    obtain ⟨a', o, hva, hsys, hao, hdict⟩ := S.tr.nest _ S.at_.1 S.at_.2
    obtain rfl : a' = a := by rw [S.cur] at hva; injection hva with h; exact h.symm
    have haon : (a', o) ∈ nx := S.sub _ hao
    have hvq := valueAt_kids (growN P goal i) val' (goal.take i) y
    rw [← hq1] at hvq
    dsimp only
    (repeat' ( (fail_if_success (with_reducible first | show TurnEnd _ _ _ _ _ _ _ _ _ _ | show WhileStep2 _ _ _ _ _ _ _ _ | show wpAny _ _ (eval (Expr.ListComp _ _ _ _) _) _ _ _ | show wpAny _ _ (exec (Stmt.While _ _ _ _) _) _ _ _ | show wpAny _ _ (exec (Stmt.For _ _ _ _ _) _) _ _ _ | show wpAny _ _ (exec (Stmt.Assign _ (Expr.ListComp _ _ _ _) _) _) _ _ _ | show wpAny _ _ (subscriptTail _ _ _ _) _ _ _ | show wpAny _ _ (PySem.call _ _ _) _ _ _ | show wpAny _ _ (compareOp _ (Value.ref _) _) _ _ _ | show wpAny _ _ (compareOp _ _ (Value.ref _)) _ _ _ | show wpAny _ _ (binaryOp _ (Value.ref _) _) _ _ _ | show wpAny _ _ (setItem _ _ _) _ _ _)); first | (k_unfold; (try dsimp only)) | ((with_reducible show wpAny _ _ (leaving _ (Value.ref _)) _ _ _); (refine' leave_raiseS ?k1 ?k0 ?k2 ?k3 ?_; (case k0 => first | assumption | exact Heap.MadeExc.of (by assumption)); (case k2 => assumption); (case k1 => assumption); (case k3 => k_asm); k_whole; intro h' t' S' R' U'; (try dsimp only at S' R' U' ⊢))) | walk1 | (dsimp only; walk1) | (leave1; (try dsimp only)) | fail "no step"))
    rename Fr _ _ _ _ => F3
    rename News _ _ _ _ => N3
    refine dict_notIn N3 (o := o) (.tail _ haon) hdict hsys ?_
    by_cases hq : goal.take (i + 1) ∈ growN P goal i
    · rw [if_pos hq] at hvq
      rw [hvq]
      dsimp only [Option.isSome, Bool.not]
      (repeat' ( (fail_if_success (with_reducible first | show TurnEnd _ _ _ _ _ _ _ _ _ _ | show WhileStep2 _ _ _ _ _ _ _ _ | show wpAny _ _ (eval (Expr.ListComp _ _ _ _) _) _ _ _ | show wpAny _ _ (exec (Stmt.While _ _ _ _) _) _ _ _ | show wpAny _ _ (exec (Stmt.For _ _ _ _ _) _) _ _ _ | show wpAny _ _ (exec (Stmt.Assign _ (Expr.ListComp _ _ _ _) _) _) _ _ _ | show wpAny _ _ (subscriptTail _ _ _ _) _ _ _ | show wpAny _ _ (PySem.call _ _ _) _ _ _ | show wpAny _ _ (compareOp _ (Value.ref _) _) _ _ _ | show wpAny _ _ (compareOp _ _ (Value.ref _)) _ _ _ | show wpAny _ _ (binaryOp _ (Value.ref _) _) _ _ _ | show wpAny _ _ (setItem _ _ _) _ _ _)); first | (k_unfold; (try dsimp only)) | ((with_reducible show wpAny _ _ (leaving _ (Value.ref _)) _ _ _); (refine' leave_raiseS ?k1 ?k0 ?k2 ?k3 ?_; (case k0 => first | assumption | exact Heap.MadeExc.of (by assumption)); (case k2 => assumption); (case k1 => assumption); (case k3 => k_asm); k_whole; intro h' t' S' R' U'; (try dsimp only at S' R' U' ⊢))) | walk1 | (dsimp only; walk1) | (leave1; (try dsimp only)) | fail "no step"))
      refine dict_get N3 (o := o) (.tail _ haon) hdict hvq ?_
      cases b with
      | false =>
        cases hthq : th (goal.take (i + 1)) with
        | none =>
          obtain ⟨aq, oq, hvq', hsq, haq, hdq⟩ := S.tr.nest _ (.inr hq) hthq
          rw [hvq']
          have haqn : (aq, oq) ∈ nx := S.sub _ haq
          (repeat' ( (fail_if_success (with_reducible first | show TurnEnd _ _ _ _ _ _ _ _ _ _ | show WhileStep2 _ _ _ _ _ _ _ _ | show wpAny _ _ (eval (Expr.ListComp _ _ _ _) _) _ _ _ | show wpAny _ _ (exec (Stmt.While _ _ _ _) _) _ _ _ | show wpAny _ _ (exec (Stmt.For _ _ _ _ _) _) _ _ _ | show wpAny _ _ (exec (Stmt.Assign _ (Expr.ListComp _ _ _ _) _) _) _ _ _ | show wpAny _ _ (subscriptTail _ _ _ _) _ _ _ | show wpAny _ _ (PySem.call _ _ _) _ _ _ | show wpAny _ _ (compareOp _ (Value.ref _) _) _ _ _ | show wpAny _ _ (compareOp _ _ (Value.ref _)) _ _ _ | show wpAny _ _ (binaryOp _ (Value.ref _) _) _ _ _ | show wpAny _ _ (setItem _ _ _) _ _ _)); first | (k_unfold; (try dsimp only)) | ((with_reducible show wpAny _ _ (leaving _ (Value.ref _)) _ _ _); (refine' leave_raiseS ?k1 ?k0 ?k2 ?k3 ?_; (case k0 => first | assumption | exact Heap.MadeExc.of (by assumption)); (case k2 => assumption); (case k1 => assumption); (case k3 => k_asm); k_whole; intro h' t' S' R' U'; (try dsimp only at S' R' U' ⊢))) | walk1 | (dsimp only; walk1) | (leave1; (try dsimp only)) | fail "no step"))
          rename Fr _ _ _ _ => F4
          rename News _ _ _ _ => N4
          refine isi_nest_dict N4 (o := oq) (.tail _ haqn) hdq fun tk2 => ?_
          (repeat' ( (fail_if_success (with_reducible first | show TurnEnd _ _ _ _ _ _ _ _ _ _ | show WhileStep2 _ _ _ _ _ _ _ _ | show wpAny _ _ (eval (Expr.ListComp _ _ _ _) _) _ _ _ | show wpAny _ _ (exec (Stmt.While _ _ _ _) _) _ _ _ | show wpAny _ _ (exec (Stmt.For _ _ _ _ _) _) _ _ _ | show wpAny _ _ (exec (Stmt.Assign _ (Expr.ListComp _ _ _ _) _) _) _ _ _ | show wpAny _ _ (subscriptTail _ _ _ _) _ _ _ | show wpAny _ _ (PySem.call _ _ _) _ _ _ | show wpAny _ _ (compareOp _ (Value.ref _) _) _ _ _ | show wpAny _ _ (compareOp _ _ (Value.ref _)) _ _ _ | show wpAny _ _ (binaryOp _ (Value.ref _) _) _ _ _ | show wpAny _ _ (setItem _ _ _) _ _ _)); first | (k_unfold; (try dsimp only)) | ((with_reducible show wpAny _ _ (leaving _ (Value.ref _)) _ _ _); (refine' leave_raiseS ?k1 ?k0 ?k2 ?k3 ?_; (case k0 => first | assumption | exact Heap.MadeExc.of (by assumption)); (case k2 => assumption); (case k1 => assumption); (case k3 => k_asm); k_whole; intro h' t' S' R' U'; (try dsimp only at S' R' U' ⊢))) | walk1 | (dsimp only; walk1) | (leave1; (try dsimp only)) | fail "no step"))
          refine TurnEnd.next _ nx F4 (News.sub N4 (by ((intro x hx; (try simp only [List.mem_append, List.mem_cons, List.not_mem_nil, or_false, false_or] at hx); (repeat' (refine Or.elim hx (fun hx => ?_) (fun hx => ?_))); (all_goals (first | (subst hx; walk_at "m:mem") | walk_at "m:mem" | (exfalso; exact hx))))))) off (by intro e he; rw [List.mem_singleton.mp he]; exact hgn) ⟨T', val', aq, ⟨rfl, rfl, trivial⟩, S.there hq hthq hvq'⟩
        | some d =>
          have hvd := S.tr.thing _ hq d hthq
          have hqP := tr.thP _ _ hthq
          have hsame := S.barred fun k h0 hk => by
            have := tr.upTo hqP k h0 (by rw [List.length_take]; omega)
            rwa [List.take_take, Nat.min_eq_left hk] at this
          have hall := S.same hsame
          have hbad : ∃ k, k ≤ goal.length ∧ th (goal.take k) ≠ none := ⟨i + 1, hi, by rw [hthq]; simp⟩
          (repeat' ( (fail_if_success (with_reducible first | show TurnEnd _ _ _ _ _ _ _ _ _ _ | show WhileStep2 _ _ _ _ _ _ _ _ | show wpAny _ _ (eval (Expr.ListComp _ _ _ _) _) _ _ _ | show wpAny _ _ (exec (Stmt.While _ _ _ _) _) _ _ _ | show wpAny _ _ (exec (Stmt.For _ _ _ _ _) _) _ _ _ | show wpAny _ _ (exec (Stmt.Assign _ (Expr.ListComp _ _ _ _) _) _) _ _ _ | show wpAny _ _ (subscriptTail _ _ _ _) _ _ _ | show wpAny _ _ (PySem.call _ _ _) _ _ _ | show wpAny _ _ (compareOp _ (Value.ref _) _) _ _ _ | show wpAny _ _ (compareOp _ _ (Value.ref _)) _ _ _ | show wpAny _ _ (binaryOp _ (Value.ref _) _) _ _ _ | show wpAny _ _ (setItem _ _ _) _ _ _)); first | (k_unfold; (try dsimp only)) | ((with_reducible show wpAny _ _ (leaving _ (Value.ref _)) _ _ _); (refine' leave_raiseS ?k1 ?k0 ?k2 ?k3 ?_; (case k0 => first | assumption | exact Heap.MadeExc.of (by assumption)); (case k2 => assumption); (case k1 => assumption); (case k3 => k_asm); k_whole; intro h' t' S' R' U'; (try dsimp only at S' R' U' ⊢))) | walk1 | (dsimp only; walk1) | (leave1; (try dsimp only)) | fail "no step"))
          rename Fr _ _ _ _ => F4
          rename News _ _ _ _ => N4
          refine isi_thing_dict N4 (I := I) (fun e he => .tail _ (hInx e he)) (hth _ _ hthq) hvd fun tk2 => ?_
          (repeat' ( (fail_if_success (with_reducible first | show TurnEnd _ _ _ _ _ _ _ _ _ _ | show WhileStep2 _ _ _ _ _ _ _ _ | show wpAny _ _ (eval (Expr.ListComp _ _ _ _) _) _ _ _ | show wpAny _ _ (exec (Stmt.While _ _ _ _) _) _ _ _ | show wpAny _ _ (exec (Stmt.For _ _ _ _ _) _) _ _ _ | show wpAny _ _ (exec (Stmt.Assign _ (Expr.ListComp _ _ _ _) _) _) _ _ _ | show wpAny _ _ (subscriptTail _ _ _ _) _ _ _ | show wpAny _ _ (PySem.call _ _ _) _ _ _ | show wpAny _ _ (compareOp _ (Value.ref _) _) _ _ _ | show wpAny _ _ (compareOp _ _ (Value.ref _)) _ _ _ | show wpAny _ _ (binaryOp _ (Value.ref _) _) _ _ _ | show wpAny _ _ (setItem _ _ _) _ _ _)); first | (k_unfold; (try dsimp only)) | ((with_reducible show wpAny _ _ (leaving _ (Value.ref _)) _ _ _); (refine' leave_raiseS ?k1 ?k0 ?k2 ?k3 ?_; (case k0 => first | assumption | exact Heap.MadeExc.of (by assumption)); (case k2 => assumption); (case k1 => assumption); (case k3 => k_asm); k_whole; intro h' t' S' R' U'; (try dsimp only at S' R' U' ⊢))) | walk1 | (dsimp only; walk1) | (leave1; (try dsimp only)) | fail "no step"))
          refine key_raise (fun h7 e7 hx7 => ?_) (by show 1 ≤ sizeLine; rw [sizeLine_eq]; omega)
          (repeat' ( (fail_if_success (with_reducible first | show TurnEnd _ _ _ _ _ _ _ _ _ _ | show WhileStep2 _ _ _ _ _ _ _ _ | show wpAny _ _ (eval (Expr.ListComp _ _ _ _) _) _ _ _ | show wpAny _ _ (exec (Stmt.While _ _ _ _) _) _ _ _ | show wpAny _ _ (exec (Stmt.For _ _ _ _ _) _) _ _ _ | show wpAny _ _ (exec (Stmt.Assign _ (Expr.ListComp _ _ _ _) _) _) _ _ _ | show wpAny _ _ (subscriptTail _ _ _ _) _ _ _ | show wpAny _ _ (PySem.call _ _ _) _ _ _ | show wpAny _ _ (compareOp _ (Value.ref _) _) _ _ _ | show wpAny _ _ (compareOp _ _ (Value.ref _)) _ _ _ | show wpAny _ _ (binaryOp _ (Value.ref _) _) _ _ _ | show wpAny _ _ (setItem _ _ _) _ _ _)); first | (k_unfold; (try dsimp only)) | ((with_reducible show wpAny _ _ (leaving _ (Value.ref _)) _ _ _); (refine' leave_raiseS ?k1 ?k0 ?k2 ?k3 ?_; (case k0 => first | assumption | exact Heap.MadeExc.of (by assumption)); (case k2 => assumption); (case k1 => assumption); (case k3 => k_asm); k_whole; intro h' t' S' R' U'; (try dsimp only at S' R' U' ⊢))) | walk1 | (dsimp only; walk1) | (leave1; (try dsimp only)) | fail "no step"))
          rename RaisedS _ _ _ _ _ _ _ _ _ => RS
          refine hexc _ _ _ _ _ _ _ FG (Mine.RaisedS.sub RS (news' := news) (fun e he => .tail _ (hall e he))) (by assumption) ⟨hbad, rfl, _, rfl⟩
      | true =>
        cases hthq : th (goal.take (i + 1)) with
        | none =>
          obtain ⟨aq, oq, hvq', hsq, haq, hdq⟩ := S.tr.nest _ (.inr hq) hthq
          rw [hvq']
          have haqn : (aq, oq) ∈ nx := S.sub _ haq
          (repeat' ( (fail_if_success (with_reducible first | show TurnEnd _ _ _ _ _ _ _ _ _ _ | show WhileStep2 _ _ _ _ _ _ _ _ | show wpAny _ _ (eval (Expr.ListComp _ _ _ _) _) _ _ _ | show wpAny _ _ (exec (Stmt.While _ _ _ _) _) _ _ _ | show wpAny _ _ (exec (Stmt.For _ _ _ _ _) _) _ _ _ | show wpAny _ _ (exec (Stmt.Assign _ (Expr.ListComp _ _ _ _) _) _) _ _ _ | show wpAny _ _ (subscriptTail _ _ _ _) _ _ _ | show wpAny _ _ (PySem.call _ _ _) _ _ _ | show wpAny _ _ (compareOp _ (Value.ref _) _) _ _ _ | show wpAny _ _ (compareOp _ _ (Value.ref _)) _ _ _ | show wpAny _ _ (binaryOp _ (Value.ref _) _) _ _ _ | show wpAny _ _ (setItem _ _ _) _ _ _)); first | (k_unfold; (try dsimp only)) | ((with_reducible show wpAny _ _ (leaving _ (Value.ref _)) _ _ _); (refine' leave_raiseS ?k1 ?k0 ?k2 ?k3 ?_; (case k0 => first | assumption | exact Heap.MadeExc.of (by assumption)); (case k2 => assumption); (case k1 => assumption); (case k3 => k_asm); k_whole; intro h' t' S' R' U'; (try dsimp only at S' R' U' ⊢))) | walk1 | (dsimp only; walk1) | (leave1; (try dsimp only)) | fail "no step"))
          rename Fr _ _ _ _ => F4
          rename News _ _ _ _ => N4
          refine isi_nest_list N4 (o := oq) (.tail _ haqn) hdq fun tk2 => ?_
          (repeat' ( (fail_if_success (with_reducible first | show TurnEnd _ _ _ _ _ _ _ _ _ _ | show WhileStep2 _ _ _ _ _ _ _ _ | show wpAny _ _ (eval (Expr.ListComp _ _ _ _) _) _ _ _ | show wpAny _ _ (exec (Stmt.While _ _ _ _) _) _ _ _ | show wpAny _ _ (exec (Stmt.For _ _ _ _ _) _) _ _ _ | show wpAny _ _ (exec (Stmt.Assign _ (Expr.ListComp _ _ _ _) _) _) _ _ _ | show wpAny _ _ (subscriptTail _ _ _ _) _ _ _ | show wpAny _ _ (PySem.call _ _ _) _ _ _ | show wpAny _ _ (compareOp _ (Value.ref _) _) _ _ _ | show wpAny _ _ (compareOp _ _ (Value.ref _)) _ _ _ | show wpAny _ _ (binaryOp _ (Value.ref _) _) _ _ _ | show wpAny _ _ (setItem _ _ _) _ _ _)); first | (k_unfold; (try dsimp only)) | ((with_reducible show wpAny _ _ (leaving _ (Value.ref _)) _ _ _); (refine' leave_raiseS ?k1 ?k0 ?k2 ?k3 ?_; (case k0 => first | assumption | exact Heap.MadeExc.of (by assumption)); (case k2 => assumption); (case k1 => assumption); (case k3 => k_asm); k_whole; intro h' t' S' R' U'; (try dsimp only at S' R' U' ⊢))) | walk1 | (dsimp only; walk1) | (leave1; (try dsimp only)) | fail "no step"))
          refine isi_nest_dict N4 (o := oq) (.tail _ haqn) hdq fun tk2 => ?_
          (repeat' ( (fail_if_success (with_reducible first | show TurnEnd _ _ _ _ _ _ _ _ _ _ | show WhileStep2 _ _ _ _ _ _ _ _ | show wpAny _ _ (eval (Expr.ListComp _ _ _ _) _) _ _ _ | show wpAny _ _ (exec (Stmt.While _ _ _ _) _) _ _ _ | show wpAny _ _ (exec (Stmt.For _ _ _ _ _) _) _ _ _ | show wpAny _ _ (exec (Stmt.Assign _ (Expr.ListComp _ _ _ _) _) _) _ _ _ | show wpAny _ _ (subscriptTail _ _ _ _) _ _ _ | show wpAny _ _ (PySem.call _ _ _) _ _ _ | show wpAny _ _ (compareOp _ (Value.ref _) _) _ _ _ | show wpAny _ _ (compareOp _ _ (Value.ref _)) _ _ _ | show wpAny _ _ (binaryOp _ (Value.ref _) _) _ _ _ | show wpAny _ _ (setItem _ _ _) _ _ _)); first | (k_unfold; (try dsimp only)) | ((with_reducible show wpAny _ _ (leaving _ (Value.ref _)) _ _ _); (refine' leave_raiseS ?k1 ?k0 ?k2 ?k3 ?_; (case k0 => first | assumption | exact Heap.MadeExc.of (by assumption)); (case k2 => assumption); (case k1 => assumption); (case k3 => k_asm); k_whole; intro h' t' S' R' U'; (try dsimp only at S' R' U' ⊢))) | walk1 | (dsimp only; walk1) | (leave1; (try dsimp only)) | fail "no step"))
          refine TurnEnd.next _ nx F4 (News.sub N4 (by ((intro x hx; (try simp only [List.mem_append, List.mem_cons, List.not_mem_nil, or_false, false_or] at hx); (repeat' (refine Or.elim hx (fun hx => ?_) (fun hx => ?_))); (all_goals (first | (subst hx; walk_at "m:mem") | walk_at "m:mem" | (exfalso; exact hx))))))) off (by intro e he; rw [List.mem_singleton.mp he]; exact hgn) ⟨T', val', aq, ⟨rfl, rfl, trivial⟩, S.there hq hthq hvq'⟩
        | some d =>
          have hvd := S.tr.thing _ hq d hthq
          have hqP := tr.thP _ _ hthq
          have hsame := S.barred fun k h0 hk => by
            have := tr.upTo hqP k h0 (by rw [List.length_take]; omega)
            rwa [List.take_take, Nat.min_eq_left hk] at this
          have hall := S.same hsame
          have hbad : ∃ k, k ≤ goal.length ∧ th (goal.take k) ≠ none := ⟨i + 1, hi, by rw [hthq]; simp⟩
          (repeat' ( (fail_if_success (with_reducible first | show TurnEnd _ _ _ _ _ _ _ _ _ _ | show WhileStep2 _ _ _ _ _ _ _ _ | show wpAny _ _ (eval (Expr.ListComp _ _ _ _) _) _ _ _ | show wpAny _ _ (exec (Stmt.While _ _ _ _) _) _ _ _ | show wpAny _ _ (exec (Stmt.For _ _ _ _ _) _) _ _ _ | show wpAny _ _ (exec (Stmt.Assign _ (Expr.ListComp _ _ _ _) _) _) _ _ _ | show wpAny _ _ (subscriptTail _ _ _ _) _ _ _ | show wpAny _ _ (PySem.call _ _ _) _ _ _ | show wpAny _ _ (compareOp _ (Value.ref _) _) _ _ _ | show wpAny _ _ (compareOp _ _ (Value.ref _)) _ _ _ | show wpAny _ _ (binaryOp _ (Value.ref _) _) _ _ _ | show wpAny _ _ (setItem _ _ _) _ _ _)); first | (k_unfold; (try dsimp only)) | ((with_reducible show wpAny _ _ (leaving _ (Value.ref _)) _ _ _); (refine' leave_raiseS ?k1 ?k0 ?k2 ?k3 ?_; (case k0 => first | assumption | exact Heap.MadeExc.of (by assumption)); (case k2 => assumption); (case k1 => assumption); (case k3 => k_asm); k_whole; intro h' t' S' R' U'; (try dsimp only at S' R' U' ⊢))) | walk1 | (dsimp only; walk1) | (leave1; (try dsimp only)) | fail "no step"))
          rename Fr _ _ _ _ => F4
          rename News _ _ _ _ => N4
          refine isi_thing_list N4 (I := I) (fun e he => .tail _ (hInx e he)) (hth _ _ hthq) hvd (fun hne tk2 => ?_) (fun he al tl nl hvl hal tk2 => ?_)
          · (repeat' ( (fail_if_success (with_reducible first | show TurnEnd _ _ _ _ _ _ _ _ _ _ | show WhileStep2 _ _ _ _ _ _ _ _ | show wpAny _ _ (eval (Expr.ListComp _ _ _ _) _) _ _ _ | show wpAny _ _ (exec (Stmt.While _ _ _ _) _) _ _ _ | show wpAny _ _ (exec (Stmt.For _ _ _ _ _) _) _ _ _ | show wpAny _ _ (exec (Stmt.Assign _ (Expr.ListComp _ _ _ _) _) _) _ _ _ | show wpAny _ _ (subscriptTail _ _ _ _) _ _ _ | show wpAny _ _ (PySem.call _ _ _) _ _ _ | show wpAny _ _ (compareOp _ (Value.ref _) _) _ _ _ | show wpAny _ _ (compareOp _ _ (Value.ref _)) _ _ _ | show wpAny _ _ (binaryOp _ (Value.ref _) _) _ _ _ | show wpAny _ _ (setItem _ _ _) _ _ _)); first | (k_unfold; (try dsimp only)) | ((with_reducible show wpAny _ _ (leaving _ (Value.ref _)) _ _ _); (refine' leave_raiseS ?k1 ?k0 ?k2 ?k3 ?_; (case k0 => first | assumption | exact Heap.MadeExc.of (by assumption)); (case k2 => assumption); (case k1 => assumption); (case k3 => k_asm); k_whole; intro h' t' S' R' U'; (try dsimp only at S' R' U' ⊢))) | walk1 | (dsimp only; walk1) | (leave1; (try dsimp only)) | fail "no step"))
            refine isi_thing_dict N4 (I := I) (fun e he => .tail _ (hInx e he)) (hth _ _ hthq) hvd fun tk2 => ?_
            (repeat' ( (fail_if_success (with_reducible first | show TurnEnd _ _ _ _ _ _ _ _ _ _ | show WhileStep2 _ _ _ _ _ _ _ _ | show wpAny _ _ (eval (Expr.ListComp _ _ _ _) _) _ _ _ | show wpAny _ _ (exec (Stmt.While _ _ _ _) _) _ _ _ | show wpAny _ _ (exec (Stmt.For _ _ _ _ _) _) _ _ _ | show wpAny _ _ (exec (Stmt.Assign _ (Expr.ListComp _ _ _ _) _) _) _ _ _ | show wpAny _ _ (subscriptTail _ _ _ _) _ _ _ | show wpAny _ _ (PySem.call _ _ _) _ _ _ | show wpAny _ _ (compareOp _ (Value.ref _) _) _ _ _ | show wpAny _ _ (compareOp _ _ (Value.ref _)) _ _ _ | show wpAny _ _ (binaryOp _ (Value.ref _) _) _ _ _ | show wpAny _ _ (setItem _ _ _) _ _ _)); first | (k_unfold; (try dsimp only)) | ((with_reducible show wpAny _ _ (leaving _ (Value.ref _)) _ _ _); (refine' leave_raiseS ?k1 ?k0 ?k2 ?k3 ?_; (case k0 => first | assumption | exact Heap.MadeExc.of (by assumption)); (case k2 => assumption); (case k1 => assumption); (case k3 => k_asm); k_whole; intro h' t' S' R' U'; (try dsimp only at S' R' U' ⊢))) | walk1 | (dsimp only; walk1) | (leave1; (try dsimp only)) | fail "no step"))
            refine key_raise (fun h7 e7 hx7 => ?_) (by show 1 ≤ sizeLine; rw [sizeLine_eq]; omega)
            (repeat' ( (fail_if_success (with_reducible first | show TurnEnd _ _ _ _ _ _ _ _ _ _ | show WhileStep2 _ _ _ _ _ _ _ _ | show wpAny _ _ (eval (Expr.ListComp _ _ _ _) _) _ _ _ | show wpAny _ _ (exec (Stmt.While _ _ _ _) _) _ _ _ | show wpAny _ _ (exec (Stmt.For _ _ _ _ _) _) _ _ _ | show wpAny _ _ (exec (Stmt.Assign _ (Expr.ListComp _ _ _ _) _) _) _ _ _ | show wpAny _ _ (subscriptTail _ _ _ _) _ _ _ | show wpAny _ _ (PySem.call _ _ _) _ _ _ | show wpAny _ _ (compareOp _ (Value.ref _) _) _ _ _ | show wpAny _ _ (compareOp _ _ (Value.ref _)) _ _ _ | show wpAny _ _ (binaryOp _ (Value.ref _) _) _ _ _ | show wpAny _ _ (setItem _ _ _) _ _ _)); first | (k_unfold; (try dsimp only)) | ((with_reducible show wpAny _ _ (leaving _ (Value.ref _)) _ _ _); (refine' leave_raiseS ?k1 ?k0 ?k2 ?k3 ?_; (case k0 => first | assumption | exact Heap.MadeExc.of (by assumption)); (case k2 => assumption); (case k1 => assumption); (case k3 => k_asm); k_whole; intro h' t' S' R' U'; (try dsimp only at S' R' U' ⊢))) | walk1 | (dsimp only; walk1) | (leave1; (try dsimp only)) | fail "no step"))
            rename RaisedS _ _ _ _ _ _ _ _ _ => RS
            refine hexc _ _ _ _ _ _ _ FG (Mine.RaisedS.sub RS (news' := news) (fun e he => .tail _ (hall e he))) (by assumption) ⟨hbad, rfl, _, rfl⟩
          · rw [hvl] at F4
            (repeat' ( (fail_if_success (with_reducible first | show TurnEnd _ _ _ _ _ _ _ _ _ _ | show WhileStep2 _ _ _ _ _ _ _ _ | show wpAny _ _ (eval (Expr.ListComp _ _ _ _) _) _ _ _ | show wpAny _ _ (exec (Stmt.While _ _ _ _) _) _ _ _ | show wpAny _ _ (exec (Stmt.For _ _ _ _ _) _) _ _ _ | show wpAny _ _ (exec (Stmt.Assign _ (Expr.ListComp _ _ _ _) _) _) _ _ _ | show wpAny _ _ (subscriptTail _ _ _ _) _ _ _ | show wpAny _ _ (PySem.call _ _ _) _ _ _ | show wpAny _ _ (compareOp _ (Value.ref _) _) _ _ _ | show wpAny _ _ (compareOp _ _ (Value.ref _)) _ _ _ | show wpAny _ _ (binaryOp _ (Value.ref _) _) _ _ _ | show wpAny _ _ (setItem _ _ _) _ _ _)); first | (k_unfold; (try dsimp only)) | ((with_reducible show wpAny _ _ (leaving _ (Value.ref _)) _ _ _); (refine' leave_raiseS ?k1 ?k0 ?k2 ?k3 ?_; (case k0 => first | assumption | exact Heap.MadeExc.of (by assumption)); (case k2 => assumption); (case k1 => assumption); (case k3 => k_asm); k_whole; intro h' t' S' R' U'; (try dsimp only at S' R' U' ⊢))) | walk1 | (dsimp only; walk1) | (leave1; (try dsimp only)) | fail "no step"))
            refine lst_last N4 (vs := []) (x := .int 0 tl) (n := nl) (.tail _ (hInx _ hal)) ?_
            (repeat' ( (fail_if_success (with_reducible first | show TurnEnd _ _ _ _ _ _ _ _ _ _ | show WhileStep2 _ _ _ _ _ _ _ _ | show wpAny _ _ (eval (Expr.ListComp _ _ _ _) _) _ _ _ | show wpAny _ _ (exec (Stmt.While _ _ _ _) _) _ _ _ | show wpAny _ _ (exec (Stmt.For _ _ _ _ _) _) _ _ _ | show wpAny _ _ (exec (Stmt.Assign _ (Expr.ListComp _ _ _ _) _) _) _ _ _ | show wpAny _ _ (subscriptTail _ _ _ _) _ _ _ | show wpAny _ _ (PySem.call _ _ _) _ _ _ | show wpAny _ _ (compareOp _ (Value.ref _) _) _ _ _ | show wpAny _ _ (compareOp _ _ (Value.ref _)) _ _ _ | show wpAny _ _ (binaryOp _ (Value.ref _) _) _ _ _ | show wpAny _ _ (setItem _ _ _) _ _ _)); first | (k_unfold; (try dsimp only)) | ((with_reducible show wpAny _ _ (leaving _ (Value.ref _)) _ _ _); (refine' leave_raiseS ?k1 ?k0 ?k2 ?k3 ?_; (case k0 => first | assumption | exact Heap.MadeExc.of (by assumption)); (case k2 => assumption); (case k1 => assumption); (case k3 => k_asm); k_whole; intro h' t' S' R' U'; (try dsimp only at S' R' U' ⊢))) | walk1 | (dsimp only; walk1) | (leave1; (try dsimp only)) | fail "no step"))
            rename News _ _ _ _ => N5
            refine PySem.IsiPair.int_dict ?_
            (repeat' ( (fail_if_success (with_reducible first | show TurnEnd _ _ _ _ _ _ _ _ _ _ | show WhileStep2 _ _ _ _ _ _ _ _ | show wpAny _ _ (eval (Expr.ListComp _ _ _ _) _) _ _ _ | show wpAny _ _ (exec (Stmt.While _ _ _ _) _) _ _ _ | show wpAny _ _ (exec (Stmt.For _ _ _ _ _) _) _ _ _ | show wpAny _ _ (exec (Stmt.Assign _ (Expr.ListComp _ _ _ _) _) _) _ _ _ | show wpAny _ _ (subscriptTail _ _ _ _) _ _ _ | show wpAny _ _ (PySem.call _ _ _) _ _ _ | show wpAny _ _ (compareOp _ (Value.ref _) _) _ _ _ | show wpAny _ _ (compareOp _ _ (Value.ref _)) _ _ _ | show wpAny _ _ (binaryOp _ (Value.ref _) _) _ _ _ | show wpAny _ _ (setItem _ _ _) _ _ _)); first | (k_unfold; (try dsimp only)) | ((with_reducible show wpAny _ _ (leaving _ (Value.ref _)) _ _ _); (refine' leave_raiseS ?k1 ?k0 ?k2 ?k3 ?_; (case k0 => first | assumption | exact Heap.MadeExc.of (by assumption)); (case k2 => assumption); (case k1 => assumption); (case k3 => k_asm); k_whole; intro h' t' S' R' U'; (try dsimp only at S' R' U' ⊢))) | walk1 | (dsimp only; walk1) | (leave1; (try dsimp only)) | fail "no step"))
            refine key_raise (fun h7 e7 hx7 => ?_) (by show 1 ≤ sizeLine; rw [sizeLine_eq]; omega)
            (repeat' ( (fail_if_success (with_reducible first | show TurnEnd _ _ _ _ _ _ _ _ _ _ | show WhileStep2 _ _ _ _ _ _ _ _ | show wpAny _ _ (eval (Expr.ListComp _ _ _ _) _) _ _ _ | show wpAny _ _ (exec (Stmt.While _ _ _ _) _) _ _ _ | show wpAny _ _ (exec (Stmt.For _ _ _ _ _) _) _ _ _ | show wpAny _ _ (exec (Stmt.Assign _ (Expr.ListComp _ _ _ _) _) _) _ _ _ | show wpAny _ _ (subscriptTail _ _ _ _) _ _ _ | show wpAny _ _ (PySem.call _ _ _) _ _ _ | show wpAny _ _ (compareOp _ (Value.ref _) _) _ _ _ | show wpAny _ _ (compareOp _ _ (Value.ref _)) _ _ _ | show wpAny _ _ (binaryOp _ (Value.ref _) _) _ _ _ | show wpAny _ _ (setItem _ _ _) _ _ _)); first | (k_unfold; (try dsimp only)) | ((with_reducible show wpAny _ _ (leaving _ (Value.ref _)) _ _ _); (refine' leave_raiseS ?k1 ?k0 ?k2 ?k3 ?_; (case k0 => first | assumption | exact Heap.MadeExc.of (by assumption)); (case k2 => assumption); (case k1 => assumption); (case k3 => k_asm); k_whole; intro h' t' S' R' U'; (try dsimp only at S' R' U' ⊢))) | walk1 | (dsimp only; walk1) | (leave1; (try dsimp only)) | fail "no step"))
            rename RaisedS _ _ _ _ _ _ _ _ _ => RS
            refine hexc _ _ _ _ _ _ _ FG (Mine.RaisedS.sub RS (news' := news) (fun e he => .tail _ (hall e he))) (by assumption) ⟨hbad, rfl, _, rfl⟩
    · rw [if_neg hq] at hvq
      rw [hvq]
      dsimp only [Option.isSome, Bool.not]
      (repeat' ( (fail_if_success (with_reducible first | show TurnEnd _ _ _ _ _ _ _ _ _ _ | show WhileStep2 _ _ _ _ _ _ _ _ | show wpAny _ _ (eval (Expr.ListComp _ _ _ _) _) _ _ _ | show wpAny _ _ (exec (Stmt.While _ _ _ _) _) _ _ _ | show wpAny _ _ (exec (Stmt.For _ _ _ _ _) _) _ _ _ | show wpAny _ _ (exec (Stmt.Assign _ (Expr.ListComp _ _ _ _) _) _) _ _ _ | show wpAny _ _ (subscriptTail _ _ _ _) _ _ _ | show wpAny _ _ (PySem.call _ _ _) _ _ _ | show wpAny _ _ (compareOp _ (Value.ref _) _) _ _ _ | show wpAny _ _ (compareOp _ _ (Value.ref _)) _ _ _ | show wpAny _ _ (binaryOp _ (Value.ref _) _) _ _ _ | show wpAny _ _ (setItem _ _ _) _ _ _)); first | (k_unfold; (try dsimp only)) | ((with_reducible show wpAny _ _ (leaving _ (Value.ref _)) _ _ _); (refine' leave_raiseS ?k1 ?k0 ?k2 ?k3 ?_; (case k0 => first | assumption | exact Heap.MadeExc.of (by assumption)); (case k2 => assumption); (case k1 => assumption); (case k3 => k_asm); k_whole; intro h' t' S' R' U'; (try dsimp only at S' R' U' ⊢))) | walk1 | (dsimp only; walk1) | (leave1; (try dsimp only)) | fail "no step"))
      rename Fr _ _ _ _ => F4
      rename News _ _ _ _ => N4
      rename_i D4 h4 o4 l4 hs4 hd4 _ _ _
      have haI : Ia ≠ a' := fun e => off _ haon e.symm
      refine dict_set F4 N4 (d := a') (o := o) (.tail _ (.tail _ haon)) hdict ?_ (by
        show (kids _ _ _).length ≤ sizeLine
        rw [sizeLine_eq]
        unfold kids kidsOf
        rw [List.length_map]
        have h1 := List.length_filter_le (isKid (goal.take i)) (growN P goal i)
        have h2 := growN_length P goal i
        omega)
      clear F4 N4
      intro h5 news5 o5 F5 N5 hm5 hd5 hk5 ho5
      have hDa : D4 ≠ a' := fun e => by
        have := l4 (a', o) (.tail _ haon)
        rw [e] at this; exact Nat.lt_irrefl _ this
      have S' := S.add (nx' := (a', o5) :: (D4, o4) :: nx.filter (fun p => decide (p.1 ≠ a'))) (T'' := (a', o5) :: (D4, o4) :: T'.filter (fun p => decide (p.1 ≠ a'))) hgi hq hd5 hd4 hs4 (fun e he => l4 e (.tail _ he)) (S.below fun e he => l4 e (.tail _ he)) hInx
        (fun e he hne => .tail _ (.tail _ (List.mem_filter.mpr ⟨he, by simpa using hne⟩))) (.head _) (.tail _ (.head _))
        (fun e he => by
          rcases List.mem_cons.mp he with rfl | he
          · exact .head _
          rcases List.mem_cons.mp he with rfl | he
          · exact .tail _ (.head _)
          obtain ⟨h1, h2⟩ := List.mem_filter.mp he
          exact .tail _ (.tail _ (List.mem_filter.mpr ⟨S.sub e h1, h2⟩)))
        (fun e he hne => .tail _ (.tail _ (List.mem_filter.mpr ⟨he, by simpa using hne⟩)))
      have N6 : News g L1 h5 ((Ia, oI) :: (a', o5) :: (D4, o4) :: nx.filter (fun p => decide (p.1 ≠ a'))) := News.sub N5 fun e he => by
        rcases List.mem_cons.mp he with rfl | he
        · exact hk5 _ (.tail _ (.head _)) haI
        rcases List.mem_cons.mp he with rfl | he
        · exact hm5
        rcases List.mem_cons.mp he with rfl | he
        · exact hk5 _ (.head _) hDa
        obtain ⟨h1, h2⟩ := List.mem_filter.mp he
        exact hk5 _ (.tail _ (.tail _ h1)) (by simpa using h2)
      have hsub6 : ∀ e ∈ (a', o5) :: (D4, o4) :: nx.filter (fun p => decide (p.1 ≠ a')), e.1 ≠ Ia := by
        intro e he
        rcases List.mem_cons.mp he with rfl | he
        · exact Ne.symm haI
        rcases List.mem_cons.mp he with rfl | he
        · exact fun q => by
            have := l4 (Ia, oI) (.head _)
            rw [← q] at this; exact Nat.lt_irrefl _ this
        · exact off e (List.mem_filter.mp he).1
      clear N5 hk5 ho5
      (repeat' ( (fail_if_success (with_reducible first | show TurnEnd _ _ _ _ _ _ _ _ _ _ | show WhileStep2 _ _ _ _ _ _ _ _ | show wpAny _ _ (eval (Expr.ListComp _ _ _ _) _) _ _ _ | show wpAny _ _ (exec (Stmt.While _ _ _ _) _) _ _ _ | show wpAny _ _ (exec (Stmt.For _ _ _ _ _) _) _ _ _ | show wpAny _ _ (exec (Stmt.Assign _ (Expr.ListComp _ _ _ _) _) _) _ _ _ | show wpAny _ _ (subscriptTail _ _ _ _) _ _ _ | show wpAny _ _ (PySem.call _ _ _) _ _ _ | show wpAny _ _ (compareOp _ (Value.ref _) _) _ _ _ | show wpAny _ _ (compareOp _ _ (Value.ref _)) _ _ _ | show wpAny _ _ (binaryOp _ (Value.ref _) _) _ _ _ | show wpAny _ _ (setItem _ _ _) _ _ _)); first | (k_unfold; (try dsimp only)) | ((with_reducible show wpAny _ _ (leaving _ (Value.ref _)) _ _ _); (refine' leave_raiseS ?k1 ?k0 ?k2 ?k3 ?_; (case k0 => first | assumption | exact Heap.MadeExc.of (by assumption)); (case k2 => assumption); (case k1 => assumption); (case k3 => k_asm); k_whole; intro h' t' S' R' U'; (try dsimp only at S' R' U' ⊢))) | walk1 | (dsimp only; walk1) | (leave1; (try dsimp only)) | fail "no step"))
      rename News _ _ _ _ => N7
      refine dict_get N7 (d := a') (o := o5) (by walk_at "m:mem") hd5 (v := .ref D4) (valueAt_new hvq) ?_
      cases b with
      | false =>
        (repeat' ( (fail_if_success (with_reducible first | show TurnEnd _ _ _ _ _ _ _ _ _ _ | show WhileStep2 _ _ _ _ _ _ _ _ | show wpAny _ _ (eval (Expr.ListComp _ _ _ _) _) _ _ _ | show wpAny _ _ (exec (Stmt.While _ _ _ _) _) _ _ _ | show wpAny _ _ (exec (Stmt.For _ _ _ _ _) _) _ _ _ | show wpAny _ _ (exec (Stmt.Assign _ (Expr.ListComp _ _ _ _) _) _) _ _ _ | show wpAny _ _ (subscriptTail _ _ _ _) _ _ _ | show wpAny _ _ (PySem.call _ _ _) _ _ _ | show wpAny _ _ (compareOp _ (Value.ref _) _) _ _ _ | show wpAny _ _ (compareOp _ _ (Value.ref _)) _ _ _ | show wpAny _ _ (binaryOp _ (Value.ref _) _) _ _ _ | show wpAny _ _ (setItem _ _ _) _ _ _)); first | (k_unfold; (try dsimp only)) | ((with_reducible show wpAny _ _ (leaving _ (Value.ref _)) _ _ _); (refine' leave_raiseS ?k1 ?k0 ?k2 ?k3 ?_; (case k0 => first | assumption | exact Heap.MadeExc.of (by assumption)); (case k2 => assumption); (case k1 => assumption); (case k3 => k_asm); k_whole; intro h' t' S' R' U'; (try dsimp only at S' R' U' ⊢))) | walk1 | (dsimp only; walk1) | (leave1; (try dsimp only)) | fail "no step"))
        rename Fr _ _ _ _ => F8
        rename News _ _ _ _ => N8
        refine isi_nest_dict N8 (o := o4) (by walk_at "m:mem") hd4 fun tk2 => ?_
        (repeat' ( (fail_if_success (with_reducible first | show TurnEnd _ _ _ _ _ _ _ _ _ _ | show WhileStep2 _ _ _ _ _ _ _ _ | show wpAny _ _ (eval (Expr.ListComp _ _ _ _) _) _ _ _ | show wpAny _ _ (exec (Stmt.While _ _ _ _) _) _ _ _ | show wpAny _ _ (exec (Stmt.For _ _ _ _ _) _) _ _ _ | show wpAny _ _ (exec (Stmt.Assign _ (Expr.ListComp _ _ _ _) _) _) _ _ _ | show wpAny _ _ (subscriptTail _ _ _ _) _ _ _ | show wpAny _ _ (PySem.call _ _ _) _ _ _ | show wpAny _ _ (compareOp _ (Value.ref _) _) _ _ _ | show wpAny _ _ (compareOp _ _ (Value.ref _)) _ _ _ | show wpAny _ _ (binaryOp _ (Value.ref _) _) _ _ _ | show wpAny _ _ (setItem _ _ _) _ _ _)); first | (k_unfold; (try dsimp only)) | ((with_reducible show wpAny _ _ (leaving _ (Value.ref _)) _ _ _); (refine' leave_raiseS ?k1 ?k0 ?k2 ?k3 ?_; (case k0 => first | assumption | exact Heap.MadeExc.of (by assumption)); (case k2 => assumption); (case k1 => assumption); (case k3 => k_asm); k_whole; intro h' t' S' R' U'; (try dsimp only at S' R' U' ⊢))) | walk1 | (dsimp only; walk1) | (leave1; (try dsimp only)) | fail "no step"))
        refine TurnEnd.next _ _ F8 N8 hsub6 (by
          intro e he
          rw [List.mem_singleton.mp he]
          exact .tail _ (.tail _ (List.mem_filter.mpr ⟨hgn, by simpa using S.tr.apart _ _ S.at_ S.cur _ hgt⟩))) ⟨_, _, D4, ⟨rfl, rfl, trivial⟩, S'⟩
      | true =>
        (repeat' ( (fail_if_success (with_reducible first | show TurnEnd _ _ _ _ _ _ _ _ _ _ | show WhileStep2 _ _ _ _ _ _ _ _ | show wpAny _ _ (eval (Expr.ListComp _ _ _ _) _) _ _ _ | show wpAny _ _ (exec (Stmt.While _ _ _ _) _) _ _ _ | show wpAny _ _ (exec (Stmt.For _ _ _ _ _) _) _ _ _ | show wpAny _ _ (exec (Stmt.Assign _ (Expr.ListComp _ _ _ _) _) _) _ _ _ | show wpAny _ _ (subscriptTail _ _ _ _) _ _ _ | show wpAny _ _ (PySem.call _ _ _) _ _ _ | show wpAny _ _ (compareOp _ (Value.ref _) _) _ _ _ | show wpAny _ _ (compareOp _ _ (Value.ref _)) _ _ _ | show wpAny _ _ (binaryOp _ (Value.ref _) _) _ _ _ | show wpAny _ _ (setItem _ _ _) _ _ _)); first | (k_unfold; (try dsimp only)) | ((with_reducible show wpAny _ _ (leaving _ (Value.ref _)) _ _ _); (refine' leave_raiseS ?k1 ?k0 ?k2 ?k3 ?_; (case k0 => first | assumption | exact Heap.MadeExc.of (by assumption)); (case k2 => assumption); (case k1 => assumption); (case k3 => k_asm); k_whole; intro h' t' S' R' U'; (try dsimp only at S' R' U' ⊢))) | walk1 | (dsimp only; walk1) | (leave1; (try dsimp only)) | fail "no step"))
        rename Fr _ _ _ _ => F8
        rename News _ _ _ _ => N8
        refine isi_nest_list N8 (o := o4) (by walk_at "m:mem") hd4 fun tk2 => ?_
        (repeat' ( (fail_if_success (with_reducible first | show TurnEnd _ _ _ _ _ _ _ _ _ _ | show WhileStep2 _ _ _ _ _ _ _ _ | show wpAny _ _ (eval (Expr.ListComp _ _ _ _) _) _ _ _ | show wpAny _ _ (exec (Stmt.While _ _ _ _) _) _ _ _ | show wpAny _ _ (exec (Stmt.For _ _ _ _ _) _) _ _ _ | show wpAny _ _ (exec (Stmt.Assign _ (Expr.ListComp _ _ _ _) _) _) _ _ _ | show wpAny _ _ (subscriptTail _ _ _ _) _ _ _ | show wpAny _ _ (PySem.call _ _ _) _ _ _ | show wpAny _ _ (compareOp _ (Value.ref _) _) _ _ _ | show wpAny _ _ (compareOp _ _ (Value.ref _)) _ _ _ | show wpAny _ _ (binaryOp _ (Value.ref _) _) _ _ _ | show wpAny _ _ (setItem _ _ _) _ _ _)); first | (k_unfold; (try dsimp only)) | ((with_reducible show wpAny _ _ (leaving _ (Value.ref _)) _ _ _); (refine' leave_raiseS ?k1 ?k0 ?k2 ?k3 ?_; (case k0 => first | assumption | exact Heap.MadeExc.of (by assumption)); (case k2 => assumption); (case k1 => assumption); (case k3 => k_asm); k_whole; intro h' t' S' R' U'; (try dsimp only at S' R' U' ⊢))) | walk1 | (dsimp only; walk1) | (leave1; (try dsimp only)) | fail "no step"))
        refine isi_nest_dict N8 (o := o4) (by walk_at "m:mem") hd4 fun tk2 => ?_
        (repeat' ( (fail_if_success (with_reducible first | show TurnEnd _ _ _ _ _ _ _ _ _ _ | show WhileStep2 _ _ _ _ _ _ _ _ | show wpAny _ _ (eval (Expr.ListComp _ _ _ _) _) _ _ _ | show wpAny _ _ (exec (Stmt.While _ _ _ _) _) _ _ _ | show wpAny _ _ (exec (Stmt.For _ _ _ _ _) _) _ _ _ | show wpAny _ _ (exec (Stmt.Assign _ (Expr.ListComp _ _ _ _) _) _) _ _ _ | show wpAny _ _ (subscriptTail _ _ _ _) _ _ _ | show wpAny _ _ (PySem.call _ _ _) _ _ _ | show wpAny _ _ (compareOp _ (Value.ref _) _) _ _ _ | show wpAny _ _ (compareOp _ _ (Value.ref _)) _ _ _ | show wpAny _ _ (binaryOp _ (Value.ref _) _) _ _ _ | show wpAny _ _ (setItem _ _ _) _ _ _)); first | (k_unfold; (try dsimp only)) | ((with_reducible show wpAny _ _ (leaving _ (Value.ref _)) _ _ _); (refine' leave_raiseS ?k1 ?k0 ?k2 ?k3 ?_; (case k0 => first | assumption | exact Heap.MadeExc.of (by assumption)); (case k2 => assumption); (case k1 => assumption); (case k3 => k_asm); k_whole; intro h' t' S' R' U'; (try dsimp only at S' R' U' ⊢))) | walk1 | (dsimp only; walk1) | (leave1; (try dsimp only)) | fail "no step"))
        refine TurnEnd.next _ _ F8 N8 hsub6 (by
          intro e he
          rw [List.mem_singleton.mp he]
          exact .tail _ (.tail _ (List.mem_filter.mpr ⟨hgn, by simpa using S.tr.apart _ _ S.at_ S.cur _ hgt⟩))) ⟨_, _, D4, ⟨rfl, rfl, trivial⟩, S'⟩
  · clear F2 N2
    rintro m2 nx h2 tk2 ⟨T', val', a, hm2, S⟩ hgn F1 N1
    replace F1 := hm2.fr F1
    have hgvl : gvs.length = goal.length := by have := hgv.length; rw [List.length_map] at this; exact this
    rw [hgvl] at S
    dsimp only
    (repeat' ( (fail_if_success (with_reducible first | show TurnEnd _ _ _ _ _ _ _ _ _ _ | show WhileStep2 _ _ _ _ _ _ _ _ | show wpAny _ _ (eval (Expr.ListComp _ _ _ _) _) _ _ _ | show wpAny _ _ (exec (Stmt.While _ _ _ _) _) _ _ _ | show wpAny _ _ (exec (Stmt.For _ _ _ _ _) _) _ _ _ | show wpAny _ _ (exec (Stmt.Assign _ (Expr.ListComp _ _ _ _) _) _) _ _ _ | show wpAny _ _ (subscriptTail _ _ _ _) _ _ _ | show wpAny _ _ (PySem.call _ _ _) _ _ _ | show wpAny _ _ (compareOp _ (Value.ref _) _) _ _ _ | show wpAny _ _ (compareOp _ _ (Value.ref _)) _ _ _ | show wpAny _ _ (binaryOp _ (Value.ref _) _) _ _ _ | show wpAny _ _ (setItem _ _ _) _ _ _)); first | (k_unfold; (try dsimp only)) | ((with_reducible show wpAny _ _ (leaving _ (Value.ref _)) _ _ _); (refine' leave_raiseS ?k1 ?k0 ?k2 ?k3 ?_; (case k0 => first | assumption | exact Heap.MadeExc.of (by assumption)); (case k2 => assumption); (case k1 => assumption); (case k3 => k_asm); k_whole; intro h' t' S' R' U'; (try dsimp only at S' R' U' ⊢))) | walk1 | (dsimp only; walk1) | (leave1; (try dsimp only)) | fail "no step"))
    rename Fr h₀ _ _ _ => kF
    rename News h₀ _ _ _ => kN
    refine hret _ _ _ _ kF kN ⟨T', val', a, rfl, S⟩
end
section
open PySem PySem.W PyProof.Rows PyProof.Rows.LCg
set_option maxRecDepth 100000 in
set_option maxHeartbeats 8000000 in
theorem lay_does (w : World) (news : Led) (a : Addr) (o : Obj) (kvs : List (Str × Value)) (y : Str) (ty : Tok) (v : Value) (hm : (a, o) ∈ news) (ho : o.IsDictOf (strKind PySem.Challenge.rw_ij0018_01.row.prog w) kvs) (hsz : kvs.length ≤ 2000) :
    Does w 95 [.ref a, .str y ty, v] 10 1000 news (fun news' _ => ∃ o', o'.IsDictOf (strKind PySem.Challenge.rw_ij0018_01.row.prog w) (stored kvs y v) ∧ (a, o') ∈ news' ∧ (∀ p ∈ news, p.1 ≠ a → p ∈ news')) := by
  unfold Does
  k_fill
  intro p loose mean mg mb dp un gd cn cs ad ccd cl outer A₀ base h₀ L m s Q E B F X N Tp hk hd hu hret
  refine wpAny_call ?_
  k_dflt ((refine' code_def ?k1 ?k2 ?k3 ?k4 ?k5 ?kA ?kF ?kK ?k6 ?k7 ?k8 ?k9 ?kB ?_ ?c2 ?c3 ?c4 ?c5; (case kA => exact rfl); (case kF => exact rfl); (case kK => assumption); (case k1 => k_asm); (case k2 => k_asm); (case k3 => k_asm); (case k4 => k_asm); (case k5 => k_asm); (case k6 => k_is); (case k7 => k_is); (case k8 => ktr_room); (case k9 => exact BindsTo.of_eq rfl); (case c5 => decide); (case kB => exact locs rfl); (case c2 => exact rfl); (case c3 => exact rfl); (case c4 => exact rfl); k_whole))
  intro g L1 h1 FG F1 N1 B1 X1 T1
  obtain ⟨m1, hmS, F1⟩ : ∃ m1 : Str → Option Value, Has m1 [(Str.ofString "nest", Value.ref a), (Str.ofString "name", .str y ty), (Str.ofString "thing", v)] ∧ Fr g L1 h1 m1 := ⟨_, ⟨rfl, rfl, rfl, trivial⟩, F1⟩
  replace F1 := hmS.fr F1
  with_reducible show wpAny _ _ _ _ _ _
  k_fold
  (repeat' ( (fail_if_success (with_reducible first | show TurnEnd _ _ _ _ _ _ _ _ _ _ | show WhileStep2 _ _ _ _ _ _ _ _ | show wpAny _ _ (eval (Expr.ListComp _ _ _ _) _) _ _ _ | show wpAny _ _ (exec (Stmt.While _ _ _ _) _) _ _ _ | show wpAny _ _ (exec (Stmt.For _ _ _ _ _) _) _ _ _ | show wpAny _ _ (exec (Stmt.Assign _ (Expr.ListComp _ _ _ _) _) _) _ _ _ | show wpAny _ _ (subscriptTail _ _ _ _) _ _ _ | show wpAny _ _ (PySem.call _ _ _) _ _ _ | show wpAny _ _ (compareOp _ (Value.ref _) _) _ _ _ | show wpAny _ _ (compareOp _ _ (Value.ref _)) _ _ _ | show wpAny _ _ (binaryOp _ (Value.ref _) _) _ _ _ | show wpAny _ _ (setItem _ _ _) _ _ _)); first | (k_unfold; (try dsimp only)) | walk1 | (dsimp only; walk1) | (leave1; (try dsimp only)) | fail "no step"))
  rename Fr _ _ _ _ => F2
  rename News _ _ _ _ => N2
  refine dict_set F2 N2 hm ho ?_ (by rw [sizeLine_eq]; omega)
  clear F2 N2
  intro h5 news5 o5 F5 N5 hm5 hd5 hk5 ho5
  (repeat' ( (fail_if_success (with_reducible first | show TurnEnd _ _ _ _ _ _ _ _ _ _ | show WhileStep2 _ _ _ _ _ _ _ _ | show wpAny _ _ (eval (Expr.ListComp _ _ _ _) _) _ _ _ | show wpAny _ _ (exec (Stmt.While _ _ _ _) _) _ _ _ | show wpAny _ _ (exec (Stmt.For _ _ _ _ _) _) _ _ _ | show wpAny _ _ (exec (Stmt.Assign _ (Expr.ListComp _ _ _ _) _) _) _ _ _ | show wpAny _ _ (subscriptTail _ _ _ _) _ _ _ | show wpAny _ _ (PySem.call _ _ _) _ _ _ | show wpAny _ _ (compareOp _ (Value.ref _) _) _ _ _ | show wpAny _ _ (compareOp _ _ (Value.ref _)) _ _ _ | show wpAny _ _ (binaryOp _ (Value.ref _) _) _ _ _ | show wpAny _ _ (setItem _ _ _) _ _ _)); first | (k_unfold; (try dsimp only)) | walk1 | (dsimp only; walk1) | (leave1; (try dsimp only)) | fail "no step"))
  rename Fr h₀ _ _ _ => kF
  rename News h₀ _ _ _ => kN
  exact hret _ _ _ _ kF kN ⟨o5, hd5, hm5, hk5⟩

theorem two_vals {I : Led} {vs : List Value} {d1 d2 : Dat} (h : DatAll I vs [d1, d2]) : ∃ a b, vs = [a, b] := by
  cases h with
  | cons _ h =>
    cases h with
    | cons _ h =>
      cases h
      exact ⟨_, _, rfl⟩
/-- things laid at ways -/
noncomputable def thingAt (things : List (Way × Dat)) (p : Way) : Option Dat := (things.find? fun t => t.1 = p).map (·.2)

noncomputable def thingD (t : Way × Dat) : Dat := .tuple [wayD t.1, t.2]
/-- the things at the places laid so far -/
noncomputable def thTo (things : List (Way × Dat)) (P : List Way) : Way → Option Dat := fun r => if r ∈ P then thingAt things r else none

theorem kqdOk_thing {d : Dat} (h : IsThing d) (n : Nat) : kqdOk (n + 1) d = true := by
  rcases h with rfl | rfl | rfl | rfl
  · cases n <;> rfl
  · exact (by decide +kernel : PyData.strOk (Str.ofString "") = true)
  · cases n <;> rfl
  · cases n <;> rfl

theorem found_at {things : List (Way × Dat)} {q : Way} : thingAt things q = ((things.filter fun t => decide (t.1 = q)).map (·.2)).head? := by
  unfold thingAt
  induction things with
  | nil => rfl
  | cons t r ih =>
    by_cases h : t.1 = q
    · rw [List.find?_cons_of_pos (by simpa using h), List.filter_cons_of_pos (by simpa using h)]; rfl
    · rw [List.find?_cons_of_neg (by simpa using h), List.filter_cons_of_neg (by simpa using h)]; exact ih
theorem thTo_snoc {things : List (Way × Dat)} {P : List Way} {q : Way} : thTo things (P ++ [q]) = match thingAt things q with | some d => upd (thTo things P) q (some d) | none => thTo things P := by
  cases e : thingAt things q with
  | some d =>
    funext r
    unfold thTo upd
    by_cases h : r = q
    · subst h; simp [e]
    · simp [h]
  | none =>
    funext r
    unfold thTo
    by_cases h : r = q
    · subst h; simp [e]
    · simp [h]

set_option maxRecDepth 100000 in
set_option maxHeartbeats 8000000 in
theorem laid_does (w : World) (K0 : Led) (lp lt : Addr) (pvs tvs : List Value) (pn tn : Nat) (P : List Way) (things : List (Way × Dat)) (hlp : (lp, listOf pvs.toArray pn) ∈ K0) (hlt : (lt, listOf tvs.toArray tn) ∈ K0)
    (hDp : DatAll K0 pvs (P.map wayD)) (hDt : DatAll K0 tvs (things.map thingD)) (hPn : P.length ≤ 1000) (htn : things.length ≤ 1000) (hok : ∀ q ∈ P, WOk q) (hokt : ∀ t ∈ things, WOk t.1 ∧ IsThing t.2) (hnd : P.Nodup) (hl3 : ∀ q ∈ P, q.length ≤ 3)
    (hord : ∀ i q, P[i]? = some q → ∃ p x, q = p ++ [x] ∧ (p = [] ∨ p ∈ P.take i) ∧ thingAt things p = none) :
    Does w 88 [.ref lp, .ref lt] 20 2000 K0 (fun news' r => ∃ tl T val a, news' = tl ++ K0 ∧ Fresh tl K0 ∧ r = .ref a ∧ TreeM PySem.Challenge.rw_ij0018_01.row.prog w T K0 P (thTo things P) val ∧ val [] = .ref a ∧ (∀ e ∈ T, e ∈ news')) := by
  unfold Does
  k_fill
  intro p loose mean mg mb dp un gd cn cs ad ccd cl outer A₀ base h₀ L m s Q E B F X N Tp hk hd hu hret
  refine wpAny_call ?_
  k_dflt ((refine' code_defC ?k1 ?k2 ?k3 ?k4 ?k5 ?kA ?kF ?kK ?k6 ?k7 ?k8 ?k9 ?kB ?kD ?_ ?c2 ?c3 ?c4; (case kA => exact rfl); (case kF => exact rfl); (case kK => assumption); (case k1 => k_asm); (case k2 => k_asm); (case k3 => k_asm); (case k4 => k_asm); (case k5 => k_asm); (case k6 => k_is); (case k7 => k_is); (case k8 => ktr_room); (case k9 => exact BindsTo.of_eq rfl); (case kB => exact rfl); (case kD => decide +kernel); (case c2 => exact rfl); (case c3 => exact rfl); (case c4 => exact rfl); k_whole))
  intro g L1 h1 tk1 cells FG F1 N1 Y B1 X1 T1 l0
  obtain ⟨oc, rfl, hcd⟩ := CellsAre.one Y
  have hc0 : oc.data = .cell none := hcd.trans (by with_unfolding_all rfl)
  obtain ⟨m1, hmS, F1⟩ : ∃ m1 : Str → Option Value, Has m1 [(Str.ofString "places", Value.ref lp), (Str.ofString "things", Value.ref lt)] ∧ Fr g L1 h1 m1 := ⟨_, ⟨rfl, rfl, trivial⟩, F1⟩
  clear hcd Y
  replace F1 := hmS.fr F1
  with_reducible show wpAny _ _ _ _ _ _
  k_fold
  (repeat' ( (fail_if_success (with_reducible first | show TurnEnd _ _ _ _ _ _ _ _ _ _ | show WhileStep2 _ _ _ _ _ _ _ _ | show wpAny _ _ (eval (Expr.ListComp _ _ _ _) _) _ _ _ | show wpAny _ _ (exec (Stmt.While _ _ _ _) _) _ _ _ | show wpAny _ _ (exec (Stmt.For _ _ _ _ _) _) _ _ _ | show wpAny _ _ (exec (Stmt.Assign _ (Expr.ListComp _ _ _ _) _) _) _ _ _ | show wpAny _ _ (subscriptTail _ _ _ _) _ _ _ | show wpAny _ _ (PySem.call _ _ _) _ _ _ | show wpAny _ _ (compareOp _ (Value.ref _) _) _ _ _ | show wpAny _ _ (compareOp _ _ (Value.ref _)) _ _ _ | show wpAny _ _ (binaryOp _ (Value.ref _) _) _ _ _ | show wpAny _ _ (setItem _ _ _) _ _ _)); first | (k_unfold; (try dsimp only)) | walk1 | (dsimp only; walk1) | (leave1; (try dsimp only)) | fail "no step"))
  rename Fr _ _ _ _ => F2
  rename News _ _ _ _ => N2
  rename_i a0 h2 o0 l2 hs0 hd0 _ _ _ _
  refine For_open ?_
  (repeat' ( (fail_if_success (with_reducible first | show TurnEnd _ _ _ _ _ _ _ _ _ _ | show WhileStep2 _ _ _ _ _ _ _ _ | show wpAny _ _ (eval (Expr.ListComp _ _ _ _) _) _ _ _ | show wpAny _ _ (exec (Stmt.While _ _ _ _) _) _ _ _ | show wpAny _ _ (exec (Stmt.For _ _ _ _ _) _) _ _ _ | show wpAny _ _ (exec (Stmt.Assign _ (Expr.ListComp _ _ _ _) _) _) _ _ _ | show wpAny _ _ (subscriptTail _ _ _ _) _ _ _ | show wpAny _ _ (PySem.call _ _ _) _ _ _ | show wpAny _ _ (compareOp _ (Value.ref _) _) _ _ _ | show wpAny _ _ (compareOp _ _ (Value.ref _)) _ _ _ | show wpAny _ _ (binaryOp _ (Value.ref _) _) _ _ _ | show wpAny _ _ (setItem _ _ _) _ _ _)); first | (k_unfold; (try dsimp only)) | walk1 | (dsimp only; walk1) | (leave1; (try dsimp only)) | fail "no step"))
  rename Fr _ _ _ _ => F2
  have hKc : ∀ e ∈ K0, e.1 ≠ L1 + 1 := fun e he q => by have := l0 e he; rw [q] at this; exact absurd this (by show ¬ L1 + 1 < L1; exact Nat.not_lt.mpr (Nat.le_succ _))
  have hpl : pvs.length = P.length := by rw [hDp.length, List.length_map]
  have htl : tvs.length = things.length := by rw [hDt.length, List.length_map]
  refine ForAt_list (news := (a0, o0) :: ([(L1 + 1, oc)] ++ K0)) (vs := pvs) (l := lp) (n := pn) (by rfl) F2 (by assumption) (by simp [hlp]) (.inl ⟨_, _, rfl⟩)
    (fun i m nx => ∃ T val a c v₀, Has m [(Str.ofString "tree", .ref a), (Str.ofString "things", .ref lt)] ∧ (∀ e ∈ K0, e ∈ nx) ∧ (L1 + 1, c) ∈ nx ∧ c.data = .cell v₀ ∧ (∀ e ∈ T, e ∈ nx ∧ e.1 ≠ L1 + 1 ∧ ∀ k ∈ K0, k.1 < e.1) ∧ TreeM PySem.Challenge.rw_ij0018_01.row.prog w T K0 (P.take i) (thTo things (P.take i)) val ∧ val [] = .ref a)
    ⟨[(a0, o0)], fun _ => .ref a0, a0, oc, none, ⟨rfl, rfl, trivial⟩, fun e he => by simp [he], by simp, hc0, fun e he => ?_, ?_, rfl⟩ ?_ ?_
  · rw [List.mem_singleton.mp he]
    refine ⟨.head _, fun q => ?_, fun k hk => l2 k (by simp [hk])⟩
    have := l2 (L1 + 1, oc) (by simp)
    have q : a0 = L1 + 1 := q
    rw [q] at this; exact Nat.lt_irrefl _ this
  · have e : thTo things ([] : List Way) = fun _ => none := by funext r; simp [thTo]
    rw [List.take_zero, e]
    exact TreeM.empty hd0 hs0 (.head _) fun k hk => Nat.ne_of_lt (l2 k (by simp [hk]))
  · clear F2
    rintro i v m3 nx h3 tk3 Ia oI hiv ⟨T, val, a, c, v₀, hm3, hK, hcm, hcc, hT, M, hv0⟩ hlm F1 N1 off
    replace F1 := hm3.fr F1
    have hi : i < P.length := by rw [← hpl]; exact (List.getElem?_eq_some_iff.mp hiv).1
    obtain ⟨v', hv', hDv⟩ := hDp.get (k := i) (by rw [List.length_map]; exact hi)
    obtain rfl : v' = v := Option.some.inj (hv'.symm.trans hiv)
    rw [List.getElem_map] at hDv
    have hPi : P[i]? = some P[i] := List.getElem?_eq_getElem hi
    have hqP : P[i] ∈ P := List.getElem_mem hi
    generalize P[i] = q at *
    obtain ⟨p', x', rfl, hpP, hpth⟩ := hord i _ hPi
    have hl3q : p'.length ≤ 2 := by have := hl3 _ hqP; rw [List.length_append, List.length_singleton] at this; omega
    have hokq := hok _ hqP
    have hqT : p' ++ [x'] ∉ P.take i := nodup_take hnd hPi
    have hNe : isNest (P.take i) (thTo things (P.take i)) p' := ⟨hpP, by unfold thTo; split <;> first | exact hpth | rfl⟩
    obtain ⟨at_, qvs, qn, rfl, hatm, hDq⟩ := DatIn.tup hDv
    have hql : qvs.length = p'.length + 1 := by rw [hDq.length, List.length_map, List.length_append, List.length_singleton]
    dsimp only
    (repeat' ( (fail_if_success (with_reducible first | show TurnEnd _ _ _ _ _ _ _ _ _ _ | show WhileStep2 _ _ _ _ _ _ _ _ | show wpAny _ _ (eval (Expr.ListComp _ _ _ _) _) _ _ _ | show wpAny _ _ (exec (Stmt.While _ _ _ _) _) _ _ _ | show wpAny _ _ (exec (Stmt.For _ _ _ _ _) _) _ _ _ | show wpAny _ _ (exec (Stmt.Assign _ (Expr.ListComp _ _ _ _) _) _) _ _ _ | show wpAny _ _ (subscriptTail _ _ _ _) _ _ _ | show wpAny _ _ (PySem.call _ _ _) _ _ _ | show wpAny _ _ (compareOp _ (Value.ref _) _) _ _ _ | show wpAny _ _ (compareOp _ _ (Value.ref _)) _ _ _ | show wpAny _ _ (binaryOp _ (Value.ref _) _) _ _ _ | show wpAny _ _ (setItem _ _ _) _ _ _)); first | (k_unfold; (try dsimp only)) | walk1 | (dsimp only; walk1) | (leave1; (try dsimp only)) | fail "no step"))
    refine led_cell F1 N1 (by rfl) (.tail _ hcm) hcc ?_ (by rfl) (by rfl)
    clear F1
    intro h5 c5 news5 F1 N5 hd5 hm5 hk5 ho5
    have N1 : News g L1 h5 ((Ia, oI) :: (L1 + 1, c5) :: (T ++ K0)) := News.sub N5 fun e he => by
      rcases List.mem_cons.mp he with rfl | he
      · exact hk5 _ (.head _) (Ne.symm (off _ hcm))
      rcases List.mem_cons.mp he with rfl | he
      · exact hm5
      rcases List.mem_append.mp he with he | he
      · exact hk5 _ (.tail _ (hT e he).1) (hT e he).2.1
      · exact hk5 _ (.tail _ (hK e he)) (hKc e he)
    have off1 : ∀ e ∈ (L1 + 1, c5) :: (T ++ K0), e.1 ≠ Ia := fun e he => by
      rcases List.mem_cons.mp he with rfl | he
      · exact off (L1 + 1, c) hcm
      rcases List.mem_append.mp he with he | he
      · exact off _ (hT e he).1
      · exact off _ (hK e he)
    clear N5 hk5 ho5 hm5 hcm hcc off hK
    have hTc : ∀ e ∈ T, e.1 ≠ L1 + 1 ∧ ∀ k ∈ K0, k.1 < e.1 := fun e he => (hT e he).2
    clear hT
    (repeat' ( (fail_if_success (with_reducible first | show TurnEnd _ _ _ _ _ _ _ _ _ _ | show WhileStep2 _ _ _ _ _ _ _ _ | show wpAny _ _ (eval (Expr.ListComp _ _ _ _) _) _ _ _ | show wpAny _ _ (exec (Stmt.While _ _ _ _) _) _ _ _ | show wpAny _ _ (exec (Stmt.For _ _ _ _ _) _) _ _ _ | show wpAny _ _ (exec (Stmt.Assign _ (Expr.ListComp _ _ _ _) _) _) _ _ _ | show wpAny _ _ (subscriptTail _ _ _ _) _ _ _ | show wpAny _ _ (PySem.call _ _ _) _ _ _ | show wpAny _ _ (compareOp _ (Value.ref _) _) _ _ _ | show wpAny _ _ (compareOp _ _ (Value.ref _)) _ _ _ | show wpAny _ _ (binaryOp _ (Value.ref _) _) _ _ _ | show wpAny _ _ (setItem _ _ _) _ _ _)); first | (k_unfold; (try dsimp only)) | walk1 | (dsimp only; walk1) | (leave1; (try dsimp only)) | fail "no step"))
    refine For_open ?_
    (repeat' ( (fail_if_success (with_reducible first | show TurnEnd _ _ _ _ _ _ _ _ _ _ | show WhileStep2 _ _ _ _ _ _ _ _ | show wpAny _ _ (eval (Expr.ListComp _ _ _ _) _) _ _ _ | show wpAny _ _ (exec (Stmt.While _ _ _ _) _) _ _ _ | show wpAny _ _ (exec (Stmt.For _ _ _ _ _) _) _ _ _ | show wpAny _ _ (exec (Stmt.Assign _ (Expr.ListComp _ _ _ _) _) _) _ _ _ | show wpAny _ _ (subscriptTail _ _ _ _) _ _ _ | show wpAny _ _ (PySem.call _ _ _) _ _ _ | show wpAny _ _ (compareOp _ (Value.ref _) _) _ _ _ | show wpAny _ _ (compareOp _ _ (Value.ref _)) _ _ _ | show wpAny _ _ (binaryOp _ (Value.ref _) _) _ _ _ | show wpAny _ _ (setItem _ _ _) _ _ _)); first | (k_unfold; (try dsimp only)) | walk1 | (dsimp only; walk1) | (leave1; (try dsimp only)) | fail "no step"))
    rename Fr _ _ _ _ => F5
    rename News _ _ _ _ => N5
    refine tup_upto F5 N5 (t := at_) (vs := qvs) (n := qn) (by walk_at "m:mem") ?_ (by rw [hql, sizeLine_eq]; omega)
    clear F5 N5
    intro D6 h6 tl6 j6 F6 N6 hfr6 hD6
    have hcut : cut (-1) qvs.length = p'.length := by rw [hql]; unfold cut; simp
    rw [hcut] at hD6
    (repeat' ( (fail_if_success (with_reducible first | show TurnEnd _ _ _ _ _ _ _ _ _ _ | show WhileStep2 _ _ _ _ _ _ _ _ | show wpAny _ _ (eval (Expr.ListComp _ _ _ _) _) _ _ _ | show wpAny _ _ (exec (Stmt.While _ _ _ _) _) _ _ _ | show wpAny _ _ (exec (Stmt.For _ _ _ _ _) _) _ _ _ | show wpAny _ _ (exec (Stmt.Assign _ (Expr.ListComp _ _ _ _) _) _) _ _ _ | show wpAny _ _ (subscriptTail _ _ _ _) _ _ _ | show wpAny _ _ (PySem.call _ _ _) _ _ _ | show wpAny _ _ (compareOp _ (Value.ref _) _) _ _ _ | show wpAny _ _ (compareOp _ _ (Value.ref _)) _ _ _ | show wpAny _ _ (binaryOp _ (Value.ref _) _) _ _ _ | show wpAny _ _ (setItem _ _ _) _ _ _)); first | (k_unfold; (try dsimp only)) | walk1 | (dsimp only; walk1) | (leave1; (try dsimp only)) | fail "no step"))
    rename Fr _ _ _ _ => F6
    rename News _ _ _ _ => N6
    have hDq' : DatAll K0 (qvs.take p'.length) (p'.map .str) := by
      rw [List.map_append] at hDq
      have e := Mine.DatAll.take hDq p'.length
      rwa [List.take_left' (by rw [List.length_map])] at e
    have hlq : (qvs.take p'.length).length = p'.length := by rw [hDq'.length, List.length_map]
    refine ForAt_tuple (news := tl6 ++ ((Ia, oI) :: (L1 + 1, c5) :: (T ++ K0))) (vs := qvs.take p'.length) (t := D6) (n := j6) (by rfl) F6 N6 hD6 ⟨_, _, rfl⟩
      (fun j m nx => nx = tl6 ++ ((Ia, oI) :: (L1 + 1, c5) :: (T ++ K0)) ∧ Has m [(Str.ofString "tree", .ref a), (Str.ofString "things", .ref lt), (Str.ofString "table", val (p'.take j))])
      ⟨rfl, ⟨rfl, rfl, by rw [List.take_zero, hv0]; rfl, trivial⟩⟩ ?_ ?_
    · clear F6 N6
      rintro j v7 m7 nx7 h7 tk7 I7 oI7 hjv ⟨rfl, hm7⟩ hlm7 F1 N1 off7
      replace F1 := hm7.fr F1
      have hj : j < p'.length := by rw [← hlq]; exact (List.getElem?_eq_some_iff.mp hjv).1
      obtain ⟨v', hv', hDv⟩ := hDq'.get (k := j) (by rw [List.length_map]; exact hj)
      obtain rfl : v' = v7 := Option.some.inj (hv'.symm.trans hjv)
      rw [List.getElem_map] at hDv
      have hpj : p'[j]? = some p'[j] := List.getElem?_eq_getElem hj
      generalize p'[j] = y at *
      obtain ⟨ty, rfl⟩ := DatIn.strV hDv
      have e1 := take_succ hpj
      have hin : p'.take (j + 1) ∈ P.take i := by
        rcases hpP with rfl | hpP
        · exact absurd hj (by simp)
        · exact M.upTo hpP (j + 1) (by omega) (by omega)
      have hNj : isNest (P.take i) (thTo things (P.take i)) (p'.take j) := M.closed _ y (by rw [← e1]; exact hin)
      obtain ⟨aj, oj, hvj, hsj, haj, hdj⟩ := M.nest _ hNj.1 hNj.2
      have hvq := valueAt_kids (P.take i) val (p'.take j) y
      rw [← e1, if_pos hin] at hvq
      rw [hvj] at F1
      dsimp only
      (repeat' ( (fail_if_success (with_reducible first | show TurnEnd _ _ _ _ _ _ _ _ _ _ | show WhileStep2 _ _ _ _ _ _ _ _ | show wpAny _ _ (eval (Expr.ListComp _ _ _ _) _) _ _ _ | show wpAny _ _ (exec (Stmt.While _ _ _ _) _) _ _ _ | show wpAny _ _ (exec (Stmt.For _ _ _ _ _) _) _ _ _ | show wpAny _ _ (exec (Stmt.Assign _ (Expr.ListComp _ _ _ _) _) _) _ _ _ | show wpAny _ _ (subscriptTail _ _ _ _) _ _ _ | show wpAny _ _ (PySem.call _ _ _) _ _ _ | show wpAny _ _ (compareOp _ (Value.ref _) _) _ _ _ | show wpAny _ _ (compareOp _ _ (Value.ref _)) _ _ _ | show wpAny _ _ (binaryOp _ (Value.ref _) _) _ _ _ | show wpAny _ _ (setItem _ _ _) _ _ _)); first | (k_unfold; (try dsimp only)) | walk1 | (dsimp only; walk1) | (leave1; (try dsimp only)) | fail "no step"))
      rename News _ _ _ _ => N7
      refine dict_get N7 (d := aj) (o := oj) (by
        refine .tail _ (List.mem_append_right _ (.tail _ (.tail _ (List.mem_append_left _ haj))))) hdj hvq ?_
      (repeat' ( (fail_if_success (with_reducible first | show TurnEnd _ _ _ _ _ _ _ _ _ _ | show WhileStep2 _ _ _ _ _ _ _ _ | show wpAny _ _ (eval (Expr.ListComp _ _ _ _) _) _ _ _ | show wpAny _ _ (exec (Stmt.While _ _ _ _) _) _ _ _ | show wpAny _ _ (exec (Stmt.For _ _ _ _ _) _) _ _ _ | show wpAny _ _ (exec (Stmt.Assign _ (Expr.ListComp _ _ _ _) _) _) _ _ _ | show wpAny _ _ (subscriptTail _ _ _ _) _ _ _ | show wpAny _ _ (PySem.call _ _ _) _ _ _ | show wpAny _ _ (compareOp _ (Value.ref _) _) _ _ _ | show wpAny _ _ (compareOp _ _ (Value.ref _)) _ _ _ | show wpAny _ _ (binaryOp _ (Value.ref _) _) _ _ _ | show wpAny _ _ (setItem _ _ _) _ _ _)); first | (k_unfold; (try dsimp only)) | walk1 | (dsimp only; walk1) | (leave1; (try dsimp only)) | fail "no step"))
      rename Fr _ _ _ _ => F7
      rename News _ _ _ _ => N7
      refine TurnEnd.next _ _ F7 N7 off7 (by intro e he; rw [List.mem_singleton.mp he]; exact hlm7) ⟨rfl, ⟨rfl, rfl, rfl, trivial⟩⟩
    · clear F6 N6
      rintro m7 nx7 h7 tk7 ⟨rfl, hm7⟩ hlm7 F1 N1
      rw [hlq, List.take_length] at hm7
      replace F1 := hm7.fr F1
      obtain ⟨ap, op, hvp, hsp, hap, hdp⟩ := M.nest _ hNe.1 hNe.2
      rw [hvp] at F1
      dsimp only
      (repeat' ( (fail_if_success (with_reducible first | show TurnEnd _ _ _ _ _ _ _ _ _ _ | show WhileStep2 _ _ _ _ _ _ _ _ | show wpAny _ _ (eval (Expr.ListComp _ _ _ _) _) _ _ _ | show wpAny _ _ (exec (Stmt.While _ _ _ _) _) _ _ _ | show wpAny _ _ (exec (Stmt.For _ _ _ _ _) _) _ _ _ | show wpAny _ _ (exec (Stmt.Assign _ (Expr.ListComp _ _ _ _) _) _) _ _ _ | show wpAny _ _ (subscriptTail _ _ _ _) _ _ _ | show wpAny _ _ (PySem.call _ _ _) _ _ _ | show wpAny _ _ (compareOp _ (Value.ref _) _) _ _ _ | show wpAny _ _ (compareOp _ _ (Value.ref _)) _ _ _ | show wpAny _ _ (binaryOp _ (Value.ref _) _) _ _ _ | show wpAny _ _ (setItem _ _ _) _ _ _)); first | (k_unfold; (try dsimp only)) | walk1 | (dsimp only; walk1) | (leave1; (try dsimp only)) | fail "no step"))
      obtain ⟨K1, hK1⟩ : ∃ K1 : Led, K1 = tl6 ++ ((Ia, oI) :: (L1 + 1, c5) :: (T ++ K0)) := ⟨_, rfl⟩
      have hcK1 : (L1 + 1, c5) ∈ K1 := by rw [hK1]; simp
      have hK0K1 : ∀ e ∈ K0, e ∈ K1 := fun e he => by rw [hK1]; simp [he]
      have hTK1 : ∀ e ∈ T, e ∈ K1 := fun e he => by rw [hK1]; simp [he]
      have hIK1 : (Ia, oI) ∈ K1 := by rw [hK1]; simp
      rw [← hK1] at N1
      refine Comp_assign (by rfl) (by with_unfolding_all rfl) (by rfl) (by decide) ?_
      (repeat' ( (fail_if_success (with_reducible first | show TurnEnd _ _ _ _ _ _ _ _ _ _ | show WhileStep2 _ _ _ _ _ _ _ _ | show wpAny _ _ (eval (Expr.ListComp _ _ _ _) _) _ _ _ | show wpAny _ _ (exec (Stmt.While _ _ _ _) _) _ _ _ | show wpAny _ _ (exec (Stmt.For _ _ _ _ _) _) _ _ _ | show wpAny _ _ (exec (Stmt.Assign _ (Expr.ListComp _ _ _ _) _) _) _ _ _ | show wpAny _ _ (subscriptTail _ _ _ _) _ _ _ | show wpAny _ _ (PySem.call _ _ _) _ _ _ | show wpAny _ _ (compareOp _ (Value.ref _) _) _ _ _ | show wpAny _ _ (compareOp _ _ (Value.ref _)) _ _ _ | show wpAny _ _ (binaryOp _ (Value.ref _) _) _ _ _ | show wpAny _ _ (setItem _ _ _) _ _ _)); first | (k_unfold; (try dsimp only)) | walk1 | (dsimp only; walk1) | (leave1; (try dsimp only)) | fail "no step"))
      refine CompAt_listA (keep := K1) (news := K1) (by rfl) (by rfl) (by rfl) (by decide) (by rfl) F1 N1 (fun _ h => h) (hK0K1 _ hlt) (by rw [htl, sizeLine_eq]; omega)
        (fun i ys nx => nx = K1 ∧ DatAll K0 ys (((things.take i).filter fun t => decide (t.1 = p' ++ [x'])).map (·.2))) (Tgt.pair _ _ _ _ _ _ ?_ ?_ ?_ ?_) ⟨rfl, .nil⟩ ?_ ?_
      · rfl
      · rfl
      · decide
      · intro k v hkv
        have hk : k < things.length := by rw [← htl]; exact (List.getElem?_eq_some_iff.mp hkv).1
        obtain ⟨v', hv', hDv⟩ := hDt.get (k := k) (by rw [List.length_map]; exact hk)
        obtain rfl : v' = v := Option.some.inj (hv'.symm.trans hkv)
        rw [List.getElem_map] at hDv
        obtain ⟨tt, ttv, ttn, rfl, httm, hDtt⟩ := DatIn.tup hDv
        obtain ⟨a1, b1, rfl⟩ := two_vals hDtt
        exact ⟨tt, a1, b1, ttn, rfl, hK0K1 _ httm⟩
      · intro k v ys nx I8 oI8 C oC D m8 h8 tk8 E8 hkv hJ hkeep hx hC F' N' off8
        obtain ⟨rfl, hDs⟩ := hJ
        obtain ⟨TT, aw, bw, kk, rfl, hTT, hm8a, hm8b⟩ := hx
        have hk : k < things.length := by rw [← htl]; exact (List.getElem?_eq_some_iff.mp hkv).1
        obtain ⟨v', hv', hDv⟩ := hDt.get (k := k) (by rw [List.length_map]; exact hk)
        obtain rfl : v' = .ref TT := Option.some.inj (hv'.symm.trans hkv)
        rw [List.getElem_map] at hDv
        have hki : things[k]? = some things[k] := List.getElem?_eq_getElem hk
        have htk : things[k] ∈ things := List.getElem_mem hk
        generalize things[k] = t at *
        obtain ⟨TT', ttv, ttn, e, httm, hDtt⟩ := DatIn.tup hDv
        injection e with e
        subst e
        have N'' := N'
        have hobj : tupObj [aw, bw] kk = tupObj ttv ttn := Option.some.inj ((N' _ (.tail _ (.tail _ (.tail _ hTT)))).1.symm.trans (N' _ (.tail _ (.tail _ (.tail _ (hK0K1 _ httm))))).1)
        obtain rfl : ttv = [aw, bw] := by
          have := congrArg Obj.data hobj
          injection this with h1 _
          have := congrArg Array.toList h1
          simpa using this.symm
        cases hDtt with
        | cons hDa hDb =>
        cases hDb with
        | cons hDb _ =>
        refine wpAny_tests_one ?_
        clear F1 N1
        (repeat' ( (fail_if_success (with_reducible first | show TurnEnd _ _ _ _ _ _ _ _ _ _ | show WhileStep2 _ _ _ _ _ _ _ _ | show wpAny _ _ (eval (Expr.ListComp _ _ _ _) _) _ _ _ | show wpAny _ _ (exec (Stmt.While _ _ _ _) _) _ _ _ | show wpAny _ _ (exec (Stmt.For _ _ _ _ _) _) _ _ _ | show wpAny _ _ (exec (Stmt.Assign _ (Expr.ListComp _ _ _ _) _) _) _ _ _ | show wpAny _ _ (subscriptTail _ _ _ _) _ _ _ | show wpAny _ _ (PySem.call _ _ _) _ _ _ | show wpAny _ _ (compareOp _ (Value.ref _) _) _ _ _ | show wpAny _ _ (compareOp _ _ (Value.ref _)) _ _ _ | show wpAny _ _ (binaryOp _ (Value.ref _) _) _ _ _ | show wpAny _ _ (setItem _ _ _) _ _ _)); first | (k_unfold; (try dsimp only)) | walk1 | (dsimp only; walk1) | (leave1; (try dsimp only)) | fail "no step"))
        have hsubN : ∀ e ∈ K0, e ∈ (I8, oI8) :: (C, oC) :: (D, lst ys) :: nx := fun e he => .tail _ (.tail _ (.tail _ (hK0K1 e he)))
        refine way_eq (p := t.1) (q := p' ++ [x']) (I := K0) (I' := K0) N' hDa (.tuple hatm hDq) hsubN hsubN (hokt t htk).1 hokq ?_ ?_
        · ktr_units
        by_cases htq : t.1 = p' ++ [x']
        · simp only [htq, decide_true]
          (repeat' ( (fail_if_success (with_reducible first | show TurnEnd _ _ _ _ _ _ _ _ _ _ | show WhileStep2 _ _ _ _ _ _ _ _ | show wpAny _ _ (eval (Expr.ListComp _ _ _ _) _) _ _ _ | show wpAny _ _ (exec (Stmt.While _ _ _ _) _) _ _ _ | show wpAny _ _ (exec (Stmt.For _ _ _ _ _) _) _ _ _ | show wpAny _ _ (exec (Stmt.Assign _ (Expr.ListComp _ _ _ _) _) _) _ _ _ | show wpAny _ _ (subscriptTail _ _ _ _) _ _ _ | show wpAny _ _ (PySem.call _ _ _) _ _ _ | show wpAny _ _ (compareOp _ (Value.ref _) _) _ _ _ | show wpAny _ _ (compareOp _ _ (Value.ref _)) _ _ _ | show wpAny _ _ (binaryOp _ (Value.ref _) _) _ _ _ | show wpAny _ _ (setItem _ _ _) _ _ _)); first | (k_unfold; (try dsimp only)) | walk1 | (dsimp only; walk1) | (leave1; (try dsimp only)) | fail "no step"))
          refine ElEnd.grow [] F' N' (by ((intro x hx; (try simp only [List.mem_append, List.mem_cons, List.not_mem_nil, or_false, false_or] at hx); (repeat' (refine Or.elim hx (fun hx => ?_) (fun hx => ?_))); (all_goals (first | (subst hx; walk_at "m:mem") | walk_at "m:mem" | (exfalso; exact hx)))))) .nil off8 hkeep ⟨rfl, ?_⟩
          rw [filter_take hki, if_pos (by simpa using htq), List.map_append]
          exact hDs.append (DatAll.one hDb)
        · simp only [htq, decide_false]
          (repeat' ( (fail_if_success (with_reducible first | show TurnEnd _ _ _ _ _ _ _ _ _ _ | show WhileStep2 _ _ _ _ _ _ _ _ | show wpAny _ _ (eval (Expr.ListComp _ _ _ _) _) _ _ _ | show wpAny _ _ (exec (Stmt.While _ _ _ _) _) _ _ _ | show wpAny _ _ (exec (Stmt.For _ _ _ _ _) _) _ _ _ | show wpAny _ _ (exec (Stmt.Assign _ (Expr.ListComp _ _ _ _) _) _) _ _ _ | show wpAny _ _ (subscriptTail _ _ _ _) _ _ _ | show wpAny _ _ (PySem.call _ _ _) _ _ _ | show wpAny _ _ (compareOp _ (Value.ref _) _) _ _ _ | show wpAny _ _ (compareOp _ _ (Value.ref _)) _ _ _ | show wpAny _ _ (binaryOp _ (Value.ref _) _) _ _ _ | show wpAny _ _ (setItem _ _ _) _ _ _)); first | (k_unfold; (try dsimp only)) | walk1 | (dsimp only; walk1) | (leave1; (try dsimp only)) | fail "no step"))
          refine ElEnd.grow [] F' N' (by ((intro x hx; (try simp only [List.mem_append, List.mem_cons, List.not_mem_nil, or_false, false_or] at hx); (repeat' (refine Or.elim hx (fun hx => ?_) (fun hx => ?_))); (all_goals (first | (subst hx; walk_at "m:mem") | walk_at "m:mem" | (exfalso; exact hx)))))) .nil off8 hkeep ⟨rfl, ?_⟩
          rw [filter_take hki, if_neg (by simpa using htq), List.append_nil]
          exact hDs
      · clear F1 N1
        intro D ys nx h8 tk8 lo hJ hkeep F1 N1 off8
        obtain ⟨rfl, hDs⟩ := hJ
        rw [htl, List.take_length] at hDs
        replace N1 := News.sub (l := (D, lst ys) :: (Ia, oI) :: (L1 + 1, c5) :: (T ++ K0)) N1 fun e he => by
          rcases List.mem_cons.mp he with rfl | he
          · exact .head _
          rcases List.mem_cons.mp he with rfl | he
          · exact .tail _ hIK1
          rcases List.mem_cons.mp he with rfl | he
          · exact .tail _ hcK1
          rcases List.mem_append.mp he with he | he
          · exact .tail _ (hTK1 e he)
          · exact .tail _ (hK0K1 e he)
        have hDlt : ∀ e ∈ (Ia, oI) :: (L1 + 1, c5) :: (T ++ K0), e.1 < D := fun e he => lo e (by
          rcases List.mem_cons.mp he with rfl | he
          · exact hIK1
          rcases List.mem_cons.mp he with rfl | he
          · exact hcK1
          rcases List.mem_append.mp he with he | he
          · exact hTK1 e he
          · exact hK0K1 e he)
        clear lo off8 hkeep hK0K1 hTK1 hIK1 hcK1
        dsimp only
        with_reducible show wpAny _ _ _ _ _ _
        k_fold
        (repeat' ( (fail_if_success (with_reducible first | show TurnEnd _ _ _ _ _ _ _ _ _ _ | show WhileStep2 _ _ _ _ _ _ _ _ | show wpAny _ _ (eval (Expr.ListComp _ _ _ _) _) _ _ _ | show wpAny _ _ (exec (Stmt.While _ _ _ _) _) _ _ _ | show wpAny _ _ (exec (Stmt.For _ _ _ _ _) _) _ _ _ | show wpAny _ _ (exec (Stmt.Assign _ (Expr.ListComp _ _ _ _) _) _) _ _ _ | show wpAny _ _ (subscriptTail _ _ _ _) _ _ _ | show wpAny _ _ (PySem.call _ _ _) _ _ _ | show wpAny _ _ (compareOp _ (Value.ref _) _) _ _ _ | show wpAny _ _ (compareOp _ _ (Value.ref _)) _ _ _ | show wpAny _ _ (binaryOp _ (Value.ref _) _) _ _ _ | show wpAny _ _ (setItem _ _ _) _ _ _)); first | (k_unfold; (try dsimp only)) | walk1 | (dsimp only; walk1) | (leave1; (try dsimp only)) | fail "no step"))
        rename Fr _ _ _ _ => F9
        rename News _ _ _ _ => N9
        rename (∀ p : Addr × Obj, p ∈ _ → p.1 < _) => l9
        have hfa := found_at (things := things) (q := p' ++ [x'])
        have hFok : ∀ d ∈ (things.filter fun t => decide (t.1 = p' ++ [x'])).map (·.2), IsThing d := by
          intro d hd
          obtain ⟨t, ht, rfl⟩ := List.mem_map.mp hd
          exact (hokt t (List.mem_filter.mp ht).1).2
        obtain ⟨fs, hfs⟩ : ∃ fs, fs = (things.filter fun t => decide (t.1 = p' ++ [x'])).map (·.2) := ⟨_, rfl⟩
        rw [← hfs] at hDs hfa hFok
        obtain ⟨b, hb⟩ : ∃ b : Bool, b = decide (fs = []) := ⟨_, rfl⟩
        refine dat_ne (c := b) 3 3 (I := (D, lst ys) :: K0) (I' := [_]) (d := .list fs) (e := .list []) N9 (.list (.head _) (hDs.mono fun e he => .tail _ he)) (.list (vs := []) (.head _) .nil) (by ((intro x hx; (try simp only [List.mem_append, List.mem_cons, List.not_mem_nil, or_false, false_or] at hx); (repeat' (refine Or.elim hx (fun hx => ?_) (fun hx => ?_))); (all_goals (first | (subst hx; walk_at "m:mem") | walk_at "m:mem" | (exfalso; exact hx)))))) (by ((intro x hx; (try simp only [List.mem_append, List.mem_cons, List.not_mem_nil, or_false, false_or] at hx); (repeat' (refine Or.elim hx (fun hx => ?_) (fun hx => ?_))); (all_goals (first | (subst hx; walk_at "m:mem") | walk_at "m:mem" | (exfalso; exact hx)))))) ?_ rfl (by omega) (by omega) ?_ (by rw [hb, decide_eq_true_eq]; simp) ?_
        · simp only [kqdOk, List.all_eq_true]
          intro d hd
          exact kqdOk_thing (hFok d hd) 1
        · ktr_units
        cases b with
        | true =>
          have hfs0 : fs = [] := by simpa using hb.symm
          rw [hfs0] at hfa
          (repeat' ( (fail_if_success (with_reducible first | show TurnEnd _ _ _ _ _ _ _ _ _ _ | show WhileStep2 _ _ _ _ _ _ _ _ | show wpAny _ _ (eval (Expr.ListComp _ _ _ _) _) _ _ _ | show wpAny _ _ (exec (Stmt.While _ _ _ _) _) _ _ _ | show wpAny _ _ (exec (Stmt.For _ _ _ _ _) _) _ _ _ | show wpAny _ _ (exec (Stmt.Assign _ (Expr.ListComp _ _ _ _) _) _) _ _ _ | show wpAny _ _ (subscriptTail _ _ _ _) _ _ _ | show wpAny _ _ (PySem.call _ _ _) _ _ _ | show wpAny _ _ (compareOp _ (Value.ref _) _) _ _ _ | show wpAny _ _ (compareOp _ _ (Value.ref _)) _ _ _ | show wpAny _ _ (binaryOp _ (Value.ref _) _) _ _ _ | show wpAny _ _ (setItem _ _ _) _ _ _)); first | (k_unfold; (try dsimp only)) | walk1 | (dsimp only; walk1) | (leave1; (try dsimp only)) | fail "no step"))
          rename News _ _ _ _ => N9
          rename_i D4 h4 o4 _ _ _ _ _ _ _
          rename (∀ p : Addr × Obj, p ∈ _ → p.1 < D4) => l4
          rename ((D4 == sysModules) = false) => hs4
          rename (Obj.IsDictOf (PySem.strKind _ _) o4 []) => hd4
          obtain ⟨ws, lv, rfl, hws, hlv⟩ := DatAll.snoc_inv (ds := p'.map .str) (d := .str x') (by rw [List.map_append] at hDq; exact hDq)
          obtain ⟨tx, rfl⟩ := DatIn.strV hlv
          refine tup_last N9 (vs := ws) (x := .str x' tx) (n := qn) (by walk_at "m:mem") ?_
          (repeat' ( (fail_if_success (with_reducible first | show TurnEnd _ _ _ _ _ _ _ _ _ _ | show WhileStep2 _ _ _ _ _ _ _ _ | show wpAny _ _ (eval (Expr.ListComp _ _ _ _) _) _ _ _ | show wpAny _ _ (exec (Stmt.While _ _ _ _) _) _ _ _ | show wpAny _ _ (exec (Stmt.For _ _ _ _ _) _) _ _ _ | show wpAny _ _ (exec (Stmt.Assign _ (Expr.ListComp _ _ _ _) _) _) _ _ _ | show wpAny _ _ (subscriptTail _ _ _ _) _ _ _ | show wpAny _ _ (PySem.call _ _ _) _ _ _ | show wpAny _ _ (compareOp _ (Value.ref _) _) _ _ _ | show wpAny _ _ (compareOp _ _ (Value.ref _)) _ _ _ | show wpAny _ _ (binaryOp _ (Value.ref _) _) _ _ _ | show wpAny _ _ (setItem _ _ _) _ _ _)); first | (k_unfold; (try dsimp only)) | walk1 | (dsimp only; walk1) | (leave1; (try dsimp only)) | fail "no step"))
          rename Fr _ _ _ _ => F9
          rename News _ _ _ _ => N9
          refine dict_set F9 N9 (d := ap) (o := op) (by walk_at "m:mem") hdp ?_ (by
            show (kids _ _ _).length ≤ sizeLine
            rw [sizeLine_eq]
            unfold kids kidsOf
            rw [List.length_map]
            have h1 := List.length_filter_le (isKid p') (P.take i)
            rw [List.length_take] at h1
            omega)
          clear F9 N9
          intro h10 news10 o10 F10 N10 hm10 hd10 hk10 ho10
          (repeat' ( (fail_if_success (with_reducible first | show TurnEnd _ _ _ _ _ _ _ _ _ _ | show WhileStep2 _ _ _ _ _ _ _ _ | show wpAny _ _ (eval (Expr.ListComp _ _ _ _) _) _ _ _ | show wpAny _ _ (exec (Stmt.While _ _ _ _) _) _ _ _ | show wpAny _ _ (exec (Stmt.For _ _ _ _ _) _) _ _ _ | show wpAny _ _ (exec (Stmt.Assign _ (Expr.ListComp _ _ _ _) _) _) _ _ _ | show wpAny _ _ (subscriptTail _ _ _ _) _ _ _ | show wpAny _ _ (PySem.call _ _ _) _ _ _ | show wpAny _ _ (compareOp _ (Value.ref _) _) _ _ _ | show wpAny _ _ (compareOp _ _ (Value.ref _)) _ _ _ | show wpAny _ _ (binaryOp _ (Value.ref _) _) _ _ _ | show wpAny _ _ (setItem _ _ _) _ _ _)); first | (k_unfold; (try dsimp only)) | walk1 | (dsimp only; walk1) | (leave1; (try dsimp only)) | fail "no step"))
          have haI : Ia ≠ ap := fun e => off1 (ap, op) (by simp [hap]) e.symm
          have hac : L1 + 1 ≠ ap := fun e => (hTc _ hap).1 e.symm
          have haK : ∀ e ∈ K0, e.1 ≠ ap := fun e he => Nat.ne_of_lt ((hTc _ hap).2 e he)
          have hth2 := thTo_snoc (things := things) (P := P.take i) (q := p' ++ [x'])
          rw [hfa] at hth2
          dsimp only [List.head?] at hth2
          have hP2 : P.take (i + 1) = P.take i ++ [p' ++ [x']] := by rw [List.take_add_one, hPi]; rfl
          have hD4a : D4 ≠ ap := fun e => by have := l4 (ap, op) (by simp [hap]); rw [e] at this; exact Nat.lt_irrefl _ this
          refine TurnEnd.next _ ((L1 + 1, c5) :: (((ap, o10) :: (D4, o4) :: T.filter (fun e => decide (e.1 ≠ ap))) ++ K0)) F10 (News.sub N10 ?_) ?_ ?_ ⟨(ap, o10) :: (D4, o4) :: T.filter (fun e => decide (e.1 ≠ ap)), upd val (p' ++ [x']) (.ref D4), a, c5, _, ⟨rfl, rfl, trivial⟩, ?_, .head _, hd5, ?_, ?_, ?_⟩
          · intro e he
            rcases List.mem_cons.mp he with rfl | he
            · exact hk10 _ (by simp) haI
            rcases List.mem_cons.mp he with rfl | he
            · exact hk10 _ (by simp) hac
            rcases List.mem_append.mp he with he | he
            · rcases List.mem_cons.mp he with rfl | he
              · exact hm10
              rcases List.mem_cons.mp he with rfl | he
              · exact hk10 _ (by simp) hD4a
              obtain ⟨h1, h2⟩ := List.mem_filter.mp he
              exact hk10 _ (by simp [h1]) (by simpa using h2)
            · exact hk10 _ (by simp [he]) (haK e he)
          · intro e he
            rcases List.mem_cons.mp he with rfl | he
            · exact off1 _ (.head _)
            rcases List.mem_append.mp he with he | he
            · rcases List.mem_cons.mp he with rfl | he
              · exact Ne.symm haI
              rcases List.mem_cons.mp he with rfl | he
              · exact fun q => by have := l4 (Ia, oI) (by simp); rw [← q] at this; exact Nat.lt_irrefl _ this
              exact off1 _ (by simp [(List.mem_filter.mp he).1])
            · exact off1 _ (by simp [he])
          · intro e he
            rw [List.mem_singleton.mp he]
            exact .tail _ (List.mem_append_right _ hlp)
          · exact fun e he => .tail _ (List.mem_append_right _ he)
          · intro e he
            refine ⟨.tail _ (List.mem_append_left _ he), ?_⟩
            rcases List.mem_cons.mp he with rfl | he
            · exact hTc (ap, op) hap
            rcases List.mem_cons.mp he with rfl | he
            · exact ⟨fun q => by have := l4 (L1 + 1, c5) (by simp); rw [← q] at this; exact Nat.lt_irrefl _ this, fun k hk => l4 k (by simp [hk])⟩
            exact hTc _ (List.mem_filter.mp he).1
          · rw [hP2, hth2]
            exact M.addNest hNe hqT hvp hd10 hd4 hs4 (fun e he => l4 e (by simp [he])) (fun e he => l4 e (by simp [he])) (fun e he hne => .tail _ (.tail _ (List.mem_filter.mpr ⟨he, by simpa using hne⟩))) (.head _) (.tail _ (.head _))
          · rw [upd_ne _ _ (snoc_ne p' x').symm]; exact hv0
        | false =>
          obtain ⟨d0, fs', rfl⟩ : ∃ d0 fs', fs = d0 :: fs' := by
            cases fs with
            | nil => simp at hb
            | cons d r => exact ⟨d, r, rfl⟩
          cases hDs with
          | @cons v0 ys' _ _ hv0d hDs' =>
          (repeat' ( (fail_if_success (with_reducible first | show TurnEnd _ _ _ _ _ _ _ _ _ _ | show WhileStep2 _ _ _ _ _ _ _ _ | show wpAny _ _ (eval (Expr.ListComp _ _ _ _) _) _ _ _ | show wpAny _ _ (exec (Stmt.While _ _ _ _) _) _ _ _ | show wpAny _ _ (exec (Stmt.For _ _ _ _ _) _) _ _ _ | show wpAny _ _ (exec (Stmt.Assign _ (Expr.ListComp _ _ _ _) _) _) _ _ _ | show wpAny _ _ (subscriptTail _ _ _ _) _ _ _ | show wpAny _ _ (PySem.call _ _ _) _ _ _ | show wpAny _ _ (compareOp _ (Value.ref _) _) _ _ _ | show wpAny _ _ (compareOp _ _ (Value.ref _)) _ _ _ | show wpAny _ _ (binaryOp _ (Value.ref _) _) _ _ _ | show wpAny _ _ (setItem _ _ _) _ _ _)); first | (k_unfold; (try dsimp only)) | walk1 | (dsimp only; walk1) | (leave1; (try dsimp only)) | fail "no step"))
          rename News _ _ _ _ => N9
          refine lst_item N9 (l := D) (vs := v0 :: ys') (n := (v0 :: ys').length) (by walk_at "m:mem") (by decide) (by decide) (x := v0) (by rfl) ?_
          (repeat' ( (fail_if_success (with_reducible first | show TurnEnd _ _ _ _ _ _ _ _ _ _ | show WhileStep2 _ _ _ _ _ _ _ _ | show wpAny _ _ (eval (Expr.ListComp _ _ _ _) _) _ _ _ | show wpAny _ _ (exec (Stmt.While _ _ _ _) _) _ _ _ | show wpAny _ _ (exec (Stmt.For _ _ _ _ _) _) _ _ _ | show wpAny _ _ (exec (Stmt.Assign _ (Expr.ListComp _ _ _ _) _) _) _ _ _ | show wpAny _ _ (subscriptTail _ _ _ _) _ _ _ | show wpAny _ _ (PySem.call _ _ _) _ _ _ | show wpAny _ _ (compareOp _ (Value.ref _) _) _ _ _ | show wpAny _ _ (compareOp _ _ (Value.ref _)) _ _ _ | show wpAny _ _ (binaryOp _ (Value.ref _) _) _ _ _ | show wpAny _ _ (setItem _ _ _) _ _ _)); first | (k_unfold; (try dsimp only)) | walk1 | (dsimp only; walk1) | (leave1; (try dsimp only)) | fail "no step"))
          rename News _ _ _ _ => N9
          obtain ⟨ws, lv, rfl, hws, hlv⟩ := DatAll.snoc_inv (ds := p'.map .str) (d := .str x') (by rw [List.map_append] at hDq; exact hDq)
          obtain ⟨tx, rfl⟩ := DatIn.strV hlv
          refine tup_last N9 (vs := ws) (x := .str x' tx) (n := qn) (by walk_at "m:mem") ?_
          (repeat' ( (fail_if_success (with_reducible first | show TurnEnd _ _ _ _ _ _ _ _ _ _ | show WhileStep2 _ _ _ _ _ _ _ _ | show wpAny _ _ (eval (Expr.ListComp _ _ _ _) _) _ _ _ | show wpAny _ _ (exec (Stmt.While _ _ _ _) _) _ _ _ | show wpAny _ _ (exec (Stmt.For _ _ _ _ _) _) _ _ _ | show wpAny _ _ (exec (Stmt.Assign _ (Expr.ListComp _ _ _ _) _) _) _ _ _ | show wpAny _ _ (subscriptTail _ _ _ _) _ _ _ | show wpAny _ _ (PySem.call _ _ _) _ _ _ | show wpAny _ _ (compareOp _ (Value.ref _) _) _ _ _ | show wpAny _ _ (compareOp _ _ (Value.ref _)) _ _ _ | show wpAny _ _ (binaryOp _ (Value.ref _) _) _ _ _ | show wpAny _ _ (setItem _ _ _) _ _ _)); first | (k_unfold; (try dsimp only)) | walk1 | (dsimp only; walk1) | (leave1; (try dsimp only)) | fail "no step"))
          rename Fr _ _ _ _ => F9
          rename News _ _ _ _ => N9
          refine dict_set F9 N9 (d := ap) (o := op) (by walk_at "m:mem") hdp ?_ (by
            show (kids _ _ _).length ≤ sizeLine
            rw [sizeLine_eq]
            unfold kids kidsOf
            rw [List.length_map]
            have h1 := List.length_filter_le (isKid p') (P.take i)
            rw [List.length_take] at h1
            omega)
          clear F9 N9
          intro h10 news10 o10 F10 N10 hm10 hd10 hk10 ho10
          (repeat' ( (fail_if_success (with_reducible first | show TurnEnd _ _ _ _ _ _ _ _ _ _ | show WhileStep2 _ _ _ _ _ _ _ _ | show wpAny _ _ (eval (Expr.ListComp _ _ _ _) _) _ _ _ | show wpAny _ _ (exec (Stmt.While _ _ _ _) _) _ _ _ | show wpAny _ _ (exec (Stmt.For _ _ _ _ _) _) _ _ _ | show wpAny _ _ (exec (Stmt.Assign _ (Expr.ListComp _ _ _ _) _) _) _ _ _ | show wpAny _ _ (subscriptTail _ _ _ _) _ _ _ | show wpAny _ _ (PySem.call _ _ _) _ _ _ | show wpAny _ _ (compareOp _ (Value.ref _) _) _ _ _ | show wpAny _ _ (compareOp _ _ (Value.ref _)) _ _ _ | show wpAny _ _ (binaryOp _ (Value.ref _) _) _ _ _ | show wpAny _ _ (setItem _ _ _) _ _ _)); first | (k_unfold; (try dsimp only)) | walk1 | (dsimp only; walk1) | (leave1; (try dsimp only)) | fail "no step"))
          have haI : Ia ≠ ap := fun e => off1 (ap, op) (by simp [hap]) e.symm
          have hac : L1 + 1 ≠ ap := fun e => (hTc _ hap).1 e.symm
          have haK : ∀ e ∈ K0, e.1 ≠ ap := fun e he => Nat.ne_of_lt ((hTc _ hap).2 e he)
          have hth2 := thTo_snoc (things := things) (P := P.take i) (q := p' ++ [x'])
          rw [hfa] at hth2
          dsimp only [List.head?] at hth2
          have hP2 : P.take (i + 1) = P.take i ++ [p' ++ [x']] := by rw [List.take_add_one, hPi]; rfl
          refine TurnEnd.next _ ((L1 + 1, c5) :: (((ap, o10) :: T.filter (fun e => decide (e.1 ≠ ap))) ++ K0)) F10 (News.sub N10 ?_) ?_ ?_ ⟨(ap, o10) :: T.filter (fun e => decide (e.1 ≠ ap)), upd val (p' ++ [x']) v0, a, c5, _, ⟨rfl, rfl, trivial⟩, ?_, .head _, hd5, ?_, ?_, ?_⟩
          · intro e he
            rcases List.mem_cons.mp he with rfl | he
            · exact hk10 _ (by simp) haI
            rcases List.mem_cons.mp he with rfl | he
            · exact hk10 _ (by simp) hac
            rcases List.mem_append.mp he with he | he
            · rcases List.mem_cons.mp he with rfl | he
              · exact hm10
              obtain ⟨h1, h2⟩ := List.mem_filter.mp he
              exact hk10 _ (by simp [h1]) (by simpa using h2)
            · exact hk10 _ (by simp [he]) (haK e he)
          · intro e he
            rcases List.mem_cons.mp he with rfl | he
            · exact off1 _ (.head _)
            rcases List.mem_append.mp he with he | he
            · rcases List.mem_cons.mp he with rfl | he
              · exact Ne.symm haI
              exact off1 _ (by simp [(List.mem_filter.mp he).1])
            · exact off1 _ (by simp [he])
          · intro e he
            rw [List.mem_singleton.mp he]
            exact .tail _ (List.mem_append_right _ hlp)
          · exact fun e he => .tail _ (List.mem_append_right _ he)
          · intro e he
            refine ⟨.tail _ (List.mem_append_left _ he), ?_⟩
            rcases List.mem_cons.mp he with rfl | he
            · exact hTc (ap, op) hap
            exact hTc _ (List.mem_filter.mp he).1
          · rw [hP2, hth2]
            exact M.addThing hNe hqT hvp hd10 hv0d (fun _ h => h) (fun p1 a1 hn1 hv1 e he => M.apart p1 a1 hn1 hv1 e he) (fun e he hne => .tail _ (List.mem_filter.mpr ⟨he, by simpa using hne⟩)) (.head _)
          · rw [upd_ne _ _ (snoc_ne p' x').symm]; exact hv0
  · clear F2
    rintro m3 nx h3 tk3 ⟨T, val, a, c, v₀, hm3, hK, hcm, hcc, hT, M, hv0⟩ hlm F1 N1
    replace F1 := hm3.fr F1
    rw [hpl, List.take_length] at M
    dsimp only
    (repeat' ( (fail_if_success (with_reducible first | show TurnEnd _ _ _ _ _ _ _ _ _ _ | show WhileStep2 _ _ _ _ _ _ _ _ | show wpAny _ _ (eval (Expr.ListComp _ _ _ _) _) _ _ _ | show wpAny _ _ (exec (Stmt.While _ _ _ _) _) _ _ _ | show wpAny _ _ (exec (Stmt.For _ _ _ _ _) _) _ _ _ | show wpAny _ _ (exec (Stmt.Assign _ (Expr.ListComp _ _ _ _) _) _) _ _ _ | show wpAny _ _ (subscriptTail _ _ _ _) _ _ _ | show wpAny _ _ (PySem.call _ _ _) _ _ _ | show wpAny _ _ (compareOp _ (Value.ref _) _) _ _ _ | show wpAny _ _ (compareOp _ _ (Value.ref _)) _ _ _ | show wpAny _ _ (binaryOp _ (Value.ref _) _) _ _ _ | show wpAny _ _ (setItem _ _ _) _ _ _)); first | (k_unfold; (try dsimp only)) | walk1 | (dsimp only; walk1) | (leave1; (try dsimp only)) | fail "no step"))
    rename Fr h₀ _ _ _ => kF
    rename News h₀ _ _ _ => kN
    refine hret _ _ _ _ kF (News.sub (l := T ++ K0) kN fun e he => (List.mem_append.mp he).elim (fun h => (hT e h).1) (hK e)) ⟨T, T, val, a, rfl, fun e he k hk => (hT e he).2.2 k hk, rfl, M, hv0, fun e he => List.mem_append_left _ he⟩
end
section
open PySem PySem.W PyProof.Rows PySem.Calls PyProof.V PySem.SeqAt PySem.MeetsSeq
set_option maxRecDepth 100000
section
variable {prog : Program} {w : World} {A : Around} {E : Value → Shared → Prop} {s : Shared} {h₀ : Heap} {L : Addr} {m : Str → Option Value} {news I I' : Led} {a : Value} {Q : Value → Shared → Prop}
/-- where a way first stands in a list of ways -/
theorem way_index {l : Addr} {vs : List Value} {n : Nat} {ps : List Way} {p : Way} {j : Nat} (N : News h₀ L s.heap news) (hm : (l, listOf vs.toArray n) ∈ news) (Ds : DatAll I vs (ps.map wayD)) (Da : DatIn I' a (wayD p)) (sa : ∀ p ∈ I, p ∈ news) (sb : ∀ p ∈ I', p ∈ news)
    (hps : ∀ p ∈ ps, WOk p) (hp : WOk p) (hj : ps[j]? = some p) (hno : ∀ k < j, ps[k]? ≠ some p) (hu : A.units + 64 < cLine) (hsz : ps.length ≤ 1000) (h : Q (.int (j : Nat) s.toks) { s with toks := s.toks + 1 }) :
    wpAny (model prog w) A (call (.builtin "list.index") [.ref l, a]) Q E s := by
  have ho := (N _ hm).1
  obtain ⟨as, ra⟩ := kqd_all N 8 (Ds.mono sa) (waysD_ok hps 7)
  obtain ⟨bs, rx⟩ := kqd_in N 8 (Da.mono sb) (wayD_ok hp 7)
  have l1 := kqd_layL (waysD_ok hps 7)
  have ld := kqd_lay 8 _ (wayD_ok hp 7)
  have hlen : vs.length = ps.length := by rw [Ds.length, List.length_map]
  have hjl : j < ps.length := (List.getElem?_eq_some_iff.mp hj).1
  have hread : ∀ (k : Nat) (hk : k < vs.length), PyData.eqv (readOf s.heap vs[k]) (kqdP (wayD p)) = decide (ps[k]? = some p) := by
    intro k hk
    obtain ⟨v, hv, hD⟩ := Ds.get (k := k) (by rw [List.length_map, ← hlen]; exact hk)
    have e1 : vs[k] = v := by rw [List.getElem?_eq_getElem hk] at hv; exact Option.some.inj hv
    rw [List.getElem_map] at hD
    have hpk : ps[k]? = some ps[k] := List.getElem?_eq_getElem (by omega)
    have hok := hps _ (List.mem_of_getElem? hpk)
    obtain ⟨cs, rv⟩ := kqd_in N 8 (hD.mono sa) (wayD_ok hok 7)
    rw [e1, readOf_eq (kqd_lay 8 _ (wayD_ok hok 7)).1 rv, hpk]
    have q := kqd_eqv 8 (wayD ps[k]) (wayD p) 8 (wayD_ok hok 7) (wayD_ok hp 7)
    rw [wayD_inj] at q
    by_cases hh : ps[k] = p
    · rw [q.mpr hh]; simp [hh]
    · rw [Bool.eq_false_iff.mpr fun z => hh (q.mp z)]; simp [hh]
  have l2 := ld.2
  refine call_meets PySem.F.slot_list_index ⟨_, ho, rfl⟩ PySem.F.entry_list_index (PySem.F.args_list_index_2 _ _)
    (list_indexAt l vs.toArray n none #[] a (fun y => PyData.eqv (readOf s.heap y) (kqdP (wayD p))) j (by simpa [hlen] using hjl) (by omega) ?_ ?_) ⟨ho, fun y hy => ?_, h⟩
  · show PyData.eqv (readOf s.heap vs[j]) _ = true
    rw [hread j (by omega)]; simpa using hj
  · intro k hk hkj
    show PyData.eqv (readOf s.heap vs[k]) _ = false
    rw [hread k (by simpa using hk)]; simpa using hno k hkj
  · refine items_eqAt (A := A) (vs := vs.toArray) (xs := kqdPs (ps.map wayD)) (as := as) (by simpa using ra) rx l1.1 ld.1 ?_ y hy
    have := Nat.min_le_right (PyData.depthAll (kqdPs (ps.map wayD))) (kqdP (wayD p)).depth
    omega
/-- len(t) of a tuple in the ledger -/
theorem led_len {t : Addr} {vs : List Value} {n k : Nat} (hk : vs.length = k) (N : News h₀ L s.heap news) (hm : (t, tupObj vs n) ∈ news) (hz : k ≤ 1000)
    (h : Q (.int (k : Nat) (s.toks + 1)) { s with toks := s.toks + 1 + 1 }) : wpAny (model prog w) A (call (.builtin "len") [.ref t]) Q E s := by
  subst hk
  have z : vs.toArray.size = vs.length := List.size_toArray
  refine PySem.P.len_tuple (N _ hm).1 (by rw [z]; omega) ?_
  rw [z]
  exact h
end
theorem cut_nat (k n : Nat) : cut (k : Int) n = min k n := by
  unfold cut
  rw [if_neg (by omega), Int.toNat_natCast]
theorem take_cut {α : Type} (vs : List α) (k : Nat) : vs.take (cut (k : Int) vs.length) = vs.take k := by
  rw [cut_nat]
  rcases Nat.le_total k vs.length with h | h
  · rw [Nat.min_eq_left h]
  · rw [Nat.min_eq_right h, List.take_length, List.take_of_length_le h]
end
section
open PySem PySem.W PyProof.Rows PyProof.Rows.LCg
noncomputable def aheadW (pl : Row) (j : Nat) (s : Way) : Row := (pl.take (j + 1)).filter fun p => decide (p.take s.length ≠ s)
noncomputable def moreD (pl : Row) (j : Nat) (f s : Way) : Dat := if f.take s.length = s then .str (Str.ofString "Inconsistent hierarchy") else rowD (aheadW pl j s ++ pl.filter fun p => decide (p ∉ aheadW pl j s))

set_option maxRecDepth 100000 in
set_option maxHeartbeats 8000000 in
theorem more_does (w : World) (K0 : Led) (lp : Addr) (pvs : List Value) (pn : Nat) (pl : Row) (f s' : Way) (fv sv : Value) (j : Nat) (hlp : (lp, listOf pvs.toArray pn) ∈ K0) (hDp : DatAll K0 pvs (pl.map wayD)) (hf : DatIn K0 fv (wayD f)) (hs : DatIn K0 sv (wayD s'))
    (hpn : pl.length ≤ 900) (hok : ∀ q ∈ pl, WOk q) (hokf : WOk f) (hoks : WOk s') (hl3 : ∀ q ∈ pl, q.length ≤ 3) (hf3 : f.length ≤ 3) (hs3 : s'.length ≤ 3) (hj : pl[j]? = some f) (hno : ∀ k < j, pl[k]? ≠ some f) :
    Does w 105 [.ref lp, fv, sv] 20 2000 K0 (fun news' r => ∃ tl, news' = tl ++ K0 ∧ Fresh tl K0 ∧ DatIn (tl ++ K0) r (moreD pl j f s')) := by
  obtain ⟨af, fvs, fn, rfl, haf, hDf⟩ := DatIn.tup hf
  obtain ⟨as, svs, sn, rfl, has, hDs⟩ := DatIn.tup hs
  have hfl : fvs.length = f.length := by rw [hDf.length, List.length_map]
  have hsl : svs.length = s'.length := by rw [hDs.length, List.length_map]
  have hpl : pvs.length = pl.length := by rw [hDp.length, List.length_map]
  unfold Does
  k_fill
  intro p loose mean mg mb dp un gd cn cs ad ccd cl outer A₀ base h₀ L m s Q E B F X N Tp hk hd hu hret
  refine wpAny_call ?_
  k_dflt ((refine' code_defC ?k1 ?k2 ?k3 ?k4 ?k5 ?kA ?kF ?kK ?k6 ?k7 ?k8 ?k9 ?kB ?kD ?_ ?c2 ?c3 ?c4; (case kA => exact rfl); (case kF => exact rfl); (case kK => assumption); (case k1 => k_asm); (case k2 => k_asm); (case k3 => k_asm); (case k4 => k_asm); (case k5 => k_asm); (case k6 => k_is); (case k7 => k_is); (case k8 => ktr_room); (case k9 => exact BindsTo.of_eq rfl); (case kB => exact rfl); (case kD => decide +kernel); (case c2 => exact rfl); (case c3 => exact rfl); (case c4 => exact rfl); k_whole))
  intro g L1 h1 tk1 cells FG F1 N1 Y B1 X1 T1 l0
  obtain ⟨o1, o2, rfl, hc1, hc2⟩ := CellsAre.two Y
  replace hc2 := hc2.trans (by with_unfolding_all rfl : _ = Data.cell (some (Value.ref as)))
  replace hc1 := hc1.trans (by with_unfolding_all rfl : _ = Data.cell none)
  obtain ⟨m1, hmS, F1⟩ : ∃ m1 : Str → Option Value, Has m1 [(Str.ofString "plain", Value.ref lp), (Str.ofString "first", .ref af)] ∧ Fr g L1 h1 m1 := ⟨_, ⟨rfl, rfl, trivial⟩, F1⟩
  clear Y
  replace F1 := hmS.fr F1
  have N1 : News g L1 h1 ((L1 + 1 + 1, o1) :: (L1 + 1, o2) :: K0) := N1
  with_reducible show wpAny _ _ _ _ _ _
  k_fold
  (repeat' ( (fail_if_success (with_reducible first | show TurnEnd _ _ _ _ _ _ _ _ _ _ | show WhileStep2 _ _ _ _ _ _ _ _ | show wpAny _ _ (eval (Expr.ListComp _ _ _ _) _) _ _ _ | show wpAny _ _ (exec (Stmt.While _ _ _ _) _) _ _ _ | show wpAny _ _ (exec (Stmt.For _ _ _ _ _) _) _ _ _ | show wpAny _ _ (exec (Stmt.Assign _ (Expr.ListComp _ _ _ _) _) _) _ _ _ | show wpAny _ _ (subscriptTail _ _ _ _) _ _ _ | show wpAny _ _ (PySem.call _ _ _) _ _ _ | show wpAny _ _ (compareOp _ (Value.ref _) _) _ _ _ | show wpAny _ _ (compareOp _ _ (Value.ref _)) _ _ _ | show wpAny _ _ (binaryOp _ (Value.ref _) _) _ _ _ | show wpAny _ _ (setItem _ _ _) _ _ _)); first | (k_unfold; (try dsimp only)) | walk1 | (dsimp only; walk1) | (leave1; (try dsimp only)) | fail "no step"))
  refine led_len hsl N1 (n := sn) (by walk_at "m:mem") (by omega) ?_
  (repeat' ( (fail_if_success (with_reducible first | show TurnEnd _ _ _ _ _ _ _ _ _ _ | show WhileStep2 _ _ _ _ _ _ _ _ | show wpAny _ _ (eval (Expr.ListComp _ _ _ _) _) _ _ _ | show wpAny _ _ (exec (Stmt.While _ _ _ _) _) _ _ _ | show wpAny _ _ (exec (Stmt.For _ _ _ _ _) _) _ _ _ | show wpAny _ _ (exec (Stmt.Assign _ (Expr.ListComp _ _ _ _) _) _) _ _ _ | show wpAny _ _ (subscriptTail _ _ _ _) _ _ _ | show wpAny _ _ (PySem.call _ _ _) _ _ _ | show wpAny _ _ (compareOp _ (Value.ref _) _) _ _ _ | show wpAny _ _ (compareOp _ _ (Value.ref _)) _ _ _ | show wpAny _ _ (binaryOp _ (Value.ref _) _) _ _ _ | show wpAny _ _ (setItem _ _ _) _ _ _)); first | (k_unfold; (try dsimp only)) | walk1 | (dsimp only; walk1) | (leave1; (try dsimp only)) | fail "no step"))
  refine tup_upto F1 N1 (t := af) (vs := fvs) (n := fn) (by walk_at "m:mem") ?_ (by rw [hfl, sizeLine_eq]; omega)
  clear F1
  intro D2 h2 tl2 j2 F1 N2 hfr2 hD2
  rw [take_cut] at hD2
  have N1' : News g L1 h2 ((L1 + 1 + 1, o1) :: (L1 + 1, o2) :: (tl2 ++ K0)) := News.sub N2 (by ((intro x hx; (try simp only [List.mem_append, List.mem_cons, List.not_mem_nil, or_false, false_or] at hx); (repeat' (refine Or.elim hx (fun hx => ?_) (fun hx => ?_))); (all_goals (first | (subst hx; walk_at "m:mem") | walk_at "m:mem" | (exfalso; exact hx))))))
  (repeat' ( (fail_if_success (with_reducible first | show TurnEnd _ _ _ _ _ _ _ _ _ _ | show WhileStep2 _ _ _ _ _ _ _ _ | show wpAny _ _ (eval (Expr.ListComp _ _ _ _) _) _ _ _ | show wpAny _ _ (exec (Stmt.While _ _ _ _) _) _ _ _ | show wpAny _ _ (exec (Stmt.For _ _ _ _ _) _) _ _ _ | show wpAny _ _ (exec (Stmt.Assign _ (Expr.ListComp _ _ _ _) _) _) _ _ _ | show wpAny _ _ (subscriptTail _ _ _ _) _ _ _ | show wpAny _ _ (PySem.call _ _ _) _ _ _ | show wpAny _ _ (compareOp _ (Value.ref _) _) _ _ _ | show wpAny _ _ (compareOp _ _ (Value.ref _)) _ _ _ | show wpAny _ _ (binaryOp _ (Value.ref _) _) _ _ _ | show wpAny _ _ (setItem _ _ _) _ _ _)); first | (k_unfold; (try dsimp only)) | walk1 | (dsimp only; walk1) | (leave1; (try dsimp only)) | fail "no step"))
  have hD2d : DatIn ((D2, tupObj (fvs.take s'.length) j2) :: K0) (.ref D2) (wayD (f.take s'.length)) := by
    refine .tuple (.head _) ?_
    have e := (Mine.DatAll.take hDf s'.length).mono (news' := (D2, tupObj (fvs.take s'.length) j2) :: K0) fun e he => .tail _ he
    rw [← List.map_take] at e
    exact e
  have hokft : WOk (f.take s'.length) := fun y hy => hokf y (List.mem_of_mem_take hy)
  refine way_eq (p := f.take s'.length) (q := s') N1' hD2d hs (fun e he => by
    rcases List.mem_cons.mp he with rfl | he
    · rcases List.mem_append.mp hD2 with h | h
      · exact .tail _ (.tail _ (List.mem_append_left _ h))
      rcases List.mem_cons.mp h with h | h
      · rw [h]; exact .head _
      rcases List.mem_cons.mp h with h | h
      · rw [h]; exact .tail _ (.head _)
      · exact .tail _ (.tail _ (List.mem_append_right _ h))
    · exact .tail _ (.tail _ (List.mem_append_right _ he))) (fun e he => .tail _ (.tail _ (List.mem_append_right _ he))) hokft hoks ?_ ?_
  · ktr_units
  by_cases hu1 : f.take s'.length = s'
  · simp only [hu1, decide_true]
    (repeat' ( (fail_if_success (with_reducible first | show TurnEnd _ _ _ _ _ _ _ _ _ _ | show WhileStep2 _ _ _ _ _ _ _ _ | show wpAny _ _ (eval (Expr.ListComp _ _ _ _) _) _ _ _ | show wpAny _ _ (exec (Stmt.While _ _ _ _) _) _ _ _ | show wpAny _ _ (exec (Stmt.For _ _ _ _ _) _) _ _ _ | show wpAny _ _ (exec (Stmt.Assign _ (Expr.ListComp _ _ _ _) _) _) _ _ _ | show wpAny _ _ (subscriptTail _ _ _ _) _ _ _ | show wpAny _ _ (PySem.call _ _ _) _ _ _ | show wpAny _ _ (compareOp _ (Value.ref _) _) _ _ _ | show wpAny _ _ (compareOp _ _ (Value.ref _)) _ _ _ | show wpAny _ _ (binaryOp _ (Value.ref _) _) _ _ _ | show wpAny _ _ (setItem _ _ _) _ _ _)); first | (k_unfold; (try dsimp only)) | walk1 | (dsimp only; walk1) | (leave1; (try dsimp only)) | fail "no step"))
    rename Fr h₀ _ _ _ => kF
    rename News h₀ _ _ _ => kN
    refine hret _ _ _ _ kF (News.sub (l := K0) kN (fun e he => .tail _ (.tail _ (List.mem_append_right _ he)))) ⟨[], rfl, .nil, ?_⟩
    rw [moreD, if_pos hu1]
    exact .str _ _
  · simp only [hu1, decide_false]
    (repeat' ( (fail_if_success (with_reducible first | show TurnEnd _ _ _ _ _ _ _ _ _ _ | show WhileStep2 _ _ _ _ _ _ _ _ | show wpAny _ _ (eval (Expr.ListComp _ _ _ _) _) _ _ _ | show wpAny _ _ (exec (Stmt.While _ _ _ _) _) _ _ _ | show wpAny _ _ (exec (Stmt.For _ _ _ _ _) _) _ _ _ | show wpAny _ _ (exec (Stmt.Assign _ (Expr.ListComp _ _ _ _) _) _) _ _ _ | show wpAny _ _ (subscriptTail _ _ _ _) _ _ _ | show wpAny _ _ (PySem.call _ _ _) _ _ _ | show wpAny _ _ (compareOp _ (Value.ref _) _) _ _ _ | show wpAny _ _ (compareOp _ _ (Value.ref _)) _ _ _ | show wpAny _ _ (binaryOp _ (Value.ref _) _) _ _ _ | show wpAny _ _ (setItem _ _ _) _ _ _)); first | (k_unfold; (try dsimp only)) | walk1 | (dsimp only; walk1) | (leave1; (try dsimp only)) | fail "no step"))
    walk1
    refine Comp_open (by with_unfolding_all rfl) (by rfl) (by decide) ?_
    have N3 : News g L1 h2 ((L1 + 1 + 1, o1) :: (L1 + 1, o2) :: K0) := News.sub N1' (by
      intro e he
      rcases List.mem_cons.mp he with rfl | he
      · exact .head _
      rcases List.mem_cons.mp he with rfl | he
      · exact .tail _ (.head _)
      · exact .tail _ (.tail _ (List.mem_append_right _ he)))
    clear N1' N1 N2 hD2d hD2
    (repeat' ( (fail_if_success (with_reducible first | show TurnEnd _ _ _ _ _ _ _ _ _ _ | show WhileStep2 _ _ _ _ _ _ _ _ | show wpAny _ _ (eval (Expr.ListComp _ _ _ _) _) _ _ _ | show wpAny _ _ (exec (Stmt.While _ _ _ _) _) _ _ _ | show wpAny _ _ (exec (Stmt.For _ _ _ _ _) _) _ _ _ | show wpAny _ _ (exec (Stmt.Assign _ (Expr.ListComp _ _ _ _) _) _) _ _ _ | show wpAny _ _ (subscriptTail _ _ _ _) _ _ _ | show wpAny _ _ (PySem.call _ _ _) _ _ _ | show wpAny _ _ (compareOp _ (Value.ref _) _) _ _ _ | show wpAny _ _ (compareOp _ _ (Value.ref _)) _ _ _ | show wpAny _ _ (binaryOp _ (Value.ref _) _) _ _ _ | show wpAny _ _ (setItem _ _ _) _ _ _)); first | (k_unfold; (try dsimp only)) | walk1 | (dsimp only; walk1) | (leave1; (try dsimp only)) | fail "no step"))
    refine way_index (ps := pl) (p := f) (j := j) (vs := pvs) (n := pn) (I := K0) (I' := K0) N3 (by walk_at "m:mem") hDp hf (fun e he => .tail _ (.tail _ he)) (fun e he => .tail _ (.tail _ he)) hok hokf hj hno ?_ (by omega) ?_
    · ktr_units
    (repeat' ( (fail_if_success (with_reducible first | show TurnEnd _ _ _ _ _ _ _ _ _ _ | show WhileStep2 _ _ _ _ _ _ _ _ | show wpAny _ _ (eval (Expr.ListComp _ _ _ _) _) _ _ _ | show wpAny _ _ (exec (Stmt.While _ _ _ _) _) _ _ _ | show wpAny _ _ (exec (Stmt.For _ _ _ _ _) _) _ _ _ | show wpAny _ _ (exec (Stmt.Assign _ (Expr.ListComp _ _ _ _) _) _) _ _ _ | show wpAny _ _ (subscriptTail _ _ _ _) _ _ _ | show wpAny _ _ (PySem.call _ _ _) _ _ _ | show wpAny _ _ (compareOp _ (Value.ref _) _) _ _ _ | show wpAny _ _ (compareOp _ _ (Value.ref _)) _ _ _ | show wpAny _ _ (binaryOp _ (Value.ref _) _) _ _ _ | show wpAny _ _ (setItem _ _ _) _ _ _)); first | (k_unfold; (try dsimp only)) | walk1 | (dsimp only; walk1) | (leave1; (try dsimp only)) | fail "no step"))
    refine lst_upto (k := j + 1) (vs := pvs) (n := pn) (l := lp) F1 N3 (by walk_at "m:mem") ?_ (by rw [hpl, sizeLine_eq]; omega)
    clear F1 N3
    intro D3 h3 F1 N3 l3
    obtain ⟨K1, hK1⟩ : ∃ K1 : Led, K1 = (D3, listOf (pvs.take (j + 1)).toArray 0) :: (L1 + 1 + 1, o1) :: (L1 + 1, o2) :: K0 := ⟨_, rfl⟩
    rw [← hK1] at N3
    have hcK : (L1 + 1, o2) ∈ K1 := by rw [hK1]; simp
    have hcK' : (L1 + 1 + 1, o1) ∈ K1 := by rw [hK1]; simp
    have hDK : (D3, listOf (pvs.take (j + 1)).toArray 0) ∈ K1 := by rw [hK1]; simp
    have hKK : ∀ e ∈ K0, e ∈ K1 := fun e he => by rw [hK1]; simp [he]
    have hDp3 : DatAll K0 (pvs.take (j + 1)) ((pl.take (j + 1)).map wayD) := by
      have e := Mine.DatAll.take hDp (j + 1)
      rwa [← List.map_take] at e
    have hl3' : (pvs.take (j + 1)).length = (pl.take (j + 1)).length := by rw [hDp3.length, List.length_map]
    refine CompAt_list (keep := K1) (news := K1) (by rfl) (by decide) (by rfl) F1 N3 (fun _ h => h) hDK (by rw [hl3', List.length_take, sizeLine_eq]; omega)
      (fun i ys nx => nx = K1 ∧ DatAll K0 ys ((((pl.take (j + 1)).take i).filter fun p => decide (p.take s'.length ≠ s')).map wayD)) (Tgt.name _ _ (by rfl)) ⟨rfl, .nil⟩ ?_ ?_
    · intro i v ys nx Ia oI C oC D m₂ h tk E' hiv hJ hkeep hx hC F' N' off
      obtain ⟨rfl, hDs'⟩ := hJ
      have hi : i < (pl.take (j + 1)).length := by rw [← hl3']; exact (List.getElem?_eq_some_iff.mp hiv).1
      obtain ⟨v', hv', hDv⟩ := hDp3.get (k := i) (by rw [List.length_map]; exact hi)
      obtain rfl : v' = v := Option.some.inj (hv'.symm.trans hiv)
      rw [List.getElem_map] at hDv
      obtain ⟨q, hq⟩ : ∃ q, q = (pl.take (j + 1))[i] := ⟨_, rfl⟩
      rw [← hq] at hDv
      have hqi : (pl.take (j + 1))[i]? = some q := by rw [hq]; exact List.getElem?_eq_getElem hi
      have hqm : q ∈ pl := List.mem_of_mem_take (List.mem_of_getElem? hqi)
      clear hq
      obtain ⟨aq, qvs, qn, rfl, haq, hDq⟩ := DatIn.tup hDv
      have hql : qvs.length = q.length := by rw [hDq.length, List.length_map]
      have hq3 := hl3 q hqm
      refine wpAny_tests_one ?_
      clear F1 N3
      (repeat' ( (fail_if_success (with_reducible first | show TurnEnd _ _ _ _ _ _ _ _ _ _ | show WhileStep2 _ _ _ _ _ _ _ _ | show wpAny _ _ (eval (Expr.ListComp _ _ _ _) _) _ _ _ | show wpAny _ _ (exec (Stmt.While _ _ _ _) _) _ _ _ | show wpAny _ _ (exec (Stmt.For _ _ _ _ _) _) _ _ _ | show wpAny _ _ (exec (Stmt.Assign _ (Expr.ListComp _ _ _ _) _) _) _ _ _ | show wpAny _ _ (subscriptTail _ _ _ _) _ _ _ | show wpAny _ _ (PySem.call _ _ _) _ _ _ | show wpAny _ _ (compareOp _ (Value.ref _) _) _ _ _ | show wpAny _ _ (compareOp _ _ (Value.ref _)) _ _ _ | show wpAny _ _ (binaryOp _ (Value.ref _) _) _ _ _ | show wpAny _ _ (setItem _ _ _) _ _ _)); first | (k_unfold; (try dsimp only)) | walk1 | (dsimp only; walk1) | (leave1; (try dsimp only)) | fail "no step"))
      refine led_len hsl N' (n := sn) (.tail _ (.tail _ (.tail _ (hKK _ has)))) (by omega) ?_
      (repeat' ( (fail_if_success (with_reducible first | show TurnEnd _ _ _ _ _ _ _ _ _ _ | show WhileStep2 _ _ _ _ _ _ _ _ | show wpAny _ _ (eval (Expr.ListComp _ _ _ _) _) _ _ _ | show wpAny _ _ (exec (Stmt.While _ _ _ _) _) _ _ _ | show wpAny _ _ (exec (Stmt.For _ _ _ _ _) _) _ _ _ | show wpAny _ _ (exec (Stmt.Assign _ (Expr.ListComp _ _ _ _) _) _) _ _ _ | show wpAny _ _ (subscriptTail _ _ _ _) _ _ _ | show wpAny _ _ (PySem.call _ _ _) _ _ _ | show wpAny _ _ (compareOp _ (Value.ref _) _) _ _ _ | show wpAny _ _ (compareOp _ _ (Value.ref _)) _ _ _ | show wpAny _ _ (binaryOp _ (Value.ref _) _) _ _ _ | show wpAny _ _ (setItem _ _ _) _ _ _)); first | (k_unfold; (try dsimp only)) | walk1 | (dsimp only; walk1) | (leave1; (try dsimp only)) | fail "no step"))
      refine tup_upto F' N' (t := aq) (vs := qvs) (n := qn) (.tail _ (.tail _ (.tail _ (hKK _ haq)))) ?_ (by rw [hql, sizeLine_eq]; omega)
      intro D4 h4 tl4 j4 F4 N4 hfr4 hD4
      rw [take_cut] at hD4
      clear F' N'
      (repeat' ( (fail_if_success (with_reducible first | show TurnEnd _ _ _ _ _ _ _ _ _ _ | show WhileStep2 _ _ _ _ _ _ _ _ | show wpAny _ _ (eval (Expr.ListComp _ _ _ _) _) _ _ _ | show wpAny _ _ (exec (Stmt.While _ _ _ _) _) _ _ _ | show wpAny _ _ (exec (Stmt.For _ _ _ _ _) _) _ _ _ | show wpAny _ _ (exec (Stmt.Assign _ (Expr.ListComp _ _ _ _) _) _) _ _ _ | show wpAny _ _ (subscriptTail _ _ _ _) _ _ _ | show wpAny _ _ (PySem.call _ _ _) _ _ _ | show wpAny _ _ (compareOp _ (Value.ref _) _) _ _ _ | show wpAny _ _ (compareOp _ _ (Value.ref _)) _ _ _ | show wpAny _ _ (binaryOp _ (Value.ref _) _) _ _ _ | show wpAny _ _ (setItem _ _ _) _ _ _)); first | (k_unfold; (try dsimp only)) | walk1 | (dsimp only; walk1) | (leave1; (try dsimp only)) | fail "no step"))
      have hK4 : ∀ e ∈ (Ia, oI) :: (C, oC) :: (D, lst ys) :: nx, e ∈ tl4 ++ ((Ia, oI) :: (C, oC) :: (D, lst ys) :: nx) := fun e he => List.mem_append_right _ he
      have hD4d : DatIn ((D4, tupObj (qvs.take s'.length) j4) :: K0) (.ref D4) (wayD (q.take s'.length)) := by
        refine .tuple (.head _) ?_
        have e := (Mine.DatAll.take hDq s'.length).mono (news' := (D4, tupObj (qvs.take s'.length) j4) :: K0) fun e he => .tail _ he
        rw [← List.map_take] at e
        exact e
      have hokqt : WOk (q.take s'.length) := fun y hy => hok q hqm y (List.mem_of_mem_take hy)
      refine way_ne (p := q.take s'.length) (q := s') N4 hD4d hs (fun e he => by
        rcases List.mem_cons.mp he with rfl | he
        · exact hD4
        · exact hK4 _ (.tail _ (.tail _ (.tail _ (hKK e he))))) (fun e he => hK4 _ (.tail _ (.tail _ (.tail _ (hKK e he))))) hokqt hoks ?_ ?_
      · ktr_units
      by_cases hqs : q.take s'.length = s'
      · simp only [hqs, decide_true, Bool.not_true]
        (repeat' ( (fail_if_success (with_reducible first | show TurnEnd _ _ _ _ _ _ _ _ _ _ | show WhileStep2 _ _ _ _ _ _ _ _ | show wpAny _ _ (eval (Expr.ListComp _ _ _ _) _) _ _ _ | show wpAny _ _ (exec (Stmt.While _ _ _ _) _) _ _ _ | show wpAny _ _ (exec (Stmt.For _ _ _ _ _) _) _ _ _ | show wpAny _ _ (exec (Stmt.Assign _ (Expr.ListComp _ _ _ _) _) _) _ _ _ | show wpAny _ _ (subscriptTail _ _ _ _) _ _ _ | show wpAny _ _ (PySem.call _ _ _) _ _ _ | show wpAny _ _ (compareOp _ (Value.ref _) _) _ _ _ | show wpAny _ _ (compareOp _ _ (Value.ref _)) _ _ _ | show wpAny _ _ (binaryOp _ (Value.ref _) _) _ _ _ | show wpAny _ _ (setItem _ _ _) _ _ _)); first | (k_unfold; (try dsimp only)) | walk1 | (dsimp only; walk1) | (leave1; (try dsimp only)) | fail "no step"))
        refine ElEnd.grow [] F4 N4 (by intro e he; exact hK4 e he) .nil off hkeep ⟨rfl, ?_⟩
        rw [filter_take hqi, if_neg (by simpa using hqs), List.append_nil]
        exact hDs'
      · simp only [hqs, decide_false, Bool.not_false]
        (repeat' ( (fail_if_success (with_reducible first | show TurnEnd _ _ _ _ _ _ _ _ _ _ | show WhileStep2 _ _ _ _ _ _ _ _ | show wpAny _ _ (eval (Expr.ListComp _ _ _ _) _) _ _ _ | show wpAny _ _ (exec (Stmt.While _ _ _ _) _) _ _ _ | show wpAny _ _ (exec (Stmt.For _ _ _ _ _) _) _ _ _ | show wpAny _ _ (exec (Stmt.Assign _ (Expr.ListComp _ _ _ _) _) _) _ _ _ | show wpAny _ _ (subscriptTail _ _ _ _) _ _ _ | show wpAny _ _ (PySem.call _ _ _) _ _ _ | show wpAny _ _ (compareOp _ (Value.ref _) _) _ _ _ | show wpAny _ _ (compareOp _ _ (Value.ref _)) _ _ _ | show wpAny _ _ (binaryOp _ (Value.ref _) _) _ _ _ | show wpAny _ _ (setItem _ _ _) _ _ _)); first | (k_unfold; (try dsimp only)) | walk1 | (dsimp only; walk1) | (leave1; (try dsimp only)) | fail "no step"))
        refine ElEnd.grow [] F4 N4 (by intro e he; exact hK4 e he) .nil off hkeep ⟨rfl, ?_⟩
        rw [filter_take hqi, if_pos (by simpa using hqs), List.map_append]
        exact hDs'.append (DatAll.one hDv)
    · clear F1 N3
      intro D ys nx h tk lo hJ hkeep F1 N1 off
      obtain ⟨rfl, hDs'⟩ := hJ
      rw [hl3', List.take_length] at hDs'
      have hahead : ((pl.take (j + 1)).filter fun p => decide (p.take s'.length ≠ s')) = aheadW pl j s' := rfl
      rw [hahead] at hDs'
      have hlo : ∀ e ∈ K0, e.1 < D := fun e he => lo e (hKK e he)
      have hDL1 : D ≠ L1 + 1 := fun e => by have := lo _ hcK; rw [e] at this; exact Nat.lt_irrefl _ this
      have hDL2 : D ≠ L1 + 1 + 1 := fun e => by have := lo _ hcK'; rw [e] at this; exact Nat.lt_irrefl _ this
      have hys : ys.length ≤ 900 := by
        rw [hDs'.length, List.length_map]
        exact Nat.le_trans (List.length_filter_le _ _) (by rw [List.length_take]; omega)
      replace N1 := News.sub (l := (D, lst ys) :: (L1 + 1 + 1, o1) :: (L1 + 1, o2) :: K0) N1 fun e he => by
        rcases List.mem_cons.mp he with rfl | he
        · exact .head _
        rcases List.mem_cons.mp he with rfl | he
        · exact .tail _ hcK'
        rcases List.mem_cons.mp he with rfl | he
        · exact .tail _ hcK
        · exact .tail _ (hKK e he)
      clear lo hkeep off hKK hDK hcK hcK'
      dsimp only
      refine led_cell F1 N1 (by rfl) (.tail _ (.head _)) hc1 ?_ (by rfl) (by rfl)
      clear F1
      intro h5 c5 news5 F1 N5 hd5 hm5 hk5 ho5
      have N6 : News g L1 h5 ((L1 + 1 + 1, c5) :: (D, lst ys) :: (L1 + 1, o2) :: K0) := News.sub N5 fun e he => by
        rcases List.mem_cons.mp he with rfl | he
        · exact hm5
        rcases List.mem_cons.mp he with rfl | he
        · exact hk5 _ (.head _) hDL2
        rcases List.mem_cons.mp he with rfl | he
        · exact hk5 _ (by simp) (Nat.ne_of_lt (Nat.lt_succ_self (L1 + 1)))
        · exact hk5 _ (by simp [he]) (Nat.ne_of_lt (Nat.lt_of_lt_of_le (l0 e he) (Nat.le_trans (Nat.le_succ _) (Nat.le_succ _))))
      clear N5 hk5 ho5 hm5 N1
      (repeat' ( (fail_if_success (with_reducible first | show TurnEnd _ _ _ _ _ _ _ _ _ _ | show WhileStep2 _ _ _ _ _ _ _ _ | show wpAny _ _ (eval (Expr.ListComp _ _ _ _) _) _ _ _ | show wpAny _ _ (exec (Stmt.While _ _ _ _) _) _ _ _ | show wpAny _ _ (exec (Stmt.For _ _ _ _ _) _) _ _ _ | show wpAny _ _ (exec (Stmt.Assign _ (Expr.ListComp _ _ _ _) _) _) _ _ _ | show wpAny _ _ (subscriptTail _ _ _ _) _ _ _ | show wpAny _ _ (PySem.call _ _ _) _ _ _ | show wpAny _ _ (compareOp _ (Value.ref _) _) _ _ _ | show wpAny _ _ (compareOp _ _ (Value.ref _)) _ _ _ | show wpAny _ _ (binaryOp _ (Value.ref _) _) _ _ _ | show wpAny _ _ (setItem _ _ _) _ _ _)); first | (k_unfold; (try dsimp only)) | walk1 | (dsimp only; walk1) | (leave1; (try dsimp only)) | fail "no step"))
      refine Comp_open (by with_unfolding_all rfl) (by rfl) (by decide) ?_
      (repeat' ( (fail_if_success (with_reducible first | show TurnEnd _ _ _ _ _ _ _ _ _ _ | show WhileStep2 _ _ _ _ _ _ _ _ | show wpAny _ _ (eval (Expr.ListComp _ _ _ _) _) _ _ _ | show wpAny _ _ (exec (Stmt.While _ _ _ _) _) _ _ _ | show wpAny _ _ (exec (Stmt.For _ _ _ _ _) _) _ _ _ | show wpAny _ _ (exec (Stmt.Assign _ (Expr.ListComp _ _ _ _) _) _) _ _ _ | show wpAny _ _ (subscriptTail _ _ _ _) _ _ _ | show wpAny _ _ (PySem.call _ _ _) _ _ _ | show wpAny _ _ (compareOp _ (Value.ref _) _) _ _ _ | show wpAny _ _ (compareOp _ _ (Value.ref _)) _ _ _ | show wpAny _ _ (binaryOp _ (Value.ref _) _) _ _ _ | show wpAny _ _ (setItem _ _ _) _ _ _)); first | (k_unfold; (try dsimp only)) | walk1 | (dsimp only; walk1) | (leave1; (try dsimp only)) | fail "no step"))
      obtain ⟨K2, hK2⟩ : ∃ K2 : Led, K2 = (L1 + 1 + 1, c5) :: (D, lst ys) :: (L1 + 1, o2) :: K0 := ⟨_, rfl⟩
      rw [← hK2] at N6
      have hcK : (L1 + 1 + 1, c5) ∈ K2 := by rw [hK2]; simp
      have hDK : (D, lst ys) ∈ K2 := by rw [hK2]; simp
      have hKK : ∀ e ∈ K0, e ∈ K2 := fun e he => by rw [hK2]; simp [he]
      have hoka : ∀ p ∈ aheadW pl j s', WOk p := fun p hp => hok p (List.mem_of_mem_take (List.mem_filter.mp hp).1)
      refine CompAt_list (keep := K2) (news := K2) (by rfl) (by decide) (by rfl) (by assumption) N6 (fun _ h => h) (hKK _ hlp) (by rw [hpl, sizeLine_eq]; omega)
        (fun i ys nx => nx = K2 ∧ DatAll K0 ys (((pl.take i).filter fun p => decide (p ∉ aheadW pl j s')).map wayD)) (Tgt.name _ _ (by rfl)) ⟨rfl, .nil⟩ ?_ ?_
      · intro i v ys' nx' Ia oI C oC D' m₂ h tk E' hiv hJ hkeep hx hC F' N' off
        obtain ⟨rfl, hDs2⟩ := hJ
        have hi : i < pl.length := by rw [← hpl]; exact (List.getElem?_eq_some_iff.mp hiv).1
        obtain ⟨v', hv', hDv⟩ := hDp.get (k := i) (by rw [List.length_map]; exact hi)
        obtain rfl : v' = v := Option.some.inj (hv'.symm.trans hiv)
        rw [List.getElem_map] at hDv
        obtain ⟨q, hq⟩ : ∃ q, q = pl[i] := ⟨_, rfl⟩
        rw [← hq] at hDv
        have hqi : pl[i]? = some q := by rw [hq]; exact List.getElem?_eq_getElem hi
        have hqm : q ∈ pl := List.mem_of_getElem? hqi
        clear hq
        refine wpAny_tests_one ?_
        clear N6
        (repeat' ( (fail_if_success (with_reducible first | show TurnEnd _ _ _ _ _ _ _ _ _ _ | show WhileStep2 _ _ _ _ _ _ _ _ | show wpAny _ _ (eval (Expr.ListComp _ _ _ _) _) _ _ _ | show wpAny _ _ (exec (Stmt.While _ _ _ _) _) _ _ _ | show wpAny _ _ (exec (Stmt.For _ _ _ _ _) _) _ _ _ | show wpAny _ _ (exec (Stmt.Assign _ (Expr.ListComp _ _ _ _) _) _) _ _ _ | show wpAny _ _ (subscriptTail _ _ _ _) _ _ _ | show wpAny _ _ (PySem.call _ _ _) _ _ _ | show wpAny _ _ (compareOp _ (Value.ref _) _) _ _ _ | show wpAny _ _ (compareOp _ _ (Value.ref _)) _ _ _ | show wpAny _ _ (binaryOp _ (Value.ref _) _) _ _ _ | show wpAny _ _ (setItem _ _ _) _ _ _)); first | (k_unfold; (try dsimp only)) | walk1 | (dsimp only; walk1) | (leave1; (try dsimp only)) | fail "no step"))
        obtain ⟨b, hb⟩ : ∃ b : Bool, b = decide (q ∈ aheadW pl j s') := ⟨_, rfl⟩
        refine way_notIn (ps := aheadW pl j s') (p := q) (l := D) (vs := ys) (n := ys.length) (I := K0) (I' := K0) N' (.tail _ (.tail _ (.tail _ hDK))) hDs' hDv (fun e he => .tail _ (.tail _ (.tail _ (hKK e he)))) (fun e he => .tail _ (.tail _ (.tail _ (hKK e he)))) hoka (hok q hqm) ?_ (c := b) (by rw [hb, decide_eq_true_eq]) ?_
        · ktr_units
        cases b with
        | true =>
          have hqa : q ∈ aheadW pl j s' := by simpa using hb.symm
          (repeat' ( (fail_if_success (with_reducible first | show TurnEnd _ _ _ _ _ _ _ _ _ _ | show WhileStep2 _ _ _ _ _ _ _ _ | show wpAny _ _ (eval (Expr.ListComp _ _ _ _) _) _ _ _ | show wpAny _ _ (exec (Stmt.While _ _ _ _) _) _ _ _ | show wpAny _ _ (exec (Stmt.For _ _ _ _ _) _) _ _ _ | show wpAny _ _ (exec (Stmt.Assign _ (Expr.ListComp _ _ _ _) _) _) _ _ _ | show wpAny _ _ (subscriptTail _ _ _ _) _ _ _ | show wpAny _ _ (PySem.call _ _ _) _ _ _ | show wpAny _ _ (compareOp _ (Value.ref _) _) _ _ _ | show wpAny _ _ (compareOp _ _ (Value.ref _)) _ _ _ | show wpAny _ _ (binaryOp _ (Value.ref _) _) _ _ _ | show wpAny _ _ (setItem _ _ _) _ _ _)); first | (k_unfold; (try dsimp only)) | walk1 | (dsimp only; walk1) | (leave1; (try dsimp only)) | fail "no step"))
          refine ElEnd.grow [] F' N' (by ((intro x hx; (try simp only [List.mem_append, List.mem_cons, List.not_mem_nil, or_false, false_or] at hx); (repeat' (refine Or.elim hx (fun hx => ?_) (fun hx => ?_))); (all_goals (first | (subst hx; walk_at "m:mem") | walk_at "m:mem" | (exfalso; exact hx)))))) .nil off hkeep ⟨rfl, ?_⟩
          rw [filter_take hqi, if_neg (by simpa using hqa), List.append_nil]
          exact hDs2
        | false =>
          have hqa : q ∉ aheadW pl j s' := by simpa using hb.symm
          (repeat' ( (fail_if_success (with_reducible first | show TurnEnd _ _ _ _ _ _ _ _ _ _ | show WhileStep2 _ _ _ _ _ _ _ _ | show wpAny _ _ (eval (Expr.ListComp _ _ _ _) _) _ _ _ | show wpAny _ _ (exec (Stmt.While _ _ _ _) _) _ _ _ | show wpAny _ _ (exec (Stmt.For _ _ _ _ _) _) _ _ _ | show wpAny _ _ (exec (Stmt.Assign _ (Expr.ListComp _ _ _ _) _) _) _ _ _ | show wpAny _ _ (subscriptTail _ _ _ _) _ _ _ | show wpAny _ _ (PySem.call _ _ _) _ _ _ | show wpAny _ _ (compareOp _ (Value.ref _) _) _ _ _ | show wpAny _ _ (compareOp _ _ (Value.ref _)) _ _ _ | show wpAny _ _ (binaryOp _ (Value.ref _) _) _ _ _ | show wpAny _ _ (setItem _ _ _) _ _ _)); first | (k_unfold; (try dsimp only)) | walk1 | (dsimp only; walk1) | (leave1; (try dsimp only)) | fail "no step"))
          refine ElEnd.grow [] F' N' (by ((intro x hx; (try simp only [List.mem_append, List.mem_cons, List.not_mem_nil, or_false, false_or] at hx); (repeat' (refine Or.elim hx (fun hx => ?_) (fun hx => ?_))); (all_goals (first | (subst hx; walk_at "m:mem") | walk_at "m:mem" | (exfalso; exact hx)))))) .nil off hkeep ⟨rfl, ?_⟩
          rw [filter_take hqi, if_pos (by simpa using hqa), List.map_append]
          exact hDs2.append (DatAll.one hDv)
      · clear N6
        intro D2 ys2 nx h tk lo hJ hkeep F1 N1 off
        obtain ⟨rfl, hDs2⟩ := hJ
        rw [hpl, List.take_length] at hDs2
        have hys2 : ys2.length ≤ 900 := by
          rw [hDs2.length, List.length_map]
          exact Nat.le_trans (List.length_filter_le _ _) hpn
        (repeat' ( (fail_if_success (with_reducible first | show TurnEnd _ _ _ _ _ _ _ _ _ _ | show WhileStep2 _ _ _ _ _ _ _ _ | show wpAny _ _ (eval (Expr.ListComp _ _ _ _) _) _ _ _ | show wpAny _ _ (exec (Stmt.While _ _ _ _) _) _ _ _ | show wpAny _ _ (exec (Stmt.For _ _ _ _ _) _) _ _ _ | show wpAny _ _ (exec (Stmt.Assign _ (Expr.ListComp _ _ _ _) _) _) _ _ _ | show wpAny _ _ (subscriptTail _ _ _ _) _ _ _ | show wpAny _ _ (PySem.call _ _ _) _ _ _ | show wpAny _ _ (compareOp _ (Value.ref _) _) _ _ _ | show wpAny _ _ (compareOp _ _ (Value.ref _)) _ _ _ | show wpAny _ _ (binaryOp _ (Value.ref _) _) _ _ _ | show wpAny _ _ (setItem _ _ _) _ _ _)); first | (k_unfold; (try dsimp only)) | walk1 | (dsimp only; walk1) | (leave1; (try dsimp only)) | fail "no step"))
        refine kmk_add_lit F1 N1 (its := ys.toArray) (its2 := ys2.toArray) (zs := ys ++ ys2) ⟨_, (N1 _ (.tail _ hDK)).1, rfl, _, rfl⟩ ⟨_, (N1 _ (.head _)).1, rfl, _, rfl⟩ (by simp) ?_ (by simp only [sizeLine_eq]; omega)
        clear F1
        intro D9 h9 F9 N9 l9
        (repeat' ( (fail_if_success (with_reducible first | show TurnEnd _ _ _ _ _ _ _ _ _ _ | show WhileStep2 _ _ _ _ _ _ _ _ | show wpAny _ _ (eval (Expr.ListComp _ _ _ _) _) _ _ _ | show wpAny _ _ (exec (Stmt.While _ _ _ _) _) _ _ _ | show wpAny _ _ (exec (Stmt.For _ _ _ _ _) _) _ _ _ | show wpAny _ _ (exec (Stmt.Assign _ (Expr.ListComp _ _ _ _) _) _) _ _ _ | show wpAny _ _ (subscriptTail _ _ _ _) _ _ _ | show wpAny _ _ (PySem.call _ _ _) _ _ _ | show wpAny _ _ (compareOp _ (Value.ref _) _) _ _ _ | show wpAny _ _ (compareOp _ _ (Value.ref _)) _ _ _ | show wpAny _ _ (binaryOp _ (Value.ref _) _) _ _ _ | show wpAny _ _ (setItem _ _ _) _ _ _)); first | (k_unfold; (try dsimp only)) | walk1 | (dsimp only; walk1) | (leave1; (try dsimp only)) | fail "no step"))
        rename Fr h₀ _ _ _ => kF
        rename News h₀ _ _ _ => kN
        refine hret _ _ _ _ kF (News.sub (l := [(D9, listOf (ys ++ ys2).toArray 0)] ++ K0) kN (fun e he => by
          rcases List.mem_cons.mp he with rfl | he
          · exact .head _
          · exact .tail _ (.tail _ (hKK e he)))) ⟨[(D9, listOf (ys ++ ys2).toArray 0)], rfl, .cons (fun e he => l9 e (.tail _ (hKK e he))) .nil, ?_⟩
        rw [moreD, if_neg hu1]
        unfold rowD
        rw [List.map_append]
        exact .list (.head _) ((hDs'.append hDs2).mono fun e he => .tail _ he)
end
section
open PySem PySem.W PyProof.Rows PyProof.Rows.LCg PySem.Calls
section
variable {prog : Program} {w : World} {A : Around} {E : Value → Shared → Prop} {s : Shared} {h₀ : Heap} {L : Addr} {m : Str → Option Value} {news : Led}
/-- iter(t) of a tuple -/
theorem iter_tup {t : Addr} {vs : List Value} {n : Nat} {Q : Value → Shared → Prop} (F : Fr h₀ L s.heap m) (N : News h₀ L s.heap news) (hm : (t, tupObj vs n) ∈ news)
    (h : ∀ I h' oI, Fr h₀ L h' m → News h₀ L h' ((I, oI) :: news) → (∀ p ∈ news, p.1 < I) → oI.cls = .type "tuple_iterator" → oI.data = .fields #[.ref t, .int 0 0] → Q (.ref I) { s with heap := h' }) :
    wpAny (model prog w) A (call (.builtin "iter") [.ref t]) Q E s := by
  refine call_function_entry (by decide +kernel) (by decide +kernel) kdk_entry_iter (kdk_args_iter _) ?_
  unfold Builtin.«iter»
  refine wpAny_bind (m := someArgs "iter" 1 2 _) (wpAny_of_eq (a := [Value.ref t]) (by first | rfl | kernel_rfl!) ?_)
  show wpAny _ _ (pyIter (.ref t) >>= _) _ _ _
  refine wpAny_bind (wpAny_pyIter_tuple (items := vs.toArray) ⟨_, (N _ hm).1, rfl, n, rfl⟩ ?_)
  exact wpAny_pure ⟨_, rfl, h _ _ _ (F.push _) (News.push F N _ rfl) (fun q hq => Heap.lt_size (N q hq).1) rfl rfl⟩

variable {env : Env} {Q : Flow → Shared → Prop} {target : PySem.Expr} {body orelse : List Stmt}
/-- for over an iterator of a tuple -/
theorem ForAt_tupIter {I t : Addr} {oI : Obj} {vs : List Value} {n : Nat} {m : Str → Option Value} {news : Led} (hh : A.handled = none) (F : Fr h₀ env.locals s.heap m) (N : News h₀ env.locals s.heap ((I, oI) :: news)) (hoff : ∀ p ∈ news, p.1 ≠ I) (hcI : oI.cls = .type "tuple_iterator") (hdI : oI.data = .fields #[.ref t, .int 0 0]) (hl : (t, tupObj vs n) ∈ news)
    (htar : ∃ x px, target = .Name x px)
    (J : Nat → (Str → Option Value) → Led → Prop) (hJ : J 0 m news)
    (turn : ∀ i v m₁ nx h tk oI, vs[i]? = some v → J i m₁ nx → (t, tupObj vs n) ∈ nx → Fr h₀ env.locals h m₁ → News h₀ env.locals h ((I, oI) :: nx) → (∀ p ∈ nx, p.1 ≠ I) →
      wpAny (model prog w) A (assign target env v) (fun _ s₂ => wpAny (model prog w) A (execs body env) (TurnEnd h₀ env.locals I oI [(t, tupObj vs n)] (J (i + 1)) s Q) E s₂) E { s with heap := h, toks := tk })
    (done : ∀ m₁ nx h tk, J vs.length m₁ nx → (t, tupObj vs n) ∈ nx → Fr h₀ env.locals h m₁ → News h₀ env.locals h nx → wpAny (model prog w) A (execs orelse env) Q E { s with heap := h, toks := tk })
    (hE : PassesOwn (model prog w) A env E := by passes_own) : ForAt prog w A E Q env target body orelse (.ref I) s := by
  have hne : t ≠ I := hoff _ hl
  unfold ForAt
  have S := Src.tuple (prog := prog) (w := w) (target := target) (A := A) (I := I) hh hne vs n htar
  refine S.self 0 _ oI _ _ (N _ (.head _)).1 ⟨hcI, hdI⟩ ?_
  refine for_src S (Ne.symm (N _ (.head _)).2.1) (N _ (.head _)).2.2 (N _ (.head _)).1 ⟨hcI, hdI⟩ F (News.sub N fun p hp => .tail _ hp) (fun p hp => by rw [List.mem_singleton.mp hp]; exact hl) hoff J hJ ?_ ?_
  · intro i v m₁ nx h tk oI _ hv hJ' hn F₁ N₁ off
    exact wpAny_mono (turn i v m₁ nx h tk oI hv hJ' (hn _ (.head _)) F₁ N₁ off) (fun _ s₂ h₂ => wpAny_passesOwn hE h₂) hE
  · intro m₁ nx h tk hJ' hn F₁ N₁
    exact wpAny_passesOwn hE (done m₁ nx h tk hJ' (hn _ (.head _)) F₁ N₁)
end
end
section
open PySem PySem.W PyProof.Rows PyProof.Rows.LCg
/-- what lambda table, name: table[name] does -/
def LamOk (w : World) (lam : Addr) (KL : Led) : Prop :=
  ∀ (news : Led) (a : Addr) (o : Obj) (kvs : List (Str × Value)) (y : Str) (ty : Tok) (v : Value), (∀ e ∈ KL, e ∈ news) → (a, o) ∈ news → o.IsDictOf (strKind PySem.Challenge.rw_ij0018_01.row.prog w) kvs → valueAt kvs y = some v →
    Does w lam [.ref a, .str y ty] 5 500 news (fun news' r => r = v ∧ news' = news)
set_option maxRecDepth 100000 in
set_option maxHeartbeats 8000000 in
theorem red_does (w : World) (T I news : Led) (P : List Way) (th : Way → Option Dat) (val : Way → Value) (tr : TreeM PySem.Challenge.rw_ij0018_01.row.prog w T I P th val) (lam : Addr) (olam : Obj) (KL : Led) (hlam : LamOk w lam KL) (hlf : ∃ oc od fd sl, olam = (⟨oc, od, .func fd, sl⟩ : Obj)) (hlo : (lam, olam) ∈ KL) (hlk : ∀ e ∈ KL, e ∈ news)
    (gt d0 : Addr) (gvs : List Value) (gn : Nat) (goal : Way) (hgt : (gt, tupObj gvs gn) ∈ news) (hgv : DatAll I gvs (goal.map .str)) (hT : ∀ e ∈ T, e ∈ news) (hd0 : val [] = .ref d0) (hg : isNest P th goal) (hgl : goal.length ≤ 3) :
    Does w 66 [.ref lam, .ref gt, .ref d0] 20 2000 news (fun news' r => r = val goal ∧ news' = news) := by
  unfold Does
  k_fill
  intro p loose mean mg mb dp un gd cn cs ad ccd cl outer A₀ base h₀ L m s Q E B F X N Tp hk hd hu hret
  have hlm := hlk _ hlo
  refine wpAny_call ?_
  k_dflt (refine' code_def ?k1 ?k2 ?k3 ?k4 ?k5 ?kA ?kF ?kK ?k6 ?k7 ?k8 ?k9 ?kB ?_ ?c2 ?c3 ?c4 ?c5; (case kA => exact rfl); (case kF => exact rfl); (case kK => assumption); (case k1 => k_asm); (case k2 => k_asm); (case k3 => k_asm); (case k4 => k_asm); (case k5 => k_asm); (case k6 => k_is); (case k7 => k_is); (case k8 => ktr_room); (case k9 => first | exact BindsTo.of_eq rfl | exact binds_K (by k_in) rfl (by k_is) rfl rfl rfl); (case c5 => decide); (case kB => exact locs rfl); (case c2 => exact rfl); (case c3 => exact rfl); (case c4 => exact rfl); k_whole)
  intro g L1 h1 FG F1 N1 B1 X1 T1
  obtain ⟨m1, hmS, F1⟩ : ∃ m1 : Str → Option Value, Has m1 [(Str.ofString "function", Value.ref lam), (Str.ofString "sequence", .ref gt), (Str.ofString "initial", .ref d0)] ∧ Fr g L1 h1 m1 := ⟨_, ⟨rfl, rfl, rfl, trivial⟩, F1⟩
  replace F1 := hmS.fr F1
  with_reducible show wpAny _ _ _ _ _ _
  k_fold
  (repeat' ( (fail_if_success (with_reducible first | show TurnEnd _ _ _ _ _ _ _ _ _ _ | show WhileStep2 _ _ _ _ _ _ _ _ | show wpAny _ _ (eval (Expr.ListComp _ _ _ _) _) _ _ _ | show wpAny _ _ (exec (Stmt.While _ _ _ _) _) _ _ _ | show wpAny _ _ (exec (Stmt.For _ _ _ _ _) _) _ _ _ | show wpAny _ _ (exec (Stmt.Assign _ (Expr.ListComp _ _ _ _) _) _) _ _ _ | show wpAny _ _ (subscriptTail _ _ _ _) _ _ _ | show wpAny _ _ (PySem.call _ _ _) _ _ _ | show wpAny _ _ (compareOp _ (Value.ref _) _) _ _ _ | show wpAny _ _ (compareOp _ _ (Value.ref _)) _ _ _ | show wpAny _ _ (binaryOp _ (Value.ref _) _) _ _ _ | show wpAny _ _ (setItem _ _ _) _ _ _)); first | (k_unfold; (try dsimp only)) | walk1 | (dsimp only; walk1) | (leave1; (try dsimp only)) | fail "no step"))
  refine iter_tup F1 N1 hgt ?_
  clear F1
  intro I1 h2 oI F1 N2 l2 hc2 hd2
  (repeat' ( (fail_if_success (with_reducible first | show TurnEnd _ _ _ _ _ _ _ _ _ _ | show WhileStep2 _ _ _ _ _ _ _ _ | show wpAny _ _ (eval (Expr.ListComp _ _ _ _) _) _ _ _ | show wpAny _ _ (exec (Stmt.While _ _ _ _) _) _ _ _ | show wpAny _ _ (exec (Stmt.For _ _ _ _ _) _) _ _ _ | show wpAny _ _ (exec (Stmt.Assign _ (Expr.ListComp _ _ _ _) _) _) _ _ _ | show wpAny _ _ (subscriptTail _ _ _ _) _ _ _ | show wpAny _ _ (PySem.call _ _ _) _ _ _ | show wpAny _ _ (compareOp _ (Value.ref _) _) _ _ _ | show wpAny _ _ (compareOp _ _ (Value.ref _)) _ _ _ | show wpAny _ _ (binaryOp _ (Value.ref _) _) _ _ _ | show wpAny _ _ (setItem _ _ _) _ _ _)); first | (k_unfold; (try dsimp only)) | walk1 | (dsimp only; walk1) | (leave1; (try dsimp only)) | fail "no step"))
  have hth0 : th [] = none := by
    cases e : th [] with
    | none => rfl
    | some d => exact absurd (tr.thP _ _ e) tr.root
  obtain ⟨a0, o0, hv0, hs0, ha0, hdk0⟩ := tr.nest [] (.inl rfl) hth0
  obtain rfl : a0 = d0 := by rw [hv0] at hd0; injection hd0
  rename Fr _ _ _ _ => F3
  rename News _ _ _ _ => N3
  obtain ⟨oy, hy⟩ : ∃ oy, g.get? 58 = some oy := ⟨_, X1 58 _ (by k_is)⟩
  have h58 : a0 ≠ 58 := by
    rintro rfl
    have := (N3 _ (.tail _ (hT _ ha0))).2.2
    rw [hy] at this; cases this
  obtain ⟨ox, hox, hcx⟩ := dict_type (s := { heap := _, gens := s.gens, drawn := s.drawn, toks := tk, os := s.os }) N3 (.tail _ (hT _ ha0)) hdk0
  refine kto_is hox (F3.keep _ _ hy) h58 (by rw [hcx]; simp) ?_
  (repeat' ( (fail_if_success (with_reducible first | show TurnEnd _ _ _ _ _ _ _ _ _ _ | show WhileStep2 _ _ _ _ _ _ _ _ | show wpAny _ _ (eval (Expr.ListComp _ _ _ _) _) _ _ _ | show wpAny _ _ (exec (Stmt.While _ _ _ _) _) _ _ _ | show wpAny _ _ (exec (Stmt.For _ _ _ _ _) _) _ _ _ | show wpAny _ _ (exec (Stmt.Assign _ (Expr.ListComp _ _ _ _) _) _) _ _ _ | show wpAny _ _ (subscriptTail _ _ _ _) _ _ _ | show wpAny _ _ (PySem.call _ _ _) _ _ _ | show wpAny _ _ (compareOp _ (Value.ref _) _) _ _ _ | show wpAny _ _ (compareOp _ _ (Value.ref _)) _ _ _ | show wpAny _ _ (binaryOp _ (Value.ref _) _) _ _ _ | show wpAny _ _ (setItem _ _ _) _ _ _)); first | (k_unfold; (try dsimp only)) | walk1 | (dsimp only; walk1) | (leave1; (try dsimp only)) | fail "no step"))
  refine For_open ?_
  (repeat' ( (fail_if_success (with_reducible first | show TurnEnd _ _ _ _ _ _ _ _ _ _ | show WhileStep2 _ _ _ _ _ _ _ _ | show wpAny _ _ (eval (Expr.ListComp _ _ _ _) _) _ _ _ | show wpAny _ _ (exec (Stmt.While _ _ _ _) _) _ _ _ | show wpAny _ _ (exec (Stmt.For _ _ _ _ _) _) _ _ _ | show wpAny _ _ (exec (Stmt.Assign _ (Expr.ListComp _ _ _ _) _) _) _ _ _ | show wpAny _ _ (subscriptTail _ _ _ _) _ _ _ | show wpAny _ _ (PySem.call _ _ _) _ _ _ | show wpAny _ _ (compareOp _ (Value.ref _) _) _ _ _ | show wpAny _ _ (compareOp _ _ (Value.ref _)) _ _ _ | show wpAny _ _ (binaryOp _ (Value.ref _) _) _ _ _ | show wpAny _ _ (setItem _ _ _) _ _ _)); first | (k_unfold; (try dsimp only)) | walk1 | (dsimp only; walk1) | (leave1; (try dsimp only)) | fail "no step"))
  rename Fr _ _ _ _ => F2
  rename News _ _ _ _ => N2
  have hoff : ∀ e ∈ news, e.1 ≠ I1 := fun e he => Nat.ne_of_lt (l2 e he)
  have hgvl : gvs.length = goal.length := by have := hgv.length; rw [List.length_map] at this; exact this
  refine ForAt_tupIter (I := I1) (t := gt) (vs := gvs) (n := gn) (news := news) (by rfl) F2 N2 hoff hc2 hd2 hgt ⟨_, _, rfl⟩
    (fun i m nx => nx = news ∧ Has m [(Str.ofString "value", val (goal.take i)), (Str.ofString "function", .ref lam)]) ⟨rfl, ⟨by rw [List.take_zero, hd0]; rfl, rfl, trivial⟩⟩ ?_ ?_
  · clear F2 N2
    rintro i v m3 nx h3 tk3 oI3 hiv ⟨rfl, hm3⟩ hgn F1 N1 off
    have hi : i < goal.length := by rw [← hgvl]; exact (List.getElem?_eq_some_iff.mp hiv).1
    obtain ⟨v', hv', hDv⟩ := hgv.get (k := i) (by rw [List.length_map]; exact hi)
    obtain rfl : v' = v := Option.some.inj (hv'.symm.trans hiv)
    rw [List.getElem_map] at hDv
    have hgi : goal[i]? = some goal[i] := List.getElem?_eq_getElem hi
    obtain ⟨y, hy⟩ : ∃ y, y = goal[i] := ⟨_, rfl⟩
    rw [← hy] at hDv hgi
    clear hy
    obtain ⟨ty, rfl⟩ := DatIn.strV hDv
    have e1 : goal.take (i + 1) = goal.take i ++ [y] := by rw [List.take_add_one, hgi]; rfl
    have hgP : goal ∈ P := by
      rcases hg.1 with rfl | h
      · exact absurd hi (by simp)
      · exact h
    have hin : goal.take (i + 1) ∈ P := tr.upTo hgP (i + 1) (by omega) (by omega)
    have hN : isNest P th (goal.take i) := tr.closed _ y (by rw [← e1]; exact hin)
    obtain ⟨ai, oi, hvi, hsi, hai, hdi⟩ := tr.nest _ hN.1 hN.2
    have hvq := valueAt_kids P val (goal.take i) y
    rw [← e1, if_pos hin] at hvq
    rw [hvi] at hm3
    replace F1 := hm3.fr F1
    dsimp only
    (repeat' ( (fail_if_success (with_reducible first | show TurnEnd _ _ _ _ _ _ _ _ _ _ | show WhileStep2 _ _ _ _ _ _ _ _ | show wpAny _ _ (eval (Expr.ListComp _ _ _ _) _) _ _ _ | show wpAny _ _ (exec (Stmt.While _ _ _ _) _) _ _ _ | show wpAny _ _ (exec (Stmt.For _ _ _ _ _) _) _ _ _ | show wpAny _ _ (exec (Stmt.Assign _ (Expr.ListComp _ _ _ _) _) _) _ _ _ | show wpAny _ _ (subscriptTail _ _ _ _) _ _ _ | show wpAny _ _ (PySem.call _ _ _) _ _ _ | show wpAny _ _ (compareOp _ (Value.ref _) _) _ _ _ | show wpAny _ _ (compareOp _ _ (Value.ref _)) _ _ _ | show wpAny _ _ (binaryOp _ (Value.ref _) _) _ _ _ | show wpAny _ _ (setItem _ _ _) _ _ _)); first | (k_unfold; (try dsimp only)) | walk1 | (dsimp only; walk1) | (leave1; (try dsimp only)) | fail "no step"))
    rename Fr _ _ _ _ => F4
    rename News _ _ _ _ => N4
    obtain ⟨oc9, od9, fd9, sl9, hof⟩ := id hlf
    have hFn : FnAt lam _ := FnAt.of N4 (oc := oc9) (od := od9) (fd := fd9) (sl := sl9) (by rw [← hof]; exact .tail _ hlm)
    refine callWith_F hFn ?_
    (repeat' ( (fail_if_success (with_reducible first | show TurnEnd _ _ _ _ _ _ _ _ _ _ | show WhileStep2 _ _ _ _ _ _ _ _ | show wpAny _ _ (eval (Expr.ListComp _ _ _ _) _) _ _ _ | show wpAny _ _ (exec (Stmt.While _ _ _ _) _) _ _ _ | show wpAny _ _ (exec (Stmt.For _ _ _ _ _) _) _ _ _ | show wpAny _ _ (exec (Stmt.Assign _ (Expr.ListComp _ _ _ _) _) _) _ _ _ | show wpAny _ _ (subscriptTail _ _ _ _) _ _ _ | show wpAny _ _ (PySem.call _ _ _) _ _ _ | show wpAny _ _ (compareOp _ (Value.ref _) _) _ _ _ | show wpAny _ _ (compareOp _ _ (Value.ref _)) _ _ _ | show wpAny _ _ (binaryOp _ (Value.ref _) _) _ _ _ | show wpAny _ _ (setItem _ _ _) _ _ _)); first | (k_unfold; (try dsimp only)) | walk1 | (dsimp only; walk1) | (leave1; (try dsimp only)) | fail "no step"))
    · exact hFn
    have C := hlam ((I1, oI3) :: nx) ai oi _ y ty _ (fun e he => .tail _ (hlk e he)) (.tail _ (hT _ hai)) hdi hvq
    k_dflt (refine' Does.use C ?k1 ?k2 ?k3 ?k4 ?k5 ?kK ?kd ?ku ?_; (((case k1 => k_asm); (case k2 => k_asm); (case k3 => k_asm); (case k4 => k_asm); (case k5 => k_asm); (case kK => first | exact rfl | assumption); (case kd => ktr_room); (case ku => ktr_units))))
    intro r h5 news5 tk5 F5 N5 hpost
    obtain ⟨rfl, rfl⟩ := hpost
    (repeat' ( (fail_if_success (with_reducible first | show TurnEnd _ _ _ _ _ _ _ _ _ _ | show WhileStep2 _ _ _ _ _ _ _ _ | show wpAny _ _ (eval (Expr.ListComp _ _ _ _) _) _ _ _ | show wpAny _ _ (exec (Stmt.While _ _ _ _) _) _ _ _ | show wpAny _ _ (exec (Stmt.For _ _ _ _ _) _) _ _ _ | show wpAny _ _ (exec (Stmt.Assign _ (Expr.ListComp _ _ _ _) _) _) _ _ _ | show wpAny _ _ (subscriptTail _ _ _ _) _ _ _ | show wpAny _ _ (PySem.call _ _ _) _ _ _ | show wpAny _ _ (compareOp _ (Value.ref _) _) _ _ _ | show wpAny _ _ (compareOp _ _ (Value.ref _)) _ _ _ | show wpAny _ _ (binaryOp _ (Value.ref _) _) _ _ _ | show wpAny _ _ (setItem _ _ _) _ _ _)); first | (k_unfold; (try dsimp only)) | walk1 | (dsimp only; walk1) | (leave1; (try dsimp only)) | fail "no step"))
    rename Fr _ _ _ _ => F6
    rename News _ _ _ _ => N6
    refine TurnEnd.next _ nx F6 N6 off (by intro e he; rw [List.mem_singleton.mp he]; exact hgn) ⟨rfl, ⟨rfl, rfl, trivial⟩⟩
  · clear F2 N2
    rintro m3 nx h3 tk3 ⟨rfl, hm3⟩ hgn F1 N1
    rw [hgvl, List.take_length] at hm3
    replace F1 := hm3.fr F1
    dsimp only
    (repeat' ( (fail_if_success (with_reducible first | show TurnEnd _ _ _ _ _ _ _ _ _ _ | show WhileStep2 _ _ _ _ _ _ _ _ | show wpAny _ _ (eval (Expr.ListComp _ _ _ _) _) _ _ _ | show wpAny _ _ (exec (Stmt.While _ _ _ _) _) _ _ _ | show wpAny _ _ (exec (Stmt.For _ _ _ _ _) _) _ _ _ | show wpAny _ _ (exec (Stmt.Assign _ (Expr.ListComp _ _ _ _) _) _) _ _ _ | show wpAny _ _ (subscriptTail _ _ _ _) _ _ _ | show wpAny _ _ (PySem.call _ _ _) _ _ _ | show wpAny _ _ (compareOp _ (Value.ref _) _) _ _ _ | show wpAny _ _ (compareOp _ _ (Value.ref _)) _ _ _ | show wpAny _ _ (binaryOp _ (Value.ref _) _) _ _ _ | show wpAny _ _ (setItem _ _ _) _ _ _)); first | (k_unfold; (try dsimp only)) | walk1 | (dsimp only; walk1) | (leave1; (try dsimp only)) | fail "no step"))
    rename Fr h₀ _ _ _ => kF
    rename News h₀ _ _ _ => kN
    exact hret _ _ _ _ kF kN ⟨rfl, rfl⟩
end
section
open PySem PySem.W

noncomputable def ne (ss : List Row) : List Row := ss.filter (· ≠ [])
theorem c3_ne (n : Nat) (ss : List Row) (out : Row) : c3 (n + 1) ss out = if ne ss = [] then some out else match pick (ne ss) with | none => none | some h => c3 n ((ne ss).map (drop1 h)) (out ++ [h]) := by
  rw [c3]; rfl
theorem ne_ne (ss : List Row) : ne (ne ss) = ne ss := by unfold ne; rw [List.filter_filter]; simp
theorem c3_of_ne (n : Nat) {ss ts : List Row} (out : Row) (h : ne ss = ne ts) : c3 (n + 1) ss out = c3 (n + 1) ts out := by
  rw [c3_ne, c3_ne, h]
/-- picks in turn -/
theorem c3_run (st : Row → List Row) : ∀ (l a : Row) (n : Nat), (∀ b p d, a ++ l = (a ++ b) ++ p :: d → pick (ne (st (a ++ b))) = some p ∧ ne ((ne (st (a ++ b))).map (drop1 p)) = ne (st (a ++ b ++ [p]))) →
    c3 (n + 1 + l.length) (st a) a = c3 (n + 1) (st (a ++ l)) (a ++ l)
  | [], a, n, _ => by simp
  | p :: d, a, n, h => by
    obtain ⟨h1, h2⟩ := h [] p d (by simp)
    rw [List.append_nil] at h1 h2
    have e : n + 1 + (p :: d).length = (n + 1 + d.length) + 1 := by rw [List.length_cons]; omega
    have hnn : ne (st a) ≠ [] := by
      intro q
      rw [q] at h1
      cases h1
    rw [e, c3_ne, if_neg hnn, h1]
    show c3 (n + 1 + d.length) _ _ = _
    have e2 : n + 1 + d.length = (n + d.length) + 1 := by omega
    rw [e2, c3_of_ne _ _ h2, ← e2]
    have ih := c3_run st d (a ++ [p]) n (fun b p' d' hb => by
      have := h ([p] ++ b) p' d' (by simpa using hb)
      simpa using this)
    rw [ih]
    simp

/-! rows that are chains -/
noncomputable def prefs (g : Way) : Row := (List.range g.length).map fun k => g.take (k + 1)
noncomputable def rem (out r : Row) : Row := r.filter fun p => decide (p ∉ out)
/-- all beginnings of p are out -/
def Ready (out : Row) (p : Way) : Prop := ∀ k, 0 < k → k < p.length → p.take k ∈ out
def Lt (a b : Way) : Prop := a ≠ [] ∧ a.length < b.length ∧ b.take a.length = a

theorem prefs_chain (g : Way) : (prefs g).Pairwise Lt := by
  unfold prefs
  rw [List.pairwise_map]
  refine List.Pairwise.imp_of_mem ?_ List.pairwise_lt_range
  intro a b ha hb hab
  have ha := List.mem_range.mp ha
  have hb := List.mem_range.mp hb
  refine ⟨fun q => ?_, ?_, ?_⟩
  · have := congrArg List.length q
    rw [List.length_take, Nat.min_eq_left (by omega)] at this
    simp at this
  · rw [List.length_take, List.length_take, Nat.min_eq_left (by omega), Nat.min_eq_left (by omega)]; omega
  · rw [List.length_take, List.take_take, Nat.min_eq_left (Nat.succ_le_of_lt ha), Nat.min_eq_left (by omega)]
theorem rem_chain (out : Row) (g : Way) : (rem out (prefs g)).Pairwise Lt := (prefs_chain g).sublist List.filter_sublist
theorem mem_rem {out r : Row} {p : Way} : p ∈ rem out r ↔ p ∈ r ∧ p ∉ out := by unfold rem; rw [List.mem_filter]; simp

theorem ready_notTail {out r : Row} {p : Way} (hc : (rem out r).Pairwise Lt) (hr : Ready out p) : p ∉ (rem out r).tail := by
  intro hp
  cases e : rem out r with
  | nil => rw [e] at hp; cases hp
  | cons h t =>
    rw [e] at hc hp
    obtain ⟨h0, h1, h2⟩ := (List.pairwise_cons.mp hc).1 p hp
    have := hr h.length (List.length_pos_iff.mpr h0) h1
    rw [h2] at this
    exact (mem_rem.mp (e ▸ List.mem_cons_self)).2 this
theorem drop1_rem {out r : Row} {p : Way} (hc : (rem out r).Pairwise Lt) (hr : Ready out p) : drop1 p (rem out r) = rem (out ++ [p]) r := by
  have e : rem (out ++ [p]) r = (rem out r).filter fun q => decide (q ≠ p) := by
    unfold rem
    rw [List.filter_filter]
    congr 1
    funext q
    simp [and_comm]
  have ht := ready_notTail hc hr
  rw [e]
  unfold drop1
  cases h : rem out r with
  | nil => simp
  | cons a t =>
    rw [h] at ht
    have hta : t.filter (fun q => decide (q ≠ p)) = t := by
      rw [List.filter_eq_self]
      intro q hq
      rw [decide_eq_true_eq]
      rintro rfl
      exact ht hq
    by_cases hap : a = p
    · subst hap
      rw [List.filter_cons_of_neg (by simp), hta]
      exact if_pos rfl
    · rw [List.filter_cons_of_pos (by simpa using hap), hta]
      show (if some a = some p then t else a :: t) = _
      rw [if_neg (by simpa using hap)]
theorem goodHead_of {ss : List Row} {p : Way} (h : ∀ s ∈ ss, p ∉ s.tail) : goodHead ss p = true := by
  unfold goodHead
  rw [List.all_eq_true]
  intro s hs
  simpa using h s hs
theorem snoc_ind {α : Type} {motive : List α → Prop} (nil : motive []) (snoc : ∀ f x, motive f → motive (f ++ [x])) (l : List α) : motive l := by
  rw [← List.reverse_reverse l]
  induction l.reverse with
  | nil => exact nil
  | cons x r ih => rw [List.reverse_cons]; exact snoc _ _ ih
/-! first occurrences -/
noncomputable def firsts (flat : Row) : Row := flat.foldl stepP []
theorem firsts_snoc (f : Row) (x : Way) : firsts (f ++ [x]) = stepP (firsts f) x := by unfold firsts; rw [List.foldl_append]; rfl
theorem mem_firsts {flat : Row} {p : Way} : p ∈ firsts flat ↔ p ∈ flat := by
  induction flat using snoc_ind with
  | nil => rfl
  | snoc f x ih =>
    rw [firsts_snoc]
    unfold stepP
    split
    · rename_i h
      rw [ih, List.mem_append, List.mem_singleton]
      refine ⟨.inl, fun q => q.elim id fun q => ?_⟩
      subst q
      exact ih.mp h
    · rw [List.mem_append, List.mem_append, ih]
theorem firsts_next : ∀ {flat b d : Row} {p : Way}, firsts flat = b ++ p :: d → flat.find? (fun q => decide (q ∉ b)) = some p := by
  intro flat
  induction flat using snoc_ind with
  | nil => intro b d p h; simp [firsts] at h
  | snoc f x ih =>
    intro b d p h
    rw [firsts_snoc] at h
    unfold stepP at h
    rw [List.find?_append]
    split at h
    · rw [ih h]; rfl
    · rename_i hx
      rcases List.eq_nil_or_concat d with rfl | ⟨d', y, rfl⟩
      · obtain ⟨h1, h2⟩ := List.append_inj' h rfl
        obtain rfl : x = p := by simpa using h2
        have : f.find? (fun q => decide (q ∉ b)) = none := by
          rw [List.find?_eq_none]
          intro q hq
          simpa [← h1] using mem_firsts.mpr hq
        rw [this, ← h1]
        simpa using hx
      · have h' : firsts f ++ [x] = (b ++ p :: d') ++ [y] := by rw [h]; simp
        rw [ih (List.append_inj' h' rfl).1]; rfl
theorem rem_head {b r : Row} : (rem b r).head? = r.find? fun q => decide (q ∉ b) := by unfold rem; rw [List.head?_filter]
theorem first_row {b : Row} {p : Way} : ∀ {R : List Row}, R.flatten.find? (fun q => decide (q ∉ b)) = some p →
    (∃ r ∈ R, (rem b r).head? = some p) ∧ ((ne (R.map (rem b))).filterMap List.head?).head? = some p
  | [], h => by simp at h
  | r :: R, h => by
    rw [List.flatten_cons, List.find?_append, ← rem_head] at h
    cases e : rem b r with
    | nil =>
      rw [e] at h
      obtain ⟨⟨r', h1, h2⟩, h3⟩ := first_row (R := R) (by simpa using h)
      refine ⟨⟨r', .tail _ h1, h2⟩, ?_⟩
      rw [List.map_cons, e, ne, List.filter_cons_of_neg (by simp)]
      exact h3
    | cons a t =>
      rw [e] at h
      have ha : a = p := by simpa using h
      subst ha
      refine ⟨⟨r, .head _, by rw [e]; rfl⟩, ?_⟩
      rw [List.map_cons, e, ne, List.filter_cons_of_pos (by simp)]
      rfl
theorem ready_of {b : Row} {g p : Way} (h : (rem b (prefs g)).head? = some p) : Ready b p := by
  intro k h0 hk
  cases e : rem b (prefs g) with
  | nil => rw [e] at h; cases h
  | cons a t =>
    rw [e] at h
    obtain rfl : a = p := by simpa using h
    have hc := rem_chain b g
    have ha : a ∈ prefs g := (mem_rem.mp (e ▸ List.mem_cons_self)).1
    obtain ⟨j, hj, rfl⟩ := List.mem_map.mp ha
    have hj := List.mem_range.mp hj
    rw [List.length_take] at hk
    have hm : (g.take (j + 1)).take k ∈ prefs g := by
      rw [List.take_take, Nat.min_eq_left (by omega)]
      exact List.mem_map.mpr ⟨k - 1, List.mem_range.mpr (by omega), by congr 1; omega⟩
    apply Classical.byContradiction
    intro hn
    have := mem_rem.mpr ⟨hm, hn⟩
    rw [e] at this hc
    rcases List.mem_cons.mp this with q | q
    · have := congrArg List.length q
      rw [List.length_take, List.length_take] at this
      omega
    · have := ((List.pairwise_cons.mp hc).1 _ q).2.1
      rw [List.length_take, List.length_take, List.length_take] at this
      omega
theorem firsts_length (f : Row) : (firsts f).length ≤ f.length := by
  induction f using snoc_ind with
  | nil => exact Nat.le_refl _
  | snoc f x ih =>
    rw [firsts_snoc, List.length_append, List.length_singleton]
    unfold stepP
    split
    · omega
    · rw [List.length_append, List.length_singleton]; omega
theorem flatten_total (R : List Row) : R.flatten.length = total R := by
  unfold total; rw [List.length_flatten]
theorem mem_ne {ss : List Row} {s : Row} (h : s ∈ ne ss) : s ∈ ss := (List.mem_filter.mp h).1
/-- rows that are chains: each place once, as it first comes -/
theorem c3_chains (R : List Row) (hR : ∀ r ∈ R, ∃ g, r = prefs g) : c3 (total R + 1) R [] = some (firsts R.flatten) := by
  have hl : (firsts R.flatten).length ≤ total R := by rw [← flatten_total]; exact firsts_length _
  obtain ⟨n, hn⟩ : ∃ n, total R = n + (firsts R.flatten).length := ⟨total R - (firsts R.flatten).length, by omega⟩
  have h0 : R.map (rem []) = R := by
    conv => rhs; rw [← List.map_id R]
    refine List.map_congr_left fun r _ => ?_
    unfold rem; simp
  have run := c3_run (fun out => R.map (rem out)) (firsts R.flatten) [] n (fun b p d h => ?_)
  · rw [List.nil_append, h0] at run
    rw [show total R + 1 = n + 1 + (firsts R.flatten).length by omega, run, c3_ne, if_pos]
    unfold ne
    rw [List.filter_eq_nil_iff]
    intro s hs
    obtain ⟨r, hr, rfl⟩ := List.mem_map.mp hs
    have : rem (firsts R.flatten) r = [] := by
      unfold rem
      rw [List.filter_eq_nil_iff]
      intro q hq
      simpa using mem_firsts.mpr (List.mem_flatten.mpr ⟨r, hr, hq⟩)
    simp [this]
  · simp only [List.nil_append] at h ⊢
    have hf := firsts_next h
    obtain ⟨⟨r, hr, hrh⟩, hh⟩ := first_row hf
    obtain ⟨g, rfl⟩ := hR r hr
    have hready := ready_of hrh
    have hch : ∀ s ∈ R, (rem b s).Pairwise Lt := fun s hs => by
      obtain ⟨g', rfl⟩ := hR s hs
      exact rem_chain b g'
    constructor
    · unfold pick
      cases e : (ne (R.map (rem b))).filterMap List.head? with
      | nil => rw [e] at hh; cases hh
      | cons a t =>
        rw [e] at hh
        obtain rfl : a = p := by simpa using hh
        rw [List.find?_cons_of_pos]
        refine goodHead_of fun s hs => ?_
        obtain ⟨s', hs', rfl⟩ := List.mem_map.mp (mem_ne hs)
        exact ready_notTail (hch s' hs') hready
    · have e2 : ne ((ne (R.map (rem b))).map (drop1 p)) = ne ((R.map (rem b)).map (drop1 p)) := by
        generalize R.map (rem b) = ss
        induction ss with
        | nil => rfl
        | cons s r ih =>
          by_cases hs : s = []
          · subst hs
            have : drop1 p [] = [] := rfl
            unfold ne at *
            rw [List.filter_cons_of_neg (by simp), List.map_cons, this, List.filter_cons_of_neg (by simp)]
            exact ih
          · unfold ne at *
            rw [List.filter_cons_of_pos (by simpa using hs), List.map_cons, List.map_cons, List.filter_cons, List.filter_cons, ih]
      rw [e2, List.map_map]
      congr 1
      refine List.map_congr_left fun s hs => ?_
      exact drop1_rem (hch s hs) hready
theorem firsts_filter (f : Way → Bool) (flat : Row) : firsts (flat.filter f) = (firsts flat).filter f := by
  induction flat using snoc_ind with
  | nil => rfl
  | snoc r x ih =>
    rw [List.filter_append, firsts_snoc]
    by_cases hx : f x = true
    · rw [List.filter_cons_of_pos hx, List.filter_nil, firsts_snoc, ih]
      unfold stepP
      by_cases hm : x ∈ firsts r
      · rw [if_pos (List.mem_filter.mpr ⟨hm, hx⟩), if_pos hm]
      · rw [if_neg (fun h => hm (List.mem_filter.mp h).1), if_neg hm, List.filter_append, List.filter_cons_of_pos hx, List.filter_nil]
    · rw [List.filter_cons_of_neg hx, List.filter_nil, List.append_nil, ih]
      unfold stepP
      split
      · rfl
      · rw [List.filter_append, List.filter_cons_of_neg hx, List.filter_nil, List.append_nil]
theorem growN_fold (P : List Way) (g : Way) : ∀ i, growN P g i = ((List.range i).map fun k => g.take (k + 1)).foldl stepP P
  | 0 => rfl
  | i + 1 => by
    rw [List.range_succ, List.map_append, List.foldl_append, ← growN_fold P g i]
    rfl
theorem growN_firsts (flat : Row) (g : Way) : growN (firsts flat) g g.length = firsts (flat ++ prefs g) := by
  rw [growN_fold]
  unfold firsts
  rw [List.foldl_append]
  rfl
theorem ne_append (a b : List Row) : ne (a ++ b) = ne a ++ ne b := List.filter_append ..
theorem ne_drop1 (p : Way) (ss : List Row) : ne ((ne ss).map (drop1 p)) = ne (ss.map (drop1 p)) := by
  induction ss with
  | nil => rfl
  | cons s r ih =>
    by_cases hs : s = []
    · subst hs
      have : drop1 p [] = [] := rfl
      unfold ne at *
      rw [List.filter_cons_of_neg (by simp), List.map_cons, this, List.filter_cons_of_neg (by simp)]
      exact ih
    · unfold ne at *
      rw [List.filter_cons_of_pos (by simpa using hs), List.map_cons, List.map_cons, List.filter_cons, List.filter_cons, ih]
end
section
open PySem PySem.W PyProof.Rows PyProof.Rows.LCg
noncomputable abbrev lamParams : PySem.Arguments := { posonlyargs := [], args := [{ arg := "table", annotation := none, pos := ⟨104, 47, 104, 52⟩ }, { arg := "name", annotation := none, pos := ⟨104, 54, 104, 58⟩ }], vararg := none, kwonlyargs := [], kw_defaults := [], kwarg := none, defaults := [] }
noncomputable abbrev lamBody : PySem.Expr := .Subscript (.Name "table" ⟨104, 60, 104, 65⟩) (.Name "name" ⟨104, 66, 104, 70⟩) ⟨104, 60, 104, 71⟩
noncomputable abbrev lamScope : PySem.Scope := { kind := .function, names := [(Str.ofString "table", .local), (Str.ofString "name", .local)], isGenerator := false, isCoroutine := false, more := [] }
set_option maxRecDepth 100000 in
set_option maxHeartbeats 8000000 in
theorem lam_does (w : World) (f c' : Addr) (oc : Obj) (vs : Array Value) (name qual : Str) (t : Tok) (pm ctv : Value) (hoc : oc.data = .fields vs) (hvs : vs[1]? = some (.str qual t)) :
    LamOk w f [(f, kla_obj name qual lamParams lamBody lamScope [] pm c' ctv), (c', oc)] := by
  intro news a o kvs y ty v hK hao hdk hv
  have hf := hK _ (.head _)
  have hc := hK _ (.tail _ (.head _))
  unfold Does
  k_fill
  intro p loose mean mg mb dp un gd cn cs ad ccd cl outer A₀ base h₀ L m s Q E B F X N Tp hk hd hu hret
  refine wpAny_call ?_
  refine' kla_code ?k1 ?k2 ?k3 ?k4 ?k5 ?kA ?kF ?kK ?k6 ?k7 ?k8 ?k9 ?kB ?_ ?c2 ?c3 ?c4 ?c5; (case kA => exact rfl); (case kF => exact rfl); (case kK => assumption); (case k1 => k_asm); (case k2 => k_asm); (case k3 => k_asm); (case k4 => k_asm); (case k5 => k_asm); (case k6 => exact hf); (case k7 => exact codeRec_news N hc hoc hvs); (case k8 => ktr_room); (case k9 => exact rfl); (case c5 => decide); (case kB => exact locs rfl); (case c2 => exact rfl); (case c3 => exact rfl); (case c4 => exact rfl); k_whole
  intro g L1 h1 FG F1 N1 B1 X1 T1
  with_reducible show wpAny _ _ _ _ _ _
  k_fold
  (repeat' ( (fail_if_success (with_reducible first | show TurnEnd _ _ _ _ _ _ _ _ _ _ | show WhileStep2 _ _ _ _ _ _ _ _ | show wpAny _ _ (eval (Expr.ListComp _ _ _ _) _) _ _ _ | show wpAny _ _ (exec (Stmt.While _ _ _ _) _) _ _ _ | show wpAny _ _ (exec (Stmt.For _ _ _ _ _) _) _ _ _ | show wpAny _ _ (exec (Stmt.Assign _ (Expr.ListComp _ _ _ _) _) _) _ _ _ | show wpAny _ _ (subscriptTail _ _ _ _) _ _ _ | show wpAny _ _ (PySem.call _ _ _) _ _ _ | show wpAny _ _ (compareOp _ (Value.ref _) _) _ _ _ | show wpAny _ _ (compareOp _ _ (Value.ref _)) _ _ _ | show wpAny _ _ (binaryOp _ (Value.ref _) _) _ _ _ | show wpAny _ _ (setItem _ _ _) _ _ _)); first | (k_unfold; (try dsimp only)) | walk1 | (dsimp only; walk1) | (leave1; (try dsimp only)) | fail "no step"))
  refine dict_get N1 (d := a) (o := o) hao hdk hv ?_
  (repeat' ( (fail_if_success (with_reducible first | show TurnEnd _ _ _ _ _ _ _ _ _ _ | show WhileStep2 _ _ _ _ _ _ _ _ | show wpAny _ _ (eval (Expr.ListComp _ _ _ _) _) _ _ _ | show wpAny _ _ (exec (Stmt.While _ _ _ _) _) _ _ _ | show wpAny _ _ (exec (Stmt.For _ _ _ _ _) _) _ _ _ | show wpAny _ _ (exec (Stmt.Assign _ (Expr.ListComp _ _ _ _) _) _) _ _ _ | show wpAny _ _ (subscriptTail _ _ _ _) _ _ _ | show wpAny _ _ (PySem.call _ _ _) _ _ _ | show wpAny _ _ (compareOp _ (Value.ref _) _) _ _ _ | show wpAny _ _ (compareOp _ _ (Value.ref _)) _ _ _ | show wpAny _ _ (binaryOp _ (Value.ref _) _) _ _ _ | show wpAny _ _ (setItem _ _ _) _ _ _)); first | (k_unfold; (try dsimp only)) | walk1 | (dsimp only; walk1) | (leave1; (try dsimp only)) | fail "no step"))
  rename Fr h₀ _ _ _ => kF
  rename News h₀ _ _ _ => kN
  exact hret _ _ _ _ kF kN ⟨rfl, rfl⟩
end
section
open PySem PySem.W

theorem drop1_notTail {out r : Row} {p : Way} (ht : p ∉ (rem out r).tail) : drop1 p (rem out r) = rem (out ++ [p]) r := by
  have e : rem (out ++ [p]) r = (rem out r).filter fun q => decide (q ≠ p) := by
    unfold rem
    rw [List.filter_filter]
    congr 1
    funext q
    simp [and_comm]
  rw [e]
  unfold drop1
  cases h : rem out r with
  | nil => simp
  | cons a t =>
    rw [h] at ht
    have hta : t.filter (fun q => decide (q ≠ p)) = t := by
      rw [List.filter_eq_self]
      intro q hq
      rw [decide_eq_true_eq]
      rintro rfl
      exact ht hq
    by_cases hap : a = p
    · subst hap
      rw [List.filter_cons_of_neg (by simp), hta]
      exact if_pos rfl
    · rw [List.filter_cons_of_pos (by simpa using hap), hta]
      show (if some a = some p then t else a :: t) = _
      rw [if_neg (by simpa using hap)]
/-- p does not lie at s or under it -/
noncomputable def nU (s p : Way) : Bool := decide (p.take s.length ≠ s)
theorem nU_self (s : Way) : nU s s = false := by unfold nU; simp
theorem under_len {s p : Way} (h : nU s p = false) : s.length ≤ p.length := by
  unfold nU at h
  have h : p.take s.length = s := by simpa using h
  have := congrArg List.length h
  rw [List.length_take] at this
  omega
theorem under_take {s p : Way} (h : nU s p = false) : p.take s.length = s := by unfold nU at h; simpa using h
theorem under_prefs {s p g : Way} (hs : s ≠ []) (hp : p ∈ prefs g) (h : nU s p = false) : s ∈ prefs g := by
  obtain ⟨i, hi, rfl⟩ := List.mem_map.mp hp
  have hi := List.mem_range.mp hi
  have hl := under_len h
  have ht := under_take h
  rw [List.length_take] at hl
  rw [List.take_take, Nat.min_eq_left (by omega)] at ht
  have := List.length_pos_iff.mpr hs
  exact List.mem_map.mpr ⟨s.length - 1, List.mem_range.mpr (by omega), by rw [show s.length - 1 + 1 = s.length by omega]; exact ht⟩
theorem find_of {α : Type} {l : List α} {U good : α → Bool} {p : α} (hU : l.find? U = some p) (hi : ∀ h ∈ l, good h = true → U h = true) (hg : good p = true) : l.find? good = some p := by
  induction l with
  | nil => cases hU
  | cons a t ih =>
    by_cases ha : U a = true
    · rw [List.find?_cons_of_pos ha] at hU
      obtain rfl : a = p := by simpa using hU
      rw [List.find?_cons_of_pos hg]
    · rw [List.find?_cons_of_neg ha] at hU
      rw [List.find?_cons_of_neg fun q => ha (hi a List.mem_cons_self q)]
      exact ih hU fun h hh => hi h (.tail _ hh)
theorem opt_filter {α : Type} (f : α → Bool) (a : α) : (some a).filter f = if f a = true then some a else none := by
  unfold Option.filter
  rfl
theorem fun_and {α : Type} (U V : α → Bool) : (fun a => decide (U a = true ∧ V a = true)) = fun a => U a && V a := by
  funext a
  cases U a <;> cases V a <;> rfl
theorem mem_rem_pair {b : Row} {f s : Way} (hf : f ∉ b) (hs : s ∉ b) : rem b [f, s] = [f, s] := by
  unfold rem
  rw [List.filter_cons_of_pos (by simpa using hf), List.filter_cons_of_pos (by simpa using hs), List.filter_nil]
/-- of a chain's names only the first may lie outside -/
theorem chain_find {l : Row} (s : Way) (hc : l.Pairwise Lt) : l.find? (nU s) = l.head?.filter (nU s) := by
  cases l with
  | nil => rfl
  | cons a t =>
    by_cases ha : nU s a = true
    · rw [List.find?_cons_of_pos ha, List.head?_cons, opt_filter, if_pos ha]
    · rw [List.find?_cons_of_neg ha]
      have : t.find? (nU s) = none := by
        rw [List.find?_eq_none]
        intro x hx
        have ha : nU s a = false := by simpa using ha
        obtain ⟨h0, h1, h2⟩ := (List.pairwise_cons.mp hc).1 x hx
        have hl := under_len ha
        have ht := under_take ha
        unfold nU
        rw [← h2, List.take_take, Nat.min_eq_left hl] at ht
        simpa using ht
      rw [this, List.head?_cons, opt_filter, if_neg ha]
theorem ne_cons_nil (ss : List Row) : ne ([] :: ss) = ne ss := List.filter_cons_of_neg (by simp)
theorem ne_cons_ne {r : Row} (h : r ≠ []) (ss : List Row) : ne (r :: ss) = r :: ne ss := List.filter_cons_of_pos (by simpa using h)
/-- the first head outside is the first name outside -/
theorem first_rowU {s : Way} {b : Row} {p : Way} : ∀ {R : List Row}, (∀ r ∈ R, ∃ g, r = prefs g) → R.flatten.find? (fun q => nU s q && decide (q ∉ b)) = some p →
    (∃ r ∈ R, (rem b r).head? = some p) ∧ ((ne (R.map (rem b))).filterMap List.head?).find? (nU s) = some p
  | [], _, h => by simp at h
  | r :: R, hR, h => by
    rw [List.flatten_cons, List.find?_append] at h
    have hc : (rem b r).Pairwise Lt := by
      obtain ⟨g, rfl⟩ := hR r List.mem_cons_self
      exact rem_chain b g
    have e1 : r.find? (fun q => nU s q && decide (q ∉ b)) = (rem b r).head?.filter (nU s) := by
      rw [← chain_find s hc]
      unfold rem
      rw [List.find?_filter, fun_and (fun p => decide (p ∉ b)) (nU s)]
      congr 1
      funext q
      rw [Bool.and_comm]
    rw [e1] at h
    have hR' : ∀ r ∈ R, ∃ g, r = prefs g := fun x hx => hR x (.tail _ hx)
    have key : R.flatten.find? (fun q => nU s q && decide (q ∉ b)) = some p → _ := first_rowU (R := R) hR'
    cases e : rem b r with
    | nil =>
      rw [e] at h
      obtain ⟨⟨r', h1, h2⟩, h3⟩ := key (by simpa using h)
      refine ⟨⟨r', .tail _ h1, h2⟩, ?_⟩
      rw [List.map_cons, e, ne_cons_nil]
      exact h3
    | cons a t =>
      rw [e] at h
      rw [List.map_cons, e, ne_cons_ne (by simp)]
      rw [List.head?_cons, opt_filter] at h
      show _ ∧ (a :: (ne (R.map (rem b))).filterMap List.head?).find? (nU s) = some p
      by_cases ha : nU s a = true
      · rw [if_pos ha] at h
        obtain rfl : a = p := by simpa using h
        exact ⟨⟨r, .head _, by rw [e]; rfl⟩, by rw [List.find?_cons_of_pos ha]⟩
      · obtain ⟨⟨r', h1, h2⟩, h3⟩ := key (by rw [if_neg ha] at h; simpa using h)
        exact ⟨⟨r', .tail _ h1, h2⟩, by rw [List.find?_cons_of_neg ha]; exact h3⟩

theorem not_good {ss : List Row} {h : Way} {r : Row} (hr : r ∈ ss) (ht : h ∈ r.tail) : goodHead ss h = false := by
  unfold goodHead
  rw [List.all_eq_false]
  exact ⟨r, hr, by simpa using ht⟩
theorem mem_heads {ss : List Row} {h : Way} (hh : h ∈ (ne ss).filterMap List.head?) : ∃ r ∈ ss, r.head? = some h := by
  obtain ⟨r, hr, e⟩ := List.mem_filterMap.mp hh
  exact ⟨r, mem_ne hr, e⟩
theorem ne_mem {ss : List Row} {r : Row} (h : r ∈ ss) (hn : r ≠ []) : r ∈ ne ss := List.mem_filter.mpr ⟨h, by simpa using hn⟩

/-- while f is not out and nothing under s is, no head under s is good -/
theorem heads_U {R : List Row} {b : Row} {f s : Way} (hR : ∀ r ∈ R, ∃ g, r = prefs g) (hs : s ≠ []) (hf : f ∈ R.flatten) (hb : ∀ q ∈ b, nU s q = true) (hfb : f ∉ b) :
    ∀ h ∈ (ne ((R ++ [[f, s]]).map (rem b))).filterMap List.head?, goodHead (ne ((R ++ [[f, s]]).map (rem b))) h = true → nU s h = true := by
  intro h hh hg
  apply Classical.byContradiction
  intro hn
  have hn : nU s h = false := by simpa using hn
  have hsb : s ∉ b := fun q => by have := hb s q; rw [nU_self] at this; cases this
  have hrow : rem b [f, s] = [f, s] := mem_rem_pair hfb hsb
  have hrowm : [f, s] ∈ ne ((R ++ [[f, s]]).map (rem b)) := ne_mem (List.mem_map.mpr ⟨[f, s], by simp, hrow⟩) (by simp)
  have hsbad : goodHead (ne ((R ++ [[f, s]]).map (rem b))) s = false := not_good hrowm (by simp)
  obtain ⟨r', hr', e⟩ := mem_heads hh
  obtain ⟨r, hr, rfl⟩ := List.mem_map.mp hr'
  have keyB : ∀ x g, x ∈ prefs g → nU s x = false → ∀ y t, rem b (prefs g) = y :: t → x = y → s = x := by
    intro x g hx hxu y t ey hxy
    have hm : s ∈ rem b (prefs g) := mem_rem.mpr ⟨under_prefs hs hx hxu, hsb⟩
    have hc := rem_chain b g
    rw [ey] at hm hc
    rcases List.mem_cons.mp hm with q | q
    · rw [q, hxy]
    · have h1 := ((List.pairwise_cons.mp hc).1 _ q).2.1
      have h2 := under_len hxu
      rw [hxy] at h2
      omega
  rcases List.mem_append.mp hr with hr | hr
  · obtain ⟨g, rfl⟩ := hR r hr
    cases er : rem b (prefs g) with
    | nil => rw [er] at e; cases e
    | cons y t =>
      rw [er] at e
      obtain rfl : y = h := by simpa using e
      have hm : y ∈ prefs g := (mem_rem.mp (er ▸ List.mem_cons_self)).1
      have := keyB y g hm hn y t er rfl
      rw [← this, hsbad] at hg
      cases hg
  · obtain rfl := List.mem_singleton.mp hr
    rw [hrow] at e
    obtain rfl : f = h := by simpa using e
    by_cases hfs : s = f
    · subst hfs; rw [hsbad] at hg; cases hg
    · obtain ⟨r2, hr2, hfr⟩ := List.mem_flatten.mp hf
      obtain ⟨g, rfl⟩ := hR r2 hr2
      have hfm : f ∈ rem b (prefs g) := mem_rem.mpr ⟨hfr, hfb⟩
      cases er : rem b (prefs g) with
      | nil => rw [er] at hfm; cases hfm
      | cons y t =>
        rcases List.mem_cons.mp (er ▸ hfm) with q | q
        · exact hfs (keyB f g hfr hn y t er q)
        · have := not_good (ss := ne ((R ++ [[f, s]]).map (rem b))) (h := f) (r := y :: t) (ne_mem (List.mem_map.mpr ⟨prefs g, List.mem_append_left _ hr2, er⟩) (by simp)) q
          rw [this] at hg
          cases hg

theorem drop_all {R : List Row} {b : Row} {f s p : Way} (hR : ∀ r ∈ R, ∃ g, r = prefs g) (hp : Ready b p) (ht : p ∉ (rem b [f, s]).tail) :
    ne ((ne ((R ++ [[f, s]]).map (rem b))).map (drop1 p)) = ne ((R ++ [[f, s]]).map (rem (b ++ [p]))) := by
  rw [ne_drop1, List.map_map]
  congr 1
  refine List.map_congr_left fun r hr => ?_
  rcases List.mem_append.mp hr with hr | hr
  · obtain ⟨g, rfl⟩ := hR r hr
    exact drop1_rem (rem_chain b g) hp
  · obtain rfl := List.mem_singleton.mp hr
    exact drop1_notTail ht
theorem good_all {R : List Row} {b : Row} {f s p : Way} (hR : ∀ r ∈ R, ∃ g, r = prefs g) (hp : Ready b p) (ht : p ∉ (rem b [f, s]).tail) :
    goodHead (ne ((R ++ [[f, s]]).map (rem b))) p = true := by
  refine goodHead_of fun r' hr' => ?_
  obtain ⟨r, hr, rfl⟩ := List.mem_map.mp (mem_ne hr')
  rcases List.mem_append.mp hr with hr | hr
  · obtain ⟨g, rfl⟩ := hR r hr
    exact ready_notTail (rem_chain b g) hp
  · obtain rfl := List.mem_singleton.mp hr
    exact ht

/-- a turn ahead of f -/
theorem turn_U {R : List Row} {b : Row} {f s p : Way} (hR : ∀ r ∈ R, ∃ g, r = prefs g) (hs : s ≠ []) (hf : f ∈ R.flatten) (hb : ∀ q ∈ b, nU s q = true) (hfb : f ∉ b)
    (h : R.flatten.find? (fun q => nU s q && decide (q ∉ b)) = some p) :
    pick (ne ((R ++ [[f, s]]).map (rem b))) = some p ∧ ne ((ne ((R ++ [[f, s]]).map (rem b))).map (drop1 p)) = ne ((R ++ [[f, s]]).map (rem (b ++ [p]))) := by
  obtain ⟨⟨r, hr, hrh⟩, hh⟩ := first_rowU hR h
  obtain ⟨g, rfl⟩ := hR r hr
  have hready := ready_of hrh
  have hpU : nU s p = true := by
    have := List.find?_some h
    simp only [Bool.and_eq_true] at this
    exact this.1
  have hsb : s ∉ b := fun q => by have := hb s q; rw [nU_self] at this; cases this
  have hrow : rem b [f, s] = [f, s] := mem_rem_pair hfb hsb
  have ht : p ∉ (rem b [f, s]).tail := by
    rw [hrow]
    intro q
    obtain rfl : p = s := by simpa using q
    rw [nU_self] at hpU; cases hpU
  refine ⟨?_, drop_all hR hready ht⟩
  unfold pick
  refine find_of ?_ (heads_U hR hs hf hb hfb) (good_all hR hready ht)
  rw [List.map_append, ne_append, List.filterMap_append, List.find?_append, hh]
  rfl
/-- a turn behind f -/
theorem turn_rest {R : List Row} {b : Row} {f s p : Way} (hR : ∀ r ∈ R, ∃ g, r = prefs g) (hfb : f ∈ b)
    (h : R.flatten.find? (fun q => decide (q ∉ b)) = some p) :
    pick (ne ((R ++ [[f, s]]).map (rem b))) = some p ∧ ne ((ne ((R ++ [[f, s]]).map (rem b))).map (drop1 p)) = ne ((R ++ [[f, s]]).map (rem (b ++ [p]))) := by
  obtain ⟨⟨r, hr, hrh⟩, hh⟩ := first_row h
  obtain ⟨g, rfl⟩ := hR r hr
  have hready := ready_of hrh
  have ht : p ∉ (rem b [f, s]).tail := by
    unfold rem
    rw [List.filter_cons_of_neg (by simpa using hfb), List.filter_cons]
    split <;> simp
  refine ⟨?_, drop_all hR hready ht⟩
  unfold pick
  rw [List.map_append, ne_append, List.filterMap_append]
  cases e : (ne (R.map (rem b))).filterMap List.head? with
  | nil => rw [e] at hh; cases hh
  | cons a t =>
    rw [e] at hh
    obtain rfl : a = p := by simpa using hh
    rw [List.cons_append, List.find?_cons_of_pos]
    have := good_all hR hready ht
    rw [List.map_append, ne_append] at this
    exact this
theorem firsts_nodup (f : Row) : (firsts f).Nodup := by
  induction f using snoc_ind with
  | nil => exact List.nodup_nil
  | snoc r x ih =>
    rw [firsts_snoc]
    unfold stepP
    split
    · exact ih
    · rename_i hx
      rw [List.nodup_append]
      refine ⟨ih, by simp, ?_⟩
      intro a ha b hb
      obtain rfl := List.mem_singleton.mp hb
      rintro rfl
      exact hx ha
theorem rem_nil (R : List Row) : R.map (rem []) = R := by
  conv => rhs; rw [← List.map_id R]
  refine List.map_congr_left fun r _ => ?_
  unfold rem; simp
theorem total_snoc (R : List Row) (r : Row) : total (R ++ [r]) = total R + r.length := by
  unfold total; rw [List.map_append, List.sum_append]; simp
/-- a row more whose first name lies under its second: no order -/
theorem c3_more_none (R : List Row) (hR : ∀ r ∈ R, ∃ g, r = prefs g) (f s : Way) (hs0 : s ≠ []) (hf : f ∈ R.flatten) (hu : f.take s.length = s) :
    c3 (total (R ++ [[f, s]]) + 1) (R ++ [[f, s]]) [] = none := by
  have hfu : nU s f = false := by unfold nU; simpa using hu
  have hlen : ((firsts R.flatten).filter (nU s)).length ≤ total R := by
    rw [← flatten_total]
    exact Nat.le_trans (List.length_filter_le _ _) (firsts_length _)
  obtain ⟨n, hn⟩ : ∃ n, total (R ++ [[f, s]]) = n + ((firsts R.flatten).filter (nU s)).length := ⟨total (R ++ [[f, s]]) - ((firsts R.flatten).filter (nU s)).length, by rw [total_snoc]; omega⟩
  have hbU : ∀ b : Row, (∀ q ∈ b, q ∈ (firsts R.flatten).filter (nU s)) → (∀ q ∈ b, nU s q = true) ∧ f ∉ b := fun b hb =>
    ⟨fun q hq => (List.mem_filter.mp (hb q hq)).2, fun q => by have := (List.mem_filter.mp (hb f q)).2; rw [hfu] at this; cases this⟩
  have run := c3_run (fun out => (R ++ [[f, s]]).map (rem out)) ((firsts R.flatten).filter (nU s)) [] n (fun b p d h => ?_)
  · rw [List.nil_append, rem_nil] at run
    rw [show total (R ++ [[f, s]]) + 1 = n + 1 + ((firsts R.flatten).filter (nU s)).length by omega, run, c3_ne]
    obtain ⟨hb1, hb2⟩ := hbU _ (fun q hq => hq)
    have hsb : s ∉ (firsts R.flatten).filter (nU s) := fun q => by have := hb1 s q; rw [nU_self] at this; cases this
    have hrow : rem ((firsts R.flatten).filter (nU s)) [f, s] = [f, s] := mem_rem_pair hb2 hsb
    have hrowm : [f, s] ∈ ne ((R ++ [[f, s]]).map (rem ((firsts R.flatten).filter (nU s)))) := ne_mem (List.mem_map.mpr ⟨[f, s], by simp, hrow⟩) (by simp)
    rw [if_neg (List.ne_nil_of_mem hrowm)]
    have hp : pick (ne ((R ++ [[f, s]]).map (rem ((firsts R.flatten).filter (nU s))))) = none := by
      unfold pick
      rw [List.find?_eq_none]
      intro h hh hg
      have hU := heads_U hR hs0 hf hb1 hb2 h hh hg
      obtain ⟨r', hr', e⟩ := mem_heads hh
      obtain ⟨r, hr, rfl⟩ := List.mem_map.mp hr'
      have hm := mem_rem.mp (List.mem_of_head? e)
      refine hm.2 (List.mem_filter.mpr ⟨?_, hU⟩)
      refine mem_firsts.mpr ?_
      rcases List.mem_append.mp hr with hr | hr
      · exact List.mem_flatten.mpr ⟨r, hr, hm.1⟩
      · obtain rfl := List.mem_singleton.mp hr
        rcases List.mem_cons.mp hm.1 with q | q
        · rw [q]; exact hf
        · obtain rfl := List.mem_singleton.mp q
          rw [nU_self] at hU; cases hU
    rw [hp]
  · simp only [List.nil_append] at h ⊢
    have hsub : ∀ q ∈ b, q ∈ (firsts R.flatten).filter (nU s) := fun q hq => by rw [h]; exact List.mem_append_left _ hq
    obtain ⟨h1, h2⟩ := hbU b hsub
    refine turn_U hR hs0 hf h1 h2 ?_
    rw [← firsts_filter] at h
    have := firsts_next h
    rw [List.find?_filter, fun_and (nU s) (fun q => decide (q ∉ b))] at this
    exact this
theorem filter_both (A P : Row) : (P.filter fun p => decide (p ∈ A)).length + (P.filter fun p => decide (p ∉ A)).length = P.length := by
  induction P with
  | nil => rfl
  | cons x t ih =>
    by_cases hx : x ∈ A
    · rw [List.filter_cons_of_pos (by simpa using hx), List.filter_cons_of_neg (by simpa using hx), List.length_cons, List.length_cons]; omega
    · rw [List.filter_cons_of_neg (by simpa using hx), List.filter_cons_of_pos (by simpa using hx), List.length_cons, List.length_cons]; omega
/-- a row more else: what is not under its second name up to its first, then the rest -/
theorem c3_more_some (R : List Row) (hR : ∀ r ∈ R, ∃ g, r = prefs g) (f s : Way) (hs0 : s ≠ []) (hs : s ∈ R.flatten) (j : Nat) (hj : (firsts R.flatten)[j]? = some f) (hu : f.take s.length ≠ s) :
    c3 (total (R ++ [[f, s]]) + 1) (R ++ [[f, s]]) [] = some (aheadW (firsts R.flatten) j s ++ (firsts R.flatten).filter fun p => decide (p ∉ aheadW (firsts R.flatten) j s)) := by
  have hfU : nU s f = true := by unfold nU; simpa using hu
  have hf : f ∈ R.flatten := mem_firsts.mp (List.mem_of_getElem? hj)
  obtain ⟨hjl, hje⟩ := List.getElem?_eq_some_iff.mp hj
  generalize hP : firsts R.flatten = P at *
  have hnd : P.Nodup := hP ▸ firsts_nodup _
  have htk : P.take (j + 1) = P.take j ++ [f] := by rw [List.take_add_one, hj]; rfl
  have hah : aheadW P j s = (P.take j).filter (nU s) ++ [f] := by
    show (P.take (j + 1)).filter (nU s) = _
    rw [htk, List.filter_append, List.filter_cons_of_pos hfU, List.filter_nil]
  have hfj : f ∉ P.take j := by
    intro q
    obtain ⟨i, hi⟩ := List.getElem?_of_mem q
    have hil : i < (P.take j).length := (List.getElem?_eq_some_iff.mp hi).1
    rw [List.length_take] at hil
    rw [List.getElem?_take_of_lt (by omega)] at hi
    have := (List.getElem?_inj (i := i) (j := j) (by omega) hnd).mp (by rw [hi, hj])
    omega
  have hPU : P.filter (nU s) = aheadW P j s ++ (P.drop (j + 1)).filter (nU s) := by
    show _ = (P.take (j + 1)).filter (nU s) ++ _
    rw [← List.filter_append, List.take_append_drop]
  have hsubl : (aheadW P j s).Sublist (P.filter fun p => decide (p ∈ aheadW P j s)) := by
    have h1 : (aheadW P j s).Sublist P := (List.filter_sublist).trans (List.take_sublist _ _)
    have h2 := h1.filter (fun p => decide (p ∈ aheadW P j s))
    have h3 : (aheadW P j s).filter (fun p => decide (p ∈ aheadW P j s)) = aheadW P j s := by
      rw [List.filter_eq_self]; intro a ha; simpa using ha
    rw [h3] at h2
    exact h2
  have hlen : (aheadW P j s ++ P.filter fun p => decide (p ∉ aheadW P j s)).length ≤ total R := by
    rw [← flatten_total, List.length_append]
    have h1 := hsubl.length_le
    have h2 : (P.filter fun p => decide (p ∈ aheadW P j s)).length + (P.filter fun p => decide (p ∉ aheadW P j s)).length = P.length := by
      exact filter_both _ P
    have h3 : P.length ≤ R.flatten.length := hP ▸ firsts_length _
    omega
  generalize hl : (aheadW P j s ++ P.filter fun p => decide (p ∉ aheadW P j s)) = l at *
  obtain ⟨n, hn⟩ : ∃ n, total (R ++ [[f, s]]) = n + l.length := ⟨total (R ++ [[f, s]]) - l.length, by rw [total_snoc]; omega⟩
  have run := c3_run (fun out => (R ++ [[f, s]]).map (rem out)) l [] n (fun b p d h => ?_)
  · rw [List.nil_append, rem_nil] at run
    rw [show total (R ++ [[f, s]]) + 1 = n + 1 + l.length by omega, run, c3_ne, if_pos]
    unfold ne
    rw [List.filter_eq_nil_iff]
    intro s' hs'
    obtain ⟨r, hr, rfl⟩ := List.mem_map.mp hs'
    have hin : ∀ q ∈ R.flatten, q ∈ l := by
      intro q hq
      rw [← hl, List.mem_append]
      by_cases hqa : q ∈ aheadW P j s
      · exact .inl hqa
      · exact .inr (List.mem_filter.mpr ⟨hP ▸ mem_firsts.mpr hq, by simpa using hqa⟩)
    have : rem l r = [] := by
      unfold rem
      rw [List.filter_eq_nil_iff]
      intro q hq
      have : q ∈ l := by
        rcases List.mem_append.mp hr with hr | hr
        · exact hin q (List.mem_flatten.mpr ⟨r, hr, hq⟩)
        · obtain rfl := List.mem_singleton.mp hr
          rcases List.mem_cons.mp hq with e | e
          · rw [e]; exact hin f hf
          · rw [List.mem_singleton.mp e]; exact hin s hs
      simpa using this
    simp [this]
  · simp only [List.nil_append] at h ⊢
    rw [← hl, hah, List.append_assoc] at h
    by_cases hfb : f ∈ b
    · -- behind
      have hb : ∃ b2, b = aheadW P j s ++ b2 ∧ (P.filter fun p => decide (p ∉ aheadW P j s)) = b2 ++ p :: d := by
        rw [← List.append_assoc, ← hah] at h
        rcases List.append_eq_append_iff.mp h with ⟨a', h1, h2⟩ | ⟨c', h1, h2⟩
        · exact ⟨a', h1, h2⟩
        · rcases c' with _ | ⟨x, c'⟩
          · exact ⟨[], by rw [List.append_nil] at h1 ⊢; exact h1.symm, by simpa using h2.symm⟩
          · exfalso
            rw [hah] at h1
            have hin : f ∈ (P.take j).filter (nU s) := by
              rcases List.eq_nil_or_concat c' with rfl | ⟨c2, y, rfl⟩
              · have := (List.append_inj' h1 rfl).1
                rw [this]; exact hfb
              · have h1' : (P.take j).filter (nU s) ++ [f] = (b ++ x :: c2) ++ [y] := by rw [h1]; simp
                rw [(List.append_inj' h1' rfl).1]; exact List.mem_append_left _ hfb
            exact hfj (List.mem_filter.mp hin).1
      obtain ⟨b2, rfl, h2⟩ := hb
      refine turn_rest hR hfb ?_
      rw [← hP] at h2
      rw [← firsts_filter] at h2
      have := firsts_next h2
      rw [List.find?_filter, hP] at this
      rw [← this]
      congr 1
      funext q
      simp [List.mem_append]
    · -- ahead
      have hb : ∃ d', (P.take j).filter (nU s) ++ [f] = b ++ p :: d' := by
        rw [← List.append_assoc, List.append_eq_append_iff] at h
        rcases h with ⟨a', h1, h2⟩ | ⟨c', h1, h2⟩
        · exfalso
          refine hfb ?_
          rw [h1]
          simp
        · rcases c' with _ | ⟨x, c'⟩
          · exfalso
            refine hfb ?_
            rw [List.append_nil] at h1
            rw [← h1]; simp
          · rw [List.cons_append] at h2
            obtain ⟨rfl, _⟩ := List.cons.inj h2
            exact ⟨c', h1⟩
      obtain ⟨d', hb⟩ := hb
      have hbU : ∀ q ∈ b, nU s q = true := by
        intro q hq
        have : q ∈ (P.take j).filter (nU s) ++ [f] := by rw [hb]; exact List.mem_append_left _ hq
        rcases List.mem_append.mp this with e | e
        · exact (List.mem_filter.mp e).2
        · rw [List.mem_singleton.mp e]; exact hfU
      refine turn_U hR hs0 hf hbU hfb ?_
      have hfull : (firsts R.flatten).filter (nU s) = b ++ p :: (d' ++ (P.drop (j + 1)).filter (nU s)) := by
        rw [hP, hPU, hah, hb]; simp
      rw [← firsts_filter] at hfull
      have := firsts_next hfull
      rw [List.find?_filter, fun_and (nU s) (fun q => decide (q ∉ b))] at this
      exact this
/-- _c3_merge with a row more answers as the law says -/
theorem merged_more (R : List Row) (hR : ∀ r ∈ R, ∃ g, r = prefs g) (f s : Way) (hs0 : s ≠ []) (hs : s ∈ R.flatten) (j : Nat) (hj : (firsts R.flatten)[j]? = some f) :
    mergedD (R ++ [[f, s]]) = moreD (firsts R.flatten) j f s := by
  have hf : f ∈ R.flatten := mem_firsts.mp (List.mem_of_getElem? hj)
  unfold mergedD moreD
  by_cases hu : f.take s.length = s
  · rw [if_pos hu, c3_more_none R hR f s hs0 hf hu]
  · rw [if_neg hu, c3_more_some R hR f s hs0 hs j hj hu]
theorem merged_plain (R : List Row) (hR : ∀ r ∈ R, ∃ g, r = prefs g) : mergedD R = rowD (firsts R.flatten) := by
  unfold mergedD
  rw [c3_chains R hR]
end
section
open PySem PySem.W PyProof.Rows PyProof.Rows.LCg
section
variable {prog : Program} {w : World} {P : List Way} {th : Way → Option Dat} {val : Way → Value} {T T' I I' nx nx' : Led} {h₀ h : Heap} {L : Addr}
/-- nests are dicts -/
theorem nest_ne (N : News h₀ L h nx) (tr : TreeM prog w nx I P th val) {q : Way} {a l : Addr} {ol : Obj} (hq : isNest P th q) (hv : val q = .ref a) (hl : (l, ol) ∈ nx) (ho : ∀ es ep, ol.data ≠ .dict es ep) : a ≠ l := by
  obtain ⟨a', o, hv', _, hm, es, ep, _, hd, _⟩ := tr.nest q hq.1 hq.2
  rw [hv] at hv'
  injection hv' with hv'
  rw [hv']
  refine News.ne N hm hl ?_
  rintro rfl
  exact ho _ _ hd
theorem TreeM.mvT (tr : TreeM prog w T I P th val) (h : ∀ q a o, isNest P th q → val q = .ref a → (a, o) ∈ T → (a, o) ∈ T') : TreeM prog w T' I P th val := by
  refine { tr with nest := fun p hp ht => ?_ }
  obtain ⟨a, o, hv, hs, hm, hd⟩ := tr.nest p hp ht
  exact ⟨a, o, hv, hs, h p a o ⟨hp, ht⟩ hv hm, hd⟩
theorem TreeM.mvI (tr : TreeM prog w T I P th val) (h : ∀ e ∈ I, e ∈ I') (ha : ∀ p a, isNest P th p → val p = .ref a → ∀ e ∈ I', e.1 ≠ a) : TreeM prog w T I' P th val :=
  { tr with thing := fun p hp d hd => (tr.thing p hp d hd).mono h, apart := ha }
end
/-- the state between two deeds -/
structure St (prog : Program) (w : World) (nx I : Led) (offs : List Addr) (lth lr : Addr) (P : List Way) (things : List (Way × Dat)) (rows : List Row) (pend : Row) (val : Way → Value) (tvs : List Value) (tn : Nat) (rvs : List Value) (rn : Nat) : Prop where
  tr : TreeM prog w nx I P (thingAt things) val
  hP : P = firsts (rows.flatten ++ pend)
  hrow : ∀ r ∈ rows, ∃ g, r = prefs g ∧ WOk g ∧ g.length ≤ 3
  hth : ∀ t ∈ things, WOk t.1 ∧ t.1.length ≤ 3 ∧ IsThing t.2
  ne : lth ≠ lr
  lt : (lth, listOf tvs.toArray tn) ∈ nx
  dt : DatAll I tvs (things.map thingD)
  lr : (lr, listOf rvs.toArray rn) ∈ nx
  dr : DatAll I rvs (rows.map rowD)
  sub : ∀ e ∈ I, e ∈ nx
  off : ∀ e ∈ I, e.1 ∉ offs
section
variable {prog : Program} {w : World} {h₀ h : Heap} {L : Addr} {nx nx' I I' tl : Led} {offs : List Addr} {lth lr : Addr} {P : List Way} {things : List (Way × Dat)} {rows : List Row} {pend : Row} {val : Way → Value} {tvs : List Value} {tn : Nat} {rvs : List Value} {rn : Nat}
/-- an object that is none of it changes -/
theorem St.other (S : St prog w nx I offs lth lr P things rows pend val tvs tn rvs rn) (N : News h₀ L h nx) {c : Addr} {oc : Obj} (hc : c ∈ offs) (hm : (c, oc) ∈ nx) (h1 : ∀ es ep, oc.data ≠ .dict es ep) (h2 : ∀ es n, oc.data ≠ .seq es n) (k : ∀ p ∈ nx, p.1 ≠ c → p ∈ nx') :
    St prog w nx' I offs lth lr P things rows pend val tvs tn rvs rn :=
  { S with
    tr := S.tr.mvT fun q a o hq hv hm' => k _ hm' (nest_ne N S.tr hq hv hm h1)
    lt := k _ S.lt (News.ne N S.lt hm fun z => h2 _ _ (by rw [← z]))
    lr := k _ S.lr (News.ne N S.lr hm fun z => h2 _ _ (by rw [← z]))
    sub := fun e he => k e (S.sub e he) fun z => S.off e he (by rw [z]; exact hc) }
/-- data is added -/
theorem St.grow (S : St prog w nx I offs lth lr P things rows pend val tvs tn rvs rn) (hoff : ∀ e ∈ tl, e.1 ∉ offs) (hfr : ∀ e ∈ tl, ∀ p ∈ nx, p.1 < e.1) (k : ∀ p ∈ nx, p ∈ nx') (kt : ∀ p ∈ tl, p ∈ nx') :
    St prog w nx' (tl ++ I) offs lth lr P things rows pend val tvs tn rvs rn :=
  { S with
    tr := (S.tr.mvT (T' := nx') fun q a o _ _ hm => k _ hm).mvI (fun e he => List.mem_append_right _ he) fun p a hp hv e he => by
      rcases List.mem_append.mp he with he | he
      · obtain ⟨a', o, hv', _, hm, _⟩ := S.tr.nest p hp.1 hp.2
        rw [hv] at hv'
        injection hv' with hv'
        have := hfr e he _ hm
        rw [hv']
        exact Nat.ne_of_gt this
      · exact S.tr.apart p a hp hv e he
    lt := k _ S.lt
    dt := S.dt.mono fun e he => List.mem_append_right _ he
    lr := k _ S.lr
    dr := S.dr.mono fun e he => List.mem_append_right _ he
    sub := fun e he => (List.mem_append.mp he).elim (kt e) fun he => k e (S.sub e he)
    off := fun e he => (List.mem_append.mp he).elim (hoff e) (S.off e) }
theorem St.same (S : St prog w nx I offs lth lr P things rows pend val tvs tn rvs rn) (k : ∀ p ∈ nx, p ∈ nx') : St prog w nx' I offs lth lr P things rows pend val tvs tn rvs rn :=
  { S with tr := S.tr.mvT fun q a o _ _ hm => k _ hm, lt := k _ S.lt, lr := k _ S.lr, sub := fun e he => k e (S.sub e he) }
end
/-- a barred way -/
theorem thingAt_some {things : List (Way × Dat)} {q : Way} : thingAt things q ≠ none ↔ ∃ t ∈ things, t.1 = q := by
  unfold thingAt
  constructor
  · intro h
    cases e : things.find? fun t => decide (t.1 = q) with
    | none => rw [e] at h; exact absurd rfl h
    | some t => exact ⟨t, List.mem_of_find?_eq_some e, by simpa using List.find?_some e⟩
  · rintro ⟨t, ht, rfl⟩ h
    rw [Option.map_eq_none_iff, List.find?_eq_none] at h
    exact h t ht (by simp)
noncomputable def barredW (things : List (Way × Dat)) (goal : Way) : List Way := (things.map (·.1)).filter fun p => decide (goal.take p.length = p)
theorem barred_iff {things : List (Way × Dat)} {goal : Way} : barredW things goal ≠ [] ↔ ∃ k, k ≤ goal.length ∧ thingAt things (goal.take k) ≠ none := by
  unfold barredW
  constructor
  · intro h
    obtain ⟨p, hp⟩ := List.exists_mem_of_ne_nil _ h
    obtain ⟨h1, h2⟩ := List.mem_filter.mp hp
    obtain ⟨t, ht, rfl⟩ := List.mem_map.mp h1
    have h2 : goal.take t.1.length = t.1 := by simpa using h2
    refine ⟨t.1.length, ?_, ?_⟩
    · have := congrArg List.length h2
      rw [List.length_take] at this
      omega
    · rw [h2]; exact thingAt_some.mpr ⟨t, ht, rfl⟩
  · rintro ⟨k, hk, h⟩
    obtain ⟨t, ht, e⟩ := thingAt_some.mp h
    refine List.ne_nil_of_mem (a := t.1) (List.mem_filter.mpr ⟨List.mem_map.mpr ⟨t, ht, rfl⟩, ?_⟩)
    rw [e, List.length_take, Nat.min_eq_left hk]
    simp
/-- the lambda's code, once made -/
def TabSt (nx I : Led) : Prop :=
  (107, tabObj #[]) ∈ nx ∨ ∃ c' oc vs t, (107, tabObj #[rawInt (104 : Nat), rawInt (40 : Nat), .ref c']) ∈ nx ∧ (c', oc) ∈ I ∧ oc.data = .fields vs ∧ vs[1]? = some (.str (Str.ofString "law.<locals>.<lambda>") t)
section
variable {M : Model} {A : Around} {E : Value → Shared → Prop} {s : Shared} {h₀ : Heap} {L a c : Addr} {m mg mb : Str → Option Value} {cn : Str} {cs : Scope} {ccd : Value} {cl : List (Str × Addr)} {nx I : Led}
  {p : Program} {loose : List Str} {mean : ExcName → Option Value} {pos : Pos} {firstLine : Nat}
theorem lam_made {Q : Value → Shared → Prop} (F : Fr h₀ L s.heap m) (N : News h₀ L s.heap nx) (Tp : Top p loose mean mg mb h₀) (C : CodeHd h₀ c 107) (hcd : ccd = .ref c) (TS : TabSt nx I) (hI : ∀ e ∈ I, e ∈ nx) (hl : pos.line = 104) (hp : pos.col = 40)
    (hcl : closureFor lamScope (envX cn cs L a ccd cl) = pure [])
    (h : ∀ f c' oc vs t ctv h' tk nx', Fr h₀ L h' m → News h₀ L h' nx' → (f, kla_obj "<lambda>" "law.<locals>.<lambda>" lamParams lamBody lamScope [] ((mg "__name__").getD .none) c' ctv) ∈ nx' → (c', oc) ∈ nx' → oc.data = .fields vs → vs[1]? = some (.str "law.<locals>.<lambda>" t) →
      (107, tabObj #[rawInt (104 : Nat), rawInt (40 : Nat), .ref c']) ∈ nx' → (∀ e ∈ nx, e.1 ≠ 107 → e ∈ nx') → ((c', oc) ∈ I ∨ ∀ e ∈ nx, e.1 < c') → Q (.ref f) { s with heap := h', toks := tk }) :
    wpAny M A (makeFunction "<lambda>" "law.<locals>.<lambda>" lamParams (.expr lamBody) lamScope (envX cn cs L a ccd cl) [] [] [] pos firstLine) Q E s := by
  rcases TS with hm | ⟨c', oc, vs, t, hm, hc, hd, hv⟩
  · have N' : News h₀ L s.heap ((107, tabObj #[]) :: nx.filter fun e => decide (e.1 ≠ 107)) := News.sub N fun e he => by
      rcases List.mem_cons.mp he with rfl | he
      · exact hm
      · exact (List.mem_filter.mp he).1
    have U : UpdF 107 (tabObj #[]) ((107, tabObj #[]) :: nx.filter fun e => decide (e.1 ≠ 107)) _ := .head fun e he => by simpa using (List.mem_filter.mp he).2
    refine kla_nest F N' Tp C hcd U trivial rfl hcl fun f c' oc vs t ctv h' tk F' N'' hd hv lo hlt => ?_
    rw [hl, hp] at N''
    refine h f c' oc vs t ctv h' tk _ F' N'' (.head _) (.tail _ (.head _)) hd hv (.tail _ (.tail _ (.head _))) (fun e he hne => .tail _ (.tail _ (.tail _ (List.mem_filter.mpr ⟨he, by simpa using hne⟩)))) (.inr fun e he => ?_)
    by_cases hz : e.1 = 107
    · rw [hz]; exact lo (107, tabObj #[]) (.head _)
    · exact lo e (.tail _ (List.mem_filter.mpr ⟨he, by simpa using hz⟩))
  · refine kla_hit (c' := c') F N Tp C hcd hm ?_ ?_ hcl fun f ctv h' tk F' N' lo => ?_
    · exact trivial
    · show (if ((104 : Int) == pos.line && (40 : Int) == pos.col) = true then _ else _) = _
      rw [hl, hp]; rfl
    · exact h f c' oc vs t ctv h' tk _ F' N' (.head _) (.tail _ (hI _ hc)) hd hv (.tail _ hm) (fun e he _ => .tail _ he) (.inl hc)
end
section
variable {prog : Program} {w : World} {A₀ : Around} {E : Value → Shared → Prop} {s' : Shared} {h₀ G : Heap} {outer : List Env} {L a e t : Addr} {m : Str → Option Value} {name : Str} {scope : Scope} {cd : Value} {cl : List (Str × Addr)}
  {vs : List Value} {n : Str} {b₀ : Stmt} {suite : List Stmt} {pos np : Pos} {rest : List ExceptHandler} {Q : Flow → Shared → Prop} {news : Led} {K : Frag}
  {p : Program} {loose : List Str} {mean : ExcName → Option Value} {mg mb : Str → Option Value} {x : Str} {X T' : String}
/-- an exception is caught under a name, in a frame with cells -/
theorem caughtX (B : Below A₀ h₀ outer h₀) (F : Fr h₀ L G m) (hsm : G.UpToSlots s'.heap) (R : RaisedS h₀ G (envX name scope L a cd cl :: outer) e (.type X) t vs news s'.heap) (X₀ : K.In h₀)
    (T : TopRead p loose mg mb h₀) (ex : nsIn K mainGlobals x = some none) (hv : bootBuiltins x = some (.type T')) (hn : x ≠ "__name__")
    (hexc : isSubtype (.type T') (.type "BaseException") = pure true) (hnt : isSubtype (.type ((Manifest.find? T').elim "type" fun y => y.metatype)) (.type "tuple") = pure false) (hsub : isSubtype (.type X) (.type T') = pure true)
    (k : ∀ h' news₂ tk, Fr h₀ L h' (fun y => if y = n then some (.ref e) else m y) → News h₀ L h' (news₂ ++ news) → Got news₂ e t (.type X) vs →
      wpAny (model prog w) ((A₀.deeper (envX name scope L a cd cl)).mark (some (.ref e))) (execs (b₀ :: suite) (envX name scope L a cd cl))
        (fun f s₄ => wpAny (model prog w) (A₀.deeper (envX name scope L a cd cl)) (do bindName (envX name scope L a cd cl) n .none; unbindBehindTheSuite (envX name scope L a cd cl) n pos) (fun _ s₅ => Q f s₅) E s₄)
        (AsSuiteRaised (model prog w) ((A₀.deeper (envX name scope L a cd cl)).mark (some (.ref e))) (envX name scope L a cd cl) n pos (notedBy (model prog w) ((A₀.deeper (envX name scope L a cd cl)).mark (some (.ref e))) (envX name scope L a cd cl) (cameBackBy (model prog w) (A₀.deeper (envX name scope L a cd cl)) (envX name scope L a cd cl) E)))
        { s' with heap := h', toks := tk })
    (hk : scope.kind = .function := by rfl) (hlo : (envX name scope L a cd cl).kindOf n = some .local := by rfl) (hx : (envX name scope L a cd cl).kindOf x = some .globalImplicit := by rfl) (hd : (x == ("__debug__" : Str)) = false := by decide) :
    wpAny (model prog w) (A₀.deeper (envX name scope L a cd cl)) (noteFrame (.ref e) (envX name scope L a cd cl))
      (fun _ s₂ => wpAny (model prog w) (A₀.deeper (envX name scope L a cd cl)) (setFlight (.ref e) none) (fun _ s₃ =>
        wpAny (model prog w) (A₀.deeper (envX name scope L a cd cl)) (handleBy (.ref e) (envX name scope L a cd cl) (.ExceptHandler (some (.Name x np)) (some n) (b₀ :: suite) pos :: rest)) Q E s₃) E s₂) E s' := by
  obtain ⟨⟨B', hB, _, hl, hfl, hnew⟩, htup⟩ := R
  have hL : B'.get? L = none := by
    obtain ⟨_, ⟨L', _, hf, hn', _⟩, _⟩ := hfl.2.2.1
    obtain rfl : L = L' := Option.some.inj hf
    exact hn'
  refine wpAny_looks_onW (Around.frames_deeper B.stack) rfl hfl fun h₄ hheld₄ hsm₄ => ?_
  refine wpAny_landsW hheld₄ fun h₅ hheld hsm₅' => ?_
  have hsm₅ := hsm₄.trans hsm₅'
  have hheld' := flyingW_base hB hheld
  have F₅ := F.of_stays hheld'.1 (hsm.trans hsm₅)
  obtain ⟨ob, hob, hobc⟩ := hheld'.there
  refine wpAny_handleBy_builtin_as (X := X) (T := T') (b := true) hexc hnt hsub (nameX_B F₅ X₀ T ex hv hn ⟨rfl, ⟨ob, hob, hobc⟩, ?_⟩ hk hx hd)
  refine lands_againW hheld fun h₆ hfl₆ hsm₆ => ?_
  have hfl₆' := flyingW_base hB hfl₆
  have F₆ := F.of_stays hfl₆'.1 ((hsm.trans hsm₅).trans hsm₆)
  obtain ⟨oe, ws, hoe, hoec, hoed, hoe0⟩ := hfl₆'.first
  obtain ⟨ot, nt, hot, hotc, hotd⟩ := (htup.of_slots hsm₅).of_slots hsm₆
  have N₆ := News.more F₆ (News.more F₆ News.nil hot (fun es n q => by rw [hotd] at q; cases q) (fresh_of_stays hB hnew)) hoe (fun es n q => by rw [hoed] at q; cases q) hfl₆'.2.1
  have Nl : News h₀ L h₆ news := fun q hq => ⟨hfl₆.1 _ _ (hl q hq).1, (fun z => by have := (hl q hq).1; rw [z, hL] at this; cases this), (hl q hq).2.2⟩
  refine storeX_L F₆ (news := _ ++ news) (fun q hq => (List.mem_append.mp hq).elim (N₆ q) (Nl q)) (fun h₇ F₇ N₇ => ?_) hk hlo
  exact k h₇ _ _ F₇ N₇ ⟨oe, ot, ws, nt, .head _, .tail _ (.head _), hoec, hoed, hoe0, hotc, hotd⟩
end
end
section
open PySem PySem.W PyProof.Rows PyProof.Rows.LCg
theorem wayAcc_len : ∀ (k n : Nat) (acc : Way), n < (if k = 0 then 1 else if k = 1 then 4 else if k = 2 then 13 else 40) → k ≤ 3 → (wayAcc n acc).length ≤ acc.length + k
  | 0, n, acc, h, _ => by
    obtain rfl : n = 0 := by simpa using h
    rw [wayAcc_zero]; omega
  | k + 1, n, acc, h, hk => by
    by_cases h0 : n = 0
    · subst h0; rw [wayAcc_zero]; omega
    · rw [wayAcc_pos h0]
      have := wayAcc_len k ((n - 1) / 3) (nameAt ((n - 1) % 3) :: acc) (by
        have : k = 0 ∨ k = 1 ∨ k = 2 := by omega
        rcases this with rfl | rfl | rfl <;> simp at h ⊢ <;> omega) (by omega)
      rw [List.length_cons] at this
      omega
theorem wayOf_len {n : Nat} (h : n < 40) : (wayOf n).length ≤ 3 := by
  have := wayAcc_len 3 n [] (by simpa using h) (Nat.le_refl _)
  unfold wayOf
  simpa using this
theorem wayAcc_ok (n : Nat) : ∀ acc : Way, WOk acc → WOk (wayAcc n acc) := by
  induction n using Nat.strongRecOn with
  | _ n ih =>
    intro acc h
    by_cases h0 : n = 0
    · subst h0; rw [wayAcc_zero]; exact h
    · rw [wayAcc_pos h0]
      refine ih _ (by omega) _ fun x hx => ?_
      rcases List.mem_cons.mp hx with rfl | hx
      · exact ⟨_, rfl⟩
      · exact h x hx
theorem wayOf_ok (n : Nat) : WOk (wayOf n) := wayAcc_ok n [] fun x hx => nomatch hx
theorem wayOf_seven : wayOf 7 ≠ [] := by
  unfold wayOf
  rw [wayAcc_pos (by decide), wayAcc_pos (by decide), wayAcc_zero]
  simp
theorem WOk.take {g : Way} (h : WOk g) (k : Nat) : WOk (g.take k) := fun x hx => h x (List.mem_of_mem_take hx)
theorem mem_prefs {g p : Way} : p ∈ prefs g ↔ ∃ k, k < g.length ∧ p = g.take (k + 1) := by
  unfold prefs
  rw [List.mem_map]
  constructor
  · rintro ⟨k, hk, rfl⟩; exact ⟨k, List.mem_range.mp hk, rfl⟩
  · rintro ⟨k, hk, rfl⟩; exact ⟨k, List.mem_range.mpr hk, rfl⟩
theorem prefs_len (g : Way) : (prefs g).length = g.length := by unfold prefs; rw [List.length_map, List.length_range]
/-- the numbers of the deeds -/
theorem int_nat {x : Int} (h0 : 0 ≤ x) : ∃ n : Nat, x = n := ⟨x.toNat, by omega⟩
theorem fmod_nat (n k : Nat) : (n : Int).fmod k = ((n % k : Nat) : Int) := by
  rw [Int.fmod_eq_emod_of_nonneg _ (Int.natCast_nonneg k)]; rfl
theorem fdiv_nat (n k : Nat) : (n : Int).fdiv k = ((n / k : Nat) : Int) := by
  rw [Int.fdiv_eq_ediv_of_nonneg _ (Int.natCast_nonneg k)]; rfl

/-- what holds between two turns of the law's first loop -/
def LawJ (w : World) (L : Addr) (ns : List Int) (l : Addr) (lo : Obj) (i : Nat) (m : Str → Option Value) (nx : Led) : Prop :=
  ∃ (lth lr xn dn d0 ln : Addr) (t0 : Tok) (c0 : Nat) (ys : List Value) (I : Led) (P : List Way) (things : List (Way × Dat)) (rows : List Row) (val : Way → Value) (tvs : List Value) (tn : Nat) (rvs : List Value) (rn : Nat) (oA oB : Obj) (vA : Option Value),
    Has m [(Str.ofString "rows", .ref lr), (Str.ofString "things", .ref lth), (Str.ofString "nested", .ref xn), (Str.ofString "numbers", .ref ln)] ∧
    St PySem.Challenge.rw_ij0018_01.row.prog w nx I [lth, lr, L + 1 + 1, L + 1, 107] lth lr P things rows [] val tvs tn rvs rn ∧ TabSt nx I ∧
    (L + 1, oA) ∈ nx ∧ oA.data = .cell vA ∧ (L + 1 + 1, oB) ∈ nx ∧ oB.data = .cell none ∧
    (xn, instObj 53 dn) ∈ I ∧ (dn, ownD w d0 t0 c0) ∈ I ∧ (ln, lst ys) ∈ I ∧ IntsAre ys ns ∧ (l, lo) ∈ I ∧ val [] = .ref d0 ∧
    rows.length ≤ i ∧ things.length ≤ i ∧ (i = 0 → things = []) ∧ (0 < i → P ≠ [])

section
variable {prog : Program} {w : World} {nx I : Led} {offs : List Addr} {lth lr : Addr} {P : List Way} {things : List (Way × Dat)} {rows : List Row} {val : Way → Value} {tvs : List Value} {tn : Nat} {rvs : List Value} {rn : Nat}
theorem St.chains (S : St prog w nx I offs lth lr P things rows [] val tvs tn rvs rn) : ∀ r ∈ rows, ∃ g, r = prefs g := fun r hr => by
  obtain ⟨g, h, _⟩ := S.hrow r hr
  exact ⟨g, h⟩
theorem St.pOk (S : St prog w nx I offs lth lr P things rows [] val tvs tn rvs rn) : ∀ p ∈ P, WOk p ∧ p.length ≤ 3 ∧ p ≠ [] := fun p hp => by
  rw [S.hP, List.append_nil, mem_firsts, List.mem_flatten] at hp
  obtain ⟨r, hr, hpr⟩ := hp
  obtain ⟨g, rfl, hg, hl⟩ := S.hrow r hr
  obtain ⟨k, hk, rfl⟩ := mem_prefs.mp hpr
  refine ⟨hg.take _, by rw [List.length_take]; omega, fun q => ?_⟩
  have := congrArg List.length q
  rw [List.length_take, Nat.min_eq_left (by omega)] at this
  cases this
theorem St.total (S : St prog w nx I offs lth lr P things rows [] val tvs tn rvs rn) : Mine.total rows ≤ 3 * rows.length := by
  have h := S.hrow
  clear S
  induction rows with
  | nil => simp [Mine.total]
  | cons r t ih =>
    have := ih fun r hr => h r (.tail _ hr)
    obtain ⟨g, rfl, _, hl⟩ := h r (.head _)
    unfold Mine.total at *
    rw [List.map_cons, List.sum_cons, List.length_cons, prefs_len]
    omega
theorem St.pLen (S : St prog w nx I offs lth lr P things rows [] val tvs tn rvs rn) : P.length ≤ 3 * rows.length := by
  rw [S.hP, List.append_nil]
  exact Nat.le_trans (firsts_length _) (by rw [flatten_total]; exact S.total)
/-- the places in their order: beginnings first -/
theorem St.ord (S : St prog w nx I offs lth lr P things rows [] val tvs tn rvs rn) : ∀ i q, P[i]? = some q → ∃ p x, q = p ++ [x] ∧ (p = [] ∨ p ∈ P.take i) ∧ thingAt things p = none := by
  intro i q hq
  obtain ⟨hi, e⟩ := List.getElem?_eq_some_iff.mp hq
  have hqP : q ∈ P := List.mem_of_getElem? hq
  have hq0 := (S.pOk q hqP).2.2
  have eq : q = q.dropLast ++ [q.getLast hq0] := (List.dropLast_concat_getLast hq0).symm
  refine ⟨q.dropLast, q.getLast hq0, eq, ?_, ?_⟩
  · by_cases h0 : q.dropLast = []
    · exact .inl h0
    · refine .inr ?_
      have hsplit : P = P.take i ++ q :: P.drop (i + 1) := by
        rw [← e, List.getElem_cons_drop, List.take_append_drop]
      rw [S.hP, List.append_nil] at hsplit
      have hf := firsts_next hsplit
      rw [← List.append_nil rows.flatten, ← S.hP, List.append_nil] at hf
      obtain ⟨⟨r, hr, hh⟩, _⟩ := first_row hf
      obtain ⟨g, rfl⟩ := S.chains r hr
      have := ready_of hh (q.length - 1) (by
        have := List.length_pos_iff.mpr h0
        rw [List.length_dropLast] at this
        exact this) (by have := List.length_pos_iff.mpr hq0; omega)
      rw [List.dropLast_eq_take]
      exact this
  · have := S.tr.closed q.dropLast (q.getLast hq0) (by rw [← eq]; exact hqP)
    exact this.2
end
theorem thTo_all {prog : Program} {w : World} {T I : Led} {P : List Way} {things : List (Way × Dat)} {val : Way → Value} (tr : TreeM prog w T I P (thingAt things) val) : thTo things P = thingAt things := by
  funext r
  unfold thTo
  by_cases h : r ∈ P
  · rw [if_pos h]
  · rw [if_neg h]
    cases e : thingAt things r with
    | none => rfl
    | some d => exact absurd (tr.thP r d e) h
theorem thingAt_snoc {things : List (Way × Dat)} {q : Way} {d : Dat} (h : thingAt things q = none) : thingAt (things ++ [(q, d)]) = upd (thingAt things) q (some d) := by
  funext r
  unfold thingAt upd
  rw [List.find?_append]
  by_cases hr : r = q
  · subst hr
    unfold thingAt at h
    rw [Option.map_eq_none_iff] at h
    rw [h, if_pos rfl]
    simp
  · rw [if_neg hr]
    have : ([(q, d)] : List (Way × Dat)).find? (fun t => decide (t.1 = r)) = none := by
      rw [List.find?_eq_none]
      intro t ht
      rw [List.mem_singleton.mp ht]
      simpa using Ne.symm hr
    rw [this, Option.or_none]
/-- the row of a nest's beginnings -/
theorem firsts_row (rows : List Row) (g : Way) : growN (firsts rows.flatten) g g.length = firsts (rows ++ [prefs g]).flatten := by
  rw [growN_firsts, List.flatten_append, List.flatten_cons, List.flatten_nil, List.append_nil]
theorem growN_congr (P : List Way) (g g' : Way) : ∀ i, (∀ k ≤ i, g.take k = g'.take k) → growN P g i = growN P g' i
  | 0, _ => rfl
  | i + 1, h => by rw [growN, growN, growN_congr P g g' i fun k hk => h k (by omega), h (i + 1) (Nat.le_refl _)]
theorem growN_snoc {P : List Way} {g : Way} {y : Str} (h : g ++ [y] ∉ growN P g g.length) : growN P (g ++ [y]) (g ++ [y]).length = growN P g g.length ++ [g ++ [y]] := by
  rw [List.length_append, List.length_singleton, growN, growN_congr P (g ++ [y]) g g.length (fun k hk => by rw [List.take_append_of_le_length hk]), stepP]
  have e : (g ++ [y]).take (g.length + 1) = g ++ [y] := List.take_of_length_le (by rw [List.length_append, List.length_singleton]; exact Nat.le_refl _)
  rw [e, if_neg h]
theorem growN_ne {P : List Way} {g : Way} (h : P ≠ [] ∨ g ≠ []) : growN P g g.length ≠ [] := by
  rcases h with h | h
  · obtain ⟨p, hp⟩ := List.exists_mem_of_ne_nil _ h
    exact List.ne_nil_of_mem (growN_sub hp _)
  · have hl := List.length_pos_iff.mpr h
    obtain ⟨k, hk⟩ : ∃ k, g.length = k + 1 := ⟨g.length - 1, by omega⟩
    rw [hk, growN]
    unfold stepP
    split
    · rename_i h'; exact List.ne_nil_of_mem h'
    · simp

theorem law_start {w : World} {L l l1 l2 l3 lr lth d0 xn dn ln l4 : Addr} {h₀ h : Heap} {lo o1 o2 o3 od o4 oA oB : Obj} {t0 : Tok} {c0 : Nat} {ys : List Value} {ns : List Int} {m : Str → Option Value} {vA : Option Value}
    (N : News h₀ L h [(l, lo), (l1, o1), (l2, o2), (l3, o3), (lr, listOf #[] 0), (lth, listOf #[] 0), (d0, od), (xn, instObj 53 dn), (dn, ownD w d0 t0 c0), (ln, lst ys), (l4, o4), (L + 1 + 1, oB), (L + 1, oA), (107, tabObj #[])])
    (hth : ∀ p ∈ [(d0, od), (xn, instObj 53 dn), (dn, ownD w d0 t0 c0), (ln, lst ys), (l4, o4), (L + 1 + 1, oB), (L + 1, oA), (107, tabObj #[])], p.1 < lth)
    (hlr : ∀ p ∈ [(lth, listOf #[] 0), (d0, od), (xn, instObj 53 dn), (dn, ownD w d0 t0 c0), (ln, lst ys), (l4, o4), (L + 1 + 1, oB), (L + 1, oA), (107, tabObj #[])], p.1 < lr)
    (hl : ∀ p ∈ [(l1, o1), (l2, o2), (l3, o3), (lr, listOf #[] 0), (lth, listOf #[] 0), (d0, od), (xn, instObj 53 dn), (dn, ownD w d0 t0 c0), (ln, lst ys), (l4, o4), (L + 1 + 1, oB), (L + 1, oA), (107, tabObj #[])], p.1 < l)
    (hod : od.IsDictOf (strKind PySem.Challenge.rw_ij0018_01.row.prog w) []) (hsm : (d0 == sysModules) = false) (hdn : dn < d0) (hA : oA.data = .cell vA) (hB : oB.data = .cell none) (hI : IntsAre ys ns)
    (hm : Has m [(Str.ofString "rows", .ref lr), (Str.ofString "things", .ref lth), (Str.ofString "nested", .ref xn), (Str.ofString "numbers", .ref ln)]) :
    LawJ w L ns l lo 0 m [(l, lo), (l1, o1), (l2, o2), (l3, o3), (lr, listOf #[] 0), (lth, listOf #[] 0), (d0, od), (xn, instObj 53 dn), (dn, ownD w d0 t0 c0), (ln, lst ys), (l4, o4), (L + 1 + 1, oB), (L + 1, oA), (107, tabObj #[])] := by
  obtain ⟨es, ep, _, hdd, _⟩ := id hod
  have offI : ∀ (x : Addr) (o : Obj), (x, o) ∈ [(l, lo), (l1, o1), (l2, o2), (l3, o3), (lr, listOf #[] 0), (lth, listOf #[] 0), (d0, od), (xn, instObj 53 dn), (dn, ownD w d0 t0 c0), (ln, lst ys), (l4, o4), (L + 1 + 1, oB), (L + 1, oA), (107, tabObj #[])] →
      (∀ v, o.data ≠ .cell v) → o ≠ tabObj #[] → x ≠ L + 1 + 1 ∧ x ≠ L + 1 ∧ x ≠ 107 := fun x o hx h1 h2 =>
    ⟨News.ne N hx (by repeat (first | exact List.Mem.head _ | apply List.Mem.tail)) fun q => h1 none (by rw [q, hB]), News.ne N hx (by repeat (first | exact List.Mem.head _ | apply List.Mem.tail)) fun q => h1 vA (by rw [q, hA]), News.ne N hx (by repeat (first | exact List.Mem.head _ | apply List.Mem.tail)) h2⟩
  have hx := offI xn (instObj 53 dn) (by repeat (first | exact List.Mem.head _ | apply List.Mem.tail)) (fun v q => by cases q) (fun q => by cases congrArg Obj.cls q)
  have hd := offI dn (ownD w d0 t0 c0) (by repeat (first | exact List.Mem.head _ | apply List.Mem.tail)) (fun v q => by cases q) (fun q => by cases congrArg Obj.cls q)
  have hn := offI ln (lst ys) (by repeat (first | exact List.Mem.head _ | apply List.Mem.tail)) (fun v q => by cases q) (fun q => by cases congrArg Obj.cls q)
  have a1 : xn < lth := hth (xn, _) (by repeat (first | exact List.Mem.head _ | apply List.Mem.tail))
  have a2 : dn < lth := hth (dn, _) (by repeat (first | exact List.Mem.head _ | apply List.Mem.tail))
  have a3 : ln < lth := hth (ln, _) (by repeat (first | exact List.Mem.head _ | apply List.Mem.tail))
  have b0 : lth < lr := hlr (lth, _) (by repeat (first | exact List.Mem.head _ | apply List.Mem.tail))
  have b1 : lr < l := hl (lr, _) (by repeat (first | exact List.Mem.head _ | apply List.Mem.tail))
  have c1 : d0 < l := hl (d0, _) (by repeat (first | exact List.Mem.head _ | apply List.Mem.tail))
  have c2 : L + 1 + 1 < l := hl (L + 1 + 1, _) (by repeat (first | exact List.Mem.head _ | apply List.Mem.tail))
  have c3 : L + 1 < l := hl (L + 1, _) (by repeat (first | exact List.Mem.head _ | apply List.Mem.tail))
  have c4 : 107 < l := hl (107, _) (by repeat (first | exact List.Mem.head _ | apply List.Mem.tail))
  have e1 : xn ≠ d0 := News.ne N (o := instObj 53 dn) (o' := od) (by repeat (first | exact List.Mem.head _ | apply List.Mem.tail)) (by repeat (first | exact List.Mem.head _ | apply List.Mem.tail)) fun q => by rw [← q] at hdd; cases hdd
  have e2 : ln ≠ d0 := News.ne N (o := lst ys) (o' := od) (by repeat (first | exact List.Mem.head _ | apply List.Mem.tail)) (by repeat (first | exact List.Mem.head _ | apply List.Mem.tail)) fun q => by rw [← q] at hdd; cases hdd
  refine ⟨lth, lr, xn, dn, d0, ln, t0, c0, ys, [(xn, instObj 53 dn), (dn, ownD w d0 t0 c0), (ln, lst ys), (l, lo)], [], [], [], fun _ => .ref d0, [], 0, [], 0, oA, oB, vA, hm, ?_, .inl (by repeat (first | exact List.Mem.head _ | apply List.Mem.tail)), (by repeat (first | exact List.Mem.head _ | apply List.Mem.tail)), hA, (by repeat (first | exact List.Mem.head _ | apply List.Mem.tail)), hB, (by repeat (first | exact List.Mem.head _ | apply List.Mem.tail)), (by repeat (first | exact List.Mem.head _ | apply List.Mem.tail)), (by repeat (first | exact List.Mem.head _ | apply List.Mem.tail)), hI, (by repeat (first | exact List.Mem.head _ | apply List.Mem.tail)), rfl, Nat.le_refl _, Nat.le_refl _, fun _ => rfl, fun h => absurd h (Nat.lt_irrefl 0)⟩
  refine { tr := TreeM.empty hod hsm (by repeat (first | exact List.Mem.head _ | apply List.Mem.tail)) ?_, hP := rfl, hrow := fun r h => (nomatch h), hth := fun r h => (nomatch h), lt := (by repeat (first | exact List.Mem.head _ | apply List.Mem.tail)), dt := .nil, lr := (by repeat (first | exact List.Mem.head _ | apply List.Mem.tail)), dr := .nil, sub := ?_, off := ?_, ne := Nat.ne_of_lt b0 }
  · intro e he
    simp only [List.mem_cons, List.not_mem_nil, or_false] at he
    rcases he with rfl | rfl | rfl | rfl
    · exact e1
    · exact Nat.ne_of_lt hdn
    · exact e2
    · exact Nat.ne_of_gt c1
  · intro e he
    simp only [List.mem_cons, List.not_mem_nil, or_false] at he
    rcases he with rfl | rfl | rfl | rfl <;> repeat (first | exact List.Mem.head _ | apply List.Mem.tail)
  · intro e he
    simp only [List.mem_cons, List.not_mem_nil, or_false] at he ⊢
    rcases he with rfl | rfl | rfl | rfl
    · intro q
      rcases q with q | q | q | q | q
      · exact Nat.ne_of_lt a1 q
      · exact Nat.ne_of_lt (Nat.lt_trans a1 b0) q
      · exact hx.1 q
      · exact hx.2.1 q
      · exact hx.2.2 q
    · intro q
      rcases q with q | q | q | q | q
      · exact Nat.ne_of_lt a2 q
      · exact Nat.ne_of_lt (Nat.lt_trans a2 b0) q
      · exact hd.1 q
      · exact hd.2.1 q
      · exact hd.2.2 q
    · intro q
      rcases q with q | q | q | q | q
      · exact Nat.ne_of_lt a3 q
      · exact Nat.ne_of_lt (Nat.lt_trans a3 b0) q
      · exact hn.1 q
      · exact hn.2.1 q
      · exact hn.2.2 q
    · intro q
      rcases q with q | q | q | q | q
      · exact Nat.ne_of_gt (Nat.lt_trans b0 b1) q
      · exact Nat.ne_of_gt b1 q
      · exact Nat.ne_of_gt c2 q
      · exact Nat.ne_of_gt c3 q
      · exact Nat.ne_of_gt c4 q
theorem News.front {h₀ h : Heap} {L : Addr} {nx : Led} {e a b c d f g : Addr × Obj} (N : News h₀ L h (e :: nx)) (ha : a ∈ nx) (hb : b ∈ nx) (hc : c ∈ nx) (hd : d ∈ nx) (hf : f ∈ nx) (hg : g ∈ nx) : News h₀ L h (e :: a :: b :: c :: d :: f :: g :: nx) := by
  refine News.sub N fun x hx => ?_
  simp only [List.mem_cons] at hx ⊢
  rcases hx with rfl | rfl | rfl | rfl | rfl | rfl | rfl | hx
  · exact .inl rfl
  all_goals (first | exact .inr ‹_› | exact .inr hx)
theorem deed_nat {ks : List Int} {i : Nat} {x : Int} {sc : List Int} (h : ([7, 16, 88] ++ sc.map (fun k => k.fmod 14400) ++ [25, 44])[i]? = some x) : ∃ n : Nat, x = n ∧ n < 14400 ∧ (i = 0 → n = 7) := by
  have h0 : i = 0 → x = 7 := by rintro rfl; simpa using h.symm
  have hm := List.mem_of_getElem? h
  have : 0 ≤ x ∧ x < 14400 := by
    simp only [List.mem_append, List.mem_cons, List.not_mem_nil, or_false, List.mem_map] at hm
    rcases hm with ((rfl | rfl | rfl) | ⟨k, _, rfl⟩) | rfl | rfl
    · decide
    · decide
    · decide
    · exact ⟨Int.fmod_nonneg_of_pos _ (by decide), Int.fmod_lt_of_pos _ (by decide)⟩
    · decide
    · decide
  exact ⟨x.toNat, by omega, by omega, fun h => by have := h0 h; omega⟩
section
variable {prog : Program} {w : World} {A : Around} {E : Value → Shared → Prop} {s : Shared} {h₀ : Heap} {L : Addr} {m : Str → Option Value} {news : Led}
/-- t[:k], the tuple itself where nothing is cut off -/
theorem tup_upto2 {value slice : PySem.Expr} {t : Addr} {vs : List Value} {n : Nat} {k : Int} {u : Tok} {Q : Value → Shared → Prop} (F : Fr h₀ L s.heap m) (N : News h₀ L s.heap news) (hm : (t, tupObj vs n) ∈ news)
    (h : ∀ D h' tl j, Fr h₀ L h' m → News h₀ L h' (tl ++ news) → (∀ q ∈ tl, ∀ p ∈ news, p.1 < q.1) → ((D, tupObj (vs.take (cut k vs.length)) j) ∈ tl ∨ (D, tupObj (vs.take (cut k vs.length)) j) = (t, tupObj vs n)) → Q (.ref D) { s with heap := h' })
    (hsz : vs.length ≤ sizeLine)
    (hs : subscripted slice false (.ref t) (.ref s.heap.objs.size) = operate [.ref s.heap.objs.size, .ref t] (getItem (.ref t) (.ref s.heap.objs.size)) := by with_unfolding_all rfl)
    (hg : ∀ r, letTemporaryGo value (.ref t) r = pure () := by intro _; with_unfolding_all rfl) :
    wpAny (model prog w) A (subscriptTail value slice (.ref t) (.ref s.heap.objs.size)) Q E { s with heap := s.heap.push { cls := .type "slice", data := .fields #[.none, .int k u, .none] } } := by
  have ht : IsTup s.heap t vs.toArray := News.isTup N hm
  have ht' : IsTup (s.heap.push { cls := .type "slice", data := .fields #[.none, .int k u, .none] }) t vs.toArray := ht.keeps fun _ _ e => Heap.get?_push_of_some _ e
  refine subscriptTail_ops (s := { s with heap := s.heap.push { cls := .type "slice", data := .fields #[.none, .int k u, .none] } }) ht'.typeIs slot_tuple_getitem.lookup
    (getItem_tuple_upto ht' (Heap.IsSliceOf.new ..) ?_ ?_ (by simpa using hsz)) hs hg
  · intro hc
    refine h t _ [] n (F.push _) (N.grown fun _ _ e => Heap.get?_push_of_some _ e) (fun _ hq => nomatch hq) ?_
    have e : cut k vs.length = vs.length := by simpa using hc
    rw [e, List.take_length]
    exact .inr rfl
  · have N1 := News.push (F.push { cls := .type "slice", data := .fields #[.none, .int k u, .none] }) (N.grown fun _ _ e => Heap.get?_push_of_some _ e) { cls := .type "tuple", data := .seq (vs.toArray.toList.take (cut k vs.toArray.size)).toArray }
    rw [Heap.size_push] at N1
    show Q (.ref (s.heap.push _).objs.size) _
    rw [Heap.size_push]
    have e1 : vs.toArray.toList = vs := rfl
    have e2 : vs.toArray.size = vs.length := by simp
    rw [e1, e2] at N1 ⊢
    refine h _ _ [_] 0 ((F.push _).push _) N1 (fun q hq p hp => ?_) (.inl (.head _))
    rw [List.mem_singleton.mp hq]
    exact Nat.lt_succ_of_lt (Heap.lt_size (N p hp).1)
end
/-- where the ways of a stretch meet -/
def SegEnd {α : Type} (h₀ : Heap) (L : Addr) (m : Str → Option Value) (news : Led) (P : α → Led → Prop) (s : Shared) (v : α) (s' : Shared) : Prop :=
  ∃ h' tk tl, s' = { s with heap := h', toks := tk } ∧ Fr h₀ L h' m ∧ News h₀ L h' (tl ++ news) ∧ Fresh tl news ∧ P v tl
theorem SegEnd.mk {α : Type} {h₀ h' : Heap} {L : Addr} {m : Str → Option Value} {news : Led} {P : α → Led → Prop} {s : Shared} {v : α} {tk : Nat} (tl : Led) (F : Fr h₀ L h' m) (N : News h₀ L h' (tl ++ news)) (hf : Fresh tl news) (hP : P v tl) :
    SegEnd h₀ L m news P s v { s with heap := h', toks := tk } := ⟨h', tk, tl, rfl, F, N, hf, hP⟩
/-- a stretch of the walk that has two ways to one end -/
theorem seg_FN {α : Type} {M : Model} {A : Around} {E : Value → Shared → Prop} {Q : α → Shared → Prop} {s : Shared} {c : Sem α} {h₀ : Heap} {L : Addr} {m : Str → Option Value} {news : Led} (F : Fr h₀ L s.heap m) (N : News h₀ L s.heap news) (P : α → Led → Prop)
    (h1 : wpAny M A c (SegEnd h₀ L m news P s) E s)
    (h2 : ∀ v h' tk tl, Fr h₀ L h' m → News h₀ L h' (tl ++ news) → Fresh tl news → P v tl → Q v { s with heap := h', toks := tk }) : wpAny M A c Q E s := by
  refine wpAny_mono h1 (fun v s' hq => ?_) fun _ _ e => e
  obtain ⟨h', tk, tl, rfl, F', N', hf, hP⟩ := hq
  exact h2 v h' tk tl F' N' hf hP
/-- the state within a turn -/
structure TurnS (w : World) (L : Addr) (ns : List Int) (l : Addr) (lo : Obj) (Ia : Addr) (nx I : Led) (P : List Way) (things : List (Way × Dat)) (rows : List Row) (pend : Row) (val : Way → Value) (tvs : List Value) (tn : Nat) (rvs : List Value) (rn : Nat)
    (lth lr xn dn d0 ln : Addr) (t0 : Tok) (c0 : Nat) (ys : List Value) (oA oB : Obj) (vA : Option Value) : Prop where
  S : St PySem.Challenge.rw_ij0018_01.row.prog w nx I [lth, lr, L + 1 + 1, L + 1, 107] lth lr P things rows pend val tvs tn rvs rn
  T : TabSt nx I
  A : (L + 1, oA) ∈ nx
  hA : oA.data = .cell vA
  B : (L + 1 + 1, oB) ∈ nx
  hB : oB.data = .cell none
  x : (xn, instObj 53 dn) ∈ I
  d : (dn, ownD w d0 t0 c0) ∈ I
  n : (ln, lst ys) ∈ I
  y : IntsAre ys ns
  l : (l, lo) ∈ I
  v0 : val [] = .ref d0
  off : ∀ p ∈ nx, p.1 ≠ Ia
section
variable {w : World} {L : Addr} {ns : List Int} {l : Addr} {lo : Obj} {Ia : Addr} {nx nx' I tl : Led} {P : List Way} {things : List (Way × Dat)} {rows : List Row} {pend : Row} {val : Way → Value} {tvs : List Value} {tn : Nat} {rvs : List Value} {rn : Nat}
    {lth lr xn dn d0 ln : Addr} {t0 : Tok} {c0 : Nat} {ys : List Value} {oA oB oI : Obj} {vA : Option Value} {h₀ h : Heap}
theorem TurnS.front (R : TurnS w L ns l lo Ia nx I P things rows pend val tvs tn rvs rn lth lr xn dn d0 ln t0 c0 ys oA oB vA) (N : News h₀ L h ((Ia, oI) :: nx)) :
    News h₀ L h ((Ia, oI) :: (L + 1, oA) :: (L + 1 + 1, oB) :: (lth, listOf tvs.toArray tn) :: (lr, listOf rvs.toArray rn) :: (xn, instObj 53 dn) :: (dn, ownD w d0 t0 c0) :: nx) :=
  News.front N R.A R.B R.S.lt R.S.lr (R.S.sub _ R.x) (R.S.sub _ R.d)
theorem TabSt.at (T : TabSt nx I) : ∃ ps, (107, tabObj ps) ∈ nx := by
  rcases T with h | ⟨c', _, _, _, h, _⟩
  · exact ⟨_, h⟩
  · exact ⟨_, h⟩
theorem TurnS.offs (R : TurnS w L ns l lo Ia nx I P things rows pend val tvs tn rvs rn lth lr xn dn d0 ln t0 c0 ys oA oB vA) : ∀ c ∈ [lth, lr, L + 1 + 1, L + 1, 107], ∃ o, (c, o) ∈ nx := by
  obtain ⟨ps, hp⟩ := R.T.at
  intro c hc
  simp only [List.mem_cons, List.not_mem_nil, or_false] at hc
  rcases hc with rfl | rfl | rfl | rfl | rfl
  · exact ⟨_, R.S.lt⟩
  · exact ⟨_, R.S.lr⟩
  · exact ⟨_, R.B⟩
  · exact ⟨_, R.A⟩
  · exact ⟨_, hp⟩
theorem TabSt.mono {I' : Led} (T : TabSt nx I) (h : ∀ e ∈ nx, e.1 = 107 → e ∈ nx') (hI : ∀ e ∈ I, e ∈ I') : TabSt nx' I' := by
  rcases T with hm | ⟨c', oc, vs, t, hm, hc, r⟩
  · exact .inl (h _ hm rfl)
  · exact .inr ⟨c', oc, vs, t, h _ hm rfl, hI _ hc, r⟩
/-- new data -/
theorem TurnS.grow (R : TurnS w L ns l lo Ia nx I P things rows pend val tvs tn rvs rn lth lr xn dn d0 ln t0 c0 ys oA oB vA) (hf : ∀ e ∈ tl, ∀ p ∈ (Ia, oI) :: nx, p.1 < e.1) :
    TurnS w L ns l lo Ia (tl ++ nx) (tl ++ I) P things rows pend val tvs tn rvs rn lth lr xn dn d0 ln t0 c0 ys oA oB vA :=
  { S := R.S.grow (fun e he hc => by
        obtain ⟨o, ho⟩ := R.offs _ hc
        exact Nat.lt_irrefl _ (hf e he (e.1, o) (.tail _ ho))) (fun e he p hp => hf e he p (.tail _ hp)) (fun p hp => List.mem_append_right _ hp) (fun p hp => List.mem_append_left _ hp)
    T := R.T.mono (fun e he _ => List.mem_append_right _ he) (fun e he => List.mem_append_right _ he)
    A := List.mem_append_right _ R.A
    hA := R.hA
    B := List.mem_append_right _ R.B
    hB := R.hB
    x := List.mem_append_right _ R.x
    d := List.mem_append_right _ R.d
    n := List.mem_append_right _ R.n
    y := R.y
    l := List.mem_append_right _ R.l
    v0 := R.v0
    off := fun p hp => (List.mem_append.mp hp).elim (fun h => Nat.ne_of_gt (hf p h (Ia, oI) (.head _))) (R.off p) }
/-- more in the ledger alone -/
theorem TurnS.wide (R : TurnS w L ns l lo Ia nx I P things rows pend val tvs tn rvs rn lth lr xn dn d0 ln t0 c0 ys oA oB vA) (hs : ∀ e ∈ nx, e ∈ nx') (ho : ∀ p ∈ nx', p.1 ≠ Ia) :
    TurnS w L ns l lo Ia nx' I P things rows pend val tvs tn rvs rn lth lr xn dn d0 ln t0 c0 ys oA oB vA :=
  { R with S := R.S.same hs, T := R.T.mono (fun e he _ => hs e he) fun _ h => h, A := hs _ R.A, B := hs _ R.B, off := ho }
/-- goal is bound -/
theorem TurnS.cellA (R : TurnS w L ns l lo Ia nx I P things rows pend val tvs tn rvs rn lth lr xn dn d0 ln t0 c0 ys oA oB vA) (N : News h₀ L h nx) {o' : Obj} {v : Value} (hd : o'.data = .cell (some v)) :
    TurnS w L ns l lo Ia ((L + 1, o') :: nx.filter fun e => decide (e.1 ≠ L + 1)) I P things rows pend val tvs tn rvs rn lth lr xn dn d0 ln t0 c0 ys o' oB (some v) := by
  have k : ∀ e ∈ nx, e.1 ≠ L + 1 → e ∈ ((L + 1, o') :: nx.filter fun e => decide (e.1 ≠ L + 1)) := fun e he hne => .tail _ (List.mem_filter.mpr ⟨he, by simpa using hne⟩)
  obtain ⟨ps, hp⟩ := R.T.at
  have h107 : (107 : Addr) ≠ L + 1 := News.ne N hp R.A fun q => by have := R.hA; rw [← q] at this; cases this
  refine { R with
    S := R.S.other N (c := L + 1) (by simp) R.A (fun es ep q => by rw [R.hA] at q; cases q) (fun es n q => by rw [R.hA] at q; cases q) k
    T := R.T.mono (fun e he h1 => k e he (by rw [h1]; exact h107)) fun _ h => h
    A := .head _
    hA := hd
    B := k _ R.B (Nat.ne_of_gt (Nat.lt_succ_self _))
    off := fun p hp => ?_ }
  rcases List.mem_cons.mp hp with rfl | hp
  · exact R.off (L + 1, oA) R.A
  · exact R.off _ (List.mem_filter.mp hp).1
theorem TurnS.growF (R : TurnS w L ns l lo Ia nx I P things rows pend val tvs tn rvs rn lth lr xn dn d0 ln t0 c0 ys oA oB vA)
    (N : News h₀ L h (tl ++ ((Ia, oI) :: (L + 1, oA) :: (L + 1 + 1, oB) :: (lth, listOf tvs.toArray tn) :: (lr, listOf rvs.toArray rn) :: (xn, instObj 53 dn) :: (dn, ownD w d0 t0 c0) :: nx)))
    (hf : Fresh tl ((Ia, oI) :: (L + 1, oA) :: (L + 1 + 1, oB) :: (lth, listOf tvs.toArray tn) :: (lr, listOf rvs.toArray rn) :: (xn, instObj 53 dn) :: (dn, ownD w d0 t0 c0) :: nx)) :
    TurnS w L ns l lo Ia (tl ++ nx) (tl ++ I) P things rows pend val tvs tn rvs rn lth lr xn dn d0 ln t0 c0 ys oA oB vA ∧ News h₀ L h ((Ia, oI) :: (tl ++ nx)) := by
  have sub : ∀ e ∈ (Ia, oI) :: nx, e ∈ ((Ia, oI) :: (L + 1, oA) :: (L + 1 + 1, oB) :: (lth, listOf tvs.toArray tn) :: (lr, listOf rvs.toArray rn) :: (xn, instObj 53 dn) :: (dn, ownD w d0 t0 c0) :: nx) := fun e he => by
    rcases List.mem_cons.mp he with rfl | he
    · exact .head _
    · exact .tail _ (.tail _ (.tail _ (.tail _ (.tail _ (.tail _ (.tail _ he))))))
  refine ⟨R.grow (oI := oI) fun e he p hp => hf e he p (sub p hp), News.sub N fun e he => ?_⟩
  rcases List.mem_cons.mp he with rfl | he
  · exact List.mem_append_right _ (.head _)
  rcases List.mem_append.mp he with he | he
  · exact List.mem_append_left _ he
  · exact List.mem_append_right _ (sub e (.tail _ he))
theorem TurnS.cellA2 {h1 : Heap} {news' : Led} (R : TurnS w L ns l lo Ia nx I P things rows pend val tvs tn rvs rn lth lr xn dn d0 ln t0 c0 ys oA oB vA) (N0 : News h₀ L h ((Ia, oI) :: nx)) (N : News h₀ L h1 news') {o' : Obj} {v : Value} (hd : o'.data = .cell (some v))
    (hm : (L + 1, o') ∈ news') (hk : ∀ p ∈ (Ia, oI) :: nx, p.1 ≠ L + 1 → p ∈ news') :
    ∃ nx', TurnS w L ns l lo Ia nx' I P things rows pend val tvs tn rvs rn lth lr xn dn d0 ln t0 c0 ys o' oB (some v) ∧ News h₀ L h1 ((Ia, oI) :: nx') := by
  refine ⟨_, R.cellA (News.sub N0 fun e he => .tail _ he) hd, News.sub N fun e he => ?_⟩
  rcases List.mem_cons.mp he with rfl | he
  · exact hk _ (.head _) fun q => R.off (L + 1, oA) R.A q.symm
  rcases List.mem_cons.mp he with rfl | he
  · exact hm
  · obtain ⟨h1, h2⟩ := List.mem_filter.mp he
    exact hk _ (.tail _ h1) (by simpa using h2)
end
theorem DoesC.use {w : World} {c : Sem Value} {D U : Nat} {news : Led} {Post : Led → Value → Prop} {X : String} {PostE : Led → List Value → Prop} (C : DoesC w c D U news Post X PostE)
    {p : Program} {loose : List Str} {mean : ExcName → Option Value} {mg mb : Str → Option Value} {dp un : Nat} {gd : Option (List Code)} {cn : Str} {cs : Scope} {a : Addr} {ccd : Value} {cl : List (Str × Addr)} {outer : List Env} {A₀ : Around} {base h₀ : Heap} {L : Addr} {m : Str → Option Value} {s : Shared}
    {Q E : Value → Shared → Prop} (B : Below A₀ base outer h₀) (F : Fr h₀ L s.heap m) (X1 : (Mine.hd.heap_39 w.params).In h₀) (N : News h₀ L s.heap news) (T : Top p loose mean mg mb h₀) (hk : cs.kind = .function) (hd : dp + D < recursionLimit) (hu : un + U < cLine)
    (ret : ∀ r h' news' tk', Fr h₀ L h' m → News h₀ L h' news' → Post news' r → Q r { s with heap := h', toks := tk' })
    (exc : ∀ e t ws G h' news' tk', Fr h₀ L G m → RaisedS base G (envX cn cs L a ccd cl :: outer) e (.type X) t ws news' h' → G.UpToSlots h' → PostE news' ws → E (.ref e) { s with heap := h', toks := tk' }) :
    wpAny (model PySem.Challenge.rw_ij0018_01.row.prog w) (ktrTop dp un gd cn cs L a ccd cl outer) c Q E s :=
  C p loose mean mg mb dp un gd cn cs a ccd cl outer A₀ base h₀ L m s Q E B F X1 N T hk hd hu ret exc
/-- the name of what was caught goes -/
theorem nameGoesX {M : Model} {A : Around} {E : Value → Shared → Prop} {s : Shared} {name : Str} {scope : Scope} {L a : Addr} {cd : Value} {cl : List (Str × Addr)} {h₀ : Heap} {m : Str → Option Value} {news : Led} {n : Str} {pos : Pos} {Q : Unit → Shared → Prop}
    (F : Fr h₀ L s.heap m) (N : News h₀ L s.heap news) (h : ∀ h' v, Fr h₀ L h' (fun x => if x = n then v else m x) → News h₀ L h' news → Q () { s with heap := h', toks := s.toks + 1 })
    (hk : scope.kind = .function := by rfl) (hl : (envX name scope L a cd cl).kindOf n = some .local := by rfl) :
    wpAny M A (do bindName (envX name scope L a cd cl) n .none; unbindBehindTheSuite (envX name scope L a cd cl) n pos) Q E s :=
  wpAny_nameGoes_keeps hl F.ns (by show (scope.kind == .class || (scope.kind == .module && L != mainGlobals)) = false; rw [hk]; rfl) fun h' v hn hs => h h' v (F.set hn hs) (N.set hs)
section
variable {w : World} {L : Addr} {ns : List Int} {l : Addr} {lo : Obj} {Ia : Addr} {nx I : Led} {P : List Way} {things : List (Way × Dat)} {rows : List Row} {pend : Row} {val : Way → Value} {tvs : List Value} {tn : Nat} {rvs : List Value} {rn : Nat}
    {lth lr xn dn d0 ln : Addr} {t0 : Tok} {c0 : Nat} {ys : List Value} {oA oB : Obj} {vA : Option Value} {i : Nat} {m : Str → Option Value}
theorem TurnS.toJ (R : TurnS w L ns l lo Ia nx I P things rows [] val tvs tn rvs rn lth lr xn dn d0 ln t0 c0 ys oA oB vA)
    (hm : Has m [(Str.ofString "rows", .ref lr), (Str.ofString "things", .ref lth), (Str.ofString "nested", .ref xn), (Str.ofString "numbers", .ref ln)]) (h1 : rows.length ≤ i) (h2 : things.length ≤ i) (h3 : i = 0 → things = []) (h4 : 0 < i → P ≠ []) : LawJ w L ns l lo i m nx :=
  ⟨lth, lr, xn, dn, d0, ln, t0, c0, ys, I, P, things, rows, val, tvs, tn, rvs, rn, oA, oB, vA, hm, R.S, R.T, R.A, R.hA, R.B, R.hB, R.x, R.d, R.n, R.y, R.l, R.v0, h1, h2, h3, h4⟩
end
end
section
open PySem PySem.W PyProof.Rows PyProof.Rows.LCg
/-- where the ways of a stretch meet, whatever they changed -/
def SegX {α : Type} (h₀ : Heap) (L : Addr) (P : α → (Str → Option Value) → Led → Prop) (s : Shared) (v : α) (s' : Shared) : Prop :=
  ∃ h' tk m' nx', s' = { s with heap := h', toks := tk } ∧ Fr h₀ L h' m' ∧ News h₀ L h' nx' ∧ P v m' nx'
theorem SegX.mk {α : Type} {h₀ h' : Heap} {L : Addr} {P : α → (Str → Option Value) → Led → Prop} {s : Shared} {v : α} {tk : Nat} (m' : Str → Option Value) (nx' : Led) (F : Fr h₀ L h' m') (N : News h₀ L h' nx') (hP : P v m' nx') :
    SegX h₀ L P s v { s with heap := h', toks := tk } := ⟨h', tk, m', nx', rfl, F, N, hP⟩
theorem seg_X {α : Type} {M : Model} {A : Around} {E : Value → Shared → Prop} {Q : α → Shared → Prop} {s : Shared} {c : Sem α} (h₀ : Heap) (L : Addr) (P : α → (Str → Option Value) → Led → Prop)
    (h1 : wpAny M A c (SegX h₀ L P s) E s)
    (h2 : ∀ v h' tk m' nx', Fr h₀ L h' m' → News h₀ L h' nx' → P v m' nx' → Q v { s with heap := h', toks := tk }) : wpAny M A c Q E s := by
  refine wpAny_mono h1 (fun v s' hq => ?_) fun _ _ e => e
  obtain ⟨h', tk, m', nx', rfl, F', N', hP⟩ := hq
  exact h2 v h' tk m' nx' F' N' hP
section
variable {w : World} {L : Addr} {ns : List Int} {l : Addr} {lo : Obj} {Ia : Addr} {nx nx' I tl : Led} {P : List Way} {things : List (Way × Dat)} {rows : List Row} {pend : Row} {val val' : Way → Value} {tvs : List Value} {tn : Nat} {rvs : List Value} {rn : Nat}
    {lth lr xn dn d0 ln : Addr} {t0 : Tok} {c0 : Nat} {ys : List Value} {oA oB oI : Obj} {vA : Option Value} {h₀ h h' : Heap}
theorem not_dict_lst {vs : Array Value} {n : Nat} : ∀ es ep, (listOf vs n).data ≠ .dict es ep := fun es ep q => by cases q
theorem filt {c : Addr} {nx : Led} {e : Addr × Obj} (h : e ∈ nx) (hn : e.1 ≠ c) : e ∈ nx.filter fun e => decide (e.1 ≠ c) := List.mem_filter.mpr ⟨h, by simpa using hn⟩
theorem filt_inv {c : Addr} {nx : Led} {e : Addr × Obj} (h : e ∈ nx.filter fun e => decide (e.1 ≠ c)) : e ∈ nx ∧ e.1 ≠ c := by
  obtain ⟨a, b⟩ := List.mem_filter.mp h
  exact ⟨a, by simpa using b⟩
/-- the nest was found or laid -/
theorem TurnS.nest {goal : Way} {T' news' : Led} {a : Addr} (R : TurnS w L ns l lo Ia nx I P things rows [] val tvs tn rvs rn lth lr xn dn d0 ln t0 c0 ys oA oB vA) (N : News h₀ L h ((xn, instObj 53 dn) :: (dn, ownD w d0 t0 c0) :: (Ia, oI) :: nx)) (N' : News h₀ L h' news')
    (NS : NestSt PySem.Challenge.rw_ij0018_01.row.prog w ((xn, instObj 53 dn) :: (dn, ownD w d0 t0 c0) :: (Ia, oI) :: nx) I P (thingAt things) val goal goal.length news' T' val' a) :
    TurnS w L ns l lo Ia (news'.filter fun e => decide (e.1 ≠ Ia)) I (growN P goal goal.length) things rows (prefs goal) val' tvs tn rvs rn lth lr xn dn d0 ln t0 c0 ys oA oB vA ∧ News h₀ L h' ((Ia, oI) :: news'.filter fun e => decide (e.1 ≠ Ia)) := by
  have N1 : News h₀ L h nx := News.sub N fun e he => .tail _ (.tail _ (.tail _ he))
  have sub : ∀ e ∈ nx, e ∈ ((xn, instObj 53 dn) :: (dn, ownD w d0 t0 c0) :: (Ia, oI) :: nx : Led) := fun e he => .tail _ (.tail _ (.tail _ he))
  have kI : ∀ e ∈ I, e ∈ news' := fun e he => NS.keep e (sub e (R.S.sub e he)) fun q hq hv => R.S.tr.apart q e.1 hq hv e he rfl
  have kO : ∀ (c : Addr) (o : Obj), (c, o) ∈ nx → (∀ es ep, o.data ≠ .dict es ep) → (c, o) ∈ news' := fun c o hc ho => NS.keep _ (sub _ hc) fun q hq hv => nest_ne N1 R.S.tr hq hv hc ho rfl
  have nIa : ∀ q, isNest P (thingAt things) q → val q ≠ .ref Ia := fun q hq hv => by
    obtain ⟨a', o, hv', _, hm, _⟩ := R.S.tr.nest q hq.1 hq.2
    rw [hv] at hv'
    injection hv' with hv'
    exact R.off _ hm hv'.symm
  have kIa : (Ia, oI) ∈ news' := NS.keep _ (.tail _ (.tail _ (.head _))) fun q hq hv => nIa q hq hv
  have nIa' : ∀ q a o, isNest (growN P goal goal.length) (thingAt things) q → val' q = .ref a → (a, o) ∈ T' → a ≠ Ia := fun q a o hq hv _ e => by
    rcases NS.new q hq with hq' | ⟨D, hD, hlt⟩
    · refine nIa q hq' ?_
      rw [← NS.old q hq'.1, hv, e]
    · rw [hv] at hD
      injection hD with hD
      have := hlt (Ia, oI) (.tail _ (.tail _ (.head _)))
      rw [← hD, e] at this
      exact Nat.lt_irrefl _ this
  have fO : ∀ (c : Addr) (o : Obj), (c, o) ∈ nx → (∀ es ep, o.data ≠ .dict es ep) → (c, o) ∈ news'.filter fun e => decide (e.1 ≠ Ia) := fun c o hc ho => filt (kO c o hc ho) (R.off _ hc)
  have fI : ∀ e ∈ I, e ∈ news'.filter fun e => decide (e.1 ≠ Ia) := fun e he => filt (kI e he) (R.off _ (R.S.sub e he))
  refine ⟨{ R with S := { R.S with tr := NS.tr.mvT fun q a o hq hv hm => filt (NS.sub _ hm) (nIa' q a o hq hv hm), hP := ?_, lt := fO _ _ R.S.lt not_dict_lst, lr := fO _ _ R.S.lr not_dict_lst, sub := fI }, T := ?_, A := fO _ _ R.A (fun es ep q => by rw [R.hA] at q; cases q), B := fO _ _ R.B (fun es ep q => by rw [R.hB] at q; cases q), v0 := (NS.old [] (.inl rfl)).trans R.v0, off := fun p hp => (filt_inv hp).2 }, ?_⟩
  · have e := R.S.hP
    rw [List.append_nil] at e
    rw [e, growN_firsts]
  · obtain ⟨ps, hp⟩ := R.T.at
    rcases R.T with hm | ⟨c', oc, vs, t, hm, hc, r⟩
    · exact .inl (fO _ _ hm fun es ep q => by cases q)
    · exact .inr ⟨c', oc, vs, t, fO _ _ hm (fun es ep q => by cases q), hc, r⟩
  · refine News.sub N' fun e he => ?_
    rcases List.mem_cons.mp he with rfl | he
    · exact kIa
    · exact (filt_inv he).1
/-- the lambda was made -/
theorem TurnS.lam {c' : Addr} {oc : Obj} {vs : Array Value} {t : Tok} (R : TurnS w L ns l lo Ia nx I P things rows pend val tvs tn rvs rn lth lr xn dn d0 ln t0 c0 ys oA oB vA) (N : News h₀ L h ((Ia, oI) :: nx)) (N' : News h₀ L h' nx')
    (hc : (c', oc) ∈ nx') (hd : oc.data = .fields vs) (hv : vs[1]? = some (.str "law.<locals>.<lambda>" t)) (ht : (107, tabObj #[rawInt (104 : Nat), rawInt (40 : Nat), .ref c']) ∈ nx') (hk : ∀ e ∈ (Ia, oI) :: nx, e.1 ≠ 107 → e ∈ nx') (hf : (c', oc) ∈ I ∨ ∀ e ∈ (Ia, oI) :: nx, e.1 < c') :
    TurnS w L ns l lo Ia (nx'.filter fun e => decide (e.1 ≠ Ia)) ((c', oc) :: I) P things rows pend val tvs tn rvs rn lth lr xn dn d0 ln t0 c0 ys oA oB vA ∧ News h₀ L h' ((Ia, oI) :: nx'.filter fun e => decide (e.1 ≠ Ia)) := by
  have N1 : News h₀ L h nx := News.sub N fun e he => .tail _ he
  obtain ⟨ps, hp⟩ := R.T.at
  have hIa : Ia ≠ 107 := fun q => R.off _ hp q.symm
  have fO : ∀ (c : Addr) (o : Obj), (c, o) ∈ nx → (∀ ps, o ≠ tabObj ps) → (c, o) ∈ nx'.filter fun e => decide (e.1 ≠ Ia) := fun c o hc ho => filt (hk _ (.tail _ hc) (News.ne N1 hc hp (ho ps))) (R.off _ hc)
  have f0 : ∀ e ∈ I, e ∈ nx'.filter fun e => decide (e.1 ≠ Ia) := fun e he => filt (hk _ (.tail _ (R.S.sub e he)) fun q => R.S.off e he (by rw [q]; simp)) (R.off _ (R.S.sub e he))
  have hcI : c' ≠ Ia := by
    rcases hf with h | h
    · exact R.off _ (R.S.sub _ h)
    · exact Nat.ne_of_gt (h (Ia, oI) (.head _))
  have up : ∀ e ∈ I, e ∈ (c', oc) :: I := fun e he => .tail _ he
  have S' : St PySem.Challenge.rw_ij0018_01.row.prog w (nx'.filter fun e => decide (e.1 ≠ Ia)) ((c', oc) :: I) [lth, lr, L + 1 + 1, L + 1, 107] lth lr P things rows pend val tvs tn rvs rn := by
    refine { R.S with tr := (R.S.tr.mvT (T' := nx'.filter fun e => decide (e.1 ≠ Ia)) fun q a o hq hv hm => filt (hk _ (.tail _ hm) (nest_ne N1 R.S.tr hq hv hp fun es ep q => by cases q)) (R.off _ hm)).mvI up ?_, lt := fO _ _ R.S.lt (fun ps q => by cases congrArg Obj.cls q), dt := R.S.dt.mono up, lr := fO _ _ R.S.lr (fun ps q => by cases congrArg Obj.cls q), dr := R.S.dr.mono up, sub := fun e he => ?_, off := fun e he => ?_ }
    · intro p a hp hv e he
      rcases List.mem_cons.mp he with rfl | he
      · rcases hf with h | h
        · exact R.S.tr.apart p a hp hv _ h
        · obtain ⟨a', o, hv', _, hm, _⟩ := R.S.tr.nest p hp.1 hp.2
          rw [hv] at hv'
          injection hv' with hv'
          rw [hv']
          exact Nat.ne_of_gt (h _ (.tail _ hm))
      · exact R.S.tr.apart p a hp hv e he
    · rcases List.mem_cons.mp he with rfl | he
      · exact filt hc hcI
      · exact f0 e he
    · rcases List.mem_cons.mp he with rfl | he
      · rcases hf with h | h
        · exact R.S.off _ h
        · intro q
          obtain ⟨o, ho⟩ := R.offs _ q
          exact Nat.lt_irrefl _ (h (c', o) (.tail _ ho))
      · exact R.S.off e he
  refine ⟨{ R with S := S', T := .inr ⟨c', oc, vs, t, filt ht (Ne.symm hIa), .head _, hd, hv⟩, A := fO _ _ R.A (fun ps q => by have := R.hA; rw [q] at this; cases this), B := fO _ _ R.B (fun ps q => by have := R.hB; rw [q] at this; cases this), x := up _ R.x, d := up _ R.d, n := up _ R.n, l := up _ R.l, off := fun p hp => (filt_inv hp).2 }, ?_⟩
  refine News.sub N' fun e he => ?_
  rcases List.mem_cons.mp he with rfl | he
  · exact hk _ (.head _) hIa
  · exact (filt_inv he).1
end
section
variable {prog : Program} {w : World} {A : Around} {E : Value → Shared → Prop} {s : Shared} {h₀ : Heap} {L : Addr} {news : Led} {Q : Value → Shared → Prop}
/-- len(l) of a list in the ledger -/
theorem lst_len {l : Addr} {vs : List Value} {n k : Nat} (hk : vs.length = k) (N : News h₀ L s.heap news) (hm : (l, listOf vs.toArray n) ∈ news) (hz : k ≤ 1000)
    (h : ∀ u tk, Q (.int (k : Nat) u) { s with toks := tk }) : wpAny (model prog w) A (call (.builtin "len") [.ref l]) Q E s := by
  have hl : s.heap.IsList l vs.toArray := ⟨_, (N _ hm).1, rfl, n, rfl⟩
  have hsz : vs.toArray.size = k := by rw [List.size_toArray, hk]
  refine Calls.call_len_list hl (by rw [hsz]; omega) ?_
  rw [hsz]
  exact h _ _
end
theorem led_range {prog : Program} {w : World} {A : Around} {E : Value → Shared → Prop} {s : Shared} {h₀ : Heap} {L : Addr} {m : Str → Option Value} {news : Led} {Q : Value → Shared → Prop} {a b : Int} {t u : Tok} (F : Fr h₀ L s.heap m) (N : News h₀ L s.heap news)
    (h : ∀ r h' v tk, Fr h₀ L h' m → News h₀ L h' news → IsRange h' r a b 1 t u v → Q (.ref r) { s with heap := h', toks := tk }) : wpAny (model prog w) A (call (.type "range") [.int a t, .int b u]) Q E s :=
  call_range_2 (h _ _ _ _ (F.push _) (N.grown fun _ _ e => Heap.get?_push_of_some _ e) (IsRange.new ..))
theorem prefs_take_succ {g : Way} {i : Nat} (hi : i < g.length) : (prefs g).take (i + 1) = (prefs g).take i ++ [g.take (i + 1)] := by
  have : (prefs g)[i]? = some (g.take (i + 1)) := by unfold prefs; rw [List.getElem?_map, List.getElem?_range hi]; rfl
  rw [List.take_add_one, this]; rfl
/-- the four things -/
noncomputable def fourD : List Dat := [.int 0, .str (Str.ofString ""), .tuple [], .list [.int 0]]
theorem fourD_thing {k : Nat} (h : k < fourD.length) : IsThing fourD[k] := by
  have : k = 0 ∨ k = 1 ∨ k = 2 ∨ k = 3 := by have : k < 4 := h; omega
  rcases this with rfl | rfl | rfl | rfl
  · exact .inl rfl
  · exact .inr (.inl rfl)
  · exact .inr (.inr (.inl rfl))
  · exact .inr (.inr (.inr rfl))
theorem four_all {I : Led} {t1 t2 t3 : Tok} {e1 e2 : Addr} {k1 k2 : Nat} (h1 : (e1, tupObj [] k1) ∈ I) (h2 : (e2, listOf #[.int 0 t3] k2) ∈ I) : DatAll I [.int 0 t1, .str (Str.ofString "") t2, .ref e1, .ref e2] fourD :=
  .cons (.int _ _) (.cons (.str _ _) (.cons (.tuple (vs := []) h1 .nil) (.cons (.list (vs := [.int 0 t3]) h2 (.cons (.int _ _) .nil)) .nil)))
theorem thing_item {prog : Program} {w : World} {A : Around} {E : Value → Shared → Prop} {s : Shared} {h₀ : Heap} {L : Addr} {news I : Led} {Q : Value → Shared → Prop} {value slice : PySem.Expr} {D e1 e2 : Addr} {n k1 k2 q : Nat} {t1 t2 t3 u : Tok}
    (N : News h₀ L s.heap news) (hm : (D, tupObj [.int 0 t1, .str (Str.ofString "") t2, .ref e1, .ref e2] n) ∈ news) (h1 : (e1, tupObj [] k1) ∈ I) (h2 : (e2, listOf #[.int 0 t3] k2) ∈ I) (hq : q < 4)
    (h : ∀ v d, DatIn I v d → IsThing d → Q v s)
    (hs : subscripted slice false (.ref D) (.int (q : Nat) u) = operate [.ref D, .int (q : Nat) u] (getItem (.ref D) (.int (q : Nat) u)) := by with_unfolding_all rfl) :
    wpAny (model prog w) A (subscriptTail value slice (.ref D) (.int (q : Nat) u)) Q E s := by
  obtain ⟨v, hv, hD⟩ := (four_all (t1 := t1) (t2 := t2) h1 h2).get (k := q) hq
  exact tup_item N hm (Int.natCast_nonneg q) (by omega) (by rw [Int.toNat_natCast]; exact hv) (h v _ hD (fourD_thing hq)) hs
theorem prefs_snoc (g : Way) (y : Str) : prefs (g ++ [y]) = prefs g ++ [g ++ [y]] := by
  unfold prefs
  rw [List.length_append, List.length_singleton, List.range_succ, List.map_append, List.map_singleton]
  congr 1
  · refine List.map_congr_left fun k hk => ?_
    rw [List.take_append_of_le_length (by have := List.mem_range.mp hk; omega)]
  · rw [List.take_of_length_le (by rw [List.length_append, List.length_singleton]; exact Nat.le_refl _)]
section
variable {w : World} {L : Addr} {ns : List Int} {l : Addr} {lo : Obj} {Ia : Addr} {nx I : Led} {P : List Way} {things : List (Way × Dat)} {rows : List Row} {val : Way → Value} {tvs : List Value} {tn : Nat} {rvs : List Value} {rn : Nat}
    {lth lr xn dn d0 ln : Addr} {t0 : Tok} {c0 : Nat} {ys : List Value} {oA oB oI : Obj} {vA : Option Value} {h₀ h h' : Heap}
theorem TurnS.growX {pend : Row} {tl : Led} (R : TurnS w L ns l lo Ia nx I P things rows pend val tvs tn rvs rn lth lr xn dn d0 ln t0 c0 ys oA oB vA)
    (N : News h₀ L h (tl ++ ((Ia, oI) :: (L + 1, oA) :: (L + 1 + 1, oB) :: (lth, listOf tvs.toArray tn) :: (lr, listOf rvs.toArray rn) :: (xn, instObj 53 dn) :: (dn, ownD w d0 t0 c0) :: nx)))
    (hf : Fresh tl ((Ia, oI) :: (L + 1, oA) :: (L + 1 + 1, oB) :: (lth, listOf tvs.toArray tn) :: (lr, listOf rvs.toArray rn) :: (xn, instObj 53 dn) :: (dn, ownD w d0 t0 c0) :: nx)) :
    ∃ nx' I' : Led, (∀ e ∈ tl, e ∈ I') ∧ (∀ e ∈ I, e ∈ I') ∧ (∀ e ∈ nx, e ∈ nx') ∧ TurnS w L ns l lo Ia nx' I' P things rows pend val tvs tn rvs rn lth lr xn dn d0 ln t0 c0 ys oA oB vA ∧ News h₀ L h ((Ia, oI) :: nx') := by
  obtain ⟨a, b⟩ := R.growF N hf
  exact ⟨_, _, fun e he => List.mem_append_left _ he, fun e he => List.mem_append_right _ he, fun e he => List.mem_append_right _ he, a, b⟩
theorem TurnS.growZ {pend : Row} {tl : Led} (R : TurnS w L ns l lo Ia nx I P things rows pend val tvs tn rvs rn lth lr xn dn d0 ln t0 c0 ys oA oB vA) (N : News h₀ L h (tl ++ ((Ia, oI) :: nx))) (hf : Fresh tl ((Ia, oI) :: nx)) :
    ∃ nx' I' : Led, (∀ e ∈ tl, e ∈ I') ∧ (∀ e ∈ I, e ∈ I') ∧ TurnS w L ns l lo Ia nx' I' P things rows pend val tvs tn rvs rn lth lr xn dn d0 ln t0 c0 ys oA oB vA ∧ News h₀ L h ((Ia, oI) :: nx') := by
  refine ⟨_, _, fun e he => List.mem_append_left _ he, fun e he => List.mem_append_right _ he, R.grow (oI := oI) hf, News.sub N fun e he => ?_⟩
  rcases List.mem_cons.mp he with rfl | he
  · exact List.mem_append_right _ (.head _)
  rcases List.mem_append.mp he with he | he
  · exact List.mem_append_left _ he
  · exact List.mem_append_right _ (.tail _ he)
/-- a row was added -/
theorem TurnS.row {g : Way} {news2 : Led} {rv : Value} (R : TurnS w L ns l lo Ia nx I P things rows (prefs g) val tvs tn rvs rn lth lr xn dn d0 ln t0 c0 ys oA oB vA) (N : News h₀ L h ((Ia, oI) :: nx)) (N' : News h₀ L h' news2)
    (hrv : DatIn I rv (rowD (prefs g))) (hok : WOk g) (hl3 : g.length ≤ 3) (hl : (lr, listOf (rvs ++ [rv]).toArray (rn + 1)) ∈ news2) (hk : ∀ p ∈ (Ia, oI) :: nx, p.1 ≠ lr → p ∈ news2) :
    TurnS w L ns l lo Ia (news2.filter fun e => decide (e.1 ≠ Ia)) I P things (rows ++ [prefs g]) [] val tvs tn (rvs ++ [rv]) (rn + 1) lth lr xn dn d0 ln t0 c0 ys oA oB vA ∧
      News h₀ L h' ((Ia, oI) :: news2.filter fun e => decide (e.1 ≠ Ia)) := by
  have N1 : News h₀ L h nx := News.sub N fun e he => .tail _ he
  obtain ⟨ps, hp⟩ := R.T.at
  have lIa : lr ≠ Ia := R.off _ R.S.lr
  have fO : ∀ (c : Addr) (o : Obj), (c, o) ∈ nx → c ≠ lr → (c, o) ∈ news2.filter fun e => decide (e.1 ≠ Ia) := fun c o hc hne => filt (hk _ (.tail _ hc) hne) (R.off _ hc)
  have fI : ∀ e ∈ I, e ∈ news2.filter fun e => decide (e.1 ≠ Ia) := fun e he => filt (hk _ (.tail _ (R.S.sub e he)) fun q => R.S.off e he (by rw [q]; simp)) (R.off _ (R.S.sub e he))
  have l107 : (107 : Addr) ≠ lr := News.ne N1 hp R.S.lr fun q => by cases congrArg Obj.cls q
  have hdr : DatAll I (rvs ++ [rv]) ((rows ++ [prefs g]).map rowD) := by
    rw [List.map_append]
    exact R.S.dr.append (DatAll.one hrv)
  have S' : St PySem.Challenge.rw_ij0018_01.row.prog w (news2.filter fun e => decide (e.1 ≠ Ia)) I [lth, lr, L + 1 + 1, L + 1, 107] lth lr P things (rows ++ [prefs g]) [] val tvs tn (rvs ++ [rv]) (rn + 1) := by
    refine { tr := ?_, hP := ?_, hrow := ?_, hth := R.S.hth, ne := R.S.ne, lt := fO _ _ R.S.lt R.S.ne, dt := R.S.dt, lr := filt hl lIa, dr := hdr, sub := fI, off := R.S.off }
    · exact R.S.tr.mvT fun q a o hq' hv' hm' => fO _ _ hm' (nest_ne N1 R.S.tr hq' hv' R.S.lr not_dict_lst)
    · rw [List.append_nil, List.flatten_append, List.flatten_cons, List.flatten_nil, List.append_nil]
      exact R.S.hP
    · intro r hr
      rcases List.mem_append.mp hr with hr | hr
      · exact R.S.hrow r hr
      · exact ⟨g, List.mem_singleton.mp hr, hok, hl3⟩
  refine ⟨{ R with S := S', T := R.T.mono (fun e he h1 => fO e.1 e.2 he (by rw [h1]; exact l107)) (fun _ h => h), A := fO _ _ R.A (News.ne N1 R.A R.S.lr fun q => by have := R.hA; rw [q] at this; cases this), B := fO _ _ R.B (News.ne N1 R.B R.S.lr fun q => by have := R.hB; rw [q] at this; cases this), off := fun p hp => (filt_inv hp).2 }, News.sub N' fun e he => ?_⟩
  rcases List.mem_cons.mp he with rfl | he
  · exact hk _ (.head _) (Ne.symm lIa)
  · exact (filt_inv he).1
/-- a thing was laid -/
theorem TurnS.thing {goal : Way} {y : Str} {news2 : Led} {na : Addr} {tv v : Value} {d : Dat} {o' : Obj} (R : TurnS w L ns l lo Ia nx I P things rows (prefs goal) val tvs tn rvs rn lth lr xn dn d0 ln t0 c0 ys oA oB vA) (N : News h₀ L h ((Ia, oI) :: nx)) (N' : News h₀ L h' news2)
    (hv : DatIn I v d) (hd : IsThing d) (htv : DatIn I tv (thingD (goal ++ [y], d))) (hok : WOk (goal ++ [y])) (hl3 : (goal ++ [y]).length ≤ 3) (hisN : isNest P (thingAt things) goal) (hcur : val goal = .ref na) (hq : goal ++ [y] ∉ P)
    (hl : (lth, listOf (tvs ++ [tv]).toArray (tn + 1)) ∈ news2) (hm : (na, o') ∈ news2) (ho' : o'.IsDictOf (strKind PySem.Challenge.rw_ij0018_01.row.prog w) (stored (kids P val goal) y v))
    (hk : ∀ p ∈ (Ia, oI) :: nx, p.1 ≠ lth → p.1 ≠ na → p ∈ news2) :
    TurnS w L ns l lo Ia (news2.filter fun e => decide (e.1 ≠ Ia)) I (P ++ [goal ++ [y]]) (things ++ [(goal ++ [y], d)]) rows (prefs (goal ++ [y])) (upd val (goal ++ [y]) v) (tvs ++ [tv]) (tn + 1) rvs rn lth lr xn dn d0 ln t0 c0 ys oA oB vA ∧
      News h₀ L h' ((Ia, oI) :: news2.filter fun e => decide (e.1 ≠ Ia)) := by
  have N1 : News h₀ L h nx := News.sub N fun e he => .tail _ he
  have nn : ∀ (c : Addr) (o : Obj), (c, o) ∈ nx → (∀ es ep, o.data ≠ .dict es ep) → c ≠ na := fun c o hc ho => (nest_ne N1 R.S.tr hisN hcur hc ho).symm
  have hnaT : ∃ ona, (na, ona) ∈ nx := by
    obtain ⟨a', o, hv', _, hm', _⟩ := R.S.tr.nest goal hisN.1 hisN.2
    rw [hcur] at hv'
    injection hv' with hv'
    exact ⟨o, hv' ▸ hm'⟩
  obtain ⟨ona, hna⟩ := hnaT
  have naI : na ≠ Ia := R.off _ hna
  have fO : ∀ (c : Addr) (o : Obj), (c, o) ∈ nx → (∀ es ep, o.data ≠ .dict es ep) → c ≠ lth → (c, o) ∈ news2.filter fun e => decide (e.1 ≠ Ia) := fun c o hc ho hne => filt (hk _ (.tail _ hc) hne (nn c o hc ho)) (R.off _ hc)
  have fI : ∀ e ∈ I, e ∈ news2.filter fun e => decide (e.1 ≠ Ia) := fun e he => filt (hk _ (.tail _ (R.S.sub e he)) (fun q => R.S.off e he (by rw [q]; simp)) (R.S.tr.apart goal na hisN hcur e he)) (R.off _ (R.S.sub e he))
  have hthq : thingAt things (goal ++ [y]) = none := by
    cases e : thingAt things (goal ++ [y]) with
    | none => rfl
    | some d' => exact absurd (R.S.tr.thP _ _ e) hq
  have lIa : lth ≠ Ia := R.off _ R.S.lt
  have lna : lth ≠ na := nn _ _ R.S.lt not_dict_lst
  obtain ⟨ps, hp⟩ := R.T.at
  have l107 : (107 : Addr) ≠ lth := News.ne N1 hp R.S.lt fun q => by cases congrArg Obj.cls q
  have hdt : DatAll I (tvs ++ [tv]) ((things ++ [(goal ++ [y], d)]).map thingD) := by
    rw [List.map_append]
    exact R.S.dt.append (DatAll.one htv)
  have S' : St PySem.Challenge.rw_ij0018_01.row.prog w (news2.filter fun e => decide (e.1 ≠ Ia)) I [lth, lr, L + 1 + 1, L + 1, 107] lth lr (P ++ [goal ++ [y]]) (things ++ [(goal ++ [y], d)]) rows (prefs (goal ++ [y])) (upd val (goal ++ [y]) v) (tvs ++ [tv]) (tn + 1) rvs rn := by
    refine { tr := ?_, hP := ?_, hrow := R.S.hrow, hth := ?_, lt := filt hl lIa, dt := hdt, lr := ?_, dr := R.S.dr, sub := fI, off := R.S.off, ne := R.S.ne }
    · rw [thingAt_snoc hthq]
      have M0 := R.S.tr.mvT (T' := nx.filter fun e => decide (e.1 ≠ lth)) fun q a o hq' hv' hm' => filt hm' (nest_ne N1 R.S.tr hq' hv' R.S.lt not_dict_lst)
      refine M0.addThing hisN hq hcur ho' hv (fun _ h => h) (fun p a hp hv e he => M0.apart p a hp hv e he) (fun e he hne => ?_) (filt hm naI)
      obtain ⟨h1, h2⟩ := filt_inv he
      exact filt (hk _ (.tail _ h1) h2 hne) (R.off _ h1)
    · rw [prefs_snoc, ← List.append_assoc, firsts_snoc, ← R.S.hP, stepP, if_neg hq]
    · intro t ht
      rcases List.mem_append.mp ht with ht | ht
      · exact R.S.hth t ht
      · rw [List.mem_singleton.mp ht]
        exact ⟨hok, hl3, hd⟩
    · exact fO _ _ R.S.lr not_dict_lst (Ne.symm R.S.ne)
  refine ⟨{ R with S := S', T := ?_, A := fO _ _ R.A (fun es ep q => by rw [R.hA] at q; cases q) (News.ne N1 R.A R.S.lt fun q => by have := R.hA; rw [q] at this; cases this), B := fO _ _ R.B (fun es ep q => by rw [R.hB] at q; cases q) (News.ne N1 R.B R.S.lt fun q => by have := R.hB; rw [q] at this; cases this), v0 := ?_, off := fun p hp => (filt_inv hp).2 }, News.sub N' fun e he => ?_⟩
  · rcases R.T with hm | ⟨c', oc, vs, t, hm, hc, r⟩
    · exact .inl (fO _ _ hm (fun es ep q => by cases q) l107)
    · exact .inr ⟨c', oc, vs, t, fO _ _ hm (fun es ep q => by cases q) l107, hc, r⟩
  · rw [upd_ne _ _ (by simp)]
    exact R.v0
  · rcases List.mem_cons.mp he with rfl | he
    · exact hk _ (.head _) (Ne.symm lIa) (Ne.symm naI)
    · exact (filt_inv he).1
end
theorem front_mem {x a b c d f g e : Addr × Obj} {nx : Led} (h : e ∈ x :: nx) : e ∈ x :: a :: b :: c :: d :: f :: g :: nx := by
  rcases List.mem_cons.mp h with rfl | h
  · exact .head _
  · exact .tail _ (.tail _ (.tail _ (.tail _ (.tail _ (.tail _ (.tail _ h))))))
theorem front_cases {x a b c d f g e : Addr × Obj} {nx : Led} (h : e ∈ x :: a :: b :: c :: d :: f :: g :: nx) (ha : a ∈ nx) (hb : b ∈ nx) (hc : c ∈ nx) (hd : d ∈ nx) (hf : f ∈ nx) (hg : g ∈ nx) : e ∈ x :: nx := by
  simp only [List.mem_cons] at h ⊢
  rcases h with rfl | rfl | rfl | rfl | rfl | rfl | rfl | hx
  · exact .inl rfl
  all_goals (first | exact .inr ‹_› | exact .inr hx)
theorem lam_hide (w : World) {nx : Led} {f c' : Addr} {oc : Obj} {vs : Array Value} {name qual : Str} {t : Tok} {pm ctv : Value} (hf : (f, kla_obj name qual lamParams lamBody lamScope [] pm c' ctv) ∈ nx) (hoc : oc.data = .fields vs) (hvs : vs[1]? = some (.str qual t)) :
    ∃ olam, (f, olam) ∈ nx ∧ LamOk w f [(f, olam), (c', oc)] ∧ ∃ oc od fd sl, olam = (⟨oc, od, .func fd, sl⟩ : Obj) :=
  ⟨_, hf, lam_does w f c' oc vs name qual t pm ctv hoc hvs, _, _, _, _, rfl⟩
/-- what holds behind the law's second if: a thing is laid or not -/
def AfterIf (w : World) (L : Addr) (ns : List Int) (l : Addr) (lo : Obj) (Ia : Addr) (oI : Obj) (rows : List Row) (rvs : List Value) (rn : Nat) (lth lr xn dn d0 ln : Addr) (t0 : Tok) (c0 : Nat) (ys : List Value) (oB : Obj) (i : Nat) (fl : Flow) (m' : Str → Option Value) (nx' : Led) : Prop :=
  fl = .next ∧ Has m' [(Str.ofString "rows", .ref lr), (Str.ofString "things", .ref lth), (Str.ofString "nested", .ref xn), (Str.ofString "numbers", .ref ln)] ∧
  ∃ (nx I : Led) (P : List Way) (things : List (Way × Dat)) (val : Way → Value) (tvs : List Value) (tn : Nat) (oA : Obj) (goal : Way) (ga : Addr) (gvs : List Value) (gn : Nat),
    nx' = (Ia, oI) :: nx ∧ TurnS w L ns l lo Ia nx I P things rows (prefs goal) val tvs tn rvs rn lth lr xn dn d0 ln t0 c0 ys oA oB (some (.ref ga)) ∧ (ga, tupObj gvs gn) ∈ I ∧ DatAll I gvs (goal.map .str) ∧ WOk goal ∧ goal.length ≤ 3 ∧ things.length ≤ i + 1 ∧ P ≠ []
theorem seg_If {w : World} {L : Addr} {ns : List Int} {l : Addr} {lo : Obj} {Ia : Addr} {nx I : Led} {P : List Way} {things : List (Way × Dat)} {rows : List Row} {pend : Row} {val : Way → Value} {tvs : List Value} {tn : Nat} {rvs : List Value} {rn : Nat}
    {lth lr xn dn d0 ln : Addr} {t0 : Tok} {c0 : Nat} {ys : List Value} {oA oB : Obj} {vA : Option Value} {h₀ : Heap} {m : Str → Option Value} {M : Model} {A : Around} {E : Value → Shared → Prop} {Q : Flow → Shared → Prop} {s : Shared} {c : Sem Flow}
    (R : TurnS w L ns l lo Ia nx I P things rows pend val tvs tn rvs rn lth lr xn dn d0 ln t0 c0 ys oA oB vA) (F : Fr h₀ L s.heap m) (oI : Obj) (i : Nat)
    (h1 : wpAny M A c (SegX h₀ L (AfterIf w L ns l lo Ia oI rows rvs rn lth lr xn dn d0 ln t0 c0 ys oB i) s) E s)
    (h2 : ∀ v h' tk m' nx', Fr h₀ L h' m' → News h₀ L h' nx' → AfterIf w L ns l lo Ia oI rows rvs rn lth lr xn dn d0 ln t0 c0 ys oB i v m' nx' → Q v { s with heap := h', toks := tk }) : wpAny M A c Q E s :=
  seg_X h₀ L _ h1 h2
end
section
open PySem PySem.W PyProof.Rows PyProof.Rows.LCg
theorem firsts_add (A : Row) : ∀ (r : Row), r.Nodup → firsts (A ++ r) = firsts A ++ r.filter fun p => decide (p ∉ firsts A) := by
  intro r
  induction r using snoc_ind with
  | nil => intro _; simp
  | snoc f x ih =>
    intro h
    obtain ⟨h1, _, h3⟩ := List.nodup_append.mp h
    rw [← List.append_assoc, firsts_snoc, ih h1, List.filter_append]
    have hx : x ∉ f := fun q => h3 x q x (List.mem_singleton.mpr rfl) rfl
    unfold stepP
    by_cases hA : x ∈ firsts A
    · rw [if_pos (List.mem_append_left _ hA), List.filter_cons_of_neg (by simpa using hA), List.filter_nil, List.append_nil]
    · rw [if_neg (fun q => by
        rcases List.mem_append.mp q with q | q
        · exact hA q
        · exact hx (List.mem_filter.mp q).1), List.filter_cons_of_pos (by simpa using hA), List.filter_nil, List.append_assoc]
theorem prefs_nodup (g : Way) : (prefs g).Nodup := by
  refine List.Pairwise.imp ?_ (prefs_chain g)
  intro a b h e
  have := h.2.1
  rw [e] at this
  exact Nat.lt_irrefl _ this
theorem take_flat {rows : List Row} {k : Nat} {r : Row} (h : rows[k]? = some r) : (rows.take (k + 1)).flatten = (rows.take k).flatten ++ r := by
  rw [List.take_add_one, h]
  simp
theorem filter_take' {α : Type} {l : List α} {f : α → Bool} {i : Nat} {a : α} (h : l[i]? = some a) : (l.take (i + 1)).filter f = (l.take i).filter f ++ if f a = true then [a] else [] := filter_take h
theorem ws_le {ws : List Value} {ks : List Int} (h : IntsAre ws ([7, 16, 88] ++ ks ++ [25, 44])) (hk : ks.length ≤ 8) : 0 < ws.length ∧ ws.length ≤ 13 := by
  have := h.length
  simp only [List.length_append, List.length_cons, List.length_nil] at this
  omega
/-- plain is bound -/
theorem St.plain {prog : Program} {w : World} {nx I : Led} {lth lr : Addr} {P : List Way} {things : List (Way × Dat)} {rows : List Row} {pend : Row} {val : Way → Value} {tvs : List Value} {tn : Nat} {rvs : List Value} {rn : Nat} {h₀ h h' : Heap} {L lp : Addr} {oB o' ol : Obj} {news' : Led}
    (S : St prog w nx I [lth, lr, L + 1 + 1, L + 1, 107] lth lr P things rows pend val tvs tn rvs rn) (N : News h₀ L h ((lp, ol) :: nx)) (hB : (L + 1 + 1, oB) ∈ nx) (hdB : oB.data = .cell none) (hlo : ∀ p ∈ nx, p.1 < lp) (N' : News h₀ L h' news') (T : TabSt nx I) (hm : (L + 1 + 1, o') ∈ news') (hk : ∀ p ∈ (lp, ol) :: nx, p.1 ≠ L + 1 + 1 → p ∈ news') :
    ∃ nxr, St prog w ((L + 1 + 1, o') :: nxr) I [lth, lr, L + 1 + 1, L + 1, 107] lth lr P things rows pend val tvs tn rvs rn ∧ News h₀ L h' ((lp, ol) :: (L + 1 + 1, o') :: nxr) ∧ (∀ e ∈ (L + 1 + 1, o') :: nxr, e.1 < lp) ∧ (L + 1 + 1, o') ∈ (L + 1 + 1, o') :: nxr ∧ ∃ ps, (107, tabObj ps) ∈ (L + 1 + 1, o') :: nxr := by
  have N1 : News h₀ L h nx := News.sub N fun e he => .tail _ he
  have l1 := hlo _ hB
  obtain ⟨ps, hps⟩ := T.at
  have h107 : (107 : Addr) ≠ L + 1 + 1 := News.ne N1 hps hB fun q => by rw [← q] at hdB; cases hdB
  refine ⟨nx.filter fun e => decide (e.1 ≠ L + 1 + 1), S.other N1 (c := L + 1 + 1) (by simp) hB (fun es ep q => by rw [hdB] at q; cases q) (fun es n q => by rw [hdB] at q; cases q) (fun p hp hne => .tail _ (filt hp hne)), News.sub N' fun e he => ?_, fun e he => ?_, .head _, ps, .tail _ (filt hps h107)⟩
  · rcases List.mem_cons.mp he with rfl | he
    · exact hk _ (.head _) (Nat.ne_of_gt l1)
    rcases List.mem_cons.mp he with rfl | he
    · exact hm
    · exact hk _ (.tail _ (filt_inv he).1) (filt_inv he).2
  · rcases List.mem_cons.mp he with rfl | he
    · exact l1
    · exact hlo _ (filt_inv he).1
theorem led_extend {prog : Program} {w : World} {A : Around} {E : Value → Shared → Prop} {s : Shared} {h₀ : Heap} {L : Addr} {m : Str → Option Value} {D b : Addr} {ys zs : List Value} {n n2 : Nat} {rest : Led} {Q : Value → Shared → Prop}
    (F : Fr h₀ L s.heap m) (N : News h₀ L s.heap ((D, listOf ys.toArray n) :: rest)) (hap : ∀ p ∈ rest, p.1 ≠ D) (hb : (b, listOf zs.toArray n2) ∈ rest)
    (h : ∀ h' n', Fr h₀ L h' m → News h₀ L h' ((D, listOf (ys ++ zs).toArray n') :: rest) → Q .none { s with heap := h' }) (hsz : ys.length + zs.length ≤ 1000) :
    wpAny (model prog w) A (call (.builtin "list.extend") [.ref D, .ref b]) Q E s :=
  extend_in (own := []) (its2 := zs.toArray) F N (fun _ h => nomatch h) hap (N _ (.tail _ hb)).1 (fun h' n' F' N' => h h' n' F' N') (by rw [List.size_toArray, sizeLine_eq]; omega)
theorem hideN {h₀ h : Heap} {L : Addr} {X : Led} (N : News h₀ L h X) : ∃ K1 : Led, K1 = X ∧ News h₀ L h K1 := ⟨X, rfl, N⟩
theorem in2 {e a b : Addr × Obj} {X K1 : Led} (h : e ∈ X) (hK : K1 = a :: b :: X) : e ∈ K1 := by rw [hK]; exact .tail _ (.tail _ h)
theorem kqdOk_told {P : List Way} {th : Way → Option Dat} (hok : ∀ p ∈ P, WOk p) (hth : ∀ p d, th p = some d → IsThing d) : ∀ (n : Nat) (p : Way), kqdOk (2 * n + 4) (toldF P th n p) = true
  | 0, p => rfl
  | n + 1, p => by
    rw [toldF]
    show kqdOk ((2 * n + 5) + 1) _ = true
    simp only [kqdOk, List.all_eq_true]
    intro d hd
    obtain ⟨q, hq, rfl⟩ := List.mem_map.mp hd
    have hqP := (mem_kidsOf.mp hq).1
    show kqdOk ((2 * n + 4) + 1) _ = true
    simp only [kqdOk, List.all_cons, List.all_nil, Bool.and_true, Bool.and_eq_true]
    constructor
    · obtain ⟨k, hk⟩ : ∃ k, lastN q = nameAt k := by
        rcases List.eq_nil_or_concat q with rfl | ⟨r, x, rfl⟩
        · exact ⟨2, rfl⟩
        · rw [List.concat_eq_append, lastN_snoc]
          exact hok _ hqP x (by simp)
      rw [hk]
      exact strOk_nameAt k
    · cases e : th q with
      | none => exact kqdOk_told hok hth n q
      | some d =>
        show kqdOk ((2 * n + 3) + 1) _ = true
        simp only [kqdOk, List.all_cons, List.all_nil, Bool.and_true]
        exact kqdOk_thing (hth q d e) (2 * n + 2)
theorem in1 {a : Addr × Obj} {X K1 : Led} (hK : K1 = a :: X) : a ∈ K1 ∧ ∀ e ∈ X, e ∈ K1 := by
  subst hK
  exact ⟨.head _, fun e he => .tail _ he⟩
theorem front4 {h₀ h : Heap} {L : Addr} {K K' : Led} {a b c d : Addr × Obj} (N : News h₀ L h K') (hs : ∀ e ∈ K, e ∈ K') (ha : a ∈ K) (hb : b ∈ K) (hc : c ∈ K) (hd : d ∈ K) : News h₀ L h (a :: b :: c :: d :: K') := by
  refine News.sub N fun x hx => ?_
  simp only [List.mem_cons] at hx
  rcases hx with rfl | rfl | rfl | rfl | hx
  · exact hs _ ha
  · exact hs _ hb
  · exact hs _ hc
  · exact hs _ hd
  · exact hx
theorem in4 {a b c d e : Addr × Obj} {K : Led} (h : e ∈ K) : e ∈ a :: b :: c :: d :: K := .tail _ (.tail _ (.tail _ (.tail _ h)))
theorem plain_item {prog : Program} {w : World} {A : Around} {E : Value → Shared → Prop} {s : Shared} {h₀ : Heap} {L : Addr} {news I : Led} {Q : Value → Shared → Prop} {value slice : PySem.Expr} {lp : Addr} {pvs : List Value} {pn : Nat} {P : List Way} {z : Int} {u : Tok}
    (N : News h₀ L s.heap news) (hm : (lp, listOf pvs.toArray pn) ∈ news) (hD : DatAll I pvs (P.map wayD)) (hP : 0 < P.length) (hl : P.length ≤ 1000) (h : ∀ v q, DatIn I v (wayD q) → q ∈ P → Q v s)
    (hs : subscripted slice false (.ref lp) (.int (z.fmod (P.length : Nat)) u) = operate [.ref lp, .int (z.fmod (P.length : Nat)) u] (getItem (.ref lp) (.int (z.fmod (P.length : Nat)) u)) := by with_unfolding_all rfl) (hg : ∀ r, letTemporaryGo value (.ref lp) r = pure () := by intro _; with_unfolding_all rfl) :
    wpAny (model prog w) A (subscriptTail value slice (.ref lp) (.int (z.fmod (P.length : Nat)) u)) Q E s := by
  have h0 : 0 ≤ z.fmod (P.length : Nat) := Int.fmod_nonneg_of_pos _ (by omega)
  have h1 : z.fmod (P.length : Nat) < (P.length : Nat) := Int.fmod_lt_of_pos _ (by omega)
  obtain ⟨j, hj⟩ := int_nat h0
  have hjl : j < P.length := by omega
  obtain ⟨v, hv, hDv⟩ := hD.get (k := j) (by rw [List.length_map]; exact hjl)
  rw [List.getElem_map] at hDv
  exact lst_item N hm h0 (by omega) (by rw [hj, Int.toNat_natCast]; exact hv) (h v _ hDv (List.getElem_mem hjl)) hs hg
theorem in7 {a b c d e f g : Addr × Obj} {K K3 : Led} (h : K3 = a :: b :: c :: d :: e :: f :: g :: K) : a ∈ K3 ∧ b ∈ K3 ∧ c ∈ K3 ∧ ∀ x ∈ K, x ∈ K3 := by
  subst h
  exact ⟨.head _, .tail _ (.head _), .tail _ (.tail _ (.head _)), fun x hx => .tail _ (.tail _ (.tail _ (.tail _ (.tail _ (.tail _ (.tail _ hx))))))⟩
theorem two_at {K I : Led} {D1 D2 : Addr} {v1 v2 : Value} {q1 q2 : Way} {P : List Way} (h1 : (D1, tupObj [v1, v2] 0) ∈ K) (h2 : (D2, tupObj [v2, v1] 0) ∈ K) (a1 : DatIn I v1 (wayD q1)) (a2 : DatIn I v2 (wayD q2)) (m1 : q1 ∈ P) (m2 : q2 ∈ P) {k : Nat} {v : Value} (hk : [Value.ref D1, Value.ref D2][k]? = some v) :
    ∃ D va vb qa qb, v = .ref D ∧ (D, tupObj [va, vb] 0) ∈ K ∧ DatIn I va (wayD qa) ∧ DatIn I vb (wayD qb) ∧ qa ∈ P ∧ qb ∈ P := by
  match k, hk with
  | 0, hk => exact ⟨D1, v1, v2, q1, q2, (Option.some.inj hk).symm, h1, a1, a2, m1, m2⟩
  | 1, hk => exact ⟨D2, v2, v1, q2, q1, (Option.some.inj hk).symm, h2, a2, a1, m2, m1⟩
  | k + 2, hk => cases hk
theorem first_at {P : List Way} (hn : P.Nodup) {q : Way} (h : q ∈ P) : ∃ j : Nat, P[j]? = some q ∧ ∀ k : Nat, k < j → P[k]? ≠ some q := by
  obtain ⟨j, hj⟩ := List.getElem?_of_mem h
  refine ⟨j, hj, fun k hk e => ?_⟩
  have hl := (List.getElem?_eq_some_iff.mp e).1
  have := (List.getElem?_inj (i := k) (j := j) hl hn).mp (by rw [e, hj])
  omega
theorem kqdOk_more {P : List Way} {j : Nat} {f s : Way} (h : ∀ p ∈ P, WOk p) : kqdOk 2 (moreD P j f s) = true := by
  unfold moreD
  split
  · exact (by decide +kernel : PyData.strOk (Str.ofString "Inconsistent hierarchy") = true)
  · simp only [rowD, kqdOk, List.all_eq_true]
    refine waysD_ok (fun p hp => ?_) 0
    rcases List.mem_append.mp hp with hp | hp
    · exact h p (List.mem_of_mem_take (List.mem_filter.mp hp).1)
    · exact h p (List.mem_filter.mp hp).1
theorem in8 {a b c d e f g i : Addr × Obj} {K K4 : Led} (h : K4 = a :: b :: c :: d :: e :: f :: g :: i :: K) : a ∈ K4 ∧ c ∈ K4 ∧ d ∈ K4 ∧ ∀ x ∈ K, x ∈ K4 := by
  subst h
  exact ⟨.head _, .tail _ (.tail _ (.head _)), .tail _ (.tail _ (.tail _ (.head _))), fun x hx => .tail _ (.tail _ (.tail _ (.tail _ (.tail _ (.tail _ (.tail _ (.tail _ hx)))))))⟩
theorem rows_more {K I : Led} {D9 D8 : Addr} {n9 n8 : Nat} {rvs : List Value} {va vb : Value} {rows : List Row} {qa qb : Way} (h9 : (D9, listOf (rvs ++ [Value.ref D8]).toArray n9) ∈ K) (h8 : (D8, listOf #[va, vb] n8) ∈ K) (hd : DatAll I rvs (rows.map rowD)) (hI : ∀ e ∈ I, e ∈ K) (ha : DatIn I va (wayD qa)) (hb : DatIn I vb (wayD qb)) :
    DatIn K (.ref D9) (rowsD (rows ++ [[qa, qb]])) := by
  refine .list h9 ?_
  rw [List.map_append]
  exact (hd.mono hI).append (DatAll.one (.list (vs := [va, vb]) h8 (.cons (ha.mono hI) (.cons (hb.mono hI) .nil))))
/-- the table of codes at the end -/
theorem grown_of {h₀ h : Heap} {L : Addr} {nx K I : Led} (T : TabSt nx I) (hk : ∀ e ∈ nx, e.1 = 107 → e ∈ K) (N : News h₀ L h K) : GrownAll [(109, 107)] h := by
  rcases T with hm | ⟨c', oc, vs, t, hm, _⟩
  · exact ⟨GrownAt.of N (hk _ hm rfl), trivial⟩
  · exact ⟨GrownAt.of N (hk _ hm rfl), trivial⟩
end
section
open PySem PySem.W PyProof.Rows PyProof.Rows.LCg



set_option maxRecDepth 100000 in
set_option maxHeartbeats 8000000 in
theorem law_holds : PySem.Challenge.rw_ij0018_01.Holds := Mine.hd (by
  k_go0
  with_reducible show wpAny _ _ _ _ _ _
  k_fold
  k_steps
  (rename (∀ p : Addr × Obj, p ∈ (List.cons _ _ : List (Addr × Obj)) → p.1 < _) => hz; replace hz := allLt_of hz; simp only [AllLt, and_true] at hz)
  (rename (∀ p : Addr × Obj, p ∈ (List.cons _ _ : List (Addr × Obj)) → p.1 < _) => hz2; replace hz2 := allLt_of hz2; simp only [AllLt, and_true] at hz2)
  (rename (∀ p : Addr × Obj, p ∈ (List.cons _ _ : List (Addr × Obj)) → p.1 < _) => hz3; replace hz3 := allLt_of hz3; simp only [AllLt, and_true] at hz3)
  (repeat' ( (fail_if_success (with_reducible first | show TurnEnd _ _ _ _ _ _ _ _ _ _ | show WhileStep2 _ _ _ _ _ _ _ _ | show wpAny _ _ (eval (Expr.ListComp _ _ _ _) _) _ _ _ | show wpAny _ _ (exec (Stmt.While _ _ _ _) _) _ _ _ | show wpAny _ _ (exec (Stmt.For _ _ _ _ _) _) _ _ _ | show wpAny _ _ (exec (Stmt.Assign _ (Expr.ListComp _ _ _ _) _) _) _ _ _ | show wpAny _ _ (subscriptTail _ _ _ _) _ _ _ | show wpAny _ _ (PySem.call _ _ _) _ _ _ | show wpAny _ _ (compareOp _ (Value.ref _) _) _ _ _ | show wpAny _ _ (compareOp _ _ (Value.ref _)) _ _ _ | show wpAny _ _ (binaryOp _ (Value.ref _) _) _ _ _ | show wpAny _ _ (setItem _ _ _) _ _ _)); first | (k_unfold; (try dsimp only)) | walk1 | (dsimp only; walk1) | (leave1; (try dsimp only)) | fail "no step"))
  refine For_open ?_
  k_steps
  rename News _ _ _ _ => N9
  rename Fr _ _ _ _ => F9
  rename IntsAre _ _ => I9
  rename IntsAre _ (List.map _ _) => I8
  rename Obj.IsDictOf (PySem.strKind _ _) _ _ => hod
  rename (_ == sysModules) = false => hsm
  rename Obj.data _ = _ => hdA
  revert hdA
  rename Obj.data _ = _ => hdB
  intro hdA
  have hdA : _ = Data.cell none := hdA.trans (by with_unfolding_all rfl : _ = Data.cell none)
  have hdB : _ = Data.cell none := hdB.trans (by with_unfolding_all rfl : _ = Data.cell none)
  refine ForAt_list (by rfl) F9 N9 (.head _) (.inl ⟨_, _, rfl⟩) (LawJ _ _ _ _ _) (law_start N9 (by assumption) (by assumption) (by assumption) hod hsm hz.2.1 hdA hdB I8 ⟨rfl, rfl, rfl, rfl, trivial⟩) ?_ ?_
  ·
    clear N9 F9 hdA hdB hod I8 hz hz2 hz3
    repeat (rename Fr _ _ _ _ => zz; clear zz)
    repeat (rename News _ _ _ _ => zz; clear zz)
    repeat (rename (∀ p : Addr × Obj, p ∈ (List.cons _ _ : List (Addr × Obj)) → p.1 < _) => zz; clear zz)
    repeat (rename Obj.data _ = _ => zz; clear zz)
    intro i v m1 nx h tk Ia oI hv hJ hl F1 N1 off
    obtain ⟨lth, lr, xn, dn, d0, ln, t0, c0, ys, I, P, things, rows, val, tvs, tn, rvs, rn, oA, oB, vA, hm1, S, TS, hA, hdA1, hB, hdB1, hxI, hdI, hlnI, hIy, hlI, hv0, hrl, htl, hi0, hiP⟩ := hJ
    have hi := (List.getElem?_eq_some_iff.mp hv).1
    have hi13 : i ≤ 12 := by
      have := I9.length
      simp only [List.length_append, List.length_map, List.length_take, List.length_cons, List.length_nil] at this
      omega
    obtain ⟨x, t, rfl, hx⟩ := I9.at i v hv
    obtain ⟨n, rfl, hn, hn7⟩ := deed_nat (ks := []) hx
    replace F1 := hm1.fr F1
    clear hm1
    have R : TurnS _ _ _ _ _ Ia nx I P things rows [] val tvs tn rvs rn lth lr xn dn d0 ln t0 c0 ys oA oB vA := { S := S, T := TS, A := hA, hA := hdA1, B := hB, hB := hdB1, x := hxI, d := hdI, n := hlnI, y := hIy, l := hlI, v0 := hv0, off := off }
    clear S TS hA hdA1 hB hdB1 hxI hdI hlnI hIy hlI hv0 off hl
    replace N1 := R.front N1
    dsimp only
    (repeat' ( (fail_if_success (with_reducible first | show TurnEnd _ _ _ _ _ _ _ _ _ _ | show wpAny _ _ (eval (Expr.ListComp _ _ _ _) _) _ _ _ | show wpAny _ _ (eval (Expr.IfExp _ _ _ _) _) _ _ _ | show wpAny _ _ (exec (Stmt.If _ _ _ _) _) _ _ _ | show wpAny _ _ (exec (Stmt.For _ _ _ _ _) _) _ _ _ | show wpAny _ _ (exec (Stmt.Assign _ (Expr.ListComp _ _ _ _) _) _) _ _ _ | show wpAny _ _ (subscriptTail _ _ _ _) _ _ _ | show wpAny _ _ (PySem.call _ _ _) _ _ _ | show wpAny _ _ (compareOp _ (Value.ref _) _) _ _ _ | show wpAny _ _ (compareOp _ _ (Value.ref _)) _ _ _ | show wpAny _ _ (binaryOp _ (Value.ref _) _) _ _ _ | show wpAny _ _ (setItem _ _ _) _ _ _ | show wpAny _ _ (storeName _ "goal" _) _ _ _)); first | (k_unfold; (try dsimp only)) | walk1 | (dsimp only; walk1) | (leave1; (try dsimp only)) | fail "no step"))
    have e40 := fmod_nat n 40
    have C := way_does (by assumption) (n % 40) (by omega)
    rw [← e40] at C
    k_dflt (refine' Does.use (C _ _) ?k1 ?k2 ?k3 ?k4 ?k5 ?kK ?kd ?ku ?_; (((case k1 => k_asm); (case k2 => k_asm); (case k3 => k_asm); (case k4 => k_asm); (case k5 => k_asm); (case kK => first | exact rfl | assumption); (case kd => ktr_room); (case ku => ktr_units))))
    clear C e40
    intro r h3 news3 tk3 F3 N3 hpost
    obtain ⟨tl3, rfl, hfr3, hD3⟩ := hpost
    obtain ⟨wt, wvs, wn, rfl, hwm, hDw⟩ := DatIn.tup hD3
    replace R := R.grow (tl := tl3) (oI := oI) (fun e he p hp => hfr3 e he p (by
      rcases List.mem_cons.mp hp with rfl | hp
      · exact .head _
      · exact .tail _ (.tail _ (.tail _ (.tail _ (.tail _ (.tail _ (.tail _ hp))))))))
    replace N3 : News _ _ _ ((Ia, oI) :: (tl3 ++ nx)) := News.sub N3 (by
      intro e he
      rcases List.mem_cons.mp he with rfl | he
      · exact List.mem_append_right _ (.head _)
      rcases List.mem_append.mp he with he | he
      · exact List.mem_append_left _ he
      · exact List.mem_append_right _ (.tail _ (.tail _ (.tail _ (.tail _ (.tail _ (.tail _ (.tail _ he))))))))
    clear hfr3
    replace N3 := R.front N3
    (repeat' ( (fail_if_success (with_reducible first | show TurnEnd _ _ _ _ _ _ _ _ _ _ | show wpAny _ _ (eval (Expr.ListComp _ _ _ _) _) _ _ _ | show wpAny _ _ (eval (Expr.IfExp _ _ _ _) _) _ _ _ | show wpAny _ _ (exec (Stmt.If _ _ _ _) _) _ _ _ | show wpAny _ _ (exec (Stmt.For _ _ _ _ _) _) _ _ _ | show wpAny _ _ (exec (Stmt.Assign _ (Expr.ListComp _ _ _ _) _) _) _ _ _ | show wpAny _ _ (subscriptTail _ _ _ _) _ _ _ | show wpAny _ _ (PySem.call _ _ _) _ _ _ | show wpAny _ _ (compareOp _ (Value.ref _) _) _ _ _ | show wpAny _ _ (compareOp _ _ (Value.ref _)) _ _ _ | show wpAny _ _ (binaryOp _ (Value.ref _) _) _ _ _ | show wpAny _ _ (setItem _ _ _) _ _ _ | show wpAny _ _ (storeName _ "goal" _) _ _ _)); first | (k_unfold; (try dsimp only)) | walk1 | (dsimp only; walk1) | (leave1; (try dsimp only)) | fail "no step"))
    rename Fr _ _ _ _ => F2
    rename News _ _ _ _ => N2
    have e3 : ((n : Int).fdiv 40).fmod 3 = ((n / 40 % 3 : Nat) : Int) := by rw [show (40 : Int) = ((40 : Nat) : Int) from rfl, fdiv_nat, show (3 : Int) = ((3 : Nat) : Int) from rfl, fmod_nat]
    rw [e3] at F2
    clear e3
    obtain ⟨kd, hkd⟩ : ∃ kd, kd = n / 40 % 3 := ⟨_, rfl⟩
    obtain ⟨way, hway⟩ : ∃ way, way = wayOf (n % 40) := ⟨_, rfl⟩
    have hwl : way.length ≤ 3 := hway ▸ wayOf_len (Nat.mod_lt _ (by decide))
    have hwo : WOk way := hway ▸ wayOf_ok _
    have hw7 : i = 0 → way ≠ [] ∧ kd ≠ 2 := fun h => by
      have := hn7 h
      subst this
      exact ⟨hway ▸ wayOf_seven, hkd ▸ by decide⟩
    rw [← hkd] at F2
    rw [← hway] at hDw
    clear hway hkd hn7 hx hv
    obtain ⟨m2, hm2, F2⟩ : ∃ m2 : Str → Option Value, Has m2 [(Str.ofString "way", .ref wt), (Str.ofString "kind", .int (kd : Nat) _), (Str.ofString "rows", .ref lr), (Str.ofString "things", .ref lth), (Str.ofString "nested", .ref xn), (Str.ofString "numbers", .ref ln)] ∧ Fr _ _ _ m2 := ⟨_, ⟨rfl, rfl, rfl, rfl, rfl, rfl, trivial⟩, F2⟩
    replace F2 := hm2.fr F2
    clear hm2
    clear F1
    refine seg_FN F2 N2 (fun v tl => DatIn (tl ++ (tl3 ++ I)) v (wayD (if kd = 2 then way.dropLast else way))) ?_ ?_
    ·
      walk1
      (repeat' ( (fail_if_success (with_reducible first | show SegEnd _ _ _ _ _ _ _ _ | show TurnEnd _ _ _ _ _ _ _ _ _ _ | show wpAny _ _ (eval (Expr.ListComp _ _ _ _) _) _ _ _ | show wpAny _ _ (exec (Stmt.For _ _ _ _ _) _) _ _ _ | show wpAny _ _ (exec (Stmt.Assign _ (Expr.ListComp _ _ _ _) _) _) _ _ _ | show wpAny _ _ (subscriptTail _ _ _ _) _ _ _ | show wpAny _ _ (PySem.call _ _ _) _ _ _ | show wpAny _ _ (compareOp _ (Value.ref _) _) _ _ _ | show wpAny _ _ (compareOp _ _ (Value.ref _)) _ _ _ | show wpAny _ _ (binaryOp _ (Value.ref _) _) _ _ _ | show wpAny _ _ (setItem _ _ _) _ _ _ | show wpAny _ _ (storeName _ "goal" _) _ _ _)); first | (k_unfold; (try dsimp only)) | walk1 | (dsimp only; walk1) | (leave1; (try dsimp only)) | fail "no step"))
      · rename _ = _ => hk2
        rename Fr _ _ _ _ => F4
        rename News _ _ _ _ => N4
        refine tup_upto2 F4 N4 (t := wt) (vs := wvs) (n := wn) (.tail _ (.tail _ (.tail _ (.tail _ (.tail _ (.tail _ (.tail _ (List.mem_append_left _ hwm)))))))) ?_ (by rw [hDw.length, List.length_map, sizeLine_eq]; omega)
        clear F4 N4
        intro D4 h4 tl4 j4 F4 N4 hfr4 hD4
        have hk2 : kd = 2 := by omega
        have hcut : cut (-1) wvs.length = way.length - 1 := by rw [hDw.length, List.length_map]; unfold cut; simp
        rw [hcut] at hD4
        have hDc := (Mine.DatAll.take hDw (way.length - 1)).mono (news' := tl4 ++ (tl3 ++ I)) fun e he => List.mem_append_right _ (List.mem_append_left _ he)
        rw [← List.map_take, ← List.dropLast_eq_take] at hDc
        refine SegEnd.mk tl4 F4 N4 hfr4 ?_
        rw [if_pos hk2]
        rcases hD4 with hD4 | hD4
        · exact .tuple (List.mem_append_left _ hD4) hDc
        · refine .tuple (n := j4) ?_ hDc
          rw [hD4]
          exact List.mem_append_right _ (List.mem_append_left _ hwm)
      · rename _ ≠ _ => hk2
        rename Fr _ _ _ _ => F4
        rename News _ _ _ _ => N4
        have hk2 : kd ≠ 2 := by omega
        refine SegEnd.mk [] F4 N4 Fresh.nil ?_
        rw [if_neg hk2]
        exact .tuple (List.mem_append_right _ (List.mem_append_left _ hwm)) (hDw.mono fun e he => List.mem_append_right _ (List.mem_append_left _ he))
    clear F2 N2
    obtain ⟨goal, hgoal⟩ : ∃ goal, goal = if kd = 2 then way.dropLast else way := ⟨_, rfl⟩
    rw [← hgoal]
    intro gv h5 tk5 tl5 F5 N5 hf5 hD5
    obtain ⟨R, N5⟩ := R.growF N5 hf5
    refine led_cell F5 N5 (by rfl) (.tail _ R.A) R.hA ?_ (by rfl) (by rfl)
    clear F5
    intro h6 o6 news6 F6 N6 hd6 hm6 hk6 ho6
    obtain ⟨nx6, R, N6⟩ := R.cellA2 N5 N6 hd6 hm6 hk6
    clear N5 hm6 hk6 ho6
    obtain ⟨I6, hI6⟩ : ∃ I6, I6 = tl5 ++ (tl3 ++ I) := ⟨_, rfl⟩
    have hDw6 : DatIn I6 (.ref wt) (wayD way) := by rw [hI6]; exact .tuple (List.mem_append_right _ (List.mem_append_left _ hwm)) (hDw.mono fun e he => List.mem_append_right _ (List.mem_append_left _ he))
    rw [← hI6] at R hD5
    dsimp only
    with_reducible show wpAny _ _ _ _ _ _
    k_fold
    obtain ⟨ga, gvs, gn, rfl, hgm, hDg⟩ := DatIn.tup hD5
    have hgo : WOk goal := by rw [hgoal]; split; all_goals first | exact hwo | exact fun x hx => hwo x (List.dropLast_subset _ hx)
    have hgl : goal.length ≤ 3 := by rw [hgoal]; split <;> (try rw [List.length_dropLast]) <;> omega
    have hgvl : gvs.length = goal.length := by rw [hDg.length, List.length_map]
    (repeat' ( (fail_if_success (with_reducible first | show TurnEnd _ _ _ _ _ _ _ _ _ _ | show wpAny _ _ (eval (Expr.ListComp _ _ _ _) _) _ _ _ | show wpAny _ _ (eval (Expr.IfExp _ _ _ _) _) _ _ _ | show wpAny _ _ (exec (Stmt.If _ _ _ _) _) _ _ _ | show wpAny _ _ (exec (Stmt.For _ _ _ _ _) _) _ _ _ | show wpAny _ _ (exec (Stmt.Assign _ (Expr.ListComp _ _ _ _) _) _) _ _ _ | show wpAny _ _ (subscriptTail _ _ _ _) _ _ _ | show wpAny _ _ (PySem.call _ _ _) _ _ _ | show wpAny _ _ (compareOp _ (Value.ref _) _) _ _ _ | show wpAny _ _ (compareOp _ _ (Value.ref _)) _ _ _ | show wpAny _ _ (binaryOp _ (Value.ref _) _) _ _ _ | show wpAny _ _ (setItem _ _ _) _ _ _ | show wpAny _ _ (storeName _ "goal" _) _ _ _)); first | (k_unfold; (try dsimp only)) | walk1 | (dsimp only; walk1) | (leave1; (try dsimp only)) | fail "no step"))
    refine Comp_open (by rfl) (by rfl) (by decide) ?_
    (repeat' ( (fail_if_success (with_reducible first | show TurnEnd _ _ _ _ _ _ _ _ _ _ | show wpAny _ _ (eval (Expr.ListComp _ _ _ _) _) _ _ _ | show wpAny _ _ (eval (Expr.IfExp _ _ _ _) _) _ _ _ | show wpAny _ _ (exec (Stmt.If _ _ _ _) _) _ _ _ | show wpAny _ _ (exec (Stmt.For _ _ _ _ _) _) _ _ _ | show wpAny _ _ (exec (Stmt.Assign _ (Expr.ListComp _ _ _ _) _) _) _ _ _ | show wpAny _ _ (subscriptTail _ _ _ _) _ _ _ | show wpAny _ _ (PySem.call _ _ _) _ _ _ | show wpAny _ _ (compareOp _ (Value.ref _) _) _ _ _ | show wpAny _ _ (compareOp _ _ (Value.ref _)) _ _ _ | show wpAny _ _ (binaryOp _ (Value.ref _) _) _ _ _ | show wpAny _ _ (setItem _ _ _) _ _ _ | show wpAny _ _ (storeName _ "goal" _) _ _ _)); first | (k_unfold; (try dsimp only)) | walk1 | (dsimp only; walk1) | (leave1; (try dsimp only)) | fail "no step"))
    have htvl : tvs.length = things.length := by rw [R.S.dt.length, List.length_map]
    obtain ⟨K1, hK1⟩ : ∃ K1 : Led, K1 = (Ia, oI) :: nx6 := ⟨_, rfl⟩
    rw [← hK1] at N6
    have hnK : ∀ e ∈ nx6, e ∈ K1 := fun e he => by rw [hK1]; exact .tail _ he
    have hIK : ∀ e ∈ I6, e ∈ K1 := fun e he => hnK e (R.S.sub e he)
    have hcK1 := hnK _ R.A
    refine CompAt_list (keep := K1) (news := K1) (by rfl) (by decide) (by rfl) F6 N6 (fun _ h => h) (hnK _ R.S.lt) (by rw [htvl, sizeLine_eq]; omega)
      (fun k ys nx => nx = K1 ∧ DatAll I6 ys ((barredW (things.take k) goal).map wayD)) (Tgt.pair _ _ _ _ _ _ ?_ ?_ ?_ ?_) ⟨rfl, .nil⟩ ?_ ?_
    · rfl
    · rfl
    · decide
    · intro k v hkv
      have hk : k < things.length := by rw [← htvl]; exact (List.getElem?_eq_some_iff.mp hkv).1
      obtain ⟨v', hv', hDv⟩ := R.S.dt.get (k := k) (by rw [List.length_map]; exact hk)
      obtain rfl : v' = v := Option.some.inj (hv'.symm.trans hkv)
      rw [List.getElem_map] at hDv
      obtain ⟨tt, ttv, ttn, rfl, httm, hDtt⟩ := DatIn.tup hDv
      obtain ⟨a1, b1, rfl⟩ := two_vals hDtt
      exact ⟨tt, a1, b1, ttn, rfl, hIK _ httm⟩
    ·
      intro k v ys8 nx I8 oI8 C oC D m8 h8 tk8 E8 hkv hJ hkeep hx hC F' N' off8
      obtain ⟨rfl, hDs⟩ := hJ
      obtain ⟨TT, aw, bw, kk, rfl, hTT, hm8a, hm8b⟩ := hx
      have hk : k < things.length := by rw [← htvl]; exact (List.getElem?_eq_some_iff.mp hkv).1
      obtain ⟨v', hv', hDv⟩ := R.S.dt.get (k := k) (by rw [List.length_map]; exact hk)
      obtain rfl : v' = .ref TT := Option.some.inj (hv'.symm.trans hkv)
      rw [List.getElem_map] at hDv
      have hki : things[k]? = some things[k] := List.getElem?_eq_getElem hk
      have htk : things[k] ∈ things := List.getElem_mem hk
      obtain ⟨tt, htt⟩ : ∃ tt, tt = things[k] := ⟨_, rfl⟩
      rw [← htt] at hDv hki htk
      clear htt
      obtain ⟨TT', ttv, ttn, e, httm, hDtt⟩ := DatIn.tup hDv
      injection e with e
      subst e
      have hobj : tupObj [aw, bw] kk = tupObj ttv ttn := Option.some.inj ((N' _ (.tail _ (.tail _ (.tail _ hTT)))).1.symm.trans (N' _ (.tail _ (.tail _ (.tail _ (hIK _ httm))))).1)
      obtain rfl : ttv = [aw, bw] := by
        have := congrArg Obj.data hobj
        injection this with h1 _
        have := congrArg Array.toList h1
        simpa using this.symm
      cases hDtt with
      | cons hDa hDb =>
      clear hDb hm8b
      obtain ⟨ap, pvs, pn, rfl, hpm, hDp⟩ := DatIn.tup hDa
      have hpl : pvs.length = tt.1.length := by rw [hDp.length, List.length_map]
      obtain ⟨hto, htl3, _⟩ := R.S.hth tt htk
      refine wpAny_tests_one ?_
      clear F6 N6
      (repeat' ( (fail_if_success (with_reducible first | show TurnEnd _ _ _ _ _ _ _ _ _ _ | show wpAny _ _ (eval (Expr.ListComp _ _ _ _) _) _ _ _ | show wpAny _ _ (eval (Expr.IfExp _ _ _ _) _) _ _ _ | show wpAny _ _ (exec (Stmt.If _ _ _ _) _) _ _ _ | show wpAny _ _ (exec (Stmt.For _ _ _ _ _) _) _ _ _ | show wpAny _ _ (exec (Stmt.Assign _ (Expr.ListComp _ _ _ _) _) _) _ _ _ | show wpAny _ _ (subscriptTail _ _ _ _) _ _ _ | show wpAny _ _ (PySem.call _ _ _) _ _ _ | show wpAny _ _ (compareOp _ (Value.ref _) _) _ _ _ | show wpAny _ _ (compareOp _ _ (Value.ref _)) _ _ _ | show wpAny _ _ (binaryOp _ (Value.ref _) _) _ _ _ | show wpAny _ _ (setItem _ _ _) _ _ _ | show wpAny _ _ (storeName _ "goal" _) _ _ _)); first | (k_unfold; (try dsimp only)) | walk1 | (dsimp only; walk1) | (leave1; (try dsimp only)) | fail "no step"))
      refine led_len hpl N' (n := pn) (.tail _ (.tail _ (.tail _ (hIK _ hpm)))) (by omega) ?_
      (repeat' ( (fail_if_success (with_reducible first | show TurnEnd _ _ _ _ _ _ _ _ _ _ | show wpAny _ _ (eval (Expr.ListComp _ _ _ _) _) _ _ _ | show wpAny _ _ (eval (Expr.IfExp _ _ _ _) _) _ _ _ | show wpAny _ _ (exec (Stmt.If _ _ _ _) _) _ _ _ | show wpAny _ _ (exec (Stmt.For _ _ _ _ _) _) _ _ _ | show wpAny _ _ (exec (Stmt.Assign _ (Expr.ListComp _ _ _ _) _) _) _ _ _ | show wpAny _ _ (subscriptTail _ _ _ _) _ _ _ | show wpAny _ _ (PySem.call _ _ _) _ _ _ | show wpAny _ _ (compareOp _ (Value.ref _) _) _ _ _ | show wpAny _ _ (compareOp _ _ (Value.ref _)) _ _ _ | show wpAny _ _ (binaryOp _ (Value.ref _) _) _ _ _ | show wpAny _ _ (setItem _ _ _) _ _ _ | show wpAny _ _ (storeName _ "goal" _) _ _ _)); first | (k_unfold; (try dsimp only)) | walk1 | (dsimp only; walk1) | (leave1; (try dsimp only)) | fail "no step"))
      refine tup_upto F' N' (t := ga) (vs := gvs) (n := gn) (.tail _ (.tail _ (.tail _ (hIK _ hgm)))) ?_ (by rw [hgvl, sizeLine_eq]; omega)
      intro D4 h4 tl4 j4 F4 N4 hfr4 hD4
      rw [take_cut] at hD4
      clear F' N'
      (repeat' ( (fail_if_success (with_reducible first | show TurnEnd _ _ _ _ _ _ _ _ _ _ | show wpAny _ _ (eval (Expr.ListComp _ _ _ _) _) _ _ _ | show wpAny _ _ (eval (Expr.IfExp _ _ _ _) _) _ _ _ | show wpAny _ _ (exec (Stmt.If _ _ _ _) _) _ _ _ | show wpAny _ _ (exec (Stmt.For _ _ _ _ _) _) _ _ _ | show wpAny _ _ (exec (Stmt.Assign _ (Expr.ListComp _ _ _ _) _) _) _ _ _ | show wpAny _ _ (subscriptTail _ _ _ _) _ _ _ | show wpAny _ _ (PySem.call _ _ _) _ _ _ | show wpAny _ _ (compareOp _ (Value.ref _) _) _ _ _ | show wpAny _ _ (compareOp _ _ (Value.ref _)) _ _ _ | show wpAny _ _ (binaryOp _ (Value.ref _) _) _ _ _ | show wpAny _ _ (setItem _ _ _) _ _ _ | show wpAny _ _ (storeName _ "goal" _) _ _ _)); first | (k_unfold; (try dsimp only)) | walk1 | (dsimp only; walk1) | (leave1; (try dsimp only)) | fail "no step"))
      have hK4 : ∀ e ∈ (I8, oI8) :: (C, oC) :: (D, lst ys8) :: nx, e ∈ tl4 ++ ((I8, oI8) :: (C, oC) :: (D, lst ys8) :: nx) := fun e he => List.mem_append_right _ he
      have hD4d : DatIn ((D4, tupObj (gvs.take tt.1.length) j4) :: I6) (.ref D4) (wayD (goal.take tt.1.length)) := by
        refine .tuple (.head _) ?_
        have e := (Mine.DatAll.take hDg tt.1.length).mono (news' := (D4, tupObj (gvs.take tt.1.length) j4) :: I6) fun e he => .tail _ he
        rw [← List.map_take] at e
        exact e
      refine way_eq (p := goal.take tt.1.length) (q := tt.1) (I' := I6) N4 hD4d hDa (fun e he => by
        rcases List.mem_cons.mp he with rfl | he
        · exact hD4
        · exact hK4 _ (.tail _ (.tail _ (.tail _ (hIK e he))))) (fun e he => hK4 _ (.tail _ (.tail _ (.tail _ (hIK e he))))) (hgo.take _) hto ?_ ?_
      · ktr_units
      have hbt : barredW (things.take (k + 1)) goal = barredW (things.take k) goal ++ if decide (goal.take tt.1.length = tt.1) = true then [tt.1] else [] := by
        unfold barredW
        rw [List.map_take, List.map_take]
        exact filter_take (by rw [List.getElem?_map, hki]; rfl)
      by_cases htq : goal.take tt.1.length = tt.1
      · simp only [htq, decide_true]
        (repeat' ( (fail_if_success (with_reducible first | show TurnEnd _ _ _ _ _ _ _ _ _ _ | show wpAny _ _ (eval (Expr.ListComp _ _ _ _) _) _ _ _ | show wpAny _ _ (eval (Expr.IfExp _ _ _ _) _) _ _ _ | show wpAny _ _ (exec (Stmt.If _ _ _ _) _) _ _ _ | show wpAny _ _ (exec (Stmt.For _ _ _ _ _) _) _ _ _ | show wpAny _ _ (exec (Stmt.Assign _ (Expr.ListComp _ _ _ _) _) _) _ _ _ | show wpAny _ _ (subscriptTail _ _ _ _) _ _ _ | show wpAny _ _ (PySem.call _ _ _) _ _ _ | show wpAny _ _ (compareOp _ (Value.ref _) _) _ _ _ | show wpAny _ _ (compareOp _ _ (Value.ref _)) _ _ _ | show wpAny _ _ (binaryOp _ (Value.ref _) _) _ _ _ | show wpAny _ _ (setItem _ _ _) _ _ _ | show wpAny _ _ (storeName _ "goal" _) _ _ _)); first | (k_unfold; (try dsimp only)) | walk1 | (dsimp only; walk1) | (leave1; (try dsimp only)) | fail "no step"))
        refine ElEnd.grow [] F4 N4 (by intro e he; exact hK4 e he) .nil off8 hkeep ⟨rfl, ?_⟩
        rw [hbt, if_pos (by simpa using htq), List.map_append]
        exact hDs.append (DatAll.one hDa)
      · simp only [htq, decide_false]
        (repeat' ( (fail_if_success (with_reducible first | show TurnEnd _ _ _ _ _ _ _ _ _ _ | show wpAny _ _ (eval (Expr.ListComp _ _ _ _) _) _ _ _ | show wpAny _ _ (eval (Expr.IfExp _ _ _ _) _) _ _ _ | show wpAny _ _ (exec (Stmt.If _ _ _ _) _) _ _ _ | show wpAny _ _ (exec (Stmt.For _ _ _ _ _) _) _ _ _ | show wpAny _ _ (exec (Stmt.Assign _ (Expr.ListComp _ _ _ _) _) _) _ _ _ | show wpAny _ _ (subscriptTail _ _ _ _) _ _ _ | show wpAny _ _ (PySem.call _ _ _) _ _ _ | show wpAny _ _ (compareOp _ (Value.ref _) _) _ _ _ | show wpAny _ _ (compareOp _ _ (Value.ref _)) _ _ _ | show wpAny _ _ (binaryOp _ (Value.ref _) _) _ _ _ | show wpAny _ _ (setItem _ _ _) _ _ _ | show wpAny _ _ (storeName _ "goal" _) _ _ _)); first | (k_unfold; (try dsimp only)) | walk1 | (dsimp only; walk1) | (leave1; (try dsimp only)) | fail "no step"))
        refine ElEnd.grow [] F4 N4 (by intro e he; exact hK4 e he) .nil off8 hkeep ⟨rfl, ?_⟩
        rw [hbt, if_neg (by simpa using htq), List.append_nil]
        exact hDs
    · clear F6 N6
      intro D ys8 nx h8 tk8 lo hJ hkeep F1 N1 off8
      obtain ⟨rfl, hDs⟩ := hJ
      rw [htvl, List.take_length] at hDs
      subst hK1
      replace R := R.grow (tl := [(D, lst ys8)]) (oI := oI) (fun e he p hp => by rw [List.mem_singleton.mp he]; exact lo p hp)
      replace N1 : News _ _ _ ((Ia, oI) :: ([(D, lst ys8)] ++ nx6)) := News.sub N1 (fun e he => by
        rcases List.mem_cons.mp he with rfl | he
        · exact .tail _ (.head _)
        rcases List.mem_cons.mp he with rfl | he
        · exact .head _
        · exact .tail _ (.tail _ he))
      clear lo off8 hkeep hnK hIK hcK1
      replace N1 := R.front N1
      have hbok : ∀ q ∈ barredW things goal, WOk q := fun q hq => by
        obtain ⟨t', ht', rfl⟩ := List.mem_map.mp (List.mem_filter.mp hq).1
        exact (R.S.hth t' ht').1
      have hbi := barred_iff (things := things) (goal := goal)
      obtain ⟨bs, hbs⟩ : ∃ bs, bs = barredW things goal := ⟨_, rfl⟩
      rw [← hbs] at hDs hbok hbi
      clear hbs
      obtain ⟨bb, hbb⟩ : ∃ bb : Bool, bb = decide (bs = []) := ⟨_, rfl⟩
      dsimp only
      with_reducible show wpAny _ _ _ _ _ _
      k_fold
      (repeat' ( (fail_if_success (with_reducible first | show TurnEnd _ _ _ _ _ _ _ _ _ _ | show wpAny _ _ (eval (Expr.ListComp _ _ _ _) _) _ _ _ | show wpAny _ _ (eval (Expr.IfExp _ _ _ _) _) _ _ _ | show wpAny _ _ (exec (Stmt.If _ _ _ _) _) _ _ _ | show wpAny _ _ (exec (Stmt.For _ _ _ _ _) _) _ _ _ | show wpAny _ _ (exec (Stmt.Assign _ (Expr.ListComp _ _ _ _) _) _) _ _ _ | show wpAny _ _ (subscriptTail _ _ _ _) _ _ _ | show wpAny _ _ (PySem.call _ _ _) _ _ _ | show wpAny _ _ (compareOp _ (Value.ref _) _) _ _ _ | show wpAny _ _ (compareOp _ _ (Value.ref _)) _ _ _ | show wpAny _ _ (binaryOp _ (Value.ref _) _) _ _ _ | show wpAny _ _ (setItem _ _ _) _ _ _ | show wpAny _ _ (storeName _ "goal" _) _ _ _)); first | (k_unfold; (try dsimp only)) | walk1 | (dsimp only; walk1) | (leave1; (try dsimp only)) | fail "no step"))
      rename News _ _ _ _ => N9
      refine dat_ne (c := bb) 3 3 (I := (D, lst ys8) :: I6) (I' := [_]) (d := .list (bs.map wayD)) (e := .list []) N9 (.list (.head _) (hDs.mono fun e he => .tail _ he)) (.list (vs := []) (.head _) .nil) (fun e he => ?_) (fun e he => by rw [List.mem_singleton.mp he]; exact List.Mem.head _) ?_ rfl (Nat.le_of_ble_eq_true rfl) (Nat.le_of_ble_eq_true rfl) ?_ ?_ ?_
      · have := R.S.sub e he
        exact .tail _ (.tail _ (.tail _ (.tail _ (.tail _ (.tail _ (.tail _ (.tail _ this)))))))
      · simp only [kqdOk, List.all_eq_true]
        intro d hd
        obtain ⟨q, hq, rfl⟩ := List.mem_map.mp hd
        exact wayD_ok (hbok q hq) 1
      · ktr_units
      · rw [hbb, decide_eq_true_eq]; simp
      replace N9 := News.sub N9 (fun e he => .tail _ he)
      (repeat' ( (fail_if_success (with_reducible first | show TurnEnd _ _ _ _ _ _ _ _ _ _ | show wpAny _ _ (eval (Expr.ListComp _ _ _ _) _) _ _ _ | show wpAny _ _ (eval (Expr.IfExp _ _ _ _) _) _ _ _ | show wpAny _ _ (exec (Stmt.If _ _ _ _) _) _ _ _ | show wpAny _ _ (exec (Stmt.For _ _ _ _ _) _) _ _ _ | show wpAny _ _ (exec (Stmt.Assign _ (Expr.ListComp _ _ _ _) _) _) _ _ _ | show wpAny _ _ (subscriptTail _ _ _ _) _ _ _ | show wpAny _ _ (PySem.call _ _ _) _ _ _ | show wpAny _ _ (compareOp _ (Value.ref _) _) _ _ _ | show wpAny _ _ (compareOp _ _ (Value.ref _)) _ _ _ | show wpAny _ _ (binaryOp _ (Value.ref _) _) _ _ _ | show wpAny _ _ (setItem _ _ _) _ _ _ | show wpAny _ _ (storeName _ "goal" _) _ _ _)); first | (k_unfold; (try dsimp only)) | walk1 | (dsimp only; walk1) | (leave1; (try dsimp only)) | fail "no step"))
      rename Fr _ _ _ _ => F2
      clear hDs hbok
      obtain ⟨m3, hm3, F3⟩ : ∃ m2 : Str → Option Value, Has m2 [(Str.ofString "barred", .bool (!bb)), (Str.ofString "way", .ref wt), (Str.ofString "kind", .int (kd : Nat) _), (Str.ofString "rows", .ref lr), (Str.ofString "things", .ref lth), (Str.ofString "nested", .ref xn), (Str.ofString "numbers", .ref ln)] ∧ Fr _ _ _ m2 := ⟨_, ⟨rfl, rfl, rfl, rfl, rfl, rfl, rfl, trivial⟩, F2⟩
      clear F2
      replace F3 := hm3.fr F3
      clear hm3
      refine wpAny_Try_except ?_
      (repeat' ( (fail_if_success (with_reducible first | show TurnEnd _ _ _ _ _ _ _ _ _ _ | show wpAny _ _ (eval (Expr.ListComp _ _ _ _) _) _ _ _ | show wpAny _ _ (eval (Expr.IfExp _ _ _ _) _) _ _ _ | show wpAny _ _ (exec (Stmt.If _ _ _ _) _) _ _ _ | show wpAny _ _ (exec (Stmt.For _ _ _ _ _) _) _ _ _ | show wpAny _ _ (exec (Stmt.Assign _ (Expr.ListComp _ _ _ _) _) _) _ _ _ | show wpAny _ _ (subscriptTail _ _ _ _) _ _ _ | show wpAny _ _ (PySem.call _ _ _) _ _ _ | show wpAny _ _ (compareOp _ (Value.ref _) _) _ _ _ | show wpAny _ _ (compareOp _ _ (Value.ref _)) _ _ _ | show wpAny _ _ (binaryOp _ (Value.ref _) _) _ _ _ | show wpAny _ _ (setItem _ _ _) _ _ _ | show wpAny _ _ (storeName _ "goal" _) _ _ _)); first | (k_unfold; (try dsimp only)) | walk1 | (dsimp only; walk1) | (leave1; (try dsimp only)) | fail "no step"))
      rename News _ _ _ _ => N7
      obtain ⟨nx7, hnx7⟩ : ∃ nx7 : Led, nx7 = [(D, lst ys8)] ++ nx6 := ⟨_, rfl⟩
      obtain ⟨I7, hI7⟩ : ∃ I7 : Led, I7 = [(D, lst ys8)] ++ I6 := ⟨_, rfl⟩
      rw [← hnx7, ← hI7] at R
      rw [← hnx7] at N7
      have h67 : ∀ e ∈ I6, e ∈ I7 := fun e he => by rw [hI7]; exact .tail _ he
      replace hgm := h67 _ hgm
      replace hDg := hDg.mono h67
      replace hDw6 := hDw6.mono h67
      clear hnx7 hI7 h67 hI6 hDw hD5
      have hPl := R.S.pLen
      have hthT : ∀ p d, thingAt things p = some d → IsThing d := fun p d hd => by
        unfold thingAt at hd
        obtain ⟨t', ht', rfl⟩ := Option.map_eq_some_iff.mp hd
        exact (R.S.hth t' (List.mem_of_find?_eq_some ht')).2.2
      replace N7 : News _ _ _ ((xn, instObj 53 dn) :: (dn, ownD _ d0 t0 c0) :: (Ia, oI) :: nx7) := News.sub N7 (fun e he => by
        rcases List.mem_cons.mp he with rfl | he
        · exact .tail _ (.tail _ (.tail _ (.tail _ (.tail _ (.head _)))))
        rcases List.mem_cons.mp he with rfl | he
        · exact .tail _ (.tail _ (.tail _ (.tail _ (.tail _ (.tail _ (.head _))))))
        rcases List.mem_cons.mp he with rfl | he
        · exact .head _
        · exact .tail _ (.tail _ (.tail _ (.tail _ (.tail _ (.tail _ (.tail _ he)))))))
      k_dflt (refine' DoesC.use (nest_does _ nx7 I7 ((Ia, oI) :: nx7) P (thingAt things) val R.S.tr (by omega) hthT xn dn d0 ga t0 c0 gn goal gvs _ (fun e he => .tail _ he) (fun e he => .tail _ (R.S.sub e he)) hgm hDg hgl R.v0) ?k1 ?k2 ?k3 ?k4 ?k5 ?kK ?kd ?ku ?_ ?_; (((case k1 => k_asm); (case k2 => k_asm); (case k3 => k_asm); (case k4 => k_asm); (case k5 => k_asm); (case kK => first | exact rfl | assumption); (case kd => ktr_room); (case ku => ktr_units))))
      rotate_left
      ·
        clear N7 F3
        intro e te wse G h9 news9 tk9 F9 RS9 up9 hpost
        obtain ⟨hbar, rfl, tm, rfl⟩ := hpost
        dsimp only
        refine caughtX (T' := "KeyError") (by assumption) F9 up9 RS9 (by assumption) (topRead_of (by assumption)) (by k_is) PyProof.Rows.Boot.«KeyError» (by decide) kr_isExc_KeyError kr_notTuple_KeyError (by rw [isSubtype_type]; kernel_rfl) ?_
        clear F9 RS9 up9
        intro h10 news10 tk10 F10 N10 G10
        have hb0 : (!bb) = true := by
          rw [hbb]
          simpa using hbi.mpr hbar
        rw [hb0] at F10
        (repeat' ( (fail_if_success (with_reducible first | show TurnEnd _ _ _ _ _ _ _ _ _ _ | show wpAny _ _ (eval (Expr.ListComp _ _ _ _) _) _ _ _ | show wpAny _ _ (eval (Expr.IfExp _ _ _ _) _) _ _ _ | show wpAny _ _ (exec (Stmt.If _ _ _ _) _) _ _ _ | show wpAny _ _ (exec (Stmt.For _ _ _ _ _) _) _ _ _ | show wpAny _ _ (exec (Stmt.Assign _ (Expr.ListComp _ _ _ _) _) _) _ _ _ | show wpAny _ _ (subscriptTail _ _ _ _) _ _ _ | show wpAny _ _ (PySem.call _ _ _) _ _ _ | show wpAny _ _ (compareOp _ (Value.ref _) _) _ _ _ | show wpAny _ _ (compareOp _ _ (Value.ref _)) _ _ _ | show wpAny _ _ (binaryOp _ (Value.ref _) _) _ _ _ | show wpAny _ _ (setItem _ _ _) _ _ _ | show wpAny _ _ (storeName _ "goal" _) _ _ _)); first | (k_unfold; (try dsimp only)) | walk1 | (dsimp only; walk1) | (leave1; (try dsimp only)) | fail "no step"))
        walk1
        (repeat' ( (fail_if_success (with_reducible first | show SegEnd _ _ _ _ _ _ _ _ | show TurnEnd _ _ _ _ _ _ _ _ _ _ | show wpAny _ _ (eval (Expr.ListComp _ _ _ _) _) _ _ _ | show wpAny _ _ (exec (Stmt.For _ _ _ _ _) _) _ _ _ | show wpAny _ _ (exec (Stmt.Assign _ (Expr.ListComp _ _ _ _) _) _) _ _ _ | show wpAny _ _ (subscriptTail _ _ _ _) _ _ _ | show wpAny _ _ (PySem.call _ _ _) _ _ _ | show wpAny _ _ (compareOp _ (Value.ref _) _) _ _ _ | show wpAny _ _ (compareOp _ _ (Value.ref _)) _ _ _ | show wpAny _ _ (binaryOp _ (Value.ref _) _) _ _ _ | show wpAny _ _ (setItem _ _ _) _ _ _ | show wpAny _ _ (storeName _ "goal" _) _ _ _)); first | (k_unfold; (try dsimp only)) | walk1 | (dsimp only; walk1) | (leave1; (try dsimp only)) | fail "no step"))
        refine keyStr_got (News.sub N10 fun e he => List.mem_append_left _ he) G10 ?_ ?_ ?_
        · ktr_units
        · rw [keyText]
          (repeat' ( (fail_if_success (with_reducible first | show SegEnd _ _ _ _ _ _ _ _ | show TurnEnd _ _ _ _ _ _ _ _ _ _ | show wpAny _ _ (eval (Expr.ListComp _ _ _ _) _) _ _ _ | show wpAny _ _ (exec (Stmt.For _ _ _ _ _) _) _ _ _ | show wpAny _ _ (exec (Stmt.Assign _ (Expr.ListComp _ _ _ _) _) _) _ _ _ | show wpAny _ _ (subscriptTail _ _ _ _) _ _ _ | show wpAny _ _ (PySem.call _ _ _) _ _ _ | show wpAny _ _ (compareOp _ (Value.ref _) _) _ _ _ | show wpAny _ _ (compareOp _ _ (Value.ref _)) _ _ _ | show wpAny _ _ (binaryOp _ (Value.ref _) _) _ _ _ | show wpAny _ _ (setItem _ _ _) _ _ _ | show wpAny _ _ (storeName _ "goal" _) _ _ _)); first | (k_unfold; (try dsimp only)) | walk1 | (dsimp only; walk1) | (leave1; (try dsimp only)) | fail "no step"))
          dsimp only
          rename Fr _ _ _ _ => F11
          rename News _ _ _ _ => N11
          refine nameGoesX F11 N11 fun h12 v12 F12 N12 => ?_
          refine TurnEnd.cont _ nx7 F12 (News.sub N12 ?_) R.off (by intro e he; rw [List.mem_singleton.mp he]; exact R.S.sub _ R.l) (R.toJ ⟨rfl, rfl, rfl, rfl, trivial⟩ (by omega) (by omega) (by omega) fun _ => ?_)
          · intro e he
            rcases List.mem_cons.mp he with rfl | he
            · exact List.mem_append_right _ (.tail _ (.tail _ (.head _)))
            · exact List.mem_append_right _ (.tail _ (.tail _ (.tail _ he)))
          · rcases Nat.eq_zero_or_pos i with h0 | h0
            · exfalso
              obtain ⟨k, _, hk⟩ := hbar
              rw [hi0 h0] at hk
              exact hk rfl
            · exact hiP h0
        · rw [keyText]
          rw [sizeLine_eq]
          decide +kernel
      · intro r h9 news9 tk9 F9 N9 hpost
        obtain ⟨T', val', na, rfl, NS⟩ := hpost
        have hb0 : (!bb) = false := by
          have : ¬ bs ≠ [] := fun q => by
            obtain ⟨k, hk, hk2⟩ := hbi.mp q
            exact hk2 (NS.free k hk)
          rw [hbb]
          simpa using this
        rw [hb0] at F9
        have hcur := NS.cur
        have hisN := NS.at_
        rw [List.take_length] at hcur hisN
        obtain ⟨R, N10⟩ := R.nest N7 N9 NS
        clear N7 N9 NS F3 hbi hbb hb0
        obtain ⟨nx8, hnx8⟩ : ∃ nx8 : Led, nx8 = news9.filter fun e => decide (e.1 ≠ Ia) := ⟨_, rfl⟩
        rw [← hnx8] at R N10
        clear hnx8
        replace N10 := R.front N10
        (repeat' ( (fail_if_success (with_reducible first | show TurnEnd _ _ _ _ _ _ _ _ _ _ | show wpAny _ _ (eval (Expr.ListComp _ _ _ _) _) _ _ _ | show wpAny _ _ (eval (Expr.IfExp _ _ _ _) _) _ _ _ | show wpAny _ _ (exec (Stmt.If _ _ _ _) _) _ _ _ | show wpAny _ _ (exec (Stmt.For _ _ _ _ _) _) _ _ _ | show wpAny _ _ (exec (Stmt.Assign _ (Expr.ListComp _ _ _ _) _) _) _ _ _ | show wpAny _ _ (subscriptTail _ _ _ _) _ _ _ | show wpAny _ _ (PySem.call _ _ _) _ _ _ | show wpAny _ _ (compareOp _ (Value.ref _) _) _ _ _ | show wpAny _ _ (compareOp _ _ (Value.ref _)) _ _ _ | show wpAny _ _ (binaryOp _ (Value.ref _) _) _ _ _ | show wpAny _ _ (setItem _ _ _) _ _ _ | show wpAny _ _ (storeName _ "goal" _) _ _ _)); first | (k_unfold; (try dsimp only)) | walk1 | (dsimp only; walk1) | (leave1; (try dsimp only)) | fail "no step"))
        rename Fr _ _ _ _ => F10
        obtain ⟨m4, hm4, F10⟩ : ∃ m2 : Str → Option Value, Has m2 [(Str.ofString "nest", .ref na), (Str.ofString "barred", .bool false), (Str.ofString "way", .ref wt), (Str.ofString "kind", .int (kd : Nat) _), (Str.ofString "rows", .ref lr), (Str.ofString "things", .ref lth), (Str.ofString "nested", .ref xn), (Str.ofString "numbers", .ref ln)] ∧ Fr _ _ _ m2 := ⟨_, ⟨rfl, rfl, rfl, rfl, rfl, rfl, rfl, rfl, trivial⟩, F10⟩
        replace F10 := hm4.fr F10
        clear hm4
        walk1
        (repeat' ( (fail_if_success (with_reducible first | show SegEnd _ _ _ _ _ _ _ _ | show SegX _ _ _ _ _ _ | show wpAny _ _ (eval (Expr.Lambda _ _ _ _) _) _ _ _ | show TurnEnd _ _ _ _ _ _ _ _ _ _ | show wpAny _ _ (eval (Expr.ListComp _ _ _ _) _) _ _ _ | show wpAny _ _ (exec (Stmt.For _ _ _ _ _) _) _ _ _ | show wpAny _ _ (exec (Stmt.Assign _ (Expr.ListComp _ _ _ _) _) _) _ _ _ | show wpAny _ _ (subscriptTail _ _ _ _) _ _ _ | show wpAny _ _ (PySem.call _ _ _) _ _ _ | show wpAny _ _ (compareOp _ (Value.ref _) _) _ _ _ | show wpAny _ _ (compareOp _ _ (Value.ref _)) _ _ _ | show wpAny _ _ (binaryOp _ (Value.ref _) _) _ _ _ | show wpAny _ _ (setItem _ _ _) _ _ _ | show wpAny _ _ (storeName _ "goal" _) _ _ _)); first | (k_unfold; (try dsimp only)) | walk1 | (dsimp only; walk1) | (leave1; (try dsimp only)) | fail "no step"))
        refine kla_eval (by rfl) ?_
        rename News _ _ _ _ => N11
        rename Fr _ _ _ _ => F11
        refine lam_made F11 N11 (by assumption) (by assumption) rfl (R.T.mono (fun e he _ => .tail _ (.tail _ (.tail _ (.tail _ (.tail _ (.tail _ (.tail _ he))))))) fun _ h => h) (fun e he => ?_) rfl rfl rfl ?_
        · have := R.S.sub e he
          exact .tail _ (.tail _ (.tail _ (.tail _ (.tail _ (.tail _ (.tail _ this))))))
        intro f c' oc cvs ct ctv h12 tk12 nx12 F12 N12 hf12 hc12 hoc hcv htab hk12 hfr12
        obtain ⟨R, N13⟩ := R.lam (News.sub N11 fun e he => front_mem he) N12 hc12 hoc hcv htab (fun e he => hk12 e (front_mem he)) (hfr12.imp_right fun h e he => h e (front_mem he))
        have hIa : (Ia, oI) ∈ nx12 := hk12 _ (.head _) (by
          obtain ⟨o, ho⟩ := R.offs 107 (by simp)
          exact fun q => R.off _ ho q.symm)
        obtain ⟨nx9, hnx9⟩ : ∃ nx9 : Led, nx9 = nx12.filter fun e => decide (e.1 ≠ Ia) := ⟨_, rfl⟩
        rw [← hnx9] at R N13
        have hC9 := R.S.sub _ (.head _)
        obtain ⟨I9, hI9⟩ : ∃ I9 : Led, I9 = (c', oc) :: I7 := ⟨_, rfl⟩
        have h79 : ∀ e ∈ I7, e ∈ I9 := fun e he => by rw [hI9]; exact .tail _ he
        rw [← hI9] at R
        replace hgm := h79 _ hgm
        replace hDg := hDg.mono h79
        replace hDw6 := hDw6.mono h79
        replace N13 := R.front N13
        obtain ⟨olam, hf12, hlam, hlf⟩ := lam_hide (by assumption) hf12 hoc hcv
        replace N13 : News _ _ _ ((f, olam) :: _) := fun q hq => (List.mem_cons.mp hq).elim (fun e => by rw [e]; exact N12 _ hf12) (N13 q)
        clear N11 N12 F11 hk12 hfr12 hc12 htab hnx9 hI9 hIa h79 hf12
        dsimp only
        (repeat' ( (fail_if_success (with_reducible first | show SegEnd _ _ _ _ _ _ _ _ | show TurnEnd _ _ _ _ _ _ _ _ _ _ | show wpAny _ _ (eval (Expr.ListComp _ _ _ _) _) _ _ _ | show wpAny _ _ (exec (Stmt.For _ _ _ _ _) _) _ _ _ | show wpAny _ _ (exec (Stmt.Assign _ (Expr.ListComp _ _ _ _) _) _) _ _ _ | show wpAny _ _ (subscriptTail _ _ _ _) _ _ _ | show wpAny _ _ (PySem.call _ _ _) _ _ _ | show wpAny _ _ (compareOp _ (Value.ref _) _) _ _ _ | show wpAny _ _ (compareOp _ _ (Value.ref _)) _ _ _ | show wpAny _ _ (binaryOp _ (Value.ref _) _) _ _ _ | show wpAny _ _ (setItem _ _ _) _ _ _ | show wpAny _ _ (storeName _ "goal" _) _ _ _)); first | (k_unfold; (try dsimp only)) | walk1 | (dsimp only; walk1) | (leave1; (try dsimp only)) | fail "no step"))
        k_dflt (refine' Does.use (red_does _ nx9 I9 _ (growN P goal goal.length) (thingAt things) val' R.S.tr f olam [(f, olam), (c', oc)] hlam hlf (.head _) (fun e he => by
          rcases List.mem_cons.mp he with rfl | he
          · exact .head _
          · rw [List.mem_singleton.mp he]
            exact .tail _ (.tail _ (.tail _ (.tail _ (.tail _ (.tail _ (.tail _ (.tail _ hC9)))))))) ga d0 gvs gn goal (.tail _ (.tail _ (.tail _ (.tail _ (.tail _ (.tail _ (.tail _ (.tail _ (R.S.sub _ hgm))))))))) hDg (fun e he => .tail _ (.tail _ (.tail _ (.tail _ (.tail _ (.tail _ (.tail _ (.tail _ he)))))))) R.v0 hisN hgl) ?k1 ?k2 ?k3 ?k4 ?k5 ?kK ?kd ?ku ?_; (((case k1 => k_asm); (case k2 => k_asm); (case k3 => k_asm); (case k4 => k_asm); (case k5 => k_asm); (case kK => first | exact rfl | assumption); (case kd => ktr_room); (case ku => ktr_units))))
        clear N13 F12
        intro r h14 news14 tk14 F14 N14 hpost
        obtain ⟨rfl, rfl⟩ := hpost
        rw [hcur]
        clear hlam hlf hC9
        replace N14 := News.sub N14 fun e he => .tail _ he
        with_reducible refine wpAny_isNot_ref_self ?_
        (repeat' ( (fail_if_success (with_reducible first | show TurnEnd _ _ _ _ _ _ _ _ _ _ | show wpAny _ _ (eval (Expr.ListComp _ _ _ _) _) _ _ _ | show wpAny _ _ (eval (Expr.IfExp _ _ _ _) _) _ _ _ | show wpAny _ _ (exec (Stmt.If _ _ _ _) _) _ _ _ | show wpAny _ _ (exec (Stmt.For _ _ _ _ _) _) _ _ _ | show wpAny _ _ (exec (Stmt.Assign _ (Expr.ListComp _ _ _ _) _) _) _ _ _ | show wpAny _ _ (subscriptTail _ _ _ _) _ _ _ | show wpAny _ _ (PySem.call _ _ _) _ _ _ | show wpAny _ _ (compareOp _ (Value.ref _) _) _ _ _ | show wpAny _ _ (compareOp _ _ (Value.ref _)) _ _ _ | show wpAny _ _ (binaryOp _ (Value.ref _) _) _ _ _ | show wpAny _ _ (setItem _ _ _) _ _ _ | show wpAny _ _ (storeName _ "goal" _) _ _ _)); first | (k_unfold; (try dsimp only)) | walk1 | (dsimp only; walk1) | (leave1; (try dsimp only)) | fail "no step"))
        rename Fr _ _ _ _ => F15
        have hg0 : goal ≠ [] ∨ P ≠ [] := by
          rcases Nat.eq_zero_or_pos i with h0 | h0
          · have := hw7 h0
            rw [hgoal, if_neg this.2]
            exact .inl this.1
          · exact .inr (hiP h0)
        have hP1 := growN_ne hg0.symm
        refine seg_If R F15 oI i ?_ ?_
        ·
          walk1
          (repeat' ( (fail_if_success (with_reducible first | show SegEnd _ _ _ _ _ _ _ _ | show SegX _ _ _ _ _ _ | show wpAny _ _ (eval (Expr.Lambda _ _ _ _) _) _ _ _ | show TurnEnd _ _ _ _ _ _ _ _ _ _ | show wpAny _ _ (eval (Expr.ListComp _ _ _ _) _) _ _ _ | show wpAny _ _ (exec (Stmt.For _ _ _ _ _) _) _ _ _ | show wpAny _ _ (exec (Stmt.Assign _ (Expr.ListComp _ _ _ _) _) _) _ _ _ | show wpAny _ _ (subscriptTail _ _ _ _) _ _ _ | show wpAny _ _ (PySem.call _ _ _) _ _ _ | show wpAny _ _ (compareOp _ (Value.ref _) _) _ _ _ | show wpAny _ _ (compareOp _ _ (Value.ref _)) _ _ _ | show wpAny _ _ (binaryOp _ (Value.ref _) _) _ _ _ | show wpAny _ _ (setItem _ _ _) _ _ _ | show wpAny _ _ (storeName _ "goal" _) _ _ _)); first | (k_unfold; (try dsimp only)) | walk1 | (dsimp only; walk1) | (leave1; (try dsimp only)) | fail "no step"))
          · rename _ = _ => hk2
            have hk2 : kd = 2 := by omega
            rename Fr _ _ _ _ => F16
            rename News _ _ _ _ => N16
            refine way_ne (p := way) (q := []) (I := I9) (I' := [_]) N16 hDw6 (.tuple (vs := []) (List.Mem.head _) .nil) (fun e he => .tail _ (.tail _ (.tail _ (.tail _ (.tail _ (.tail _ (.tail _ (.tail _ (R.S.sub e he))))))))) (fun e he => by rw [List.mem_singleton.mp he]; exact List.Mem.head _) hwo (fun x hx => nomatch hx) ?_ ?_
            · ktr_units
            replace N16 := News.sub N16 fun e he => .tail _ he
            by_cases hw0 : way = []
            · simp only [hw0, decide_true, Bool.not_true]
              (repeat' ( (fail_if_success (with_reducible first | show SegEnd _ _ _ _ _ _ _ _ | show SegX _ _ _ _ _ _ | show wpAny _ _ (eval (Expr.Lambda _ _ _ _) _) _ _ _ | show TurnEnd _ _ _ _ _ _ _ _ _ _ | show wpAny _ _ (eval (Expr.ListComp _ _ _ _) _) _ _ _ | show wpAny _ _ (exec (Stmt.For _ _ _ _ _) _) _ _ _ | show wpAny _ _ (exec (Stmt.Assign _ (Expr.ListComp _ _ _ _) _) _) _ _ _ | show wpAny _ _ (subscriptTail _ _ _ _) _ _ _ | show wpAny _ _ (PySem.call _ _ _) _ _ _ | show wpAny _ _ (compareOp _ (Value.ref _) _) _ _ _ | show wpAny _ _ (compareOp _ _ (Value.ref _)) _ _ _ | show wpAny _ _ (binaryOp _ (Value.ref _) _) _ _ _ | show wpAny _ _ (setItem _ _ _) _ _ _ | show wpAny _ _ (storeName _ "goal" _) _ _ _)); first | (k_unfold; (try dsimp only)) | walk1 | (dsimp only; walk1) | (leave1; (try dsimp only)) | fail "no step"))
              rename Fr _ _ _ _ => F17
              rename News _ _ _ _ => N17
              refine SegX.mk _ ((Ia, oI) :: nx9) F17 (News.sub N17 fun e he => front_mem he) ⟨rfl, ⟨rfl, rfl, rfl, rfl, trivial⟩, nx9, I9, _, things, val', tvs, tn, o6, goal, ga, gvs, gn, rfl, R, hgm, hDg, hgo, hgl, by omega, hP1⟩
            · simp only [hw0, decide_false, Bool.not_false]
              (repeat' ( (fail_if_success (with_reducible first | show SegEnd _ _ _ _ _ _ _ _ | show SegX _ _ _ _ _ _ | show wpAny _ _ (eval (Expr.Lambda _ _ _ _) _) _ _ _ | show TurnEnd _ _ _ _ _ _ _ _ _ _ | show wpAny _ _ (eval (Expr.ListComp _ _ _ _) _) _ _ _ | show wpAny _ _ (exec (Stmt.For _ _ _ _ _) _) _ _ _ | show wpAny _ _ (exec (Stmt.Assign _ (Expr.ListComp _ _ _ _) _) _) _ _ _ | show wpAny _ _ (subscriptTail _ _ _ _) _ _ _ | show wpAny _ _ (PySem.call _ _ _) _ _ _ | show wpAny _ _ (compareOp _ (Value.ref _) _) _ _ _ | show wpAny _ _ (compareOp _ _ (Value.ref _)) _ _ _ | show wpAny _ _ (binaryOp _ (Value.ref _) _) _ _ _ | show wpAny _ _ (setItem _ _ _) _ _ _ | show wpAny _ _ (storeName _ "goal" _) _ _ _)); first | (k_unfold; (try dsimp only)) | walk1 | (dsimp only; walk1) | (leave1; (try dsimp only)) | fail "no step"))
              rename Fr _ _ _ _ => F17
              rename News _ _ _ _ => N17
              rw [if_pos hk2] at hgoal
              obtain ⟨wt2, wv2, wn2, ewt, hwm2, hDw2⟩ := DatIn.tup hDw6
              injection ewt with ewt
              subst ewt
              obtain ⟨y, hy⟩ : ∃ y, way = goal ++ [y] := ⟨way.getLast hw0, by rw [hgoal]; exact (List.dropLast_concat_getLast hw0).symm⟩
              clear hgoal
              subst hy
              obtain ⟨wws, wlv, rfl, hwws, hwlv⟩ := DatAll.snoc_inv (ds := goal.map .str) (d := .str y) (by rw [List.map_append] at hDw2; exact hDw2)
              obtain ⟨ty, rfl⟩ := DatIn.strV hwlv
              refine tup_last N17 (vs := wws) (x := .str y ty) (n := wn2) (.tail _ (.tail _ (.tail _ (.tail _ (.tail _ (.tail _ (.tail _ (R.S.sub _ hwm2)))))))) ?_
              (repeat' ( (fail_if_success (with_reducible first | show SegEnd _ _ _ _ _ _ _ _ | show SegX _ _ _ _ _ _ | show wpAny _ _ (eval (Expr.Lambda _ _ _ _) _) _ _ _ | show TurnEnd _ _ _ _ _ _ _ _ _ _ | show wpAny _ _ (eval (Expr.ListComp _ _ _ _) _) _ _ _ | show wpAny _ _ (exec (Stmt.For _ _ _ _ _) _) _ _ _ | show wpAny _ _ (exec (Stmt.Assign _ (Expr.ListComp _ _ _ _) _) _) _ _ _ | show wpAny _ _ (subscriptTail _ _ _ _) _ _ _ | show wpAny _ _ (PySem.call _ _ _) _ _ _ | show wpAny _ _ (compareOp _ (Value.ref _) _) _ _ _ | show wpAny _ _ (compareOp _ _ (Value.ref _)) _ _ _ | show wpAny _ _ (binaryOp _ (Value.ref _) _) _ _ _ | show wpAny _ _ (setItem _ _ _) _ _ _ | show wpAny _ _ (storeName _ "goal" _) _ _ _)); first | (k_unfold; (try dsimp only)) | walk1 | (dsimp only; walk1) | (leave1; (try dsimp only)) | fail "no step"))
              obtain ⟨na', ona, hna', hnas, hnam, hnad⟩ := R.S.tr.nest goal hisN.1 hisN.2
              obtain rfl : na' = na := by rw [hcur] at hna'; injection hna' with q; exact q.symm
              rename Fr _ _ _ _ => F18
              rename News _ _ _ _ => N18
              have hvk := valueAt_kids (growN P goal goal.length) val' goal y
              refine dict_notIn N18 (.tail _ (.tail _ (.tail _ (.tail _ (.tail _ (.tail _ (.tail _ hnam))))))) hnad hnas ?_
              by_cases hin : goal ++ [y] ∈ growN P goal goal.length
              · rw [if_pos hin] at hvk
                rw [hvk]
                simp only [Option.isSome_some, Bool.not_true]
                (repeat' ( (fail_if_success (with_reducible first | show SegEnd _ _ _ _ _ _ _ _ | show SegX _ _ _ _ _ _ | show wpAny _ _ (eval (Expr.Lambda _ _ _ _) _) _ _ _ | show TurnEnd _ _ _ _ _ _ _ _ _ _ | show wpAny _ _ (eval (Expr.ListComp _ _ _ _) _) _ _ _ | show wpAny _ _ (exec (Stmt.For _ _ _ _ _) _) _ _ _ | show wpAny _ _ (exec (Stmt.Assign _ (Expr.ListComp _ _ _ _) _) _) _ _ _ | show wpAny _ _ (subscriptTail _ _ _ _) _ _ _ | show wpAny _ _ (PySem.call _ _ _) _ _ _ | show wpAny _ _ (compareOp _ (Value.ref _) _) _ _ _ | show wpAny _ _ (compareOp _ _ (Value.ref _)) _ _ _ | show wpAny _ _ (binaryOp _ (Value.ref _) _) _ _ _ | show wpAny _ _ (setItem _ _ _) _ _ _ | show wpAny _ _ (storeName _ "goal" _) _ _ _)); first | (k_unfold; (try dsimp only)) | walk1 | (dsimp only; walk1) | (leave1; (try dsimp only)) | fail "no step"))
                rename Fr _ _ _ _ => F19
                rename News _ _ _ _ => N19
                refine SegX.mk _ ((Ia, oI) :: nx9) F19 (News.sub N19 fun e he => front_mem he) ⟨rfl, ⟨rfl, rfl, rfl, rfl, trivial⟩, nx9, I9, _, things, val', tvs, tn, o6, goal, ga, gvs, gn, rfl, R, hgm, hDg, hgo, hgl, by omega, hP1⟩
              · rw [if_neg hin] at hvk
                rw [hvk]
                simp only [Option.isSome_none, Bool.not_false]
                (repeat' ( (fail_if_success (with_reducible first | show SegEnd _ _ _ _ _ _ _ _ | show SegX _ _ _ _ _ _ | show wpAny _ _ (eval (Expr.Lambda _ _ _ _) _) _ _ _ | show TurnEnd _ _ _ _ _ _ _ _ _ _ | show wpAny _ _ (eval (Expr.ListComp _ _ _ _) _) _ _ _ | show wpAny _ _ (exec (Stmt.For _ _ _ _ _) _) _ _ _ | show wpAny _ _ (exec (Stmt.Assign _ (Expr.ListComp _ _ _ _) _) _) _ _ _ | show wpAny _ _ (subscriptTail _ _ _ _) _ _ _ | show wpAny _ _ (PySem.call _ _ _) _ _ _ | show wpAny _ _ (compareOp _ (Value.ref _) _) _ _ _ | show wpAny _ _ (compareOp _ _ (Value.ref _)) _ _ _ | show wpAny _ _ (binaryOp _ (Value.ref _) _) _ _ _ | show wpAny _ _ (setItem _ _ _) _ _ _ | show wpAny _ _ (storeName _ "goal" _) _ _ _)); first | (k_unfold; (try dsimp only)) | walk1 | (dsimp only; walk1) | (leave1; (try dsimp only)) | fail "no step"))
                rename News _ _ _ _ => N19
                rename (∀ p : Addr × Obj, p ∈ _ → p.1 < _) => lo4
                revert lo4
                rename (∀ p : Addr × Obj, p ∈ _ → p.1 < _) => lo3
                revert lo3
                rename (∀ p : Addr × Obj, p ∈ _ → p.1 < _) => lo2
                intro lo3 lo4
                refine lst_len (by rw [R.S.dt.length, List.length_map]) N19 (.tail _ (.tail _ (.tail _ (.tail _ (.tail _ (.tail _ (.head _))))))) (Nat.le_trans htl (by omega)) fun u19 tk19 => ?_
                obtain ⟨nx10, I10, hI10, h910, hn910, R, N20⟩ := R.growX (tl := [_, _, _]) N19 (Fresh.cons (fun p hp => lo4 p (.tail _ (.tail _ hp))) (Fresh.cons (fun p hp => lo3 p (.tail _ hp)) (Fresh.cons lo2 Fresh.nil)))
                clear lo2 lo3 lo4 N19
                have hm4 := hI10 _ (.head _)
                have hm5 := hI10 _ (.tail _ (.head _))
                have hm6 := hI10 _ (.tail _ (.tail _ (.head _)))
                clear hI10
                replace N20 := R.front N20
                (repeat' ( (fail_if_success (with_reducible first | show SegEnd _ _ _ _ _ _ _ _ | show SegX _ _ _ _ _ _ | show wpAny _ _ (eval (Expr.Lambda _ _ _ _) _) _ _ _ | show TurnEnd _ _ _ _ _ _ _ _ _ _ | show wpAny _ _ (eval (Expr.ListComp _ _ _ _) _) _ _ _ | show wpAny _ _ (exec (Stmt.For _ _ _ _ _) _) _ _ _ | show wpAny _ _ (exec (Stmt.Assign _ (Expr.ListComp _ _ _ _) _) _) _ _ _ | show wpAny _ _ (subscriptTail _ _ _ _) _ _ _ | show wpAny _ _ (PySem.call _ _ _) _ _ _ | show wpAny _ _ (compareOp _ (Value.ref _) _) _ _ _ | show wpAny _ _ (compareOp _ _ (Value.ref _)) _ _ _ | show wpAny _ _ (binaryOp _ (Value.ref _) _) _ _ _ | show wpAny _ _ (setItem _ _ _) _ _ _ | show wpAny _ _ (storeName _ "goal" _) _ _ _)); first | (k_unfold; (try dsimp only)) | walk1 | (dsimp only; walk1) | (leave1; (try dsimp only)) | fail "no step"))
                have e4 := fmod_nat things.length 4
                rw [show ((4 : Nat) : Int) = 4 from rfl] at e4
                rw [e4]
                clear e4
                rename News _ _ _ _ => N21
                refine thing_item N21 (.tail _ (.tail _ (.tail _ (.tail _ (.tail _ (.tail _ (.tail _ (R.S.sub _ hm4)))))))) hm6 hm5 (Nat.mod_lt _ (by decide)) fun v d hDv hdT => ?_
                clear hm4 hm5 hm6
                (repeat' ( (fail_if_success (with_reducible first | show SegEnd _ _ _ _ _ _ _ _ | show SegX _ _ _ _ _ _ | show wpAny _ _ (eval (Expr.Lambda _ _ _ _) _) _ _ _ | show TurnEnd _ _ _ _ _ _ _ _ _ _ | show wpAny _ _ (eval (Expr.ListComp _ _ _ _) _) _ _ _ | show wpAny _ _ (exec (Stmt.For _ _ _ _ _) _) _ _ _ | show wpAny _ _ (exec (Stmt.Assign _ (Expr.ListComp _ _ _ _) _) _) _ _ _ | show wpAny _ _ (subscriptTail _ _ _ _) _ _ _ | show wpAny _ _ (PySem.call _ _ _) _ _ _ | show wpAny _ _ (compareOp _ (Value.ref _) _) _ _ _ | show wpAny _ _ (compareOp _ _ (Value.ref _)) _ _ _ | show wpAny _ _ (binaryOp _ (Value.ref _) _) _ _ _ | show wpAny _ _ (setItem _ _ _) _ _ _ | show wpAny _ _ (storeName _ "goal" _) _ _ _)); first | (k_unfold; (try dsimp only)) | walk1 | (dsimp only; walk1) | (leave1; (try dsimp only)) | fail "no step"))
                rename Fr _ _ _ _ => F22
                rename News _ _ _ _ => N22
                rename (∀ p : Addr × Obj, p ∈ _ → p.1 < _) => lo7
                obtain ⟨nx11, I11, hI11, h1011, hn1011, R, N23⟩ := R.growX (tl := [_]) N22 (Fresh.cons lo7 Fresh.nil)
                have htD := hI11 _ (.head _)
                clear hI11 lo7 N22
                have hDv1 := hDv.mono h1011
                have hwm3 := h1011 _ (h910 _ hwm2)
                have hDw3 := (hDw2.mono h910).mono h1011
                have htv : DatIn I11 _ (thingD (goal ++ [y], d)) := .tuple htD (.cons (.tuple hwm3 hDw3) (.cons hDv1 .nil))
                have hna11 := hn1011 _ (hn910 _ hnam)
                have N11' := News.sub N23 fun e he => .tail _ he
                have hnl : na' ≠ lth := nest_ne N11' R.S.tr hisN hcur R.S.lt not_dict_lst
                have htvl2 : tvs.length ≤ 12 := by rw [R.S.dt.length, List.length_map]; omega
                refine led_append F22 N23 (.tail _ R.S.lt) ?_ (by rw [sizeLine_eq]; omega)
                clear F22
                intro h24 news24 F24 N24 hm24 hk24 _
                have hI24 : ∀ e ∈ I11, e ∈ news24 := fun e he => hk24 e (.tail _ (R.S.sub e he)) fun q => R.S.off e he (by rw [q]; simp)
                dsimp only
                (repeat' ( (fail_if_success (with_reducible first | show SegEnd _ _ _ _ _ _ _ _ | show SegX _ _ _ _ _ _ | show wpAny _ _ (eval (Expr.Lambda _ _ _ _) _) _ _ _ | show TurnEnd _ _ _ _ _ _ _ _ _ _ | show wpAny _ _ (eval (Expr.ListComp _ _ _ _) _) _ _ _ | show wpAny _ _ (exec (Stmt.For _ _ _ _ _) _) _ _ _ | show wpAny _ _ (exec (Stmt.Assign _ (Expr.ListComp _ _ _ _) _) _) _ _ _ | show wpAny _ _ (subscriptTail _ _ _ _) _ _ _ | show wpAny _ _ (PySem.call _ _ _) _ _ _ | show wpAny _ _ (compareOp _ (Value.ref _) _) _ _ _ | show wpAny _ _ (compareOp _ _ (Value.ref _)) _ _ _ | show wpAny _ _ (binaryOp _ (Value.ref _) _) _ _ _ | show wpAny _ _ (setItem _ _ _) _ _ _ | show wpAny _ _ (storeName _ "goal" _) _ _ _)); first | (k_unfold; (try dsimp only)) | walk1 | (dsimp only; walk1) | (leave1; (try dsimp only)) | fail "no step"))
                rename News _ _ _ _ => N25
                refine tup_last N25 (vs := wws) (x := .str y ty) (n := wn2) (hI24 _ hwm3) ?_
                (repeat' ( (fail_if_success (with_reducible first | show SegEnd _ _ _ _ _ _ _ _ | show SegX _ _ _ _ _ _ | show wpAny _ _ (eval (Expr.Lambda _ _ _ _) _) _ _ _ | show TurnEnd _ _ _ _ _ _ _ _ _ _ | show wpAny _ _ (eval (Expr.ListComp _ _ _ _) _) _ _ _ | show wpAny _ _ (exec (Stmt.For _ _ _ _ _) _) _ _ _ | show wpAny _ _ (exec (Stmt.Assign _ (Expr.ListComp _ _ _ _) _) _) _ _ _ | show wpAny _ _ (subscriptTail _ _ _ _) _ _ _ | show wpAny _ _ (PySem.call _ _ _) _ _ _ | show wpAny _ _ (compareOp _ (Value.ref _) _) _ _ _ | show wpAny _ _ (compareOp _ _ (Value.ref _)) _ _ _ | show wpAny _ _ (binaryOp _ (Value.ref _) _) _ _ _ | show wpAny _ _ (setItem _ _ _) _ _ _ | show wpAny _ _ (storeName _ "goal" _) _ _ _)); first | (k_unfold; (try dsimp only)) | walk1 | (dsimp only; walk1) | (leave1; (try dsimp only)) | fail "no step"))
                rename News _ _ _ _ => N26
                refine lst_last N26 (vs := tvs) hm24 ?_
                (repeat' ( (fail_if_success (with_reducible first | show SegEnd _ _ _ _ _ _ _ _ | show SegX _ _ _ _ _ _ | show wpAny _ _ (eval (Expr.Lambda _ _ _ _) _) _ _ _ | show TurnEnd _ _ _ _ _ _ _ _ _ _ | show wpAny _ _ (eval (Expr.ListComp _ _ _ _) _) _ _ _ | show wpAny _ _ (exec (Stmt.For _ _ _ _ _) _) _ _ _ | show wpAny _ _ (exec (Stmt.Assign _ (Expr.ListComp _ _ _ _) _) _) _ _ _ | show wpAny _ _ (subscriptTail _ _ _ _) _ _ _ | show wpAny _ _ (PySem.call _ _ _) _ _ _ | show wpAny _ _ (compareOp _ (Value.ref _) _) _ _ _ | show wpAny _ _ (compareOp _ _ (Value.ref _)) _ _ _ | show wpAny _ _ (binaryOp _ (Value.ref _) _) _ _ _ | show wpAny _ _ (setItem _ _ _) _ _ _ | show wpAny _ _ (storeName _ "goal" _) _ _ _)); first | (k_unfold; (try dsimp only)) | walk1 | (dsimp only; walk1) | (leave1; (try dsimp only)) | fail "no step"))
                rename News _ _ _ _ => N27
                refine tup_item N27 (hI24 _ htD) (k := 1) (by decide) (by decide) (x := v) rfl ?_
                (repeat' ( (fail_if_success (with_reducible first | show SegEnd _ _ _ _ _ _ _ _ | show SegX _ _ _ _ _ _ | show wpAny _ _ (eval (Expr.Lambda _ _ _ _) _) _ _ _ | show TurnEnd _ _ _ _ _ _ _ _ _ _ | show wpAny _ _ (eval (Expr.ListComp _ _ _ _) _) _ _ _ | show wpAny _ _ (exec (Stmt.For _ _ _ _ _) _) _ _ _ | show wpAny _ _ (exec (Stmt.Assign _ (Expr.ListComp _ _ _ _) _) _) _ _ _ | show wpAny _ _ (subscriptTail _ _ _ _) _ _ _ | show wpAny _ _ (PySem.call _ _ _) _ _ _ | show wpAny _ _ (compareOp _ (Value.ref _) _) _ _ _ | show wpAny _ _ (compareOp _ _ (Value.ref _)) _ _ _ | show wpAny _ _ (binaryOp _ (Value.ref _) _) _ _ _ | show wpAny _ _ (setItem _ _ _) _ _ _ | show wpAny _ _ (storeName _ "goal" _) _ _ _)); first | (k_unfold; (try dsimp only)) | walk1 | (dsimp only; walk1) | (leave1; (try dsimp only)) | fail "no step"))
                have hkl : (kids (growN P goal goal.length) val' goal).length ≤ 2000 := by
                  have h1 := growN_length P goal goal.length
                  have h2 : (kids (growN P goal goal.length) val' goal).length ≤ (growN P goal goal.length).length := by
                    unfold kids kidsOf
                    rw [List.length_map]
                    exact List.length_filter_le _ _
                  omega
                k_dflt (refine' Does.use (lay_does _ _ na' ona _ y _ v (hk24 _ (.tail _ hna11) hnl) hnad hkl) ?k1 ?k2 ?k3 ?k4 ?k5 ?kK ?kd ?ku ?_; (((case k1 => k_asm); (case k2 => k_asm); (case k3 => k_asm); (case k4 => k_asm); (case k5 => k_asm); (case kK => first | exact rfl | assumption); (case kd => ktr_room); (case ku => ktr_units))))
                intro r28 h28 news28 tk28 F28 N28 hpost
                obtain ⟨o28, ho28, hm28, hk28⟩ := hpost
                obtain ⟨R, N29⟩ := R.thing N23 N28 hDv1 hdT htv hwo hwl hisN hcur hin (hk28 _ hm24 (Ne.symm hnl)) hm28 ho28 fun p hp h1 h2 => hk28 p (hk24 p hp h1) h2
                dsimp only
                clear N27 N23 N11' N28
                (repeat' ( (fail_if_success (with_reducible first | show SegEnd _ _ _ _ _ _ _ _ | show SegX _ _ _ _ _ _ | show wpAny _ _ (eval (Expr.Lambda _ _ _ _) _) _ _ _ | show TurnEnd _ _ _ _ _ _ _ _ _ _ | show wpAny _ _ (eval (Expr.ListComp _ _ _ _) _) _ _ _ | show wpAny _ _ (exec (Stmt.For _ _ _ _ _) _) _ _ _ | show wpAny _ _ (exec (Stmt.Assign _ (Expr.ListComp _ _ _ _) _) _) _ _ _ | show wpAny _ _ (subscriptTail _ _ _ _) _ _ _ | show wpAny _ _ (PySem.call _ _ _) _ _ _ | show wpAny _ _ (compareOp _ (Value.ref _) _) _ _ _ | show wpAny _ _ (compareOp _ _ (Value.ref _)) _ _ _ | show wpAny _ _ (binaryOp _ (Value.ref _) _) _ _ _ | show wpAny _ _ (setItem _ _ _) _ _ _ | show wpAny _ _ (storeName _ "goal" _) _ _ _)); first | (k_unfold; (try dsimp only)) | walk1 | (dsimp only; walk1) | (leave1; (try dsimp only)) | fail "no step"))
                rename Fr _ _ _ _ => F30
                refine led_cell F30 N29 (by rfl) (.tail _ R.A) R.hA ?_ (by rfl) (by rfl)
                clear F30
                intro h31 o31 news31 F31 N31 hd31 hm31 hk31 _
                obtain ⟨nx31, R, N31⟩ := R.cellA2 N29 N31 hd31 hm31 hk31
                dsimp only
                (repeat' ( (fail_if_success (with_reducible first | show SegEnd _ _ _ _ _ _ _ _ | show SegX _ _ _ _ _ _ | show wpAny _ _ (eval (Expr.Lambda _ _ _ _) _) _ _ _ | show TurnEnd _ _ _ _ _ _ _ _ _ _ | show wpAny _ _ (eval (Expr.ListComp _ _ _ _) _) _ _ _ | show wpAny _ _ (exec (Stmt.For _ _ _ _ _) _) _ _ _ | show wpAny _ _ (exec (Stmt.Assign _ (Expr.ListComp _ _ _ _) _) _) _ _ _ | show wpAny _ _ (subscriptTail _ _ _ _) _ _ _ | show wpAny _ _ (PySem.call _ _ _) _ _ _ | show wpAny _ _ (compareOp _ (Value.ref _) _) _ _ _ | show wpAny _ _ (compareOp _ _ (Value.ref _)) _ _ _ | show wpAny _ _ (binaryOp _ (Value.ref _) _) _ _ _ | show wpAny _ _ (setItem _ _ _) _ _ _ | show wpAny _ _ (storeName _ "goal" _) _ _ _)); first | (k_unfold; (try dsimp only)) | walk1 | (dsimp only; walk1) | (leave1; (try dsimp only)) | fail "no step"))
                rename Fr _ _ _ _ => F32
                rename News _ _ _ _ => N32
                refine SegX.mk _ ((Ia, oI) :: nx31) F32 N32 ⟨rfl, ⟨rfl, rfl, rfl, rfl, trivial⟩, nx31, I11, _, _, _, _, _, o31, goal ++ [y], wt, wws ++ [.str y ty], wn2, rfl, R, hwm3, hDw3, hwo, hwl, by rw [List.length_append, List.length_singleton]; omega, by simp⟩
          · rename _ ≠ _ => hk2
            rename Fr _ _ _ _ => F16
            rename News _ _ _ _ => N16
            refine SegX.mk _ ((Ia, oI) :: nx9) F16 (News.sub N16 fun e he => front_mem he) ⟨rfl, ⟨rfl, rfl, rfl, rfl, trivial⟩, nx9, I9, _, things, val', tvs, tn, o6, goal, ga, gvs, gn, rfl, R, hgm, hDg, hgo, hgl, by omega, hP1⟩
        · intro fl h40 tk40 m5 nx40 F40 N40 hA
          clear F15 N14 R hw7 hgoal hP1 hg0 hDw6 hDg hgm hcur hisN hgo hgl hgvl
          obtain ⟨rfl, hm5, nx41, I41, P41, things41, val41, tvs41, tn41, oA41, g41, ga41, gvs41, gn41, rfl, R, hgm, hDg, hgo, hgl, htl41, hP41⟩ := hA
          replace F40 := hm5.fr F40
          clear hm5
          replace N40 := R.front N40
          have hgvl : gvs41.length = g41.length := by rw [hDg.length, List.length_map]
          have hcA := R.hA
          dsimp only
          (repeat' ( (fail_if_success (with_reducible first | show SegEnd _ _ _ _ _ _ _ _ | show SegX _ _ _ _ _ _ | show wpAny _ _ (eval (Expr.Lambda _ _ _ _) _) _ _ _ | show TurnEnd _ _ _ _ _ _ _ _ _ _ | show wpAny _ _ (eval (Expr.ListComp _ _ _ _) _) _ _ _ | show wpAny _ _ (exec (Stmt.For _ _ _ _ _) _) _ _ _ | show wpAny _ _ (exec (Stmt.Assign _ (Expr.ListComp _ _ _ _) _) _) _ _ _ | show wpAny _ _ (subscriptTail _ _ _ _) _ _ _ | show wpAny _ _ (PySem.call _ _ _) _ _ _ | show wpAny _ _ (compareOp _ (Value.ref _) _) _ _ _ | show wpAny _ _ (compareOp _ _ (Value.ref _)) _ _ _ | show wpAny _ _ (binaryOp _ (Value.ref _) _) _ _ _ | show wpAny _ _ (setItem _ _ _) _ _ _ | show wpAny _ _ (storeName _ "goal" _) _ _ _)); first | (k_unfold; (try dsimp only)) | walk1 | (dsimp only; walk1) | (leave1; (try dsimp only)) | fail "no step"))
          refine Comp_open (by rfl) (by rfl) (by decide) ?_
          (repeat' ( (fail_if_success (with_reducible first | show SegEnd _ _ _ _ _ _ _ _ | show SegX _ _ _ _ _ _ | show wpAny _ _ (eval (Expr.Lambda _ _ _ _) _) _ _ _ | show TurnEnd _ _ _ _ _ _ _ _ _ _ | show wpAny _ _ (eval (Expr.ListComp _ _ _ _) _) _ _ _ | show wpAny _ _ (exec (Stmt.For _ _ _ _ _) _) _ _ _ | show wpAny _ _ (exec (Stmt.Assign _ (Expr.ListComp _ _ _ _) _) _) _ _ _ | show wpAny _ _ (subscriptTail _ _ _ _) _ _ _ | show wpAny _ _ (PySem.call _ _ _) _ _ _ | show wpAny _ _ (compareOp _ (Value.ref _) _) _ _ _ | show wpAny _ _ (compareOp _ _ (Value.ref _)) _ _ _ | show wpAny _ _ (binaryOp _ (Value.ref _) _) _ _ _ | show wpAny _ _ (setItem _ _ _) _ _ _ | show wpAny _ _ (storeName _ "goal" _) _ _ _)); first | (k_unfold; (try dsimp only)) | walk1 | (dsimp only; walk1) | (leave1; (try dsimp only)) | fail "no step"))
          refine led_len hgvl N40 (n := gn41) (.tail _ (.tail _ (.tail _ (.tail _ (.tail _ (.tail _ (.tail _ (R.S.sub _ hgm)))))))) (by omega) ?_
          (repeat' ( (fail_if_success (with_reducible first | show SegEnd _ _ _ _ _ _ _ _ | show SegX _ _ _ _ _ _ | show wpAny _ _ (eval (Expr.Lambda _ _ _ _) _) _ _ _ | show TurnEnd _ _ _ _ _ _ _ _ _ _ | show wpAny _ _ (eval (Expr.ListComp _ _ _ _) _) _ _ _ | show wpAny _ _ (exec (Stmt.For _ _ _ _ _) _) _ _ _ | show wpAny _ _ (exec (Stmt.Assign _ (Expr.ListComp _ _ _ _) _) _) _ _ _ | show wpAny _ _ (subscriptTail _ _ _ _) _ _ _ | show wpAny _ _ (PySem.call _ _ _) _ _ _ | show wpAny _ _ (compareOp _ (Value.ref _) _) _ _ _ | show wpAny _ _ (compareOp _ _ (Value.ref _)) _ _ _ | show wpAny _ _ (binaryOp _ (Value.ref _) _) _ _ _ | show wpAny _ _ (setItem _ _ _) _ _ _ | show wpAny _ _ (storeName _ "goal" _) _ _ _)); first | (k_unfold; (try dsimp only)) | walk1 | (dsimp only; walk1) | (leave1; (try dsimp only)) | fail "no step"))
          rename News _ _ _ _ => N41
          rename Fr _ _ _ _ => F41
          refine led_range F41 N41 fun r42 h42 v42 tk42 F42 N42 hr42 => ?_
          dsimp only
          (repeat' ( (fail_if_success (with_reducible first | show SegEnd _ _ _ _ _ _ _ _ | show SegX _ _ _ _ _ _ | show wpAny _ _ (eval (Expr.Lambda _ _ _ _) _) _ _ _ | show TurnEnd _ _ _ _ _ _ _ _ _ _ | show wpAny _ _ (eval (Expr.ListComp _ _ _ _) _) _ _ _ | show wpAny _ _ (exec (Stmt.For _ _ _ _ _) _) _ _ _ | show wpAny _ _ (exec (Stmt.Assign _ (Expr.ListComp _ _ _ _) _) _) _ _ _ | show wpAny _ _ (subscriptTail _ _ _ _) _ _ _ | show wpAny _ _ (PySem.call _ _ _) _ _ _ | show wpAny _ _ (compareOp _ (Value.ref _) _) _ _ _ | show wpAny _ _ (compareOp _ _ (Value.ref _)) _ _ _ | show wpAny _ _ (binaryOp _ (Value.ref _) _) _ _ _ | show wpAny _ _ (setItem _ _ _) _ _ _ | show wpAny _ _ (storeName _ "goal" _) _ _ _)); first | (k_unfold; (try dsimp only)) | walk1 | (dsimp only; walk1) | (leave1; (try dsimp only)) | fail "no step"))
          obtain ⟨K1, hK1⟩ : ∃ K1 : Led, K1 = (Ia, oI) :: nx41 := ⟨_, rfl⟩
          replace N42 : News _ _ _ K1 := News.sub N42 (fun e he => by rw [hK1] at he; exact front_mem he)
          have hnK : ∀ e ∈ nx41, e ∈ K1 := fun e he => by rw [hK1]; exact .tail _ he
          have hIK : ∀ e ∈ I41, e ∈ K1 := fun e he => hnK e (R.S.sub e he)
          have hcK1 := hnK _ R.A
          clear N41 F41
          refine CompAt_range (keep := K1) (news := K1) (n := g41.length) (by rfl) (by decide) (by rfl) (by rfl) F42 N42 (fun _ h => h) hr42 (small_one (by decide) (by decide) (by omega) (by omega)) (by rw [rangeSize_one]; split <;> omega) (by rw [sizeLine_eq]; omega)
            (fun k ys nx => ∃ tl, nx = tl ++ K1 ∧ Fresh tl K1 ∧ DatAll (tl ++ I41) ys (((prefs g41).take k).map wayD)) ⟨[], rfl, Fresh.nil, .nil⟩ ?_ ?_
          · intro k t43 ys43 nx43 I8 oI8 C oC D43 m8 h8 tk8 E8 hk8 hJ hkeep hx hC F' N' off8
            obtain ⟨tl, rfl, hfr, hDs⟩ := hJ
            refine wpAny_tests_nil ?_
            simp only [if_true]
            clear F42 N42
            have e1 : (1 : Int) + (k : Int) = ((k + 1 : Nat) : Int) := by omega
            rw [e1] at hx
            have hcn : (_, oA41) ∈ tl ++ K1 := List.mem_append_right _ hcK1
            (repeat' ( (fail_if_success (with_reducible first | show SegEnd _ _ _ _ _ _ _ _ | show SegX _ _ _ _ _ _ | show wpAny _ _ (eval (Expr.Lambda _ _ _ _) _) _ _ _ | show TurnEnd _ _ _ _ _ _ _ _ _ _ | show wpAny _ _ (eval (Expr.ListComp _ _ _ _) _) _ _ _ | show wpAny _ _ (exec (Stmt.For _ _ _ _ _) _) _ _ _ | show wpAny _ _ (exec (Stmt.Assign _ (Expr.ListComp _ _ _ _) _) _) _ _ _ | show wpAny _ _ (subscriptTail _ _ _ _) _ _ _ | show wpAny _ _ (PySem.call _ _ _) _ _ _ | show wpAny _ _ (compareOp _ (Value.ref _) _) _ _ _ | show wpAny _ _ (compareOp _ _ (Value.ref _)) _ _ _ | show wpAny _ _ (binaryOp _ (Value.ref _) _) _ _ _ | show wpAny _ _ (setItem _ _ _) _ _ _ | show wpAny _ _ (storeName _ "goal" _) _ _ _)); first | (k_unfold; (try dsimp only)) | walk1 | (dsimp only; walk1) | (leave1; (try dsimp only)) | fail "no step"))
            refine tup_upto2 F' N' (t := ga41) (vs := gvs41) (n := gn41) (.tail _ (.tail _ (.tail _ (List.mem_append_right _ (hIK _ hgm))))) ?_ (by rw [hgvl, sizeLine_eq]; omega)
            intro D4 h4 tl4 j4 F4 N4 hfr4 hD4
            rw [take_cut] at hD4
            clear F' N'
            have hDt := Mine.DatAll.take hDg (k + 1)
            rw [← List.map_take] at hDt
            (repeat' ( (fail_if_success (with_reducible first | show SegEnd _ _ _ _ _ _ _ _ | show SegX _ _ _ _ _ _ | show wpAny _ _ (eval (Expr.Lambda _ _ _ _) _) _ _ _ | show TurnEnd _ _ _ _ _ _ _ _ _ _ | show wpAny _ _ (eval (Expr.ListComp _ _ _ _) _) _ _ _ | show wpAny _ _ (exec (Stmt.For _ _ _ _ _) _) _ _ _ | show wpAny _ _ (exec (Stmt.Assign _ (Expr.ListComp _ _ _ _) _) _) _ _ _ | show wpAny _ _ (subscriptTail _ _ _ _) _ _ _ | show wpAny _ _ (PySem.call _ _ _) _ _ _ | show wpAny _ _ (compareOp _ (Value.ref _) _) _ _ _ | show wpAny _ _ (compareOp _ _ (Value.ref _)) _ _ _ | show wpAny _ _ (binaryOp _ (Value.ref _) _) _ _ _ | show wpAny _ _ (setItem _ _ _) _ _ _ | show wpAny _ _ (storeName _ "goal" _) _ _ _)); first | (k_unfold; (try dsimp only)) | walk1 | (dsimp only; walk1) | (leave1; (try dsimp only)) | fail "no step"))
            refine ElEnd.grow tl4 F4 N4 (fun e he => he) hfr4 off8 hkeep ⟨tl4 ++ tl, by rw [List.append_assoc], Fresh.app (fun q hq p hp => hfr4 q hq p (.tail _ (.tail _ (.tail _ (List.mem_append_right _ hp))))) hfr, ?_⟩
            rw [prefs_take_succ hk8, List.map_append]
            refine (hDs.mono fun e he => ?_).append (DatAll.one ?_)
            · rw [List.append_assoc]; exact List.mem_append_right _ he
            · refine .tuple (n := j4) ?_ (hDt.mono fun e he => by rw [List.append_assoc]; exact List.mem_append_right _ (List.mem_append_right _ he))
              rcases hD4 with hD4 | hD4
              · rw [List.append_assoc]; exact List.mem_append_left _ hD4
              · rw [hD4, List.append_assoc]; exact List.mem_append_right _ (List.mem_append_right _ hgm)
          · clear F42 N42 hcK1 hcA
            intro D43 ys43 nx43 h43 tk43 lo hJ hkeep F43 N43 off43
            obtain ⟨tl, rfl, hfr, hDs⟩ := hJ
            have hpt : (prefs g41).take g41.length = prefs g41 := List.take_of_length_le (by rw [prefs_len]; exact Nat.le_refl _)
            rw [hpt] at hDs
            subst hK1
            obtain ⟨nx44, I44, h44a, h44b, R, N44⟩ := R.growZ (tl := (D43, lst ys43) :: tl) N43 (Fresh.cons lo hfr)
            have hrow : DatIn I44 (.ref D43) (rowD (prefs g41)) := .list (h44a _ (.head _)) (hDs.mono fun e he => (List.mem_append.mp he).elim (fun h => h44a _ (.tail _ h)) (h44b e))
            clear N43 hDs hnK hIK lo hkeep off43 hfr h44a h44b hgm hDg
            have hrvl : rvs.length ≤ 12 := by rw [R.S.dr.length, List.length_map]; omega
            dsimp only
            (repeat' ( (fail_if_success (with_reducible first | show SegEnd _ _ _ _ _ _ _ _ | show SegX _ _ _ _ _ _ | show wpAny _ _ (eval (Expr.Lambda _ _ _ _) _) _ _ _ | show TurnEnd _ _ _ _ _ _ _ _ _ _ | show wpAny _ _ (eval (Expr.ListComp _ _ _ _) _) _ _ _ | show wpAny _ _ (exec (Stmt.For _ _ _ _ _) _) _ _ _ | show wpAny _ _ (exec (Stmt.Assign _ (Expr.ListComp _ _ _ _) _) _) _ _ _ | show wpAny _ _ (subscriptTail _ _ _ _) _ _ _ | show wpAny _ _ (PySem.call _ _ _) _ _ _ | show wpAny _ _ (compareOp _ (Value.ref _) _) _ _ _ | show wpAny _ _ (compareOp _ _ (Value.ref _)) _ _ _ | show wpAny _ _ (binaryOp _ (Value.ref _) _) _ _ _ | show wpAny _ _ (setItem _ _ _) _ _ _ | show wpAny _ _ (storeName _ "goal" _) _ _ _)); first | (k_unfold; (try dsimp only)) | walk1 | (dsimp only; walk1) | (leave1; (try dsimp only)) | fail "no step"))
            rename Fr _ _ _ _ => F45
            refine led_append F45 N44 (.tail _ R.S.lr) ?_ (by rw [sizeLine_eq]; omega)
            clear F45
            intro h46 news46 F46 N46 hm46 hk46 _
            obtain ⟨R, N47⟩ := R.row N44 N46 hrow hgo hgl hm46 hk46
            clear N44 N46 hm46 hk46
            dsimp only
            (repeat' ( (fail_if_success (with_reducible first | show SegEnd _ _ _ _ _ _ _ _ | show SegX _ _ _ _ _ _ | show wpAny _ _ (eval (Expr.Lambda _ _ _ _) _) _ _ _ | show TurnEnd _ _ _ _ _ _ _ _ _ _ | show wpAny _ _ (eval (Expr.ListComp _ _ _ _) _) _ _ _ | show wpAny _ _ (exec (Stmt.For _ _ _ _ _) _) _ _ _ | show wpAny _ _ (exec (Stmt.Assign _ (Expr.ListComp _ _ _ _) _) _) _ _ _ | show wpAny _ _ (subscriptTail _ _ _ _) _ _ _ | show wpAny _ _ (PySem.call _ _ _) _ _ _ | show wpAny _ _ (compareOp _ (Value.ref _) _) _ _ _ | show wpAny _ _ (compareOp _ _ (Value.ref _)) _ _ _ | show wpAny _ _ (binaryOp _ (Value.ref _) _) _ _ _ | show wpAny _ _ (setItem _ _ _) _ _ _ | show wpAny _ _ (storeName _ "goal" _) _ _ _)); first | (k_unfold; (try dsimp only)) | walk1 | (dsimp only; walk1) | (leave1; (try dsimp only)) | fail "no step"))
            rename Fr _ _ _ _ => F48
            rename News _ _ _ _ => N48
            refine TurnEnd.next _ _ F48 N48 R.off (by intro e he; rw [List.mem_singleton.mp he]; exact R.S.sub _ R.l) (R.toJ ⟨rfl, rfl, rfl, rfl, trivial⟩ (by rw [List.length_append, List.length_singleton]; omega) htl41 (by omega) fun _ => hP41)
  · have hw13 := ws_le I9 (by rw [List.length_map, List.length_take]; exact Nat.min_le_left _ _)
    clear N9 F9 hdA hdB hod I8 hz hz2 hz3
    repeat (rename Fr _ _ _ _ => zz; clear zz)
    repeat (rename News _ _ _ _ => zz; clear zz)
    repeat (rename (∀ p : Addr × Obj, p ∈ (List.cons _ _ : List (Addr × Obj)) → p.1 < _) => zz; clear zz)
    repeat (rename Obj.data _ = _ => zz; clear zz)
    intro m1 nx h tk hJ hl F1 N1
    obtain ⟨lth, lr, xn, dn, d0, ln, t0, c0, ys, I, P, things, rows, val, tvs, tn, rvs, rn, oA, oB, vA, hm1, S, TS, hA, hdA1, hB, hdB1, hxI, hdI, hlnI, hIy, hlI, hv0, hrl, htl, hi0, hiP⟩ := hJ
    have hP0 := hiP hw13.1
    have hrl : rows.length ≤ 13 := Nat.le_trans hrl hw13.2
    have htl : things.length ≤ 13 := Nat.le_trans htl hw13.2
    have hF1 := hm1.fr F1
    clear hA hdA1 hi0 hiP hl
    (repeat' ( (fail_if_success (with_reducible first | show SegEnd _ _ _ _ _ _ _ _ | show SegX _ _ _ _ _ _ | show wpAny _ _ (eval (Expr.Lambda _ _ _ _) _) _ _ _ | show TurnEnd _ _ _ _ _ _ _ _ _ _ | show wpAny _ _ (eval (Expr.ListComp _ _ _ _) _) _ _ _ | show wpAny _ _ (exec (Stmt.For _ _ _ _ _) _) _ _ _ | show wpAny _ _ (exec (Stmt.Assign _ (Expr.ListComp _ _ _ _) _) _) _ _ _ | show wpAny _ _ (subscriptTail _ _ _ _) _ _ _ | show wpAny _ _ (PySem.call _ _ _) _ _ _ | show wpAny _ _ (compareOp _ (Value.ref _) _) _ _ _ | show wpAny _ _ (compareOp _ _ (Value.ref _)) _ _ _ | show wpAny _ _ (binaryOp _ (Value.ref _) _) _ _ _ | show wpAny _ _ (setItem _ _ _) _ _ _ | show wpAny _ _ (storeName _ "goal" _) _ _ _)); first | (k_unfold; (try dsimp only)) | walk1 | (dsimp only; walk1) | (leave1; (try dsimp only)) | fail "no step"))
    rename News _ _ _ _ => N2
    rename Fr _ _ _ _ => F2
    rename (∀ p : Addr × Obj, p ∈ _ → p.1 < _) => lo2
    refine led_cell F2 N2 (by rfl) (.tail _ hB) hdB1 ?_ (by rfl) (by rfl)
    clear F2
    intro h5 o5 news5 F5 N5 hd5 hm5 hk5 _
    obtain ⟨K0, S, N6, hoff, hcm, ps107, h107⟩ := S.plain N2 hB hdB1 lo2 N5 TS hm5 hk5
    clear N5 hm5 hk5 N2 lo2 hB hdB1
    obtain ⟨lp, hlp⟩ : ∃ lp : Addr, o5.data = .cell (some (.ref lp)) := ⟨_, hd5⟩
    obtain rfl := (Value.ref.inj (Option.some.inj (Data.cell.inj (hlp.symm.trans hd5))))
    clear hd5
    dsimp only
    (repeat' ( (fail_if_success (with_reducible first | show SegEnd _ _ _ _ _ _ _ _ | show SegX _ _ _ _ _ _ | show wpAny _ _ (eval (Expr.Lambda _ _ _ _) _) _ _ _ | show TurnEnd _ _ _ _ _ _ _ _ _ _ | show wpAny _ _ (eval (Expr.ListComp _ _ _ _) _) _ _ _ | show wpAny _ _ (exec (Stmt.For _ _ _ _ _) _) _ _ _ | show wpAny _ _ (exec (Stmt.Assign _ (Expr.ListComp _ _ _ _) _) _) _ _ _ | show wpAny _ _ (subscriptTail _ _ _ _) _ _ _ | show wpAny _ _ (PySem.call _ _ _) _ _ _ | show wpAny _ _ (compareOp _ (Value.ref _) _) _ _ _ | show wpAny _ _ (compareOp _ _ (Value.ref _)) _ _ _ | show wpAny _ _ (binaryOp _ (Value.ref _) _) _ _ _ | show wpAny _ _ (setItem _ _ _) _ _ _ | show wpAny _ _ (storeName _ "goal" _) _ _ _)); first | (k_unfold; (try dsimp only)) | walk1 | (dsimp only; walk1) | (leave1; (try dsimp only)) | fail "no step"))
    refine For_open ?_
    (repeat' ( (fail_if_success (with_reducible first | show SegEnd _ _ _ _ _ _ _ _ | show SegX _ _ _ _ _ _ | show wpAny _ _ (eval (Expr.Lambda _ _ _ _) _) _ _ _ | show TurnEnd _ _ _ _ _ _ _ _ _ _ | show wpAny _ _ (eval (Expr.ListComp _ _ _ _) _) _ _ _ | show wpAny _ _ (exec (Stmt.For _ _ _ _ _) _) _ _ _ | show wpAny _ _ (exec (Stmt.Assign _ (Expr.ListComp _ _ _ _) _) _) _ _ _ | show wpAny _ _ (subscriptTail _ _ _ _) _ _ _ | show wpAny _ _ (PySem.call _ _ _) _ _ _ | show wpAny _ _ (compareOp _ (Value.ref _) _) _ _ _ | show wpAny _ _ (compareOp _ _ (Value.ref _)) _ _ _ | show wpAny _ _ (binaryOp _ (Value.ref _) _) _ _ _ | show wpAny _ _ (setItem _ _ _) _ _ _ | show wpAny _ _ (storeName _ "goal" _) _ _ _)); first | (k_unfold; (try dsimp only)) | walk1 | (dsimp only; walk1) | (leave1; (try dsimp only)) | fail "no step"))
    rename Fr _ _ _ _ => F7
    have hrvl : rvs.length = rows.length := by rw [S.dr.length, List.length_map]
    refine ForAt_list (l := lr) (vs := rvs) (n := rn) (by rfl) F7 N6 (.tail _ S.lr) (.inl ⟨_, _, rfl⟩) (fun k m nx => ∃ pvs pn, Has m [(Str.ofString "rows", .ref lr), (Str.ofString "things", .ref lth), (Str.ofString "nested", .ref xn), (Str.ofString "numbers", .ref ln)] ∧ nx = (lp, listOf pvs.toArray pn) :: (_, o5) :: K0 ∧ DatAll I pvs ((firsts (rows.take k).flatten).map wayD)) ⟨[], 0, ⟨rfl, rfl, rfl, rfl, trivial⟩, rfl, .nil⟩ ?_ ?_
    ·
      clear F7 N6
      rintro k v m3 nx3 h3 tk3 Ia oI hkv ⟨pvs, pn, hm3, rfl, hDp⟩ hlm F1 N1 off
      replace F1 := hm3.fr F1
      have hk : k < rows.length := by rw [← hrvl]; exact (List.getElem?_eq_some_iff.mp hkv).1
      obtain ⟨v', hv', hDv⟩ := S.dr.get (k := k) (by rw [List.length_map]; exact hk)
      obtain rfl : v' = v := Option.some.inj (hv'.symm.trans hkv)
      rw [List.getElem_map] at hDv
      have hki : rows[k]? = some rows[k] := List.getElem?_eq_getElem hk
      have hkm : rows[k] ∈ rows := List.getElem_mem hk
      obtain ⟨row, hrow⟩ : ∃ row, row = rows[k] := ⟨_, rfl⟩
      rw [← hrow] at hDv hki hkm
      clear hrow
      obtain ⟨g, rfl, hgo, hgl⟩ := S.hrow row hkm
      obtain ⟨ra, rws, rwn, rfl, hra, hDr⟩ := DatIn.lst hDv
      have hrl2 : rws.length = g.length := by rw [hDr.length, List.length_map, prefs_len]
      obtain ⟨Pk, hPk⟩ : ∃ Pk, Pk = firsts (rows.take k).flatten := ⟨_, rfl⟩
      rw [← hPk] at hDp
      have hPko : ∀ p ∈ Pk, WOk p := fun p hp => by
        rw [hPk, mem_firsts, List.mem_flatten] at hp
        obtain ⟨r, hr, hpr⟩ := hp
        obtain ⟨g', rfl, hg', _⟩ := S.hrow r (List.mem_of_mem_take hr)
        obtain ⟨q, _, rfl⟩ := mem_prefs.mp hpr
        exact hg'.take _
      have hPkl : pvs.length ≤ 39 := by
        rw [hDp.length, List.length_map, hPk]
        refine Nat.le_trans (firsts_length _) ?_
        have h1 : (rows.take k).flatten.length ≤ rows.flatten.length := by
          conv => rhs; rw [← List.take_append_drop k rows, List.flatten_append, List.length_append]
          omega
        have h2 := S.total
        rw [flatten_total] at h1
        rw [flatten_total]
        rw [flatten_total] at h1
        omega
      dsimp only
      (repeat' ( (fail_if_success (with_reducible first | show SegEnd _ _ _ _ _ _ _ _ | show SegX _ _ _ _ _ _ | show wpAny _ _ (eval (Expr.Lambda _ _ _ _) _) _ _ _ | show TurnEnd _ _ _ _ _ _ _ _ _ _ | show wpAny _ _ (eval (Expr.ListComp _ _ _ _) _) _ _ _ | show wpAny _ _ (exec (Stmt.For _ _ _ _ _) _) _ _ _ | show wpAny _ _ (exec (Stmt.Assign _ (Expr.ListComp _ _ _ _) _) _) _ _ _ | show wpAny _ _ (subscriptTail _ _ _ _) _ _ _ | show wpAny _ _ (PySem.call _ _ _) _ _ _ | show wpAny _ _ (compareOp _ (Value.ref _) _) _ _ _ | show wpAny _ _ (compareOp _ _ (Value.ref _)) _ _ _ | show wpAny _ _ (binaryOp _ (Value.ref _) _) _ _ _ | show wpAny _ _ (setItem _ _ _) _ _ _ | show wpAny _ _ (storeName _ "goal" _) _ _ _)); first | (k_unfold; (try dsimp only)) | walk1 | (dsimp only; walk1) | (leave1; (try dsimp only)) | fail "no step"))
      refine Comp_open (by rfl) (by rfl) (by decide) ?_
      (repeat' ( (fail_if_success (with_reducible first | show SegEnd _ _ _ _ _ _ _ _ | show SegX _ _ _ _ _ _ | show wpAny _ _ (eval (Expr.Lambda _ _ _ _) _) _ _ _ | show TurnEnd _ _ _ _ _ _ _ _ _ _ | show wpAny _ _ (eval (Expr.ListComp _ _ _ _) _) _ _ _ | show wpAny _ _ (exec (Stmt.For _ _ _ _ _) _) _ _ _ | show wpAny _ _ (exec (Stmt.Assign _ (Expr.ListComp _ _ _ _) _) _) _ _ _ | show wpAny _ _ (subscriptTail _ _ _ _) _ _ _ | show wpAny _ _ (PySem.call _ _ _) _ _ _ | show wpAny _ _ (compareOp _ (Value.ref _) _) _ _ _ | show wpAny _ _ (compareOp _ _ (Value.ref _)) _ _ _ | show wpAny _ _ (binaryOp _ (Value.ref _) _) _ _ _ | show wpAny _ _ (setItem _ _ _) _ _ _ | show wpAny _ _ (storeName _ "goal" _) _ _ _)); first | (k_unfold; (try dsimp only)) | walk1 | (dsimp only; walk1) | (leave1; (try dsimp only)) | fail "no step"))
      rename Fr _ _ _ _ => F2
      rename News _ _ _ _ => N2
      obtain ⟨K1, hK1, N2⟩ := hideN N2
      have hlK : (lp, listOf pvs.toArray pn) ∈ K1 := by rw [hK1]; exact .tail _ (.head _)
      have hcK := in2 hcm hK1
      have hIK : ∀ e ∈ I, e ∈ K1 := fun e he => by rw [hK1]; exact .tail _ (.tail _ (S.sub e he))
      refine CompAt_list (keep := K1) (news := K1) (by rfl) (by decide) (by rfl) F2 N2 (fun _ h => h) (hIK _ hra) (by rw [hrl2, sizeLine_eq]; omega)
        (fun q ys nx => nx = K1 ∧ DatAll I ys ((((prefs g).take q).filter fun p => decide (p ∉ Pk)).map wayD)) (Tgt.name _ _ (by rfl)) ⟨rfl, .nil⟩ ?_ ?_
      · intro q v8 ys8 nx8 I8 oI8 C oC D m8 h8 tk8 E8 hqv hJ hkeep hx hC F' N' off8
        obtain ⟨rfl, hDs⟩ := hJ
        have hq : q < (prefs g).length := by rw [prefs_len, ← hrl2]; exact (List.getElem?_eq_some_iff.mp hqv).1
        obtain ⟨v', hv', hDq⟩ := hDr.get (k := q) (by rw [List.length_map]; exact hq)
        obtain rfl : v' = v8 := Option.some.inj (hv'.symm.trans hqv)
        rw [List.getElem_map] at hDq
        have hqi : (prefs g)[q]? = some (prefs g)[q] := List.getElem?_eq_getElem hq
        have hqm : (prefs g)[q] ∈ prefs g := List.getElem_mem hq
        obtain ⟨pq, hpq⟩ : ∃ pq, pq = (prefs g)[q] := ⟨_, rfl⟩
        rw [← hpq] at hDq hqi hqm
        clear hpq
        have hpo : WOk pq := by
          obtain ⟨z, _, rfl⟩ := mem_prefs.mp hqm
          exact hgo.take _
        refine wpAny_tests_one ?_
        clear F2 N2
        (repeat' ( (fail_if_success (with_reducible first | show SegEnd _ _ _ _ _ _ _ _ | show SegX _ _ _ _ _ _ | show wpAny _ _ (eval (Expr.Lambda _ _ _ _) _) _ _ _ | show TurnEnd _ _ _ _ _ _ _ _ _ _ | show wpAny _ _ (eval (Expr.ListComp _ _ _ _) _) _ _ _ | show wpAny _ _ (exec (Stmt.For _ _ _ _ _) _) _ _ _ | show wpAny _ _ (exec (Stmt.Assign _ (Expr.ListComp _ _ _ _) _) _) _ _ _ | show wpAny _ _ (subscriptTail _ _ _ _) _ _ _ | show wpAny _ _ (PySem.call _ _ _) _ _ _ | show wpAny _ _ (compareOp _ (Value.ref _) _) _ _ _ | show wpAny _ _ (compareOp _ _ (Value.ref _)) _ _ _ | show wpAny _ _ (binaryOp _ (Value.ref _) _) _ _ _ | show wpAny _ _ (setItem _ _ _) _ _ _ | show wpAny _ _ (storeName _ "goal" _) _ _ _)); first | (k_unfold; (try dsimp only)) | walk1 | (dsimp only; walk1) | (leave1; (try dsimp only)) | fail "no step"))
        rename News _ _ _ _ => N9
        obtain ⟨bq, hbq⟩ : ∃ bq : Bool, bq = decide (pq ∈ Pk) := ⟨_, rfl⟩
        refine way_notIn (c := bq) N9 (.tail _ (.tail _ (.tail _ hlK))) hDp hDq (fun e he => .tail _ (.tail _ (.tail _ (hIK e he)))) (fun e he => .tail _ (.tail _ (.tail _ (hIK e he)))) hPko hpo ?_ (by rw [hbq, decide_eq_true_eq]) ?_
        · ktr_units
        rename Fr _ _ _ _ => F9
        cases bq with
        | true =>
          have hin : pq ∈ Pk := by simpa using hbq.symm
          simp only [Bool.not_true]
          (repeat' ( (fail_if_success (with_reducible first | show SegEnd _ _ _ _ _ _ _ _ | show SegX _ _ _ _ _ _ | show wpAny _ _ (eval (Expr.Lambda _ _ _ _) _) _ _ _ | show TurnEnd _ _ _ _ _ _ _ _ _ _ | show wpAny _ _ (eval (Expr.ListComp _ _ _ _) _) _ _ _ | show wpAny _ _ (exec (Stmt.For _ _ _ _ _) _) _ _ _ | show wpAny _ _ (exec (Stmt.Assign _ (Expr.ListComp _ _ _ _) _) _) _ _ _ | show wpAny _ _ (subscriptTail _ _ _ _) _ _ _ | show wpAny _ _ (PySem.call _ _ _) _ _ _ | show wpAny _ _ (compareOp _ (Value.ref _) _) _ _ _ | show wpAny _ _ (compareOp _ _ (Value.ref _)) _ _ _ | show wpAny _ _ (binaryOp _ (Value.ref _) _) _ _ _ | show wpAny _ _ (setItem _ _ _) _ _ _ | show wpAny _ _ (storeName _ "goal" _) _ _ _)); first | (k_unfold; (try dsimp only)) | walk1 | (dsimp only; walk1) | (leave1; (try dsimp only)) | fail "no step"))
          refine ElEnd.grow [] F9 N9 (fun e he => he) .nil off8 hkeep ⟨rfl, ?_⟩
          rw [filter_take' hqi, if_neg (by simpa using hin), List.append_nil]
          exact hDs
        | false =>
          have hin : pq ∉ Pk := by simpa using hbq.symm
          simp only [Bool.not_false]
          (repeat' ( (fail_if_success (with_reducible first | show SegEnd _ _ _ _ _ _ _ _ | show SegX _ _ _ _ _ _ | show wpAny _ _ (eval (Expr.Lambda _ _ _ _) _) _ _ _ | show TurnEnd _ _ _ _ _ _ _ _ _ _ | show wpAny _ _ (eval (Expr.ListComp _ _ _ _) _) _ _ _ | show wpAny _ _ (exec (Stmt.For _ _ _ _ _) _) _ _ _ | show wpAny _ _ (exec (Stmt.Assign _ (Expr.ListComp _ _ _ _) _) _) _ _ _ | show wpAny _ _ (subscriptTail _ _ _ _) _ _ _ | show wpAny _ _ (PySem.call _ _ _) _ _ _ | show wpAny _ _ (compareOp _ (Value.ref _) _) _ _ _ | show wpAny _ _ (compareOp _ _ (Value.ref _)) _ _ _ | show wpAny _ _ (binaryOp _ (Value.ref _) _) _ _ _ | show wpAny _ _ (setItem _ _ _) _ _ _ | show wpAny _ _ (storeName _ "goal" _) _ _ _)); first | (k_unfold; (try dsimp only)) | walk1 | (dsimp only; walk1) | (leave1; (try dsimp only)) | fail "no step"))
          refine ElEnd.grow [] F9 N9 (fun e he => he) .nil off8 hkeep ⟨rfl, ?_⟩
          rw [filter_take' hqi, if_pos (by simpa using hin), List.map_append]
          exact hDs.append (DatAll.one hDq)
      · clear F2 N2
        intro D ys8 nx8 h8 tk8 lo hJ hkeep F2 N2 off8
        obtain ⟨rfl, hDs⟩ := hJ
        have e1 : (prefs g).take rws.length = prefs g := by rw [hrl2, ← prefs_len g, List.take_length]
        rw [e1] at hDs
        subst hK1
        have hys8 : ys8.length ≤ 3 := by
          rw [hDs.length, List.length_map]
          have := List.length_filter_le (fun p => decide (p ∉ Pk)) (prefs g)
          rw [prefs_len] at this
          omega
        have hlD := lo (lp, listOf pvs.toArray pn) (.tail _ (.head _))
        have N3 : News _ _ _ ((lp, listOf pvs.toArray pn) :: (Ia, oI) :: (D, lst ys8) :: (_, o5) :: K0) := News.sub N2 (fun e he => by
          rcases List.mem_cons.mp he with rfl | he
          · exact .tail _ (.tail _ (.head _))
          rcases List.mem_cons.mp he with rfl | he
          · exact .tail _ (.head _)
          rcases List.mem_cons.mp he with rfl | he
          · exact .head _
          · exact .tail _ (.tail _ (.tail _ he)))
        clear lo hkeep off8 hlK hcK hIK N2
        dsimp only
        (repeat' ( (fail_if_success (with_reducible first | show SegEnd _ _ _ _ _ _ _ _ | show SegX _ _ _ _ _ _ | show wpAny _ _ (eval (Expr.Lambda _ _ _ _) _) _ _ _ | show TurnEnd _ _ _ _ _ _ _ _ _ _ | show wpAny _ _ (eval (Expr.ListComp _ _ _ _) _) _ _ _ | show wpAny _ _ (exec (Stmt.For _ _ _ _ _) _) _ _ _ | show wpAny _ _ (exec (Stmt.Assign _ (Expr.ListComp _ _ _ _) _) _) _ _ _ | show wpAny _ _ (subscriptTail _ _ _ _) _ _ _ | show wpAny _ _ (PySem.call _ _ _) _ _ _ | show wpAny _ _ (compareOp _ (Value.ref _) _) _ _ _ | show wpAny _ _ (compareOp _ _ (Value.ref _)) _ _ _ | show wpAny _ _ (binaryOp _ (Value.ref _) _) _ _ _ | show wpAny _ _ (setItem _ _ _) _ _ _ | show wpAny _ _ (storeName _ "goal" _) _ _ _)); first | (k_unfold; (try dsimp only)) | walk1 | (dsimp only; walk1) | (leave1; (try dsimp only)) | fail "no step"))
        rename Fr _ _ _ _ => F4
        rename News _ _ _ _ => N4
        refine led_extend F4 N4 ?_ (List.Mem.tail _ (List.Mem.head _)) ?_ (by omega)
        · intro e he
          rcases List.mem_cons.mp he with rfl | he
          · exact fun q => off _ (.head _) q.symm
          rcases List.mem_cons.mp he with rfl | he
          · exact Nat.ne_of_gt hlD
          · exact Nat.ne_of_lt (hoff e he)
        clear F4 N4
        intro h9 n9 F9 N9
        dsimp only
        (repeat' ( (fail_if_success (with_reducible first | show SegEnd _ _ _ _ _ _ _ _ | show SegX _ _ _ _ _ _ | show wpAny _ _ (eval (Expr.Lambda _ _ _ _) _) _ _ _ | show TurnEnd _ _ _ _ _ _ _ _ _ _ | show wpAny _ _ (eval (Expr.ListComp _ _ _ _) _) _ _ _ | show wpAny _ _ (exec (Stmt.For _ _ _ _ _) _) _ _ _ | show wpAny _ _ (exec (Stmt.Assign _ (Expr.ListComp _ _ _ _) _) _) _ _ _ | show wpAny _ _ (subscriptTail _ _ _ _) _ _ _ | show wpAny _ _ (PySem.call _ _ _) _ _ _ | show wpAny _ _ (compareOp _ (Value.ref _) _) _ _ _ | show wpAny _ _ (compareOp _ _ (Value.ref _)) _ _ _ | show wpAny _ _ (binaryOp _ (Value.ref _) _) _ _ _ | show wpAny _ _ (setItem _ _ _) _ _ _ | show wpAny _ _ (storeName _ "goal" _) _ _ _)); first | (k_unfold; (try dsimp only)) | walk1 | (dsimp only; walk1) | (leave1; (try dsimp only)) | fail "no step"))
        rename Fr _ _ _ _ => F10
        refine TurnEnd.next _ ((lp, listOf (pvs ++ ys8).toArray n9) :: (_, o5) :: K0) F10 (News.sub N9 fun e he => ?_) (fun p hp => ?_) (fun e he => ?_) ⟨pvs ++ ys8, n9, ⟨rfl, rfl, rfl, rfl, trivial⟩, rfl, ?_⟩
        · rcases List.mem_cons.mp he with rfl | he
          · exact .tail _ (.head _)
          rcases List.mem_cons.mp he with rfl | he
          · exact .head _
          · exact .tail _ (.tail _ (.tail _ he))
        · rcases List.mem_cons.mp hp with rfl | hp
          · exact off (lp, listOf pvs.toArray pn) (.head _)
          · exact off _ (.tail _ hp)
        · rw [List.mem_singleton.mp he]
          exact .tail _ S.lr
        · rw [take_flat hki, firsts_add _ _ (prefs_nodup g), ← hPk, List.map_append]
          exact hDp.append hDs
    · clear F7 N6
      rintro m3 nx3 h3 tk3 ⟨pvs, pn, hm3, rfl, hDp⟩ hlm F1 N1
      replace F1 := hm3.fr F1
      rw [hrvl, List.take_length] at hDp
      have hPe := S.hP
      rw [List.append_nil] at hPe
      rw [← hPe] at hDp
      have hpok := S.pOk
      have hPl := S.pLen
      have htot := S.total
      have hord := S.ord
      have hthT : ∀ p d, thingAt things p = some d → IsThing d := fun p d hd => by
        unfold thingAt at hd
        obtain ⟨t', ht', rfl⟩ := Option.map_eq_some_iff.mp hd
        exact (S.hth t' (List.mem_of_find?_eq_some ht')).2.2
      have hrok : ∀ s ∈ rows, ∀ p ∈ s, WOk p := fun r hr p hp => by
        obtain ⟨g, rfl, hg, _⟩ := S.hrow r hr
        obtain ⟨q, _, rfl⟩ := mem_prefs.mp hp
        exact hg.take _
      have htok := kqdOk_told (P := P) (th := thingAt things) (fun p hp => (hpok p hp).1) hthT 4 []
      have hmp := merged_plain rows S.chains
      rw [← hPe] at hmp
      have hrow2 : kqdOk 2 (rowD P) = true := by
        simp only [rowD, kqdOk, List.all_eq_true]
        exact waysD_ok (fun p hp => (hpok p hp).1) 0
      have hth0 : thingAt things [] = none := by
        cases e : thingAt things [] with
        | none => rfl
        | some d => exact absurd (S.tr.thP _ _ e) S.tr.root
      obtain ⟨K1, hK1, N1⟩ := hideN N1
      obtain ⟨hlpK, hSK⟩ := in1 hK1
      have hcK := hSK _ hcm
      have hxK := hSK _ (S.sub _ hxI)
      have hdK := hSK _ (S.sub _ hdI)
      have hnK := hSK _ (S.sub _ hlnI)
      have hlrK := hSK _ S.lr
      have hltK := hSK _ S.lt
      have hIK : ∀ e ∈ I, e ∈ K1 := fun e he => hSK e (S.sub e he)
      clear hK1 hlm
      have NF := front4 N1 (fun _ h => h) hxK hdK hlpK hcK
      dsimp only
      (repeat' ( (fail_if_success (with_reducible first | show TurnEnd _ _ _ _ _ _ _ _ _ _ | show wpAny _ _ (eval (Expr.ListComp _ _ _ _) _) _ _ _ | show wpAny _ _ (eval (Expr.IfExp _ _ _ _) _) _ _ _ | show wpAny _ _ (exec (Stmt.If _ _ _ _) _) _ _ _ | show wpAny _ _ (exec (Stmt.For _ _ _ _ _) _) _ _ _ | show wpAny _ _ (exec (Stmt.Assign _ (Expr.ListComp _ _ _ _) _) _) _ _ _ | show wpAny _ _ (subscriptTail _ _ _ _) _ _ _ | show wpAny _ _ (PySem.call _ _ _) _ _ _ | show wpAny _ _ (compareOp _ (Value.ref _) _) _ _ _ | show wpAny _ _ (compareOp _ _ (Value.ref _)) _ _ _ | show wpAny _ _ (binaryOp _ (Value.ref _) _) _ _ _ | show wpAny _ _ (setItem _ _ _) _ _ _ | show wpAny _ _ (storeName _ "goal" _) _ _ _)); first | (k_unfold; (try dsimp only)) | walk1 | (dsimp only; walk1) | (leave1; (try dsimp only)) | fail "no step"))
      walk1
      (repeat' ( (fail_if_success (with_reducible first | show SegEnd _ _ _ _ _ _ _ _ | show SegX _ _ _ _ _ _ | show wpAny _ _ (eval (Expr.Lambda _ _ _ _) _) _ _ _ | show TurnEnd _ _ _ _ _ _ _ _ _ _ | show wpAny _ _ (eval (Expr.ListComp _ _ _ _) _) _ _ _ | show wpAny _ _ (exec (Stmt.For _ _ _ _ _) _) _ _ _ | show wpAny _ _ (exec (Stmt.Assign _ (Expr.ListComp _ _ _ _) _) _) _ _ _ | show wpAny _ _ (subscriptTail _ _ _ _) _ _ _ | show wpAny _ _ (PySem.call _ _ _) _ _ _ | show wpAny _ _ (compareOp _ (Value.ref _) _) _ _ _ | show wpAny _ _ (compareOp _ _ (Value.ref _)) _ _ _ | show wpAny _ _ (binaryOp _ (Value.ref _) _) _ _ _ | show wpAny _ _ (setItem _ _ _) _ _ _ | show wpAny _ _ (storeName _ "goal" _) _ _ _)); first | (k_unfold; (try dsimp only)) | walk1 | (dsimp only; walk1) | (leave1; (try dsimp only)) | fail "no step"))
      clear NF
      k_dflt (refine' Does0.use (merged_does _ K1 (.ref lr) rows (.list hlrK (S.dr.mono hIK)) hrok (by omega) (by omega)) ?k1 ?k2 ?k3 ?k4 ?k5 ?kK ?kd ?ku ?_; (((case k1 => k_asm); (case k2 => k_asm); (case k3 => k_asm); (case k4 => k_asm); (case k5 => k_asm); (case kK => first | exact rfl | assumption); (case kd => ktr_room); (case ku => ktr_units))))
      intro r h4 news4 tk4 F4 N4 hpost
      obtain ⟨tl4, rfl, hf4, hD4⟩ := hpost
      rw [hmp] at hD4
      have NF := front4 N4 (fun e he => List.mem_append_right _ he) hxK hdK hlpK hcK
      dsimp only
      (repeat' ( (fail_if_success (with_reducible first | show SegEnd _ _ _ _ _ _ _ _ | show SegX _ _ _ _ _ _ | show wpAny _ _ (eval (Expr.Lambda _ _ _ _) _) _ _ _ | show TurnEnd _ _ _ _ _ _ _ _ _ _ | show wpAny _ _ (eval (Expr.ListComp _ _ _ _) _) _ _ _ | show wpAny _ _ (exec (Stmt.For _ _ _ _ _) _) _ _ _ | show wpAny _ _ (exec (Stmt.Assign _ (Expr.ListComp _ _ _ _) _) _) _ _ _ | show wpAny _ _ (subscriptTail _ _ _ _) _ _ _ | show wpAny _ _ (PySem.call _ _ _) _ _ _ | show wpAny _ _ (compareOp _ (Value.ref _) _) _ _ _ | show wpAny _ _ (compareOp _ _ (Value.ref _)) _ _ _ | show wpAny _ _ (binaryOp _ (Value.ref _) _) _ _ _ | show wpAny _ _ (setItem _ _ _) _ _ _ | show wpAny _ _ (storeName _ "goal" _) _ _ _)); first | (k_unfold; (try dsimp only)) | walk1 | (dsimp only; walk1) | (leave1; (try dsimp only)) | fail "no step"))
      refine dat_ne (c := true) 2 2 (I := tl4 ++ K1) (I' := K1) N4 hD4 (.list hlpK (hDp.mono hIK)) (fun e he => he) (fun e he => List.mem_append_right _ he) hrow2 hrow2 (Nat.le_of_ble_eq_true rfl) (Nat.le_of_ble_eq_true rfl) ?_ (by simp only [rowD]) ?_
      · ktr_units
      simp only [Bool.not_true]
      replace N4 := News.sub N4 fun e he => List.mem_append_right _ he
      clear NF hD4 hf4
      have NF := front4 N4 (fun _ h => h) hxK hdK hlpK hcK
      (repeat' ( (fail_if_success (with_reducible first | show SegEnd _ _ _ _ _ _ _ _ | show SegX _ _ _ _ _ _ | show wpAny _ _ (eval (Expr.Lambda _ _ _ _) _) _ _ _ | show TurnEnd _ _ _ _ _ _ _ _ _ _ | show wpAny _ _ (eval (Expr.ListComp _ _ _ _) _) _ _ _ | show wpAny _ _ (exec (Stmt.For _ _ _ _ _) _) _ _ _ | show wpAny _ _ (exec (Stmt.Assign _ (Expr.ListComp _ _ _ _) _) _) _ _ _ | show wpAny _ _ (subscriptTail _ _ _ _) _ _ _ | show wpAny _ _ (PySem.call _ _ _) _ _ _ | show wpAny _ _ (compareOp _ (Value.ref _) _) _ _ _ | show wpAny _ _ (compareOp _ _ (Value.ref _)) _ _ _ | show wpAny _ _ (binaryOp _ (Value.ref _) _) _ _ _ | show wpAny _ _ (setItem _ _ _) _ _ _ | show wpAny _ _ (storeName _ "goal" _) _ _ _)); first | (k_unfold; (try dsimp only)) | walk1 | (dsimp only; walk1) | (leave1; (try dsimp only)) | fail "no step"))
      clear NF
      k_dflt (refine' Does.use (told_does _ _ I P (thingAt things) val (fun p hp => (hpok p hp).2.1) (by omega) hthT S.tr.toTree 3 [] d0 K1 rfl (.inl rfl) hth0 hv0 hSK hIK) ?k1 ?k2 ?k3 ?k4 ?k5 ?kK ?kd ?ku ?_; (((case k1 => k_asm); (case k2 => k_asm); (case k3 => k_asm); (case k4 => k_asm); (case k5 => k_asm); (case kK => first | exact rfl | assumption); (case kd => ktr_room); (case ku => ktr_units))))
      intro r5 h5 news5 tk5 F5 N5 hpost
      obtain ⟨tl5, rfl, hf5, hD5⟩ := hpost
      have hI5 : ∀ e ∈ tl5 ++ I, e ∈ tl5 ++ K1 := fun e he => (List.mem_append.mp he).elim (fun h => List.mem_append_left _ h) fun h => List.mem_append_right _ (hIK e h)
      have hK15 : ∀ e ∈ K1, e ∈ tl5 ++ K1 := fun e he => List.mem_append_right _ he
      obtain ⟨K2, hK2, N5⟩ := hideN N5
      rw [← hK2] at hI5 hK15
      clear hK2 hf5 N4 F4
      have NF := front4 N5 hK15 hxK hdK hlpK hcK
      dsimp only
      (repeat' ( (fail_if_success (with_reducible first | show SegEnd _ _ _ _ _ _ _ _ | show SegX _ _ _ _ _ _ | show wpAny _ _ (eval (Expr.Lambda _ _ _ _) _) _ _ _ | show TurnEnd _ _ _ _ _ _ _ _ _ _ | show wpAny _ _ (eval (Expr.ListComp _ _ _ _) _) _ _ _ | show wpAny _ _ (exec (Stmt.For _ _ _ _ _) _) _ _ _ | show wpAny _ _ (exec (Stmt.Assign _ (Expr.ListComp _ _ _ _) _) _) _ _ _ | show wpAny _ _ (subscriptTail _ _ _ _) _ _ _ | show wpAny _ _ (PySem.call _ _ _) _ _ _ | show wpAny _ _ (compareOp _ (Value.ref _) _) _ _ _ | show wpAny _ _ (compareOp _ _ (Value.ref _)) _ _ _ | show wpAny _ _ (binaryOp _ (Value.ref _) _) _ _ _ | show wpAny _ _ (setItem _ _ _) _ _ _ | show wpAny _ _ (storeName _ "goal" _) _ _ _)); first | (k_unfold; (try dsimp only)) | walk1 | (dsimp only; walk1) | (leave1; (try dsimp only)) | fail "no step"))
      clear NF
      k_dflt (refine' Does.use (laid_does _ K2 lp lth pvs tvs pn tn P things (hK15 _ hlpK) (hK15 _ hltK) ((hDp.mono hIK).mono hK15) ((S.dt.mono hIK).mono hK15) (by omega) (by omega) (fun p hp => (hpok p hp).1) (fun t ht => ⟨(S.hth t ht).1, (S.hth t ht).2.2⟩) S.tr.nodup (fun p hp => (hpok p hp).2.1) hord) ?k1 ?k2 ?k3 ?k4 ?k5 ?kK ?kd ?ku ?_; (((case k1 => k_asm); (case k2 => k_asm); (case k3 => k_asm); (case k4 => k_asm); (case k5 => k_asm); (case kK => first | exact rfl | assumption); (case kd => ktr_room); (case ku => ktr_units))))
      intro r6 h6 news6 tk6 F6 N6 hpost
      obtain ⟨tl6, T6, val6, a6, rfl, hf6, rfl, M6, hv6, hT6⟩ := hpost
      rw [thTo_all S.tr] at M6
      clear N5 F5
      dsimp only
      (repeat' ( (fail_if_success (with_reducible first | show SegEnd _ _ _ _ _ _ _ _ | show SegX _ _ _ _ _ _ | show wpAny _ _ (eval (Expr.Lambda _ _ _ _) _) _ _ _ | show TurnEnd _ _ _ _ _ _ _ _ _ _ | show wpAny _ _ (eval (Expr.ListComp _ _ _ _) _) _ _ _ | show wpAny _ _ (exec (Stmt.For _ _ _ _ _) _) _ _ _ | show wpAny _ _ (exec (Stmt.Assign _ (Expr.ListComp _ _ _ _) _) _) _ _ _ | show wpAny _ _ (subscriptTail _ _ _ _) _ _ _ | show wpAny _ _ (PySem.call _ _ _) _ _ _ | show wpAny _ _ (compareOp _ (Value.ref _) _) _ _ _ | show wpAny _ _ (compareOp _ _ (Value.ref _)) _ _ _ | show wpAny _ _ (binaryOp _ (Value.ref _) _) _ _ _ | show wpAny _ _ (setItem _ _ _) _ _ _ | show wpAny _ _ (storeName _ "goal" _) _ _ _)); first | (k_unfold; (try dsimp only)) | walk1 | (dsimp only; walk1) | (leave1; (try dsimp only)) | fail "no step"))
      k_dflt (refine' Does.use (told_does _ T6 K2 P (thingAt things) val6 (fun p hp => (hpok p hp).2.1) (by omega) hthT M6.toTree 3 [] a6 (tl6 ++ K2) rfl (.inl rfl) hth0 hv6 hT6 (fun e he => List.mem_append_right _ he)) ?k1 ?k2 ?k3 ?k4 ?k5 ?kK ?kd ?ku ?_; (((case k1 => k_asm); (case k2 => k_asm); (case k3 => k_asm); (case k4 => k_asm); (case k5 => k_asm); (case kK => first | exact rfl | assumption); (case kd => ktr_room); (case ku => ktr_units))))
      intro r7 h7 news7 tk7 F7 N7 hpost
      obtain ⟨tl7, rfl, hf7, hD7⟩ := hpost
      have hK27 : ∀ e ∈ K2, e ∈ tl7 ++ (tl6 ++ K2) := fun e he => List.mem_append_right _ (List.mem_append_right _ he)
      dsimp only
      refine dat_ne (c := true) (2 * 4 + 4) (2 * 4 + 4) (I := tl5 ++ I) (I' := tl7 ++ K2) N7 hD5 hD7 (fun e he => hK27 e (hI5 e he)) (fun e he => (List.mem_append.mp he).elim (fun h => List.mem_append_left _ h) fun h => hK27 e h) htok htok (Nat.le_of_ble_eq_true rfl) (Nat.le_of_ble_eq_true rfl) ?_ (by simp only) ?_
      · ktr_units
      simp only [Bool.not_true]
      replace N7 := News.sub N7 fun e he => hK27 e (hK15 e he)
      clear hD5 hD7 M6 hT6 hf6 hf7 hK27 hI5 hK15 N6 F6 hv6
      have NF := front4 N7 (fun _ h => h) hxK hdK hlpK hcK
      (repeat' ( (fail_if_success (with_reducible first | show SegEnd _ _ _ _ _ _ _ _ | show SegX _ _ _ _ _ _ | show wpAny _ _ (eval (Expr.Lambda _ _ _ _) _) _ _ _ | show TurnEnd _ _ _ _ _ _ _ _ _ _ | show wpAny _ _ (eval (Expr.ListComp _ _ _ _) _) _ _ _ | show wpAny _ _ (exec (Stmt.For _ _ _ _ _) _) _ _ _ | show wpAny _ _ (exec (Stmt.Assign _ (Expr.ListComp _ _ _ _) _) _) _ _ _ | show wpAny _ _ (subscriptTail _ _ _ _) _ _ _ | show wpAny _ _ (PySem.call _ _ _) _ _ _ | show wpAny _ _ (compareOp _ (Value.ref _) _) _ _ _ | show wpAny _ _ (compareOp _ _ (Value.ref _)) _ _ _ | show wpAny _ _ (binaryOp _ (Value.ref _) _) _ _ _ | show wpAny _ _ (setItem _ _ _) _ _ _ | show wpAny _ _ (storeName _ "goal" _) _ _ _)); first | (k_unfold; (try dsimp only)) | walk1 | (dsimp only; walk1) | (leave1; (try dsimp only)) | fail "no step"))
      have hpn := hDp.length
      rw [List.length_map] at hpn
      have hP0' : 0 < P.length := List.length_pos_iff.mpr hP0
      have hPz : ((P.length : Nat) : Int) ≠ 0 := by omega
      obtain ⟨nsx, hIy⟩ : ∃ nsx, IntsAre ys nsx := ⟨_, hIy⟩
      refine sumK (by rfl) F7 NF ⟨_, (NF _ (in4 hnK)).1, rfl, _, rfl⟩ hIy fun h8 tk8 t8 F8 N8 => ?_
      obtain ⟨zs, hzs⟩ : ∃ zs : Int, zs = nsx.sum := ⟨_, rfl⟩
      rw [← hzs]
      clear F7 NF hzs
      dsimp only
      (repeat' ( (fail_if_success (with_reducible first | show SegEnd _ _ _ _ _ _ _ _ | show SegX _ _ _ _ _ _ | show wpAny _ _ (eval (Expr.Lambda _ _ _ _) _) _ _ _ | show TurnEnd _ _ _ _ _ _ _ _ _ _ | show wpAny _ _ (eval (Expr.ListComp _ _ _ _) _) _ _ _ | show wpAny _ _ (exec (Stmt.For _ _ _ _ _) _) _ _ _ | show wpAny _ _ (exec (Stmt.Assign _ (Expr.ListComp _ _ _ _) _) _) _ _ _ | show wpAny _ _ (subscriptTail _ _ _ _) _ _ _ | show wpAny _ _ (PySem.call _ _ _) _ _ _ | show wpAny _ _ (compareOp _ (Value.ref _) _) _ _ _ | show wpAny _ _ (compareOp _ _ (Value.ref _)) _ _ _ | show wpAny _ _ (binaryOp _ (Value.ref _) _) _ _ _ | show wpAny _ _ (setItem _ _ _) _ _ _ | show wpAny _ _ (storeName _ "goal" _) _ _ _)); first | (k_unfold; (try dsimp only)) | walk1 | (dsimp only; walk1) | (leave1; (try dsimp only)) | fail "no step"))
      rename News _ _ _ _ => N9
      refine lst_len hpn N9 (in4 hlpK) (by omega) fun u9 tk9 => ?_
      (repeat' ( (fail_if_success (with_reducible first | show SegEnd _ _ _ _ _ _ _ _ | show SegX _ _ _ _ _ _ | show wpAny _ _ (eval (Expr.Lambda _ _ _ _) _) _ _ _ | show TurnEnd _ _ _ _ _ _ _ _ _ _ | show wpAny _ _ (eval (Expr.ListComp _ _ _ _) _) _ _ _ | show wpAny _ _ (exec (Stmt.For _ _ _ _ _) _) _ _ _ | show wpAny _ _ (exec (Stmt.Assign _ (Expr.ListComp _ _ _ _) _) _) _ _ _ | show wpAny _ _ (subscriptTail _ _ _ _) _ _ _ | show wpAny _ _ (PySem.call _ _ _) _ _ _ | show wpAny _ _ (compareOp _ (Value.ref _) _) _ _ _ | show wpAny _ _ (compareOp _ _ (Value.ref _)) _ _ _ | show wpAny _ _ (binaryOp _ (Value.ref _) _) _ _ _ | show wpAny _ _ (setItem _ _ _) _ _ _ | show wpAny _ _ (storeName _ "goal" _) _ _ _)); first | (k_unfold; (try dsimp only)) | walk1 | (dsimp only; walk1) | (leave1; (try dsimp only)) | fail "no step"))
      rename News _ _ _ _ => N10
      refine plain_item N10 (in4 hlpK) hDp hP0' (by omega) fun v1 q1 hv1 hq1 => ?_
      (repeat' ( (fail_if_success (with_reducible first | show SegEnd _ _ _ _ _ _ _ _ | show SegX _ _ _ _ _ _ | show wpAny _ _ (eval (Expr.Lambda _ _ _ _) _) _ _ _ | show TurnEnd _ _ _ _ _ _ _ _ _ _ | show wpAny _ _ (eval (Expr.ListComp _ _ _ _) _) _ _ _ | show wpAny _ _ (exec (Stmt.For _ _ _ _ _) _) _ _ _ | show wpAny _ _ (exec (Stmt.Assign _ (Expr.ListComp _ _ _ _) _) _) _ _ _ | show wpAny _ _ (subscriptTail _ _ _ _) _ _ _ | show wpAny _ _ (PySem.call _ _ _) _ _ _ | show wpAny _ _ (compareOp _ (Value.ref _) _) _ _ _ | show wpAny _ _ (compareOp _ _ (Value.ref _)) _ _ _ | show wpAny _ _ (binaryOp _ (Value.ref _) _) _ _ _ | show wpAny _ _ (setItem _ _ _) _ _ _ | show wpAny _ _ (storeName _ "goal" _) _ _ _)); first | (k_unfold; (try dsimp only)) | walk1 | (dsimp only; walk1) | (leave1; (try dsimp only)) | fail "no step"))
      rename News _ _ _ _ => N11
      refine lst_len hpn N11 (in4 hlpK) (by omega) fun u11 tk11 => ?_
      (repeat' ( (fail_if_success (with_reducible first | show SegEnd _ _ _ _ _ _ _ _ | show SegX _ _ _ _ _ _ | show wpAny _ _ (eval (Expr.Lambda _ _ _ _) _) _ _ _ | show TurnEnd _ _ _ _ _ _ _ _ _ _ | show wpAny _ _ (eval (Expr.ListComp _ _ _ _) _) _ _ _ | show wpAny _ _ (exec (Stmt.For _ _ _ _ _) _) _ _ _ | show wpAny _ _ (exec (Stmt.Assign _ (Expr.ListComp _ _ _ _) _) _) _ _ _ | show wpAny _ _ (subscriptTail _ _ _ _) _ _ _ | show wpAny _ _ (PySem.call _ _ _) _ _ _ | show wpAny _ _ (compareOp _ (Value.ref _) _) _ _ _ | show wpAny _ _ (compareOp _ _ (Value.ref _)) _ _ _ | show wpAny _ _ (binaryOp _ (Value.ref _) _) _ _ _ | show wpAny _ _ (setItem _ _ _) _ _ _ | show wpAny _ _ (storeName _ "goal" _) _ _ _)); first | (k_unfold; (try dsimp only)) | walk1 | (dsimp only; walk1) | (leave1; (try dsimp only)) | fail "no step"))
      rename News _ _ _ _ => N12
      refine lst_len hpn N12 (in4 hlpK) (by omega) fun u12 tk12 => ?_
      (repeat' ( (fail_if_success (with_reducible first | show SegEnd _ _ _ _ _ _ _ _ | show SegX _ _ _ _ _ _ | show wpAny _ _ (eval (Expr.Lambda _ _ _ _) _) _ _ _ | show TurnEnd _ _ _ _ _ _ _ _ _ _ | show wpAny _ _ (eval (Expr.ListComp _ _ _ _) _) _ _ _ | show wpAny _ _ (exec (Stmt.For _ _ _ _ _) _) _ _ _ | show wpAny _ _ (exec (Stmt.Assign _ (Expr.ListComp _ _ _ _) _) _) _ _ _ | show wpAny _ _ (subscriptTail _ _ _ _) _ _ _ | show wpAny _ _ (PySem.call _ _ _) _ _ _ | show wpAny _ _ (compareOp _ (Value.ref _) _) _ _ _ | show wpAny _ _ (compareOp _ _ (Value.ref _)) _ _ _ | show wpAny _ _ (binaryOp _ (Value.ref _) _) _ _ _ | show wpAny _ _ (setItem _ _ _) _ _ _ | show wpAny _ _ (storeName _ "goal" _) _ _ _)); first | (k_unfold; (try dsimp only)) | walk1 | (dsimp only; walk1) | (leave1; (try dsimp only)) | fail "no step"))
      rename News _ _ _ _ => N12
      refine plain_item N12 (in4 hlpK) hDp hP0' (by omega) fun v2 q2 hv2 hq2 => ?_
      (repeat' ( (fail_if_success (with_reducible first | show SegEnd _ _ _ _ _ _ _ _ | show SegX _ _ _ _ _ _ | show wpAny _ _ (eval (Expr.Lambda _ _ _ _) _) _ _ _ | show TurnEnd _ _ _ _ _ _ _ _ _ _ | show wpAny _ _ (eval (Expr.ListComp _ _ _ _) _) _ _ _ | show wpAny _ _ (exec (Stmt.For _ _ _ _ _) _) _ _ _ | show wpAny _ _ (exec (Stmt.Assign _ (Expr.ListComp _ _ _ _) _) _) _ _ _ | show wpAny _ _ (subscriptTail _ _ _ _) _ _ _ | show wpAny _ _ (PySem.call _ _ _) _ _ _ | show wpAny _ _ (compareOp _ (Value.ref _) _) _ _ _ | show wpAny _ _ (compareOp _ _ (Value.ref _)) _ _ _ | show wpAny _ _ (binaryOp _ (Value.ref _) _) _ _ _ | show wpAny _ _ (setItem _ _ _) _ _ _ | show wpAny _ _ (storeName _ "goal" _) _ _ _)); first | (k_unfold; (try dsimp only)) | walk1 | (dsimp only; walk1) | (leave1; (try dsimp only)) | fail "no step"))
      refine For_open ?_
      (repeat' ( (fail_if_success (with_reducible first | show SegEnd _ _ _ _ _ _ _ _ | show SegX _ _ _ _ _ _ | show wpAny _ _ (eval (Expr.Lambda _ _ _ _) _) _ _ _ | show TurnEnd _ _ _ _ _ _ _ _ _ _ | show wpAny _ _ (eval (Expr.ListComp _ _ _ _) _) _ _ _ | show wpAny _ _ (exec (Stmt.For _ _ _ _ _) _) _ _ _ | show wpAny _ _ (exec (Stmt.Assign _ (Expr.ListComp _ _ _ _) _) _) _ _ _ | show wpAny _ _ (subscriptTail _ _ _ _) _ _ _ | show wpAny _ _ (PySem.call _ _ _) _ _ _ | show wpAny _ _ (compareOp _ (Value.ref _) _) _ _ _ | show wpAny _ _ (compareOp _ _ (Value.ref _)) _ _ _ | show wpAny _ _ (binaryOp _ (Value.ref _) _) _ _ _ | show wpAny _ _ (setItem _ _ _) _ _ _ | show wpAny _ _ (storeName _ "goal" _) _ _ _)); first | (k_unfold; (try dsimp only)) | walk1 | (dsimp only; walk1) | (leave1; (try dsimp only)) | fail "no step"))
      rename News _ _ _ _ => N13
      rename Fr _ _ _ _ => F13
      obtain ⟨K3, hK3, N13⟩ := hideN N13
      obtain ⟨hl3, ht2, ht1, hK13⟩ := in7 hK3
      clear hK3 N1
      refine ForAt_list (vs := [_, _]) (n := 0) (by rfl) F13 N13 hl3 (.inr ⟨⟨_, _, _, rfl⟩, fun v hv => by
        rcases List.mem_cons.mp hv with rfl | hv
        · exact ⟨_, rfl⟩
        · exact ⟨_, List.mem_singleton.mp hv⟩⟩) (fun k m nx => Has m [(Str.ofString "rows", .ref lr)] ∧ nx = K3) ⟨⟨rfl, trivial⟩, rfl⟩ ?_ ?_
      ·
        clear F13 N13
        rintro k v m4 nx4 h14 tk14 Ia oI hkv ⟨hm4, rfl⟩ hl4 F1 N1 off
        replace F1 := hm4.fr F1
        obtain ⟨D, va, vb, qa, qb, rfl, htu, hva, hvb, hqa, hqb⟩ := two_at ht1 ht2 hv1 hv2 hq1 hq2 hkv
        clear ht1 ht2 hv1 hv2 hq1 hq2 hkv
        replace N1 := front4 N1 (fun _ h => h) (.head _) (.tail _ htu) (.tail _ (hK13 _ hlpK)) (.tail _ (hK13 _ hcK))
        dsimp only
        (repeat' ( (fail_if_success (with_reducible first | show SegEnd _ _ _ _ _ _ _ _ | show SegX _ _ _ _ _ _ | show wpAny _ _ (eval (Expr.Lambda _ _ _ _) _) _ _ _ | show TurnEnd _ _ _ _ _ _ _ _ _ _ | show wpAny _ _ (eval (Expr.ListComp _ _ _ _) _) _ _ _ | show wpAny _ _ (exec (Stmt.For _ _ _ _ _) _) _ _ _ | show wpAny _ _ (exec (Stmt.Assign _ (Expr.ListComp _ _ _ _) _) _) _ _ _ | show wpAny _ _ (subscriptTail _ _ _ _) _ _ _ | show wpAny _ _ (PySem.call _ _ _) _ _ _ | show wpAny _ _ (compareOp _ (Value.ref _) _) _ _ _ | show wpAny _ _ (compareOp _ _ (Value.ref _)) _ _ _ | show wpAny _ _ (binaryOp _ (Value.ref _) _) _ _ _ | show wpAny _ _ (setItem _ _ _) _ _ _ | show wpAny _ _ (storeName _ "goal" _) _ _ _)); first | (k_unfold; (try dsimp only)) | walk1 | (dsimp only; walk1) | (leave1; (try dsimp only)) | fail "no step"))
        rename News _ _ _ _ => N15
        rename Fr _ _ _ _ => F15
        refine kmk_add_lit F15 N15 (a := lr) ⟨_, (N15 _ (.tail _ (.tail _ (.tail _ (.tail _ (.tail _ (.tail _ (.tail _ (hK13 _ hlrK))))))))).1, rfl, _, rfl⟩ ⟨_, (N15 _ (.head _)).1, rfl, _, rfl⟩ rfl ?_ (by
          have : rvs.length + 1 ≤ 16777216 := by omega
          rw [sizeLine_eq]
          exact this)
        clear F15
        intro D9 h16 F16 N16 lo16
        obtain ⟨K4, hK4, N16⟩ := hideN N16
        obtain ⟨hD9, hD8, hIa4, hK34⟩ := in8 hK4
        clear hK4 lo16 N15
        have hI4 : ∀ e ∈ I, e ∈ K4 := fun e he => hK34 _ (hK13 _ (hIK e he))
        have hrows := rows_more hD9 hD8 S.dr hI4 hva hvb
        obtain ⟨j, hj, hno⟩ := first_at S.tr.nodup hqa
        have hoa := hpok qa hqa
        have hob := hpok qb hqb
        have hmm := merged_more rows S.chains qa qb hob.2.2 (by rw [← mem_firsts, ← hPe]; exact hqb) j (by rw [← hPe]; exact hj)
        rw [← hPe] at hmm
        have hrok2 : ∀ s ∈ rows ++ [[qa, qb]], ∀ p ∈ s, WOk p := fun r hr p hp => by
          rcases List.mem_append.mp hr with hr | hr
          · exact hrok r hr p hp
          · rw [List.mem_singleton.mp hr] at hp
            rcases List.mem_cons.mp hp with rfl | hp
            · exact hoa.1
            · rw [List.mem_singleton.mp hp]; exact hob.1
        have hlen2 : (rows ++ [[qa, qb]]).length ≤ 900 := by rw [List.length_append, List.length_singleton]; omega
        have htot2 : total (rows ++ [[qa, qb]]) ≤ 900 := by
          have : ([qa, qb] : Row).length = 2 := rfl
          rw [total_snoc, this]
          omega
        dsimp only
        (repeat' ( (fail_if_success (with_reducible first | show SegEnd _ _ _ _ _ _ _ _ | show SegX _ _ _ _ _ _ | show wpAny _ _ (eval (Expr.Lambda _ _ _ _) _) _ _ _ | show TurnEnd _ _ _ _ _ _ _ _ _ _ | show wpAny _ _ (eval (Expr.ListComp _ _ _ _) _) _ _ _ | show wpAny _ _ (exec (Stmt.For _ _ _ _ _) _) _ _ _ | show wpAny _ _ (exec (Stmt.Assign _ (Expr.ListComp _ _ _ _) _) _) _ _ _ | show wpAny _ _ (subscriptTail _ _ _ _) _ _ _ | show wpAny _ _ (PySem.call _ _ _) _ _ _ | show wpAny _ _ (compareOp _ (Value.ref _) _) _ _ _ | show wpAny _ _ (compareOp _ _ (Value.ref _)) _ _ _ | show wpAny _ _ (binaryOp _ (Value.ref _) _) _ _ _ | show wpAny _ _ (setItem _ _ _) _ _ _ | show wpAny _ _ (storeName _ "goal" _) _ _ _)); first | (k_unfold; (try dsimp only)) | walk1 | (dsimp only; walk1) | (leave1; (try dsimp only)) | fail "no step"))
        k_dflt (refine' Does0.use (merged_does _ K4 (.ref D9) (rows ++ [[qa, qb]]) hrows hrok2 hlen2 htot2) ?k1 ?k2 ?k3 ?k4 ?k5 ?kK ?kd ?ku ?_; (((case k1 => k_asm); (case k2 => k_asm); (case k3 => k_asm); (case k4 => k_asm); (case k5 => k_asm); (case kK => first | exact rfl | assumption); (case kd => ktr_room); (case ku => ktr_units))))
        intro r17 h17 news17 tk17 F17 N17 hpost
        obtain ⟨tl17, rfl, hf17, hD17⟩ := hpost
        rw [hmm] at hD17
        clear hf17 F16 N16 hrows hmm
        obtain ⟨K5, hK5, N17⟩ := hideN N17
        rw [← hK5] at hD17
        have hK45 : ∀ e ∈ K4, e ∈ K5 := fun e he => by rw [hK5]; exact List.mem_append_right _ he
        clear hK5
        have hI5 : ∀ e ∈ I, e ∈ K5 := fun e he => hK45 _ (hI4 e he)
        have hlp5 := hK45 _ (hK34 _ (hK13 _ hlpK))
        have NF := front4 N17 hK45 hIa4 hD9 (hK34 _ (hK13 _ hlpK)) (hK34 _ (hK13 _ hcK))
        dsimp only
        (repeat' ( (fail_if_success (with_reducible first | show SegEnd _ _ _ _ _ _ _ _ | show SegX _ _ _ _ _ _ | show wpAny _ _ (eval (Expr.Lambda _ _ _ _) _) _ _ _ | show TurnEnd _ _ _ _ _ _ _ _ _ _ | show wpAny _ _ (eval (Expr.ListComp _ _ _ _) _) _ _ _ | show wpAny _ _ (exec (Stmt.For _ _ _ _ _) _) _ _ _ | show wpAny _ _ (exec (Stmt.Assign _ (Expr.ListComp _ _ _ _) _) _) _ _ _ | show wpAny _ _ (subscriptTail _ _ _ _) _ _ _ | show wpAny _ _ (PySem.call _ _ _) _ _ _ | show wpAny _ _ (compareOp _ (Value.ref _) _) _ _ _ | show wpAny _ _ (compareOp _ _ (Value.ref _)) _ _ _ | show wpAny _ _ (binaryOp _ (Value.ref _) _) _ _ _ | show wpAny _ _ (setItem _ _ _) _ _ _ | show wpAny _ _ (storeName _ "goal" _) _ _ _)); first | (k_unfold; (try dsimp only)) | walk1 | (dsimp only; walk1) | (leave1; (try dsimp only)) | fail "no step"))
        clear NF
        k_dflt (refine' Does.use (more_does _ K5 lp pvs pn P qa qb va vb j hlp5 (hDp.mono hI5) (hva.mono hI5) (hvb.mono hI5) (by omega) (fun p hp => (hpok p hp).1) hoa.1 hob.1 (fun p hp => (hpok p hp).2.1) hoa.2.1 hob.2.1 hj hno) ?k1 ?k2 ?k3 ?k4 ?k5 ?kK ?kd ?ku ?_; (((case k1 => k_asm); (case k2 => k_asm); (case k3 => k_asm); (case k4 => k_asm); (case k5 => k_asm); (case kK => first | exact rfl | assumption); (case kd => ktr_room); (case ku => ktr_units))))
        intro r18 h18 news18 tk18 F18 N18 hpost
        obtain ⟨tl18, rfl, hf18, hD18⟩ := hpost
        dsimp only
        have hkm := kqdOk_more (P := P) (j := j) (f := qa) (s := qb) fun p hp => (hpok p hp).1
        refine dat_ne (c := true) 2 2 (I := K5) (I' := tl18 ++ K5) N18 hD17 hD18 (fun e he => List.mem_append_right _ he) (fun e he => he) hkm hkm (Nat.le_of_ble_eq_true rfl) (Nat.le_of_ble_eq_true rfl) ?_ (by simp only) ?_
        · ktr_units
        simp only [Bool.not_true]
        have N19 : News _ _ _ ((Ia, oI) :: nx4) := News.sub N18 (fun e he => by
          rcases List.mem_cons.mp he with rfl | he
          · exact List.mem_append_right _ (hK45 _ hIa4)
          · exact List.mem_append_right _ (hK45 _ (hK34 _ he)))
        clear N18 hD17 hD18 hf18
        (repeat' ( (fail_if_success (with_reducible first | show SegEnd _ _ _ _ _ _ _ _ | show SegX _ _ _ _ _ _ | show wpAny _ _ (eval (Expr.Lambda _ _ _ _) _) _ _ _ | show TurnEnd _ _ _ _ _ _ _ _ _ _ | show wpAny _ _ (eval (Expr.ListComp _ _ _ _) _) _ _ _ | show wpAny _ _ (exec (Stmt.For _ _ _ _ _) _) _ _ _ | show wpAny _ _ (exec (Stmt.Assign _ (Expr.ListComp _ _ _ _) _) _) _ _ _ | show wpAny _ _ (subscriptTail _ _ _ _) _ _ _ | show wpAny _ _ (PySem.call _ _ _) _ _ _ | show wpAny _ _ (compareOp _ (Value.ref _) _) _ _ _ | show wpAny _ _ (compareOp _ _ (Value.ref _)) _ _ _ | show wpAny _ _ (binaryOp _ (Value.ref _) _) _ _ _ | show wpAny _ _ (setItem _ _ _) _ _ _ | show wpAny _ _ (storeName _ "goal" _) _ _ _)); first | (k_unfold; (try dsimp only)) | walk1 | (dsimp only; walk1) | (leave1; (try dsimp only)) | fail "no step"))
        rename Fr _ _ _ _ => F20
        refine TurnEnd.next _ nx4 F20 N19 off (by intro e he; rw [List.mem_singleton.mp he]; exact hl4) ⟨⟨rfl, trivial⟩, rfl⟩
      · clear F13 N13
        rintro m4 nx4 h14 tk14 ⟨hm4, rfl⟩ hl4 F1 N1
        replace F1 := hm4.fr F1
        walk1
        walk1
        walk1
        walk1
        dsimp only
        k_unfold
        refine ⟨?_, GrownAt.of N1 (hK13 _ (hSK _ h107)), trivial⟩
        dsimp only
        kc_close)
end
end Mine
end
theorem PySem.Challenge.cw_ij0018_01_holds : PySem.Challenge.rw_ij0018_01.Holds := by
  exact Mine.law_holds
