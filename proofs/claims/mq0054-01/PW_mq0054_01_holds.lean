import PyProof.Rows.All
import Wide.All
import OpenK.AllK
import Wide.FinOn
import PySem.Challenge.RW_mq0054_01
open PySem PySem.W PyProof.Rows PySem.Calls PySem.Spec
set_option Elab.async false
set_option maxRecDepth 100000
set_option maxHeartbeats 8000000
/-! The law of replace, by hand: a contract for each def (what a call of it gives back, from any frame), the law's own body in four segments, the plain law apart (sub1, sub2: one sign, two signs replaced; wrN: the page written; rdN: the text read back). -/
namespace Mine
open_top hd for PySem.Challenge.rw_mq0054_01
theorem warm : (Mine.hd.heap_39 = Mine.hd.heap_39) ∧ (Challenge.rw_mq0054_01 = Challenge.rw_mq0054_01) := by
  w_on
  k_fill
  exact ⟨rfl, rfl⟩

section PartRep0
theorem rep_bind {K : Frag} {S : Setting} {nm qn : Str} {body : List Stmt} {sc : Scope} {pmV cdv ct : Value} {p1 p2 : Pos} (x : Str) (tk : Tok) (vs : List Value) (hv : vs.length ≤ 1000) :
  peek1 K S (bindArgs
        (fnOf nm qn
          { posonlyargs := [],
            args :=
              [{ arg := Str.ofString "text", annotation := none,
                  pos := p1 }],
            vararg :=
              some
                { arg := Str.ofString "pairs", annotation := none,
                  pos := p2 },
            kwonlyargs := [], kw_defaults := [], kwarg := none, defaults := [] }
          body sc
          Value.none Value.none Value.none pmV none cdv ct)
        { pos := Value.str x tk :: vs }) = some ({ cls := Value.type "tuple", data := Data.seq vs.toArray }, fun D => some [(Str.ofString "text", Value.str x tk), (Str.ofString "pairs", .ref D)]) := by
  unfold bindArgs
  simp only [fnOf, List.map_nil, List.map_cons, List.nil_append, List.length_cons, List.length_nil, Option.isNone, Bool.and_false, Bool.false_eq_true, if_false, List.zip_cons_cons, List.zip_nil_left]
  show peek1 K S (newTuple vs >>= fun v => pure [(Str.ofString "text", Value.str x tk), (Str.ofString "pairs", v)]) = _
  unfold newTuple newObj
  have hn : ¬ vs.toArray.size > sizeLine := by
    have : (1000 : Nat) ≤ sizeLine := by decide
    simp; omega
  simp only [if_neg hn]
  rfl

section
variable {prog : Program} {w : World} {A : Around} {E : Value → Shared → Prop} {s : Shared}
theorem tup_out {value slice : Expr} {t : Addr} {items : Array Value} {n : Nat} {k : Int} {u : Tok} {Q : Value → Shared → Prop} (hA : A.handled = none)
    (ht : s.heap.get? t = some { cls := .type "tuple", data := .seq items n }) (hlo : -2 ^ 63 ≤ k) (hhi : k < 2 ^ 63) (hk : seqIndex? k items.size = none)
    (hE : ∀ h' tk e, Heap.NewExc s.heap h' e "IndexError" → E (.ref e) { s with heap := h', toks := tk })
    (hs : subscripted slice false (.ref t) (.int k u) = operate [.ref t, .int k u] (getItem (.ref t) (.int k u)) := by with_unfolding_all rfl) :
    wpAny (model prog w) A (subscriptTail value slice (.ref t) (.int k u)) Q E s :=
  tail_any (T := "tuple") ⟨_, ht, rfl⟩ slot_tuple_getitem.lookup
    (getItem_meets ⟨_, ht, rfl⟩ (by decide) F.slot_tuple_getitem F.entry_tuple_getitem (F.args_tuple_getitem_2 _ _) (MeetsSeq.tuple_getitem_out t items n k u hlo hhi hk) ⟨ht, hA, fun h' tk e hx => hE h' tk e hx⟩) hs
end
theorem news_sub {h₀ h : Heap} {L : Addr} {a b : List (Addr × Obj)} (N : News h₀ L h a) (hs : ∀ p ∈ b, p ∈ a) : News h₀ L h b := fun p hp => N p (hs p hp)
end PartRep0

section PartRep1
theorem two_map {m : Str → Option Value} {x y : Str} {u v : Value} (hx : m x = some u) (hy : m y = some v) :
    m = fun z => if z = x then some u else if z = y then some v else m z := by
  funext z
  by_cases h1 : z = x
  · subst h1; simp [hx]
  · by_cases h2 : z = y
    · subst h2; simp [h1, hy]
    · simp [h1, h2]

/-- what replace gives back -/
def repAll : Str → List Str → Str
  | x, a :: b :: r => repAll (Txt.join b (Txt.split x a)) r
  | x, _ => x

/-- each step of replace stays within the model's sizes -/
def RepOk : Str → List Str → Prop
  | x, a :: b :: r => (a.length == 0) = false ∧ x.length + 2 ≤ sizeLine ∧ b.length ≤ 16 ∧ ((Txt.split x a).map (·.length)).sum + (Txt.split x a).length ≤ 1048576 ∧ RepOk (Txt.join b (Txt.split x a)) r
  | _, _ => True

def repJ (news : List (Addr × Obj)) (x : Str) (ws₀ : List Str) (n : Nat) (m₁ : Str → Option Value) (news₁ : List (Addr × Obj)) : Prop :=
  ∃ (y : Str) (t : Tok) (D : Addr) (us : List Value) (ws : List Str), n = us.length ∧ m₁ (Str.ofString "text") = some (.str y t) ∧ m₁ (Str.ofString "pairs") = some (.ref D) ∧
   news₁ = (D, ({ cls := .type "tuple", data := .seq us.toArray } : Obj)) :: news ∧ StrsAre us ws ∧ us.length ≤ 1000 ∧ repAll y ws = repAll x ws₀ ∧ RepOk y ws ∧ ws.length % 2 = ws₀.length % 2

theorem rep_call {w : World} {mean : ExcName → Option Value} {mg mb : Str → Option Value} (dp un : Nat) (gd : Option (List Code)) (cn : Str) (cs : Scope) (a : Addr) (ccd : Value) (cl : List (Str × Addr)) (outer : List Env) (A₀ : Around) (base h₀ : Heap) (L : Addr) (m : Str → Option Value) (news : List (Addr × Obj)) (s : Shared) (Q E : Value → Shared → Prop) (x : Str) (tk : Tok) (vs : List Value) (ws : List Str) (hvs : StrsAre vs ws) (hv : vs.length ≤ 1000) (hok : RepOk x ws)
    (B : Below A₀ base outer h₀) (F : Fr h₀ L s.heap m) (X : (Mine.hd.heap_39 w.params).In h₀) (N : News h₀ L s.heap news) (T : Top Mine.hd.view_39 (looseW Mine.hd.view_39 []) mean mg mb h₀) (hk : cs.kind = .function) (hd : dp + 3 < recursionLimit) (hu : un + 24 < cLine)
    (ret : ws.length % 2 = 0 → ∀ t h' tk', Fr h₀ L h' m → News h₀ L h' news → Q (.str (repAll x ws) t) { s with heap := h', toks := tk' })
    (exc : ws.length % 2 = 1 → ∀ e h₁ h' tk', Fr h₀ L h₁ m → h₁.UpToSlots h' → RaisedN base (envX cn cs L a ccd cl :: outer) e (.type "IndexError") news h' → E (.ref e) { s with heap := h', toks := tk' }) :
    wpAny (model Challenge.rw_mq0054_01.row.prog w) (ktrTop dp un gd cn cs L a ccd cl outer) (call (.ref 21) (.str x tk :: vs)) Q E s := by
  refine wpAny_call ?_
  k_dflt (refine' kp_rest (vs := vs) ?k1 ?k2 ?k3 ?k4 ?k5 ?kA ?kF ?kK ?k6 ?k7 ?k8 ?kV ?kP ?kG ?kB ?_ ?c2 ?c3 ?c4 ?c5; (case kA => exact rfl); (case kF => exact rfl); (case kK => assumption); (case k1 => k_asm); (case k2 => k_asm); (case k3 => k_asm); (case k4 => k_asm); (case k5 => k_asm); (case k6 => k_is); (case k7 => k_is); (case k8 => ktr_room); (case kV => rfl); (case kP => exact rep_bind x tk vs hv); (case kG => exact fun _ => rfl); (case kB => exact fun _ => locs rfl); (case c5 => decide); (case c2 => exact rfl); (case c3 => exact rfl); (case c4 => exact rfl); k_whole; intro D' g' L' h' l1 FG' F' N' B' X' T')
  refine wpAny_execs_cons ?_
  refine' While_inv2 (repJ news x ws) (n₀ := vs.length) ?hF ?hN ?hJ ?_ ?hE
  case hF => exact F'
  case hN => exact N'
  case hJ => exact ⟨x, _, D', vs, ws, rfl, rfl, rfl, rfl, hvs, hv, rfl, hok, rfl⟩
  case hE => first | passes_own | with_unfolding_all passes_own
  rintro n m₁ news₁ h₁ tk₁ F₁ N₁ ⟨y, t, D, us, ws', rfl, ht, hp, rfl, hus, hlen, hrep, hok', hpar⟩
  rw [two_map ht hp] at F₁
  repeat ((fail_if_success (first | (with_reducible show wpAny _ _ (truthy _) _ _ _))); walk1)
  refine ktl_truthyK N₁ (List.Mem.head _) hlen ?_
  cases hus with
  | nil =>
    refine W.ite_neg (show ¬ (false = true) from Bool.false_ne_true) ?_
    dsimp only
    repeat walk1
    have hz : ws.length % 2 = 0 := by rw [← hpar]; rfl
    rename Fr h₀ L _ m => kF
    rename News h₀ L _ _ => kN
    have hfin := fun tz => ret hz t h₁ tz kF (news_sub kN fun p hp => List.Mem.tail _ hp)
    rw [← hrep] at hfin
    exact hfin _
  | cons a ta hus =>
    cases hus with
    | nil =>
      refine W.ite_pos (show true = true from rfl) ?_
      dsimp only
      repeat ((fail_if_success (first | (with_reducible show wpAny _ _ (subscriptTail _ _ _ _) _ _ _))); walk1)
      refine tup_out rfl (N₁ _ (List.Mem.head _)).1 (by decide) (by decide) (by rfl) ?_
      intro hx tx ex hnew
      dsimp only
      refine leave_newK B' hnew F₁ N₁ ?_
      intro h₆ hR hU
      dsimp only
      have ho : ws.length % 2 = 1 := by rw [← hpar]; rfl
      refine exc ho ex g' h₆ tx FG' hU ?_
      obtain ⟨Bh, a0, hB, hl, hfl⟩ := hR
      exact ⟨Bh, a0, hB, fun q hq => hl q (List.Mem.tail _ hq), hfl⟩
    | cons b tb hus =>
      refine W.ite_pos (show true = true from rfl) ?_
      dsimp only
      try k_fold
      repeat ((fail_if_success (first | (with_reducible show wpAny _ _ (subscriptTail _ _ _ _) _ _ _))); walk1)
      refine item_tupleT (j := 1) (News.isTup N₁ (List.Mem.head _)) (by decide) (by decide) (by simp [seqIndex?]; try omega) rfl ?_
      dsimp only
      repeat ((fail_if_success (first | (with_reducible show wpAny _ _ (subscriptTail _ _ _ _) _ _ _))); walk1)
      refine item_tupleT (j := 0) (News.isTup N₁ (List.Mem.head _)) (by decide) (by decide) (by simp [seqIndex?]; try omega) rfl ?_
      dsimp only
      repeat ((fail_if_success (first | (with_reducible show wpAny _ _ (call (Value.builtin "str.split") _) _ _ _))); walk1)
      obtain ⟨ok1, ok2, ok3, ok4, ok5⟩ := hok'
      refine KSpl.split1 F₁ N₁ ok1 ?_ ok2
      intro D₂ l₂ h₂ k₂ e₂ S₂ F₂ N₂ hlt₂
      dsimp only
      repeat ((fail_if_success (first | (with_reducible show wpAny _ _ (call (Value.builtin "str.join") _) _ _ _))); walk1)
      rw [← e₂] at ok4
      refine join_listW (News.isList N₂ (List.Mem.head _)) S₂ ok3 ok4 ?_
      rw [e₂]
      intro t₃ k₃
      dsimp only
      repeat ((fail_if_success (first | (with_reducible show wpAny _ _ (subscriptTail _ _ _ _) _ _ _))); walk1)
      rename Fr g' L' _ _ => F₄
      rename News g' L' _ _ => N₄
      refine slice_tuple_from (a := 2) F₄ N₄ (News.isTup N₄ (List.Mem.tail _ (List.Mem.head _))) (by omega) (by simp) ?_ (hsz := ?_)
      · intro h₅ F₅ N₅
        dsimp only
        repeat walk1
        rename Fr g' L' _ _ => F₆
        rename News g' L' _ _ => N₆
        refine ⟨_, _, _, _, _, rfl, F₆, news_sub N₆ (b := (_, _) :: news) ?_, ?_, ⟨_, _, _, _, _, rfl, rfl, rfl, rfl, hus, ?_, hrep, ok5, ?_⟩⟩
        · intro p hp
          rcases List.mem_cons.mp hp with rfl | hp
          · exact List.Mem.head _
          · exact List.Mem.tail _ (List.Mem.tail _ (List.Mem.tail _ hp))
        · simp; omega
        · simp only [List.length_cons] at hlen; omega
        · simp only [List.length_cons] at hpar; omega
      · simp only [List.size_toArray]
        have : (1000 : Nat) ≤ sizeLine := by decide
        omega
end PartRep1

section PartComp1
section
variable {prog : Program} {w : World} {A : Around} {E : Value → Shared → Prop} {s : Shared} {h₀ : Heap} {L : Addr} {m : Str → Option Value} {env : Env}
theorem striter_frame {I : Addr} {T : String} {tx : Str} {t : Tok} {i : Nat} {h h' : Heap} {o : Obj} (st : h.IsStrIter I T tx t i) (e : h.get? I = some o) (e' : h'.get? I = some o) : h'.IsStrIter I T tx t i := by
  obtain ⟨o', q, r⟩ := st
  rw [e] at q
  cases q
  exact ⟨o, e', r⟩

/-- a list comprehension over the signs of a text -/
theorem ListComp_S {elt iter : Expr} {x : Str} {px : Pos} {scope : Scope} {cl : List (Str × Addr)} {pos : Pos} {Q : Value → Shared → Prop} (F₀ : Fr h₀ L s.heap m)
    (hclos : closureFor scope env = pure cl) (hcell : ∀ y ∈ scope.names, y.2 ≠ .cell) (hkind : scope.kind = .function)
    (hnames : ∀ y ∈ scope.names, y.2 = .local → scope.names.lookup y.1 = some .local) (hx : scope.names.lookup x = some .local)
    (h : wpAny (model prog w) A (eval iter env) (fun xv s₁ => ∃ tx tt news, xv = .str tx tt ∧ A.handled = none ∧ Fr h₀ L s₁.heap m ∧ News h₀ L s₁.heap news ∧ tx.cps.size ≤ sizeLine ∧
      ∀ s₂ : Shared, (∃ h, s₂ = { s₁ with heap := h }) → LCg.CompRest prog w A h₀ L m env elt x scope cl s₂ (fun _ => True) (SignAt tx) (LCg.FinE h₀ L m s₂ Q) tx.cps.size 0 [] news) E s)
    (hs : ∀ x, foldedSetIterable iter env x = pure x := by intro _; rfl) :
    wpAny (model prog w) A (eval (.ListComp elt [⟨.Name x px, iter, [], 0⟩] scope pos) env) Q E s := by
  rw [eval_ListComp]
  refine wpAny_comprehension_free (use := none) rfl hs hclos hkind hnames (wpAny_mono h (fun xv s₁ h₁ => ?_) fun _ _ e => e)
  obtain ⟨tx, tt, news, rfl, hh, F, N, hsz, R⟩ := h₁
  cases ha : tx.cps.all (· < 128)
  · refine wpAny_pyIter_wide ha ?_
    refine LCg.block_U (Walks.strWide hh _ tx tt) hsz (fun i h st => by obtain ⟨o, e, _⟩ := st; exact ⟨o, e⟩) (fun i h h' o nw st e e' _ _ _ => striter_frame st e e') hcell hkind hx ⟨_, Heap.get?_push_size _ rfl, rfl, rfl⟩ (fun b hb => ?_)
      (F.keeps fun _ _ e => Heap.get?_push_of_some _ e) (N.grown fun _ _ e => Heap.get?_push_of_some _ e) (Nat.ne_of_lt F.ns.lt) (next_is_new F) (fun p hp => Nat.ne_of_lt (Heap.lt_size (N p hp).1)) trivial (R _ ⟨_, rfl⟩) ?_
    · rw [List.mem_singleton.mp hb]
      show s₁.heap.objs.size < (s₁.heap.push _).objs.size
      rw [Heap.size_push]; exact Nat.lt_succ_self _
    · intro D C h tk m' ys news' F' N' o1 hn hC₀ hD₀ hCL hDL hCD offC fin
      refine ⟨m', hn, fun h'' hs'' => fin D h'' tk (F'.change hs'' hCL hC₀) (fun p hp => ?_) o1⟩
      refine ⟨hs''.extBut _ _ ?_ (N' p hp).1, (N' p hp).2⟩
      rcases List.mem_cons.mp hp with rfl | hp
      · exact Ne.symm hCD
      · exact offC p hp
  · refine wpAny_pyIter_ascii ha ?_
    refine LCg.block_U (Walks.strAscii hh _ tx tt) hsz (fun i h st => by obtain ⟨o, e, _⟩ := st; exact ⟨o, e⟩) (fun i h h' o nw st e e' _ _ _ => striter_frame st e e') hcell hkind hx ⟨_, Heap.get?_push_size _ rfl, rfl, rfl⟩ (fun b hb => ?_)
      (F.keeps fun _ _ e => Heap.get?_push_of_some _ e) (N.grown fun _ _ e => Heap.get?_push_of_some _ e) (Nat.ne_of_lt F.ns.lt) (next_is_new F) (fun p hp => Nat.ne_of_lt (Heap.lt_size (N p hp).1)) trivial (R _ ⟨_, rfl⟩) ?_
    · rw [List.mem_singleton.mp hb]
      show s₁.heap.objs.size < (s₁.heap.push _).objs.size
      rw [Heap.size_push]; exact Nat.lt_succ_self _
    · intro D C h tk m' ys news' F' N' o1 hn hC₀ hD₀ hCL hDL hCD offC fin
      refine ⟨m', hn, fun h'' hs'' => fin D h'' tk (F'.change hs'' hCL hC₀) (fun p hp => ?_) o1⟩
      refine ⟨hs''.extBut _ _ ?_ (N' p hp).1, (N' p hp).2⟩
      rcases List.mem_cons.mp hp with rfl | hp
      · exact Ne.symm hCD
      · exact offC p hp
end

section
variable {prog : Program} {w : World} {A : Around} {h₀ : Heap} {L : Addr} {m : Str → Option Value} {env : Env} {elt : Expr} {x : Str} {scope : Scope} {cl : List (Str × Addr)} {s : Shared} {S : List (Addr × Obj) → Prop} {P : Nat → Value → Prop} {Fin : List Value → List (Addr × Obj) → Prop} {news : List (Addr × Obj)}
/-- the end of one element's way: a text, and what the comprehension holds is kept -/
def TextEnd (h₀ : Heap) (L : Addr) (m : Str → Option Value) (s : Shared) (keep : List (Addr × Obj)) (r : Str) (y : Value) (s₂ : Shared) : Prop :=
  ∃ h' tk' all, s₂ = { s with heap := h', toks := tk' } ∧ Fr h₀ L h' m ∧ News h₀ L h' all ∧ (∀ p ∈ keep, p ∈ all) ∧ ∃ t', y = .str r t'
theorem TextEnd.intro {h₀ : Heap} {L : Addr} {m : Str → Option Value} {s : Shared} {keep all : List (Addr × Obj)} {r r' : Str} {t' : Tok} {h' : Heap} {tk' : Nat} (F : Fr h₀ L h' m) (N : News h₀ L h' all) (hk : ∀ p ∈ keep, p ∈ all) (e : r' = r) :
    TextEnd h₀ L m s keep r (.str r' t') { s with heap := h', toks := tk' } := ⟨h', tk', all, rfl, F, N, hk, t', by rw [e]⟩
/-- the turns of a comprehension whose elements are texts -/
theorem comp_texts {α : Type} {n : Nat} (ks : List α) (mk : α → Tok → Value) (g : α → Str) (hks : ks.length = n) (hP : ∀ i v, i < n → P i v → ∃ k t, ks[i]? = some k ∧ v = mk k t) (hS : S news)
    (turn : ∀ k t I oI C oC D m₂ ys h tk (E' : Value → Shared → Prop), k ∈ ks → LCg.NsObj oC m₂ → m₂ x = some (mk k t) → Fr h₀ L h m → News h₀ L h ((I, oI) :: (C, oC) :: (D, LCg.lst ys) :: news) → LCg.Off3 I C D news → ((@Ne Nat I C) ∧ (@Ne Nat I D) ∧ (@Ne Nat C D)) →
      wpAny (model prog w) A (eval elt (compEnvC scope cl C env)) (TextEnd h₀ L m s ((I, oI) :: (C, oC) :: (D, LCg.lst ys) :: news) (g k)) E' { s with heap := h, toks := tk })
    (fin : ∀ ys, StrsAre ys (ks.map g) → ks.length = n → Fin ys news) : LCg.CompRest prog w A h₀ L m env elt x scope cl s S P Fin n 0 [] news := by
  have key : ∀ (j i : Nat) (ys : List Value), i + j = n → StrsAre ys ((ks.take i).map g) → LCg.CompRest prog w A h₀ L m env elt x scope cl s S P Fin j i ys news := by
    intro j
    induction j with
    | zero =>
      intro i ys hi hy
      have e : i = ks.length := by omega
      subst e
      rw [List.take_length] at hy
      exact LCg.CompRest.zero (fin ys hy hks)
    | succ j ih =>
      intro i ys hi hy
      refine LCg.CompRest.succ ?_
      intro v I oI C oC D m₂ h tk E' hv hC hx F N off ne
      obtain ⟨k, t, hk, hv'⟩ := hP i v (by omega) hv
      rw [hv'] at hx
      refine wpAny_mono (turn k t I oI C oC D m₂ ys h tk E' (List.mem_of_getElem? hk) hC hx F N off ne) (fun y s₂ hq => ?_) fun _ _ e => e
      obtain ⟨h', tk', all, e, F', N', hsub, t', hy'⟩ := hq
      refine ⟨h', tk', news, e, F', fun p hp => N' p (hsub p hp), off, hS, ?_⟩
      rw [hy']
      refine ih (i + 1) _ (by omega) ?_
      rw [List.take_add_one, hk]
      simpa using kct_snoc hy
  exact key n 0 [] (by omega) (by simp only [List.take_zero, List.map_nil]; exact .nil)
end
end PartComp1

section PartWr1
/-- what one sign is written as -/
def wrOne (ns : List Int) (c : Nat) : Str := if (c : Int) ∈ ns then Str.ofString "^" ++ ⟨#[(c ^^^ 64)]⟩ else ⟨#[c]⟩
def wrAll (tx : Str) (ns : List Int) : Str := Txt.join (Str.ofString "") (tx.cps.toList.map (wrOne ns))

theorem xor64 : ∀ c : Nat, c < 128 → Builtin.bitXor (c : Int) 64 = ((c ^^^ 64 : Nat) : Int) := by decide +kernel
theorem xor64_lt : ∀ c : Nat, c < 128 → c ^^^ 64 < 128 := by decide +kernel
theorem wrOne_len (ns : List Int) (c : Nat) : (wrOne ns c).length ≤ 2 := by
  unfold wrOne
  split
  · rw [Str.length_append]
    have h1 : (Str.ofString "^").length = 1 := by decide +kernel
    rw [h1]
    exact Nat.le_refl 2
  · show 1 ≤ 2
    decide
theorem wr_call {w : World} {mean : ExcName → Option Value} {mg mb : Str → Option Value} (dp un : Nat) (gd : Option (List Code)) (cn : Str) (cs : Scope) (a : Addr) (ccd : Value) (cl : List (Str × Addr)) (outer : List Env) (A₀ : Around) (base h₀ : Heap) (L : Addr) (m : Str → Option Value) (news : List (Addr × Obj)) (s : Shared) (Q E : Value → Shared → Prop) (tx : Str) (tt : Tok) (lc : Addr) (vs : List Value) (ns : List Int) (nn : Nat) (hi : IntsAre vs ns) (hm : (lc, W.listOf vs.toArray nn) ∈ news) (hns : ∀ n ∈ ns, 0 ≤ n ∧ n ≤ 127) (hln : ns.length ≤ 1000) (htx : tx.length ≤ 1000)
    (B : Below A₀ base outer h₀) (F : Fr h₀ L s.heap m) (X : (Mine.hd.heap_39 w.params).In h₀) (N : News h₀ L s.heap news) (T : Top Mine.hd.view_39 (looseW Mine.hd.view_39 []) mean mg mb h₀) (hk : cs.kind = .function) (hd : dp + 3 < recursionLimit) (hu : un + 24 < cLine)
    (ret : ∀ t h' tk', Fr h₀ L h' m → News h₀ L h' news → Q (.str (wrAll tx ns) t) { s with heap := h', toks := tk' }) :
    wpAny (model Challenge.rw_mq0054_01.row.prog w) (ktrTop dp un gd cn cs L a ccd cl outer) (call (.ref 68) [.str tx tt, .ref lc]) Q E s := by
  refine wpAny_call ?_
  k_dflt (refine' code_defC (binds := [(Str.ofString "text", .str tx tt), (Str.ofString "codes", .ref lc)]) ?k1 ?k2 ?k3 ?k4 ?k5 ?kA ?kF ?kK ?k6 ?k7 ?k8 ?k9 ?kB ?kD ?_ ?c2 ?c3 ?c4; (case kA => exact rfl); (case kF => exact rfl); (case kK => assumption); (case k1 => k_asm); (case k2 => k_asm); (case k3 => k_asm); (case k4 => k_asm); (case k5 => k_asm); (case k6 => k_is); (case k7 => k_is); (case k8 => ktr_room); (case k9 => exact BindsTo.of_eq rfl); (case kB => exact rfl); (case kD => decide +kernel); (case c2 => exact rfl); (case c3 => exact rfl); (case c4 => exact rfl); k_whole; intro g' L' h' tk' cells' FG' F' N' Y' B' X' T' l1; k_cells Y'; (try simp only [List.cons_append, List.nil_append] at N'))
  dsimp only
  try k_fold
  repeat ((fail_if_success (first | (with_reducible show wpAny _ _ (eval (Expr.ListComp _ _ _ _) _) _ _ _))); walk1)
  rename_i o' d1'
  refine ListComp_S (cl := [(Str.ofString "codes", L' + 1)]) F' rfl (by decide) rfl (by decide) rfl ?_
  walk1
  refine ⟨tx, tt, _, rfl, rfl, F', N', ?_, ?_⟩
  · have : (1000 : Nat) ≤ sizeLine := by decide
    have : tx.cps.size ≤ 1000 := htx
    omega
  rintro s₂ ⟨h₂, rfl⟩
  refine comp_texts tx.cps.toList (fun c t => .str ⟨#[c]⟩ t) (wrOne ns) (by simp) ?_ trivial ?_ ?_
  · rintro i v _ ⟨c, u, hc, rfl⟩
    exact ⟨c, u, by simpa using hc, rfl⟩
  · intro c t I oI C oC D m₂ ys h tk E' hc hC hx F N off ne
    dsimp only
    repeat ((fail_if_success (first | (with_reducible show wpAny _ _ (compareOp _ _ _) _ _ _))); walk1)
    have hmem : (lc, W.listOf vs.toArray nn) ∈ ((I, oI) :: (C, oC) :: (D, LCg.lst ys) :: (L' + 1, o') :: news) := List.mem_cons_of_mem _ (List.mem_cons_of_mem _ (List.mem_cons_of_mem _ (List.mem_cons_of_mem _ hm)))
    refine in_list_ints (News.isList N hmem) hi ?_
    dsimp only
    repeat ((fail_if_success (first | (with_reducible show @ite _ _ _ _ _))); walk1)
    walk1
    · rename (ns.any _) = true => hin
      have hcn : (c : Int) ∈ ns := by
        obtain ⟨z, hz, he⟩ := List.any_eq_true.mp hin
        rw [← eq_of_beq he]; exact hz
      have hc128 : c < 128 := by have := hns _ hcn; omega
      repeat ((fail_if_success (first | (with_reducible show wpAny _ _ (call (Value.builtin "chr") _) _ _ _))); walk1)
      rw [xor64 c hc128]
      refine chr_of_range (by omega) (by have := xor64_lt c hc128; omega) ?_
      repeat walk1
      refine TextEnd.intro F N (fun p hp => hp) ?_
      unfold wrOne
      rw [if_pos hcn]
      rfl
    · rename (ns.any _) = false => hin
      have hcn : ¬ (c : Int) ∈ ns := by
        intro hz
        have := List.any_eq_false.mp hin _ hz
        simp at this
      repeat walk1
      refine TextEnd.intro F N (fun p hp => hp) ?_
      unfold wrOne
      rw [if_neg hcn]
  · intro ys hys _
    intro D h tk F N off
    dsimp only
    repeat ((fail_if_success (first | (with_reducible show wpAny _ _ (call (Value.builtin "str.join") _) _ _ _))); walk1)
    refine join_listW (News.isList N (List.Mem.head _)) hys (by decide) ?_ ?_
    · have h1 : ∀ l : List Nat, ((l.map (wrOne ns)).map (·.length)).sum ≤ 2 * l.length := by
        intro l
        induction l with
        | nil => simp
        | cons c r ih =>
          have := wrOne_len ns c
          simp only [List.map_cons, List.sum_cons, List.length_cons]
          omega
      have h2 := h1 tx.cps.toList
      have h3 : tx.cps.size ≤ 1000 := htx
      simp only [List.length_map, Array.length_toList] at h2 ⊢
      omega
    · intro t' k'
      dsimp only
      repeat walk1
      rename Fr h₀ L _ m => kF
      rename News h₀ L _ _ => kN
      exact ret _ _ _ kF (news_sub kN fun p hp => List.Mem.tail _ (List.Mem.tail _ hp))
end PartWr1

section PartLoop1
section
variable {prog : Program} {w : World} {A : Around} {E : Value → Shared → Prop} {s : Shared} {env : Env} {h₀ : Heap} {x : Str} {body : List Stmt} {Q : Flow → Shared → Prop}

inductive Are2 {α β : Type} (R : α → β → Prop) : List α → List β → Prop where
  | nil : Are2 R [] []
  | cons {a : α} {b : β} {as : List α} {bs : List β} : R a b → Are2 R as bs → Are2 R (a :: as) (b :: bs)

theorem are2_strs : ∀ {vs : List Value} {ys : List Str}, StrsAre vs ys → Are2 (fun y v => ∃ t, v = .str y t) ys vs
  | _, _, .nil => .nil
  | _, _, .cons _ _ r => .cons ⟨_, rfl⟩ (are2_strs r)
theorem are2_ints : ∀ {vs : List Value} {ys : List Int}, IntsAre vs ys → Are2 (fun y v => ∃ t, v = .int y t) ys vs
  | _, _, .nil => .nil
  | _, _, .cons _ _ r => .cons ⟨_, rfl⟩ (are2_ints r)

/-- a for over a list of the call's own: a state, folded -/
theorem list_fold {σ α : Type} {I : Addr} {lp : Addr × Obj} (R : α → Value → Prop) (step : σ → α → σ) (c₀ : σ) (all : List α) (J : σ → (Str → Option Value) → List (Addr × Obj) → Prop)
    (turn : ∀ pre a post v it m news h tk, all = pre ++ a :: post → R a v → J (pre.foldl step c₀) m news → it.cls = .type "list_iterator" → lp ∈ news → (∀ p ∈ news, p.1 ≠ I) →
      Fr h₀ env.locals h (fun y => if y = x then some v else m y) → News h₀ env.locals h ((I, it) :: news) →
      wpAny (model prog w) A (execs body env) (UnrPost h₀ env.locals { s with heap := h, toks := tk } I it (fun m' n' => lp ∈ n' ∧ J (step (pre.foldl step c₀) a) m' n') Q) E { s with heap := h, toks := tk })
    (done : ∀ m news h tk, J (all.foldl step c₀) m news → Fr h₀ env.locals h m → News h₀ env.locals h news → Q .next { s with heap := h, toks := tk }) :
    ∀ (post : List α) (vs : List Value) (pre : List α) (m : Str → Option Value) (news : List (Addr × Obj)), all = pre ++ post → Are2 R post vs → J (pre.foldl step c₀) m news → lp ∈ news → (∀ p ∈ news, p.1 ≠ I) →
      ListRest prog w A E h₀ env x body Q s I lp vs m news := by
  intro post
  induction post with
  | nil =>
    intro vs pre m news e h2 hJ _ _
    cases h2
    rw [List.append_nil] at e
    subst e
    exact ListRest.zero fun h tk F N => done m news h tk hJ F N
  | cons a post ih =>
    intro vs pre m news e h2 hJ hlp hoff
    cases h2 with
    | @cons _ v _ vs' hR h2 =>
      refine ListRest.succ fun it h tk hc F N => ?_
      refine wpAny_mono (turn pre a post _ it m news h tk e hR hJ hc hlp hoff F N) (fun f s₂ p => ?_) fun _ _ e => e
      have fin : UnrEnd h₀ env.locals { s with heap := h, toks := tk } I it (fun m' n' => lp ∈ n' ∧ J (step (pre.foldl step c₀) a) m' n') s₂ →
          UnrEnd h₀ env.locals { s with heap := h, toks := tk } I it (fun m' n' => lp ∈ n' ∧ ListRest prog w A E h₀ env x body Q s I lp vs' m' n') s₂ := by
        rintro ⟨h', tk', m', news', e', F', N', off', hlp', hJ'⟩
        refine ⟨h', tk', m', news', e', F', N', off', hlp', ih _ (pre ++ [a]) m' news' (by rw [e, List.append_assoc]; rfl) h2 ?_ hlp' off'⟩
        rw [List.foldl_append]
        exact hJ'
      cases f with
      | ret v => exact p
      | brk => exact p
      | next => exact fin p
      | cont => exact fin p

/-- a for over a range from nought by ones: a state, folded -/
theorem range_fold {σ : Type} {I : Addr} {a : Int} {n : Nat} (step : σ → Nat → σ) (c₀ : σ) (J : σ → (Str → Option Value) → List (Addr × Obj) → Prop)
    (turn : ∀ i t it m news h tk, i < n → J ((List.range i).foldl step c₀) m news → (∀ p ∈ news, p.1 ≠ I) →
      Fr h₀ env.locals h (fun y => if y = x then some (.int (a + (i : Int)) t) else m y) → News h₀ env.locals h ((I, it) :: news) →
      wpAny (model prog w) A (execs body env) (UnrPost h₀ env.locals { s with heap := h, toks := tk } I it (fun m' n' => J (step ((List.range i).foldl step c₀) i) m' n') Q) E { s with heap := h, toks := tk })
    (done : ∀ m news h tk, J ((List.range n).foldl step c₀) m news → Fr h₀ env.locals h m → News h₀ env.locals h news → Q .next { s with heap := h, toks := tk }) :
    ∀ (k i : Nat) (m : Str → Option Value) (news : List (Addr × Obj)), i + k = n → J ((List.range i).foldl step c₀) m news → (∀ p ∈ news, p.1 ≠ I) →
      RangeRest prog w A E h₀ env x body Q s I a n k i m news := by
  intro k
  induction k with
  | zero =>
    intro i m news e hJ _
    have e' : i = n := by omega
    subst e'
    exact RangeRest.zero fun h tk F N => done m news h tk hJ F N
  | succ k ih =>
    intro i m news e hJ hoff
    refine RangeRest.succ fun t h tk F N => ?_
    refine wpAny_mono (turn i t _ m news h tk (by omega) hJ hoff F N) (fun f s₂ p => ?_) fun _ _ e => e
    have fin : UnrEnd h₀ env.locals { s with heap := h, toks := tk } I (itR (a + ((i + 1 : Nat) : Int)) ((n : Int) - ((i + 1 : Nat) : Int))) (fun m' n' => J (step ((List.range i).foldl step c₀) i) m' n') s₂ →
        UnrEnd h₀ env.locals { s with heap := h, toks := tk } I (itR (a + ((i + 1 : Nat) : Int)) ((n : Int) - ((i + 1 : Nat) : Int))) (RangeRest prog w A E h₀ env x body Q s I a n k (i + 1)) s₂ := by
      rintro ⟨h', tk', m', news', e', F', N', off', hJ'⟩
      refine ⟨h', tk', m', news', e', F', N', off', ih (i + 1) m' news' (by omega) ?_ off'⟩
      rw [List.range_succ, List.foldl_append]
      exact hJ'
    cases f with
    | ret v => exact p
    | brk => exact p
    | next => exact fin p
    | cont => exact fin p
end
end PartLoop1

section PartRd0
section
variable {prog : Program} {w : World} {A : Around} {E : Value → Shared → Prop} {s : Shared}
theorem isStr_at {vs : List Value} {ys : List Str} (hi : StrsAre vs ys) (k : Str) (j : Nat) (h1 : j < vs.length) (h2 : j < ys.length) : isStrOf k vs[j] = (ys[j] == k) := by
  obtain ⟨t, ht⟩ := hi.at (j := j) (y := ys[j]) (by simp [h2])
  rw [List.getElem?_eq_getElem h1] at ht
  rw [Option.some.inj ht]
  rfl
theorem idxOf_le : ∀ (ys : List Str) (k : Str) (j : Nat) (h : j < ys.length), ys[j] = k → ys.idxOf k ≤ j
  | y :: ys, k, 0, _, e => by
    have e' : y = k := e
    rw [e', List.idxOf_cons_self]
    exact Nat.le_refl 0
  | y :: ys, k, j + 1, h, e => by
    by_cases hy : y = k
    · rw [hy, List.idxOf_cons_self]; exact Nat.zero_le _
    · rw [List.idxOf_cons, beq_eq_false_iff_ne.mpr hy]
      exact Nat.succ_le_succ (idxOf_le ys k j (Nat.lt_of_succ_lt_succ h) e)
theorem index_strs {l : Addr} {vs : List Value} {ys : List Str} {k : Str} {t : Tok} {n : Nat} {Q : Value → Shared → Prop} (ho : s.heap.get? l = some { cls := .type "list", data := .seq vs.toArray n }) (hi : StrsAre vs ys)
    (hb : ys.length ≤ 1000000) (hk : k ∈ ys) (h : Q (.int (ys.idxOf k : Nat) s.toks) { s with toks := s.toks + 1 }) :
    wpAny (model prog w) A (call (.builtin "list.index") [.ref l, .str k t]) Q E s := by
  have hlen := hi.length
  have hj : ys.idxOf k < ys.length := List.idxOf_lt_length_iff.mpr hk
  refine call_meets PySem.F.slot_list_index ⟨_, ho, rfl⟩ PySem.F.entry_list_index (PySem.F.args_list_index_2 _ _)
    (SeqAt.list_indexAt l vs.toArray n none #[] (.str k t) (isStrOf k) (ys.idxOf k) (by simpa [hlen] using hj) (by omega) ?_ ?_) ⟨ho, fun y hy => (eq_isStrOf k t hi y (by simpa using hy)).at _ _, h⟩
  · show isStrOf k vs[ys.idxOf k] = true
    rw [isStr_at hi k _ (by omega) hj]
    simpa using List.getElem_idxOf hj
  · intro j hjs hlt
    show isStrOf k vs[j] = false
    rw [isStr_at hi k j (by simpa using hjs) (by omega)]
    exact beq_eq_false_iff_ne.mpr fun e => absurd hlt (Nat.not_lt.mpr (idxOf_le ys k j (by omega) e))
theorem pick_upto (vs : List Value) {y : Int} (h : 0 ≤ y) : slicePick vs.toArray none (some y) none = (vs.take y.toNat).toArray := by
  have e : sliceBounds none (some y) none vs.toArray.size = (((0 : Nat) : Int), ((min y.toNat vs.toArray.size : Nat) : Int), 1) := by
    simp only [sliceBounds, Option.getD_none, show (1 : Int) > 0 by decide, if_true, if_neg (show ¬ (y < 0) by omega)]
    congr 1
    congr 1
    omega
  rw [kmk_pick_nat _ e]
  show ((vs.drop 0).take (min y.toNat vs.toArray.size - 0)).toArray = _
  rw [List.drop_zero, Nat.sub_zero, List.size_toArray, kmk_take_min]
variable {h₀ : Heap} {L : Addr} {m : Str → Option Value} {news : List (Addr × Obj)}
/-- a cut of a list of the call's own from its start -/
theorem slice_upto {value slice : Expr} {l : Addr} {vs : List Value} {y : Int} {u : Tok} {Q : Value → Shared → Prop}
    (F : Fr h₀ L s.heap m) (N : News h₀ L s.heap news) (hl : s.heap.IsList l vs.toArray) (h0 : 0 ≤ y)
    (h : ∀ D h', Fr h₀ L h' m → News h₀ L h' ((D, W.listOf (vs.take y.toNat).toArray 0) :: news) → (∀ p ∈ news, p.1 < D) → Q (.ref D) { s with heap := h' })
    (hz : vs.length ≤ 1000000)
    (hs : subscripted slice false (.ref l) (.ref s.heap.objs.size) = operate [.ref s.heap.objs.size, .ref l] (getItem (.ref l) (.ref s.heap.objs.size)) := by with_unfolding_all rfl)
    (ht : ∀ r, letTemporaryGo value (.ref l) r = pure () := by intro _; with_unfolding_all rfl) :
    wpAny (model prog w) A (subscriptTail value slice (.ref l) (.ref s.heap.objs.size)) Q E { s with heap := s.heap.push { cls := .type "slice", data := .fields #[.none, .int y u, .none] } } := by
  refine kmk_slice F N hl .none (.int _ _) (fun D h' F' N' l1 => h D h' F' ?_ l1) hs ht ?_
  · rw [pick_upto vs h0] at N'
    exact N'
  · rw [List.size_toArray]
    have : (1000000 : Nat) ≤ sizeLine := by decide
    omega
end
end PartRd0

section PartRd1
/-- a code's letter -/
def letter (n : Int) : Str := ⟨#[n.toNat ^^^ 64]⟩
abbrev caret : Str := Str.ofString "^"
def eaten (lets : List Str) (sg : Str) (r : Nat) : Nat :=
  if sg ∈ lets then (if caret ∈ lets.take (lets.idxOf sg) then r % 2 else min r 1) else 0
def twos (lets : List Str) (left : Nat) : Nat := if caret ∈ lets then left / 2 else 0
def rep (c n : Nat) : Str := ⟨(List.replicate n c).toArray⟩
def rdStep (lets : List Str) (st : Nat × List Str) (sg : Str) : Nat × List Str :=
  if sg = caret then (st.1 + 1, st.2) else
    (0, st.2 ++ [rep 30 (twos lets (st.1 - eaten lets sg st.1)) ++ rep 94 (st.1 - eaten lets sg st.1 - 2 * twos lets (st.1 - eaten lets sg st.1)),
      if eaten lets sg st.1 = 1 then ⟨#[sg.cps[0]! % 32]⟩ else sg])
def rdAll (tx : Str) (ns : List Int) : Str := Txt.join (Str.ofString "") ((signs tx ++ [Str.ofString ""]).foldl (rdStep (ns.map letter)) (0, [])).2

def rdJ (R D : Addr) (fixed : List (Addr × Obj)) (st : Nat × List Str) (m : Str → Option Value) (news : List (Addr × Obj)) : Prop :=
  ∃ rv rn tr, m (Str.ofString "run") = some (.int (st.1 : Int) tr) ∧ m (Str.ofString "row") = some (.ref R) ∧ m (Str.ofString "letters") = some (.ref D) ∧ news = (R, W.listOf rv.toArray rn) :: fixed ∧ StrsAre rv st.2

theorem three_map {m : Str → Option Value} {x y z : Str} {u v t : Value} (hx : m x = some u) (hy : m y = some v) (hz : m z = some t) :
    m = fun q => if q = x then some u else if q = y then some v else if q = z then some t else m q := by
  funext q
  by_cases h1 : q = x
  · subst h1; simp [hx]
  · by_cases h2 : q = y
    · subst h2; simp [h1, hy]
    · by_cases h3 : q = z
      · subst h3; simp [h1, h2, hz]
      · simp [h1, h2, h3]
theorem rd_run (lets : List Str) (pre : List Str) : (pre.foldl (rdStep lets) (0, [])).1 ≤ pre.length := by
  have key : ∀ (l : List Str) (st : Nat × List Str) (k : Nat), st.1 ≤ k → (l.foldl (rdStep lets) st).1 ≤ k + l.length := by
    intro l
    induction l with
    | nil => intro st k h; simpa using h
    | cons a l ih =>
      intro st k h
      rw [List.foldl_cons, List.length_cons]
      have := ih (rdStep lets st a) (k + 1) (by
        unfold rdStep
        split
        · dsimp only; omega
        · dsimp only; omega)
      omega
  have := key pre (0, []) 0 (Nat.le_refl _)
  omega
theorem rep_len (c n : Nat) : (rep c n).length = n := by
  show (List.replicate n c).toArray.size = n
  simp
theorem rd_rowlen (lets : List Str) (pre : List Str) : (pre.foldl (rdStep lets) (0, [])).2.length ≤ 2 * pre.length := by
  have key : ∀ (l : List Str) (st : Nat × List Str) (k : Nat), st.2.length ≤ k → (l.foldl (rdStep lets) st).2.length ≤ k + 2 * l.length := by
    intro l
    induction l with
    | nil => intro st k h; simpa using h
    | cons a l ih =>
      intro st k h
      rw [List.foldl_cons, List.length_cons]
      have := ih (rdStep lets st a) (k + 2) (by
        unfold rdStep
        split
        · dsimp only; omega
        · simp only [List.length_append, List.length_cons, List.length_nil]; omega)
      omega
  have := key pre (0, []) 0 (Nat.le_refl _)
  omega
theorem letter_mem {ns : List Int} (hns : ∀ n ∈ ns, 0 ≤ n ∧ n ≤ 127) {sg : Str} (h : sg ∈ ns.map letter) : ∃ c : Nat, c < 128 ∧ sg = ⟨#[c]⟩ := by
  obtain ⟨n, hn, rfl⟩ := List.mem_map.mp h
  have := hns n hn
  exact ⟨_, xor64_lt n.toNat (by omega), rfl⟩
theorem allLt_mem {d : Nat} : ∀ {l : List (Addr × Obj)}, AllLt d l → ∀ p ∈ l, p.1 < d
  | [], _, _, h => nomatch h
  | _ :: _, x, p, h => by
    rcases List.mem_cons.mp h with rfl | h
    · exact x.1
    · exact allLt_mem x.2 p h
abbrev rdMap (sg : Str) (t : Tok) (r : Nat) (tr : Tok) (Rw D : Addr) (m₁ : Str → Option Value) : Str → Option Value := fun y =>
  if y = Str.ofString "sign" then some (.str sg t) else if y = Str.ofString "run" then some (.int (r : Int) tr) else if y = Str.ofString "row" then some (.ref Rw) else if y = Str.ofString "letters" then some (.ref D) else m₁ y
/-- the end of a statement that stores an int under one name -/
def SetEnd (g' : Heap) (L' : Addr) (s : Shared) (M : Str → Option Value) (led : List (Addr × Obj)) (x : Str) (e : Nat) (f : Flow) (s' : Shared) : Prop :=
  f = .next ∧ ∃ h' tk' te, s' = { s with heap := h', toks := tk' } ∧ Fr g' L' h' (fun y => if y = x then some (.int (e : Int) te) else M y) ∧ News g' L' h' led
theorem SetEnd.intro {g' : Heap} {L' : Addr} {s : Shared} {M M' : Str → Option Value} {led all : List (Addr × Obj)} {x : Str} {e : Nat} {v : Int} {te : Tok} {h' : Heap} {tk' : Nat}
    (F : Fr g' L' h' (fun y => if y = x then some (.int v te) else M' y)) (N : News g' L' h' all) (hs : ∀ p ∈ led, p ∈ all) (hv : v = (e : Int)) (hM : ∀ y, y ≠ x → M' y = M y) :
    SetEnd g' L' s M led x e .next { s with heap := h', toks := tk' } := by
  refine ⟨rfl, h', tk', te, rfl, ?_, news_sub N hs⟩
  have e1 : (fun y => if y = x then some (.int v te) else M' y) = (fun y => if y = x then some (.int (e : Int) te) else M y) := by
    funext y
    by_cases hy : y = x
    · rw [if_pos hy, if_pos hy, hv]
    · rw [if_neg hy, if_neg hy, hM y hy]
  rw [← e1]
  exact F
theorem any_mem {l : List Str} {k : Str} (h : l.any (· == k) = true) : k ∈ l := by
  obtain ⟨z, hz, he⟩ := List.any_eq_true.mp h
  rw [← eq_of_beq he]; exact hz
theorem any_not_mem {l : List Str} {k : Str} (h : l.any (· == k) = false) : ¬ k ∈ l := by
  intro hz
  have := List.any_eq_false.mp h _ hz
  simp at this
theorem eaten_a {lets : List Str} {sg : Str} {r : Nat} (h : sg ∈ lets) (hc : (lets.take (lets.idxOf sg)).any (· == caret) = true) : eaten lets sg r = r % 2 := by
  unfold eaten
  rw [if_pos h, if_pos (any_mem hc)]
theorem eaten_b {lets : List Str} {sg : Str} {r : Nat} (h : sg ∈ lets) (hc : (lets.take (lets.idxOf sg)).any (· == caret) = false) : eaten lets sg r = min r 1 := by
  unfold eaten
  rw [if_pos h, if_neg (any_not_mem hc)]
theorem eaten_c {lets : List Str} {sg : Str} {r : Nat} (h : lets.any (· == sg) = false) : eaten lets sg r = 0 := by
  unfold eaten
  rw [if_neg (any_not_mem h)]
theorem cut_set {Mo : Model} {A : Around} {E : Value → Shared → Prop} {Q : Flow → Shared → Prop} {st : Stmt} {env : Env} {s : Shared} {g' : Heap} {L' : Addr} {M : Str → Option Value} (_F : Fr g' L' s.heap M) (led : List (Addr × Obj)) (x : Str) (e : Nat)
    (h1 : wpAny Mo A (exec st env) (SetEnd g' L' s M led x e) E s) (h2 : ∀ f s', SetEnd g' L' s M led x e f s' → Q f s') : wpAny Mo A (exec st env) Q E s := wpAny_mono h1 h2 fun _ _ x => x
theorem eaten_le (lets : List Str) (sg : Str) (r : Nat) : eaten lets sg r ≤ r := by
  unfold eaten
  split
  · split <;> omega
  · omega
theorem eaten_one {lets : List Str} {sg : Str} {r : Nat} (h : eaten lets sg r = 1) : sg ∈ lets := by
  unfold eaten at h
  split at h
  · assumption
  · cases h
theorem rdStep_ne {lets : List Str} {r : Nat} {row : List Str} {sg : Str} (h : (sg == caret) = false) : rdStep lets (r, row) sg =
    (0, row ++ [rep 30 (twos lets (r - eaten lets sg r)) ++ rep 94 (r - eaten lets sg r - 2 * twos lets (r - eaten lets sg r)), if eaten lets sg r = 1 then ⟨#[sg.cps[0]! % 32]⟩ else sg]) := by
  unfold rdStep
  rw [if_neg (beq_eq_false_iff_ne.mp h)]
theorem signs_len (tx : Str) : ∀ sg ∈ signs tx ++ [Str.ofString ""], sg.length ≤ 1 := by
  intro sg h
  rcases List.mem_append.mp h with h | h
  · obtain ⟨c, _, rfl⟩ := List.mem_map.mp h
    exact Nat.le_refl 1
  · rw [List.mem_singleton.mp h]
    decide +kernel
theorem rd_weight (lets : List Str) (pre : List Str) (hp : ∀ sg ∈ pre, sg.length ≤ 1) : ((pre.foldl (rdStep lets) (0, [])).2.map (·.length)).sum ≤ pre.length := by
  have key : ∀ (l : List Str) (st : Nat × List Str) (k : Nat), (∀ sg ∈ l, sg.length ≤ 1) → st.1 + (st.2.map (·.length)).sum ≤ k → (l.foldl (rdStep lets) st).1 + ((l.foldl (rdStep lets) st).2.map (·.length)).sum ≤ k + l.length := by
    intro l
    induction l with
    | nil => intro st k _ h; simpa using h
    | cons a l ih =>
      intro st k hl h
      rw [List.foldl_cons, List.length_cons]
      have ha := hl a (List.Mem.head _)
      have := ih (rdStep lets st a) (k + 1) (fun sg h => hl sg (List.Mem.tail _ h)) (by
        unfold rdStep
        split
        · dsimp only; omega
        · have he := eaten_le lets a st.1
          have htw : 2 * twos lets (st.1 - eaten lets a st.1) ≤ st.1 - eaten lets a st.1 := by unfold twos; split <;> omega
          have h2 : (if eaten lets a st.1 = 1 then (⟨#[a.cps[0]! % 32]⟩ : Str) else a).length ≤ 1 := by
            split
            · exact Nat.le_refl 1
            · exact ha
          simp only [List.map_append, List.map_cons, List.map_nil, List.sum_append, List.sum_cons, List.sum_nil, Str.length_append, rep_len]
          omega)
      omega
  have := key pre (0, []) 0 hp (Nat.le_refl _)
  omega
theorem rdStep_eq {lets : List Str} {r : Nat} {row : List Str} {sg : Str} (h : (sg == caret) = true) : rdStep lets (r, row) sg = (r + 1, row) := by
  unfold rdStep
  rw [if_pos (eq_of_beq h)]
theorem mod32 (c : Nat) : (⟨#[(⟨#[c]⟩ : Str).cps[0]! % 32]⟩ : Str) = ⟨#[((c : Int).fmod 32).toNat]⟩ := by
  have h : ((c : Int).fmod 32).toNat = c % 32 := by
    rw [Int.fmod_eq_emod_of_nonneg _ (by decide)]
    omega
  rw [h]
  rfl
theorem rd_end {g' h' : Heap} {L' I Rw D : Addr} {s : Shared} {it : Obj} {lp : Addr × Obj} {M : Str → Option Value} {rv : List Value} {rn : Nat} {fixed : List (Addr × Obj)} {st : Nat × List Str} {tr : Tok} {tk : Nat}
    (F : Fr g' L' h' M) (N : News g' L' h' ((I, it) :: (Rw, W.listOf rv.toArray rn) :: fixed)) (hrun : M (Str.ofString "run") = some (.int (st.1 : Int) tr)) (hrow : M (Str.ofString "row") = some (.ref Rw)) (hlet : M (Str.ofString "letters") = some (.ref D))
    (hrv : StrsAre rv st.2) (hlp : lp ∈ fixed) (hoff : ∀ p ∈ fixed, p.1 ≠ I) (hIR : I ≠ Rw) :
    UnrEnd g' L' s I it (fun m' n' => lp ∈ n' ∧ rdJ Rw D fixed st m' n') { s with heap := h', toks := tk } := by
  refine ⟨h', tk, M, _, rfl, F, N, fun p hp => ?_, List.Mem.tail _ hlp, rv, rn, tr, hrun, hrow, hlet, rfl, hrv⟩
  rcases List.mem_cons.mp hp with rfl | hp
  · exact Ne.symm hIR
  · exact hoff p hp
theorem mul_rep (c n : Nat) : Txt.mul ⟨#[c]⟩ (n : Int) = rep c n := by
  unfold Txt.mul rep
  by_cases h1 : (n : Int) < 1
  · rw [if_pos h1]
    have : n = 0 := by omega
    subst this
    rfl
  · rw [if_neg h1]
    by_cases h2 : n = 1
    · subst h2; rfl
    · have h3 : ¬ ((((n : Int) == 1) || ((⟨#[c]⟩ : Str).length == 0)) = true) := by
        simp only [Bool.or_eq_true, beq_iff_eq, not_or]
        exact ⟨by omega, by show ¬ ((1 : Nat) = 0); decide⟩
      rw [if_neg h3]
      congr 1
      have key : ∀ (k : Nat) (a : Array Nat), (List.replicate k #[c]).foldl (· ++ ·) a = a ++ (List.replicate k c).toArray := by
        intro k
        induction k with
        | zero => intro a; simp
        | succ k ih =>
          intro a
          rw [List.replicate_succ, List.foldl_cons, ih, List.replicate_succ]
          apply Array.toList_inj.mp
          simp
      rw [Int.toNat_natCast, key]
      simp
theorem sub4 {a b c d e : Addr × Obj} {r : List (Addr × Obj)} : ∀ p ∈ d :: a :: e :: r, p ∈ a :: b :: c :: d :: e :: r := by
  intro p hp
  simp only [List.mem_cons] at hp ⊢
  rcases hp with h | h | h | h <;> simp [h]
theorem rd_call {w : World} {mean : ExcName → Option Value} {mg mb : Str → Option Value} (dp un : Nat) (gd : Option (List Code)) (cn : Str) (cs : Scope) (a : Addr) (ccd : Value) (cl : List (Str × Addr)) (outer : List Env) (A₀ : Around) (base h₀ : Heap) (L : Addr) (m : Str → Option Value) (news : List (Addr × Obj)) (s : Shared) (Q E : Value → Shared → Prop) (tx : Str) (tt : Tok) (lc : Addr) (vs : List Value) (ns : List Int) (nn : Nat) (hi : IntsAre vs ns) (hm : (lc, W.listOf vs.toArray nn) ∈ news) (hns : ∀ n ∈ ns, 0 ≤ n ∧ n ≤ 127) (hln : ns.length ≤ 1000) (htx : tx.length ≤ 1000)
    (B : Below A₀ base outer h₀) (F : Fr h₀ L s.heap m) (X : (Mine.hd.heap_39 w.params).In h₀) (N : News h₀ L s.heap news) (T : Top Mine.hd.view_39 (looseW Mine.hd.view_39 []) mean mg mb h₀) (hk : cs.kind = .function) (hd : dp + 3 < recursionLimit) (hu : un + 24 < cLine)
    (ret : ∀ t h' tk', Fr h₀ L h' m → News h₀ L h' news → Q (.str (rdAll tx ns) t) { s with heap := h', toks := tk' }) :
    wpAny (model Challenge.rw_mq0054_01.row.prog w) (ktrTop dp un gd cn cs L a ccd cl outer) (call (.ref 73) [.str tx tt, .ref lc]) Q E s := by
  refine wpAny_call ?_
  k_dflt (refine' code_def (binds := [(Str.ofString "text", .str tx tt), (Str.ofString "codes", .ref lc)]) ?k1 ?k2 ?k3 ?k4 ?k5 ?kA ?kF ?kK ?k6 ?k7 ?k8 ?k9 ?kB ?_ ?c2 ?c3 ?c4 ?c5; (case kA => exact rfl); (case kF => exact rfl); (case kK => assumption); (case k1 => k_asm); (case k2 => k_asm); (case k3 => k_asm); (case k4 => k_asm); (case k5 => k_asm); (case k6 => k_is); (case k7 => k_is); (case k8 => ktr_room); (case k9 => exact BindsTo.of_eq rfl); (case c5 => decide); (case kB => exact locs rfl); (case c2 => exact rfl); (case c3 => exact rfl); (case c4 => exact rfl); k_whole; intro g' L' h' FG' F' N' B' X' T')
  dsimp only
  refine wpAny_execs_cons ?_
  refine LCg.Assign_ListComp_U (cl := []) F' rfl (by with_unfolding_all rfl) (by with_unfolding_all rfl) (by decide) (by rfl) (by decide) (by rfl) (by rfl) (by rfl) ?_
  walk1
  refine LCg.CompSrc.ledger rfl F' N' hm ?_ ?_
  · rw [List.size_toArray, hi.length]
    have : (1000 : Nat) ≤ sizeLine := by decide
    omega
  intro h₂
  refine comp_texts ns (fun c t => .int c t) letter (by rw [List.size_toArray, hi.length]) ?_ (.inr ⟨_, hm, rfl, _, rfl⟩) ?_ ?_
  · intro i v _ hv
    obtain ⟨k, t, e, hk⟩ := IntsAre.at hi i v (by simpa using hv)
    exact ⟨k, t, hk, e⟩
  · intro c t I oI C oC D m₂ ys h tk E' hc hC hx F N off ne
    dsimp only
    have hc2 := hns c hc
    obtain ⟨c', rfl⟩ : ∃ c' : Nat, c = (c' : Int) := ⟨c.toNat, by omega⟩
    have hc3 : c' < 128 := by omega
    repeat ((fail_if_success (first | (with_reducible show wpAny _ _ (call (Value.builtin "chr") _) _ _ _))); walk1)
    rw [xor64 c' hc3]
    refine chr_of_range (by omega) (by have := xor64_lt c' hc3; omega) ?_
    dsimp only
    exact TextEnd.intro F N (fun p hp => hp) rfl
  · intro ys hys _
    intro D h tk F N off
    dsimp only
    repeat ((fail_if_success (first | (with_reducible show wpAny _ _ (newList _) _ _ _))); walk1)
    walk1
    rename_i Rw hw Fw Nw lw
    repeat ((fail_if_success (first | (with_reducible show wpAny _ _ (exec (Stmt.For _ _ _ _ _) _) _ _ _))); walk1)
    rename Fr g' L' _ _ => lF'
    k_dflt (refine' For_invVF lF' ?k1 ?k2 ?_; (case k1 => exact rfl); (case k2 => exact rfl))
    repeat ((fail_if_success (first | (with_reducible show wpAny _ _ (binaryOp Operator.Add (Value.ref _) (Value.ref _)) _ _ _))); walk1)
    rename News g' L' _ _ => lN
    rename Fr g' L' _ _ => lF
    rename CarriedAll _ (List.map PyData.str (signs tx)) => hsg
    have hsg := StrsAre.of_carried hsg
    have hlen : tx.cps.size ≤ 1000 := htx
    refine add_lists lF lN (News.isList lN (List.Mem.tail _ (List.Mem.head _))) (News.isList lN (List.Mem.head _)) ?_ (hsz := ?_)
    · intro h₅ F₅ N₅
      dsimp only at N₅ ⊢
      have hRlt := Heap.lt_size (lN _ (List.Mem.tail _ (List.Mem.tail _ (List.Mem.head _)))).1
      have N₆ := news_sub N₅ sub4
      dsimp only at hRlt
      generalize Heap.objs _ = osz at N₆ hRlt ⊢
      generalize osz.size = ax at N₆ hRlt ⊢
      obtain ⟨lo, vals, nv, N₇, hlc, hld, hvals⟩ : ∃ lo vals nv, News g' L' h₅ ((Rw, W.listOf ([] : List Value).toArray 0) :: (ax, lo) :: (D, LCg.lst ys) :: news) ∧ lo.cls = .type "list" ∧ lo.data = .seq vals.toArray nv ∧ StrsAre vals (signs tx ++ [Str.ofString ""]) :=
        ⟨_, _, _, N₆, rfl, rfl, hsg.append' (.cons (Str.ofString "") _ .nil)⟩
      clear N₆ N₅
      refine iter_listUnr rfl F₅ N₇ (List.Mem.tail _ (List.Mem.head _)) hlc hld ?_
      intro I hI
      have hfix : ∀ p ∈ ((ax, lo) :: (D, LCg.lst ys) :: news : List (Addr × Obj)), p.1 ≠ Rw := by
        intro p hp
        rcases List.mem_cons.mp hp with rfl | hp
        · exact Nat.ne_of_gt hRlt
        · rcases List.mem_cons.mp hp with rfl | hp
          · exact Nat.ne_of_lt lw.1
          · exact Nat.ne_of_lt (allLt_mem lw.2 p hp)
      refine list_fold (fun y v => ∃ t, v = .str y t) (rdStep (ns.map letter)) (0, []) (signs tx ++ [Str.ofString ""]) (rdJ Rw D ((ax, lo) :: (D, LCg.lst ys) :: news)) ?turn ?done _ _ [] _ _ rfl ?hall ?hJ (List.Mem.tail _ (List.Mem.head _)) (fun p hp => Nat.ne_of_lt (hI p hp))
      case hall => exact are2_strs hvals
      case hJ => exact ⟨[], 0, _, rfl, rfl, rfl, rfl, .nil⟩
      case done =>
        rintro m₁ news₁ h₆ tk₆ ⟨rv, rn, tr, hrun, hrow, hlet, rfl, hrv⟩ F₆ N₆
        change Fr g' L' h₆ _ at F₆
        change News g' L' h₆ _ at N₆
        rw [three_map hrun hrow hlet] at F₆
        dsimp only
        repeat ((fail_if_success (with_reducible show wpAny _ _ (call (Value.builtin "str.join") _) _ _ _)); walk1)
        refine join_listW (News.isList N₆ (List.Mem.head _)) hrv (by decide) ?_ ?_
        · have h1 := rd_rowlen (ns.map letter) (signs tx ++ [Str.ofString ""])
          have h2 := rd_weight (ns.map letter) (signs tx ++ [Str.ofString ""]) (signs_len tx)
          have h3 : (signs tx ++ [Str.ofString ""]).length ≤ 1001 := by
            simp only [signs, List.length_append, List.length_map, Array.length_toList, List.length_cons, List.length_nil]
            omega
          omega
        · intro t' k'
          dsimp only
          repeat walk1
          rename Fr h₀ L _ m => kF
          rename News h₀ L _ _ => kN
          exact ret _ _ _ kF (news_sub kN fun p hp => List.Mem.tail _ (List.Mem.tail _ (List.Mem.tail _ hp)))
      case turn =>
        rintro pre sg post v it m₁ news₁ h₆ tk₆ hsplit ⟨t₆, rfl⟩ ⟨rv, rn, tr, hrun, hrow, hlet, rfl, hrv⟩ hit hlp hoff F₆ N₆
        change Fr g' L' h₆ _ at F₆
        change News g' L' h₆ _ at N₆
        rw [three_map hrun hrow hlet] at F₆
        have hpl : pre.length ≤ 1000 := by
          have := congrArg List.length hsplit
          simp only [signs, List.length_append, List.length_map, Array.length_toList, List.length_cons, List.length_nil] at this
          omega
        have hr := rd_run (ns.map letter) pre
        have hrl := rd_rowlen (ns.map letter) pre
        have hIR : I ≠ Rw := fun h => hoff (Rw, W.listOf rv.toArray rn) (List.Mem.head _) h.symm
        generalize hst : pre.foldl (rdStep (ns.map letter)) (0, []) = st at *
        obtain ⟨r, row⟩ := st
        dsimp only at *
        generalize hpost : UnrPost _ _ _ _ _ _ _ = PQ
        change Fr g' L' h₆ (rdMap sg t₆ r tr Rw D m₁) at F₆
        repeat ((fail_if_success (first | (with_reducible show @ite _ _ _ _ _))); walk1)
        walk1
        · rename (sg == _) = true => hsg1
          repeat walk1
          rename Fr g' L' _ _ => Fe
          rename News g' L' _ _ => Ne
          rw [← hpost, rdStep_eq hsg1]
          exact rd_end Fe Ne rfl rfl rfl hrv (List.Mem.head _) (fun p hp => hoff p (List.Mem.tail _ hp)) hIR
        · rename (sg == _) = false => hsg1
          refine wpAny_execs_cons ?_
          try dsimp only
          repeat ((fail_if_success (first | (with_reducible show wpAny _ _ (execs _ _) _ _ _))); walk1)
          rename Fr g' L' _ _ => F₇
          rename News g' L' _ _ => N₇
          refine wpAny_execs_cons ?_
          refine cut_set F₇ ((I, it) :: (Rw, W.listOf rv.toArray rn) :: (ax, lo) :: (D, LCg.lst ys) :: news) (Str.ofString "eaten") (eaten (ns.map letter) sg r) ?hcut ?hrest
          case hcut =>
            repeat ((fail_if_success (first | (with_reducible show @ite _ _ _ _ _))); walk1)
            walk1
            · rename (List.any _ _) = true => hin
              have hin' : sg ∈ ns.map letter := by
                obtain ⟨z, hz, he⟩ := List.any_eq_true.mp hin
                rw [← eq_of_beq he]; exact hz
              repeat ((fail_if_success (first | (with_reducible show wpAny _ _ (call (Value.builtin "list.index") _) _ _ _))); walk1)
              refine index_strs (N₇ _ (List.Mem.tail _ (List.Mem.tail _ (List.Mem.tail _ (List.Mem.head _))))).1 hys (by simp; omega) hin' ?_
              dsimp only
              repeat ((fail_if_success (first | (with_reducible show wpAny _ _ (subscriptTail _ _ _ _) _ _ _))); walk1)
              refine slice_upto F₇ N₇ (News.isList N₇ (List.Mem.tail _ (List.Mem.tail _ (List.Mem.tail _ (List.Mem.head _))))) (by omega) ?_ (by rw [hys.length]; simp; omega)
              intro D₉ h₉ F₉ N₉ hlt₉
              try dsimp only
              refine in_list_strs (News.isList N₉ (List.Mem.head _)) (hys.take' _) ?_
              try dsimp only
              repeat ((fail_if_success (first | (with_reducible show @ite _ _ _ _ _))); walk1)
              walk1
              · rename (List.any _ _) = true => hca
                repeat walk1
                rename Fr g' L' _ _ => Fe
                rename News g' L' _ _ => Ne
                refine SetEnd.intro Fe Ne (fun p hp => List.Mem.tail _ hp) ?_ (fun y hy => rfl)
                rw [eaten_a hin' hca]
                exact (Int.fmod_eq_emod_of_nonneg _ (by decide)).trans (by omega)
              · rename (List.any _ _) = false => hca
                repeat walk1
                rename Fr g' L' _ _ => Fe
                rename News g' L' _ _ => Ne
                refine SetEnd.intro Fe Ne (fun p hp => List.Mem.tail _ hp) ?_ (fun y hy => rfl)
                rw [eaten_b hin' hca]
                split <;> omega
            · rename (List.any _ _) = false => hin
              repeat walk1
              refine SetEnd.intro F₇ N₇ (fun p hp => hp) ?_ (fun y hy => (if_neg hy).symm)
              rw [eaten_c hin]
              rfl
          case hrest =>
            rintro f s₈ ⟨rfl, h₈, tk₈, te, rfl, F₈, N₈⟩
            have hle := eaten_le (ns.map letter) sg r
            have hone := eaten_one (lets := ns.map letter) (sg := sg) (r := r)
            have hstep : rdStep (ns.map letter) (r, row) sg = _ := rdStep_ne hsg1
            generalize he : eaten (ns.map letter) sg r = e at *
            dsimp only
            refine wpAny_execs_cons ?_
            try dsimp only
            repeat ((fail_if_success (first | (with_reducible show wpAny _ _ (execs _ _) _ _ _))); walk1)
            rename Fr g' L' _ _ => F₉
            rename News g' L' _ _ => N₉
            rw [show ((r : Int) - (e : Int)) = ((r - e : Nat) : Int) from by omega] at F₉
            refine wpAny_execs_cons ?_
            refine cut_set F₉ ((I, it) :: (Rw, W.listOf rv.toArray rn) :: (ax, lo) :: (D, LCg.lst ys) :: news) (Str.ofString "twos") (twos (ns.map letter) (r - e)) ?hcut ?hrest
            case hcut =>
              repeat ((fail_if_success (first | (with_reducible show @ite _ _ _ _ _))); walk1)
              walk1
              · rename (List.any _ _) = true => hca
                repeat walk1
                rename Fr g' L' _ _ => Fe
                rename News g' L' _ _ => Ne
                refine SetEnd.intro Fe Ne (fun p hp => hp) ?_ (fun y hy => rfl)
                unfold twos
                rw [if_pos (any_mem hca)]
                exact (Int.fdiv_eq_ediv_of_nonneg _ (by decide)).trans (by omega)
              · rename (List.any _ _) = false => hca
                repeat walk1
                rename Fr g' L' _ _ => Fe
                rename News g' L' _ _ => Ne
                refine SetEnd.intro Fe Ne (fun p hp => hp) ?_ (fun y hy => rfl)
                unfold twos
                rw [if_neg (any_not_mem hca)]
                rfl
            case hrest =>
              rintro f s₁₀ ⟨rfl, h₁₀, tk₁₀, tt₁₀, rfl, F₁₀, N₁₀⟩
              have htw : 2 * twos (ns.map letter) (r - e) ≤ r - e := by unfold twos; split <;> omega
              generalize hetw : twos (ns.map letter) (r - e) = tw at *
              dsimp only
              repeat ((fail_if_success (with_reducible show wpAny _ _ (binaryOp Operator.Mult (Value.str _ _) _) _ _ _)); walk1)
              refine SB.mul (x := ⟨#[30]⟩) (mulOk_of 16 1048576 (by decide) (by omega) (by omega) (by decide) (by decide)) ?_
              intro t₁₁ k₁₁
              dsimp only
              rw [mul_rep 30 tw]
              repeat ((fail_if_success (with_reducible show wpAny _ _ (binaryOp Operator.Mult (Value.str _ _) _) _ _ _)); walk1)
              rw [show ((r - e : Nat) : Int) - 2 * (tw : Int) = ((r - e - 2 * tw : Nat) : Int) from by omega]
              refine SB.mul (mulOk_of 16 1048576 (by decide) (by omega) (by omega) (by decide) (by decide)) ?_
              intro t₁₂ k₁₂
              dsimp only
              rw [show (Txt.mul (Str.ofString "^") ((r - e - 2 * tw : Nat) : Int)) = rep 94 (r - e - 2 * tw) from mul_rep 94 _]
              refine SB.add ?_ (hsz := ?_)
              · intro t₁₃ k₁₃
                dsimp only
                repeat ((fail_if_success (first | (with_reducible show wpAny _ _ (call (Value.builtin "list.append") _) _ _ _))); walk1)
                refine append_K F₁₀ N₁₀ (Upd.tail hIR (Upd.head hfix)) ?_ ?_
                · intro h₁₄ F₁₄ N₁₄
                  rw [List.push_toArray] at N₁₄
                  dsimp only
                  repeat ((fail_if_success (first | (with_reducible show @ite _ _ _ _ _))); walk1)
                  walk1
                  · rename (e : Int) = 1 => he1
                    have he1 : e = 1 := by omega
                    obtain ⟨c, hc, rfl⟩ := letter_mem hns (hone he1)
                    repeat ((fail_if_success (with_reducible show wpAny _ _ (call (Value.builtin "list.append") _) _ _ _)); walk1)
                    refine append_K F₁₄ N₁₄ (Upd.tail hIR (Upd.head hfix)) ?_ ?_
                    · intro h₁₅ F₁₅ N₁₅
                      rw [List.push_toArray] at N₁₅
                      dsimp only
                      repeat walk1
                      rename Fr g' L' _ _ => Fe
                      rename News g' L' _ _ => Ne
                      rw [if_pos he1] at hstep
                      rw [← hpost, hstep]
                      refine rd_end Fe Ne rfl rfl rfl ?_ (List.Mem.head _) (fun p hp => hoff p (List.Mem.tail _ hp)) hIR
                      rw [List.append_assoc]
                      refine hrv.append' (.cons _ _ ?_)
                      rw [show (⟨#[(⟨#[c]⟩ : Str).cps[0]! % 32]⟩ : Str) = ⟨#[((c : Int).fmod 32).toNat]⟩ from mod32 c]
                      exact .cons _ _ .nil
                    · rw [List.size_toArray, List.length_append, hrv.length]
                      have : (10000 : Nat) ≤ sizeLine := by decide
                      simp only [List.length_cons, List.length_nil]
                      omega
                  · rename ¬ ((e : Int) = 1) => he1
                    have he1 : ¬ e = 1 := by omega
                    repeat ((fail_if_success (with_reducible show wpAny _ _ (call (Value.builtin "list.append") _) _ _ _)); walk1)
                    refine append_K F₁₄ N₁₄ (Upd.tail hIR (Upd.head hfix)) ?_ ?_
                    · intro h₁₅ F₁₅ N₁₅
                      rw [List.push_toArray] at N₁₅
                      dsimp only
                      repeat walk1
                      rename Fr g' L' _ _ => Fe
                      rename News g' L' _ _ => Ne
                      rw [if_neg he1] at hstep
                      rw [← hpost, hstep]
                      refine rd_end Fe Ne rfl rfl rfl ?_ (List.Mem.head _) (fun p hp => hoff p (List.Mem.tail _ hp)) hIR
                      rw [List.append_assoc]
                      exact hrv.append' (.cons _ _ (.cons _ _ .nil))
                    · rw [List.size_toArray, List.length_append, hrv.length]
                      have : (10000 : Nat) ≤ sizeLine := by decide
                      simp only [List.length_cons, List.length_nil]
                      omega
                · rw [List.size_toArray, hrv.length]
                  have : (10000 : Nat) ≤ sizeLine := by decide
                  omega
              · rw [rep_len, rep_len]
                have : (10000 : Nat) ≤ sizeLine := by decide
                omega
    · rw [hsg.length]
      have : (1000 : Nat) ≤ sizeLine - 1 := by decide
      simp only [signs, List.length_map, Array.length_toList, List.length_cons, List.length_nil]
      omega
end PartRd1

section PartFn1
def codeOf (x : Int) : Int := if (x / 5) % 33 = 32 then 127 else (x / 5) % 33
def signCp (x : Int) : Nat :=
  if x % 5 = 0 then 94 else if x % 5 = 1 then 30 else if x % 5 = 2 then (codeOf x).toNat else if x % 5 = 3 then (codeOf x).toNat ^^^ 64
  else (if (x / 5) % 1112064 < 55296 then (x / 5) % 1112064 else (x / 5) % 1112064 + 2048).toNat
def signOf (x : Int) : Str := ⟨#[signCp x]⟩

theorem fd_ed (x : Int) : x.fdiv 5 = x / 5 := Int.fdiv_eq_ediv_of_nonneg _ (by decide)
theorem fm_em (x : Int) : x.fmod 33 = x % 33 := Int.fmod_eq_emod_of_nonneg _ (by decide)
theorem fm_5 (x : Int) : x.fmod 5 = x % 5 := Int.fmod_eq_emod_of_nonneg _ (by decide)
theorem fm_p (x : Int) : x.fmod 1112064 = x % 1112064 := Int.fmod_eq_emod_of_nonneg _ (by decide)
theorem cd_call {w : World} {mean : ExcName → Option Value} {mg mb : Str → Option Value} (dp un : Nat) (gd : Option (List Code)) (cn : Str) (cs : Scope) (a : Addr) (ccd : Value) (cl : List (Str × Addr)) (outer : List Env) (A₀ : Around) (base h₀ : Heap) (L : Addr) (m : Str → Option Value) (news : List (Addr × Obj)) (s : Shared) (Q E : Value → Shared → Prop) (x : Int) (tx : Tok)
    (B : Below A₀ base outer h₀) (F : Fr h₀ L s.heap m) (X : (Mine.hd.heap_39 w.params).In h₀) (N : News h₀ L s.heap news) (T : Top Mine.hd.view_39 (looseW Mine.hd.view_39 []) mean mg mb h₀) (hk : cs.kind = .function) (hd : dp + 3 < recursionLimit) (hu : un + 24 < cLine)
    (ret : ∀ t h' tk', Fr h₀ L h' m → News h₀ L h' news → Q (.int (codeOf x) t) { s with heap := h', toks := tk' }) :
    wpAny (model Challenge.rw_mq0054_01.row.prog w) (ktrTop dp un gd cn cs L a ccd cl outer) (call (.ref 56) [.int x tx]) Q E s := by
  refine wpAny_call ?_
  k_dflt (refine' code_def (binds := [(Str.ofString "x", .int x tx)]) ?k1 ?k2 ?k3 ?k4 ?k5 ?kA ?kF ?kK ?k6 ?k7 ?k8 ?k9 ?kB ?_ ?c2 ?c3 ?c4 ?c5; (case kA => exact rfl); (case kF => exact rfl); (case kK => assumption); (case k1 => k_asm); (case k2 => k_asm); (case k3 => k_asm); (case k4 => k_asm); (case k5 => k_asm); (case k6 => k_is); (case k7 => k_is); (case k8 => ktr_room); (case k9 => exact BindsTo.of_eq rfl); (case c5 => decide); (case kB => exact locs rfl); (case c2 => exact rfl); (case c3 => exact rfl); (case c4 => exact rfl); k_whole; intro g' L' h' FG' F' N' B' X' T')
  dsimp only
  repeat' walk1
  · rename Fr h₀ L _ m => kF
    rename News h₀ L _ _ => kN
    rename (_ : Int) = 32 => h32
    refine cb_retI ret ?_ kF kN
    rw [fd_ed, fm_em] at h32
    unfold codeOf
    rw [if_pos h32]
  · rename Fr h₀ L _ m => kF
    rename News h₀ L _ _ => kN
    rename ¬ ((_ : Int) = 32) => h32
    refine cb_retI ret ?_ kF kN
    rw [fd_ed, fm_em] at h32 ⊢
    unfold codeOf
    rw [if_neg h32]

theorem codeOf_range (x : Int) : 0 ≤ codeOf x ∧ codeOf x ≤ 127 := by
  unfold codeOf
  split <;> omega
section
local macro_rules | `(tactic| walk_at "eval Call") => `(tactic| k_dflt (refine Call_ ?_))
theorem sg_call {w : World} {mean : ExcName → Option Value} {mg mb : Str → Option Value} (dp un : Nat) (gd : Option (List Code)) (cn : Str) (cs : Scope) (a : Addr) (ccd : Value) (cl : List (Str × Addr)) (outer : List Env) (A₀ : Around) (base h₀ : Heap) (L : Addr) (m : Str → Option Value) (news : List (Addr × Obj)) (s : Shared) (Q E : Value → Shared → Prop) (x : Int) (tx : Tok)
    (B : Below A₀ base outer h₀) (F : Fr h₀ L s.heap m) (X : (Mine.hd.heap_39 w.params).In h₀) (N : News h₀ L s.heap news) (T : Top Mine.hd.view_39 (looseW Mine.hd.view_39 []) mean mg mb h₀) (hk : cs.kind = .function) (hd : dp + 9 < recursionLimit) (hu : un + 60 < cLine)
    (ret : ∀ t h' tk', Fr h₀ L h' m → News h₀ L h' news → Q (.str (signOf x) t) { s with heap := h', toks := tk' }) :
    wpAny (model Challenge.rw_mq0054_01.row.prog w) (ktrTop dp un gd cn cs L a ccd cl outer) (call (.ref 63) [.int x tx]) Q E s := by
  refine wpAny_call ?_
  k_dflt (refine' code_def (binds := [(Str.ofString "x", .int x tx)]) ?k1 ?k2 ?k3 ?k4 ?k5 ?kA ?kF ?kK ?k6 ?k7 ?k8 ?k9 ?kB ?_ ?c2 ?c3 ?c4 ?c5; (case kA => exact rfl); (case kF => exact rfl); (case kK => assumption); (case k1 => k_asm); (case k2 => k_asm); (case k3 => k_asm); (case k4 => k_asm); (case k5 => k_asm); (case k6 => k_is); (case k7 => k_is); (case k8 => ktr_room); (case k9 => exact BindsTo.of_eq rfl); (case c5 => decide); (case kB => exact locs rfl); (case c2 => exact rfl); (case c3 => exact rfl); (case c4 => exact rfl); k_whole; intro g' L' h' FG' F' N' B' X' T')
  dsimp only
  repeat' ((fail_if_success (with_reducible show wpAny _ _ (call (Value.ref _) _) _ _ _)); walk1)
  · rename (_ : Int) = 0 => h0
    rw [fm_5] at h0
    rename Fr h₀ L _ m => kF
    rename News h₀ L _ _ => kN
    refine cb_retS ret ?_ kF kN
    unfold signOf signCp
    rw [if_pos h0]
    decide +kernel
  · rename ¬ ((_ : Int) = 0) => h0
    rename (_ : Int) = 1 => h1
    rw [fm_5] at h0 h1
    rename Fr h₀ L _ m => kF
    rename News h₀ L _ _ => kN
    refine cb_retS ret ?_ kF kN
    unfold signOf signCp
    rw [if_neg h0, if_pos h1]
    rfl
  · rename ¬ ((_ : Int) = 0) => h0
    rename ¬ ((_ : Int) = 1) => h1
    rename (_ : Int) = 2 => h2
    rw [fm_5] at h0 h1 h2
    rename Fr g' L' _ _ => F₁
    rename News g' L' _ _ => N₁
    k_dflt (refine cd_call _ _ _ _ _ _ _ _ _ _ _ _ _ _ _ _ _ _ x tx B' F₁ X' N₁ T' rfl ?_ ?_ ?_)
    · ktr_room
    · ktr_units
    intro t₂ h₂ tk₂ F₂ N₂
    dsimp only
    have hcr := codeOf_range x
    walk1
    refine chr_of_range (by omega) (by omega) ?_
    repeat' walk1
    rename Fr h₀ L _ m => kF
    rename News h₀ L _ _ => kN
    refine cb_retS ret ?_ kF kN
    unfold signOf signCp
    rw [if_neg h0, if_neg h1, if_pos h2]
  · rename ¬ ((_ : Int) = 0) => h0
    rename ¬ ((_ : Int) = 1) => h1
    rename ¬ ((_ : Int) = 2) => h2
    rename (_ : Int) = 3 => h3
    rw [fm_5] at h0 h1 h2 h3
    rename Fr g' L' _ _ => F₁
    rename News g' L' _ _ => N₁
    k_dflt (refine cd_call _ _ _ _ _ _ _ _ _ _ _ _ _ _ _ _ _ _ x tx B' F₁ X' N₁ T' rfl ?_ ?_ ?_)
    · ktr_room
    · ktr_units
    intro t₂ h₂ tk₂ F₂ N₂
    dsimp only
    have hcr := codeOf_range x
    obtain ⟨c', hc'⟩ : ∃ c' : Nat, codeOf x = (c' : Int) := ⟨(codeOf x).toNat, by omega⟩
    have hc3 : c' < 128 := by omega
    repeat ((fail_if_success (with_reducible show wpAny _ _ (call (Value.builtin "chr") _) _ _ _)); walk1)
    rw [hc', xor64 c' hc3]
    refine chr_of_range (by omega) (by have := xor64_lt c' hc3; omega) ?_
    repeat' walk1
    rename Fr h₀ L _ m => kF
    rename News h₀ L _ _ => kN
    refine cb_retS ret ?_ kF kN
    unfold signOf signCp
    rw [if_neg h0, if_neg h1, if_neg h2, if_pos h3, hc']
    rfl
  · rename ¬ ((_ : Int) = 0) => h0
    rename ¬ ((_ : Int) = 1) => h1
    rename ¬ ((_ : Int) = 2) => h2
    rename ¬ ((_ : Int) = 3) => h3
    rename (_ : Int) < 55296 => h4
    rw [fm_5] at h0 h1 h2 h3
    rw [fd_ed, fm_p] at h4
    rename Fr h₀ L _ m => kF
    rename News h₀ L _ _ => kN
    refine cb_retS ret ?_ kF kN
    unfold signOf signCp
    rw [if_neg h0, if_neg h1, if_neg h2, if_neg h3, if_pos h4, fd_ed, fm_p]
  · rename ¬ ((_ : Int) = 0) => h0
    rename ¬ ((_ : Int) = 1) => h1
    rename ¬ ((_ : Int) = 2) => h2
    rename ¬ ((_ : Int) = 3) => h3
    rename ¬ ((_ : Int) < 55296) => h4
    rw [fm_5] at h0 h1 h2 h3
    rw [fd_ed, fm_p] at h4
    rename Fr h₀ L _ m => kF
    rename News h₀ L _ _ => kN
    refine cb_retS ret ?_ kF kN
    unfold signOf signCp
    rw [if_neg h0, if_neg h1, if_neg h2, if_neg h3, if_neg h4, fd_ed, fm_p]
end
end PartFn1

section PartFn2
section
local macro_rules | `(tactic| walk_at "eval Call") => `(tactic| k_dflt (refine Call_ ?_))

theorem ctoi_int {w : World} {mean : ExcName → Option Value} {mg mb : Str → Option Value} (dp un : Nat) (gd : Option (List Code)) (cn : Str) (cs : Scope) (a : Addr) (ccd : Value) (cl : List (Str × Addr)) (outer : List Env) (A₀ : Around) (base h₀ : Heap) (L : Addr) (m : Str → Option Value) (news : List (Addr × Obj)) (s : Shared) (Q E : Value → Shared → Prop) (x : Int) (tx : Tok)
    (B : Below A₀ base outer h₀) (F : Fr h₀ L s.heap m) (X : (Mine.hd.heap_39 w.params).In h₀) (N : News h₀ L s.heap news) (T : Top Mine.hd.view_39 (looseW Mine.hd.view_39 []) mean mg mb h₀) (hk : cs.kind = .function) (hd : dp + 3 < recursionLimit) (hu : un + 24 < cLine)
    (ret : ∀ t h' tk', Fr h₀ L h' m → News h₀ L h' news → Q (.int x t) { s with heap := h', toks := tk' }) :
    wpAny (model Challenge.rw_mq0054_01.row.prog w) (ktrTop dp un gd cn cs L a ccd cl outer) (call (.ref 28) [.int x tx]) Q E s := by
  refine wpAny_call ?_
  k_dflt (refine' code_def (binds := [(Str.ofString "c", .int x tx)]) ?k1 ?k2 ?k3 ?k4 ?k5 ?kA ?kF ?kK ?k6 ?k7 ?k8 ?k9 ?kB ?_ ?c2 ?c3 ?c4 ?c5; (case kA => exact rfl); (case kF => exact rfl); (case kK => assumption); (case k1 => k_asm); (case k2 => k_asm); (case k3 => k_asm); (case k4 => k_asm); (case k5 => k_asm); (case k6 => k_is); (case k7 => k_is); (case k8 => ktr_room); (case k9 => exact BindsTo.of_eq rfl); (case c5 => decide); (case kB => exact locs rfl); (case c2 => exact rfl); (case c3 => exact rfl); (case c4 => exact rfl); k_whole; intro g' L' h' FG' F' N' B' X' T')
  dsimp only
  repeat' walk1
  all_goals (rename Fr h₀ L _ m => kF; rename News h₀ L _ _ => kN; exact cb_retI ret rfl kF kN)

theorem ctoi_str {w : World} {mean : ExcName → Option Value} {mg mb : Str → Option Value} (dp un : Nat) (gd : Option (List Code)) (cn : Str) (cs : Scope) (a : Addr) (ccd : Value) (cl : List (Str × Addr)) (outer : List Env) (A₀ : Around) (base h₀ : Heap) (L : Addr) (m : Str → Option Value) (news : List (Addr × Obj)) (s : Shared) (Q E : Value → Shared → Prop) (c : Nat) (tx : Tok)
    (B : Below A₀ base outer h₀) (F : Fr h₀ L s.heap m) (X : (Mine.hd.heap_39 w.params).In h₀) (N : News h₀ L s.heap news) (T : Top Mine.hd.view_39 (looseW Mine.hd.view_39 []) mean mg mb h₀) (hk : cs.kind = .function) (hd : dp + 3 < recursionLimit) (hu : un + 24 < cLine)
    (ret : ∀ t h' tk', Fr h₀ L h' m → News h₀ L h' news → Q (.int (c : Int) t) { s with heap := h', toks := tk' }) :
    wpAny (model Challenge.rw_mq0054_01.row.prog w) (ktrTop dp un gd cn cs L a ccd cl outer) (call (.ref 28) [.str ⟨#[c]⟩ tx]) Q E s := by
  refine wpAny_call ?_
  k_dflt (refine' code_def (binds := [(Str.ofString "c", .str ⟨#[c]⟩ tx)]) ?k1 ?k2 ?k3 ?k4 ?k5 ?kA ?kF ?kK ?k6 ?k7 ?k8 ?k9 ?kB ?_ ?c2 ?c3 ?c4 ?c5; (case kA => exact rfl); (case kF => exact rfl); (case kK => assumption); (case k1 => k_asm); (case k2 => k_asm); (case k3 => k_asm); (case k4 => k_asm); (case k5 => k_asm); (case k6 => k_is); (case k7 => k_is); (case k8 => ktr_room); (case k9 => exact BindsTo.of_eq rfl); (case c5 => decide); (case kB => exact locs rfl); (case c2 => exact rfl); (case c3 => exact rfl); (case c4 => exact rfl); k_whole; intro g' L' h' FG' F' N' B' X' T')
  dsimp only
  repeat' walk1
  all_goals (rename Fr h₀ L _ m => kF; rename News h₀ L _ _ => kN; exact cb_retI ret rfl kF kN)

theorem isp_call {w : World} {mean : ExcName → Option Value} {mg mb : Str → Option Value} (dp un : Nat) (gd : Option (List Code)) (cn : Str) (cs : Scope) (a : Addr) (ccd : Value) (cl : List (Str × Addr)) (outer : List Env) (A₀ : Around) (base h₀ : Heap) (L : Addr) (m : Str → Option Value) (news : List (Addr × Obj)) (s : Shared) (Q E : Value → Shared → Prop) (x : Int) (tx : Tok)
    (B : Below A₀ base outer h₀) (F : Fr h₀ L s.heap m) (X : (Mine.hd.heap_39 w.params).In h₀) (N : News h₀ L s.heap news) (T : Top Mine.hd.view_39 (looseW Mine.hd.view_39 []) mean mg mb h₀) (hk : cs.kind = .function) (hd : dp + 6 < recursionLimit) (hu : un + 40 < cLine)
    (ret : ∀ (t : Tok) h' tk', Fr h₀ L h' m → News h₀ L h' news → Q (.bool (decide (32 ≤ x ∧ x ≤ 126))) { s with heap := h', toks := tk' }) :
    wpAny (model Challenge.rw_mq0054_01.row.prog w) (ktrTop dp un gd cn cs L a ccd cl outer) (call (.ref 35) [.int x tx]) Q E s := by
  refine wpAny_call ?_
  k_dflt (refine' code_def (binds := [(Str.ofString "c", .int x tx)]) ?k1 ?k2 ?k3 ?k4 ?k5 ?kA ?kF ?kK ?k6 ?k7 ?k8 ?k9 ?kB ?_ ?c2 ?c3 ?c4 ?c5; (case kA => exact rfl); (case kF => exact rfl); (case kK => assumption); (case k1 => k_asm); (case k2 => k_asm); (case k3 => k_asm); (case k4 => k_asm); (case k5 => k_asm); (case k6 => k_is); (case k7 => k_is); (case k8 => ktr_room); (case k9 => exact BindsTo.of_eq rfl); (case c5 => decide); (case kB => exact locs rfl); (case c2 => exact rfl); (case c3 => exact rfl); (case c4 => exact rfl); k_whole; intro g' L' h' FG' F' N' B' X' T')
  dsimp only
  repeat' ((fail_if_success (with_reducible show wpAny _ _ (call (Value.ref _) _) _ _ _)); walk1)
  k_dflt (refine ctoi_int _ _ _ _ _ _ _ _ _ _ _ _ _ _ _ _ _ _ x tx B' F' X' N' T' rfl ?_ ?_ ?_)
  · ktr_room
  · ktr_units
  intro t₂ h₂ tk₂ F₂ N₂
  dsimp only
  repeat' walk1
  · rename Fr h₀ L _ m => kF
    rename News h₀ L _ _ => kN
    refine cb_retB ret ?_ kF kN
    rename (_ : Int) ≤ x => hx
    simp [hx]
  · rename Fr h₀ L _ m => kF
    rename News h₀ L _ _ => kN
    refine cb_retB ret ?_ kF kN
    rename ¬ ((_ : Int) ≤ x) => hx
    simp [hx]

theorem and127 : ∀ n : Nat, n < 128 → Builtin.bitAnd (n : Int) 127 = (n : Int) := by decide +kernel
theorem and128 : ∀ n : Nat, n < 128 → Builtin.bitAnd (n : Int) 128 = 0 := by decide +kernel
theorem and31 : ∀ n : Nat, n < 128 → Builtin.bitAnd (n : Int) 31 = ((n % 32 : Nat) : Int) := by decide +kernel
theorem or32 : ∀ n : Nat, n < 32 → Builtin.bitOr (n : Int) 32 + 32 = ((n ^^^ 64 : Nat) : Int) := by decide +kernel
def unc (n : Nat) : Str := Str.ofString "^" ++ ⟨#[n ^^^ 64]⟩

theorem uci_call {w : World} {mean : ExcName → Option Value} {mg mb : Str → Option Value} (dp un : Nat) (gd : Option (List Code)) (cn : Str) (cs : Scope) (a : Addr) (ccd : Value) (cl : List (Str × Addr)) (outer : List Env) (A₀ : Around) (base h₀ : Heap) (L : Addr) (m : Str → Option Value) (news : List (Addr × Obj)) (s : Shared) (Q E : Value → Shared → Prop) (n : Nat) (tx : Tok) (hn : n ≤ 31 ∨ n = 127)
    (B : Below A₀ base outer h₀) (F : Fr h₀ L s.heap m) (X : (Mine.hd.heap_39 w.params).In h₀) (N : News h₀ L s.heap news) (T : Top Mine.hd.view_39 (looseW Mine.hd.view_39 []) mean mg mb h₀) (hk : cs.kind = .function) (hd : dp + 9 < recursionLimit) (hu : un + 60 < cLine)
    (ret : ∀ (t : Tok) h' tk', Fr h₀ L h' m → News h₀ L h' news → Q (.str (unc n) t) { s with heap := h', toks := tk' }) :
    wpAny (model Challenge.rw_mq0054_01.row.prog w) (ktrTop dp un gd cn cs L a ccd cl outer) (call (.ref 49) [.int (n : Int) tx]) Q E s := by
  refine wpAny_call ?_
  k_dflt (refine' code_def (binds := [(Str.ofString "c", .int (n : Int) tx)]) ?k1 ?k2 ?k3 ?k4 ?k5 ?kA ?kF ?kK ?k6 ?k7 ?k8 ?k9 ?kB ?_ ?c2 ?c3 ?c4 ?c5; (case kA => exact rfl); (case kF => exact rfl); (case kK => assumption); (case k1 => k_asm); (case k2 => k_asm); (case k3 => k_asm); (case k4 => k_asm); (case k5 => k_asm); (case k6 => k_is); (case k7 => k_is); (case k8 => ktr_room); (case k9 => exact BindsTo.of_eq rfl); (case c5 => decide); (case kB => exact locs rfl); (case c2 => exact rfl); (case c3 => exact rfl); (case c4 => exact rfl); k_whole; intro g' L' h' FG' F' N' B' X' T')
  dsimp only
  repeat' ((fail_if_success (with_reducible show wpAny _ _ (call (Value.ref _) _) _ _ _)); walk1)
  k_dflt (refine ctoi_int _ _ _ _ _ _ _ _ _ _ _ _ _ _ _ _ _ _ (n : Int) tx B' F' X' N' T' rfl ?_ ?_ ?_)
  · ktr_room
  · ktr_units
  intro t₂ h₂ tk₂ F₂ N₂
  dsimp only
  repeat' ((fail_if_success (with_reducible show wpAny _ _ (call (Value.ref _) _) _ _ _)); walk1)
  · rename (n : Int) = 127 => h127
    exfalso
    have e : n = 127 := by omega
    subst e
    rename ¬ ((_ : Int) = 0) => h0
    exact h0 (by decide +kernel)
  · rename (n : Int) = 127 => h127
    have e : n = 127 := by omega
    subst e
    rename Fr h₀ L _ m => kF
    rename News h₀ L _ _ => kN
    refine cb_retS ret ?_ kF kN
    decide +kernel
  · rename ¬ ((n : Int) = 127) => h127
    have h31 : n < 32 := by omega
    rw [and127 n (by omega)]
    rename Fr g' L' _ _ => F₃
    rename News g' L' _ _ => N₃
    k_dflt (refine isp_call _ _ _ _ _ _ _ _ _ _ _ _ _ _ _ _ _ _ (n : Int) _ B' F₃ X' N₃ T' rfl ?_ ?_ ?_)
    · ktr_room
    · ktr_units
    intro t₄ h₄ tk₄ F₄ N₄
    dsimp only
    rw [show decide (32 ≤ (n : Int) ∧ (n : Int) ≤ 126) = false from decide_eq_false (by omega)]
    repeat' ((fail_if_success (with_reducible show wpAny _ _ (call (Value.builtin "chr") _) _ _ _)); walk1)
    rw [and127 n (by omega), or32 n h31]
    refine chr_of_range (by omega) (by have := xor64_lt n (by omega); omega) ?_
    repeat' walk1
    · exfalso
      rename ¬ ((_ : Int) = 0) => h0
      exact h0 (and128 n (by omega))
    · rename Fr h₀ L _ m => kF
      rename News h₀ L _ _ => kN
      refine cb_retS ret ?_ kF kN
      rfl

theorem ucs_call {w : World} {mean : ExcName → Option Value} {mg mb : Str → Option Value} (dp un : Nat) (gd : Option (List Code)) (cn : Str) (cs : Scope) (a : Addr) (ccd : Value) (cl : List (Str × Addr)) (outer : List Env) (A₀ : Around) (base h₀ : Heap) (L : Addr) (m : Str → Option Value) (news : List (Addr × Obj)) (s : Shared) (Q E : Value → Shared → Prop) (n : Nat) (tx : Tok) (hn : n ≤ 31 ∨ n = 127)
    (B : Below A₀ base outer h₀) (F : Fr h₀ L s.heap m) (X : (Mine.hd.heap_39 w.params).In h₀) (N : News h₀ L s.heap news) (T : Top Mine.hd.view_39 (looseW Mine.hd.view_39 []) mean mg mb h₀) (hk : cs.kind = .function) (hd : dp + 9 < recursionLimit) (hu : un + 60 < cLine)
    (ret : ∀ (t : Tok) h' tk', Fr h₀ L h' m → News h₀ L h' news → Q (.str (unc n) t) { s with heap := h', toks := tk' }) :
    wpAny (model Challenge.rw_mq0054_01.row.prog w) (ktrTop dp un gd cn cs L a ccd cl outer) (call (.ref 49) [.str ⟨#[n]⟩ tx]) Q E s := by
  refine wpAny_call ?_
  k_dflt (refine' code_def (binds := [(Str.ofString "c", .str ⟨#[n]⟩ tx)]) ?k1 ?k2 ?k3 ?k4 ?k5 ?kA ?kF ?kK ?k6 ?k7 ?k8 ?k9 ?kB ?_ ?c2 ?c3 ?c4 ?c5; (case kA => exact rfl); (case kF => exact rfl); (case kK => assumption); (case k1 => k_asm); (case k2 => k_asm); (case k3 => k_asm); (case k4 => k_asm); (case k5 => k_asm); (case k6 => k_is); (case k7 => k_is); (case k8 => ktr_room); (case k9 => exact BindsTo.of_eq rfl); (case c5 => decide); (case kB => exact locs rfl); (case c2 => exact rfl); (case c3 => exact rfl); (case c4 => exact rfl); k_whole; intro g' L' h' FG' F' N' B' X' T')
  dsimp only
  repeat' ((fail_if_success (with_reducible show wpAny _ _ (call (Value.ref _) _) _ _ _)); walk1)
  k_dflt (refine ctoi_str _ _ _ _ _ _ _ _ _ _ _ _ _ _ _ _ _ _ n tx B' F' X' N' T' rfl ?_ ?_ ?_)
  · ktr_room
  · ktr_units
  intro t₂ h₂ tk₂ F₂ N₂
  dsimp only
  repeat' ((fail_if_success (with_reducible show wpAny _ _ (call (Value.ref _) _) _ _ _)); walk1)
  · rename (n : Int) = 127 => h127
    exfalso
    have e : n = 127 := by omega
    subst e
    rename ¬ ((_ : Int) = 0) => h0
    exact h0 (by decide +kernel)
  · rename (n : Int) = 127 => h127
    have e : n = 127 := by omega
    subst e
    rename Fr h₀ L _ m => kF
    rename News h₀ L _ _ => kN
    refine cb_retS ret ?_ kF kN
    decide +kernel
  · rename ¬ ((n : Int) = 127) => h127
    have h31 : n < 32 := by omega
    rw [and127 n (by omega)]
    rename Fr g' L' _ _ => F₃
    rename News g' L' _ _ => N₃
    k_dflt (refine isp_call _ _ _ _ _ _ _ _ _ _ _ _ _ _ _ _ _ _ (n : Int) _ B' F₃ X' N₃ T' rfl ?_ ?_ ?_)
    · ktr_room
    · ktr_units
    intro t₄ h₄ tk₄ F₄ N₄
    dsimp only
    rw [show decide (32 ≤ (n : Int) ∧ (n : Int) ≤ 126) = false from decide_eq_false (by omega)]
    repeat' ((fail_if_success (with_reducible show wpAny _ _ (call (Value.builtin "chr") _) _ _ _)); walk1)
    rw [and127 n (by omega), or32 n h31]
    refine chr_of_range (by omega) (by have := xor64_lt n (by omega); omega) ?_
    repeat' walk1
    · exfalso
      rename ¬ ((_ : Int) = 0) => h0
      exact h0 (and128 n (by omega))
    · rename Fr h₀ L _ m => kF
      rename News h₀ L _ _ => kN
      refine cb_retS ret ?_ kF kN
      rfl

theorem ct_call {w : World} {mean : ExcName → Option Value} {mg mb : Str → Option Value} (dp un : Nat) (gd : Option (List Code)) (cn : Str) (cs : Scope) (a : Addr) (ccd : Value) (cl : List (Str × Addr)) (outer : List Env) (A₀ : Around) (base h₀ : Heap) (L : Addr) (m : Str → Option Value) (news : List (Addr × Obj)) (s : Shared) (Q E : Value → Shared → Prop) (c : Nat) (tx : Tok) (hc : c < 128)
    (B : Below A₀ base outer h₀) (F : Fr h₀ L s.heap m) (X : (Mine.hd.heap_39 w.params).In h₀) (N : News h₀ L s.heap news) (T : Top Mine.hd.view_39 (looseW Mine.hd.view_39 []) mean mg mb h₀) (hk : cs.kind = .function) (hd : dp + 9 < recursionLimit) (hu : un + 60 < cLine)
    (ret : ∀ (t : Tok) h' tk', Fr h₀ L h' m → News h₀ L h' news → Q (.str ⟨#[c % 32]⟩ t) { s with heap := h', toks := tk' }) :
    wpAny (model Challenge.rw_mq0054_01.row.prog w) (ktrTop dp un gd cn cs L a ccd cl outer) (call (.ref 42) [.str ⟨#[c]⟩ tx]) Q E s := by
  refine wpAny_call ?_
  k_dflt (refine' code_def (binds := [(Str.ofString "c", .str ⟨#[c]⟩ tx)]) ?k1 ?k2 ?k3 ?k4 ?k5 ?kA ?kF ?kK ?k6 ?k7 ?k8 ?k9 ?kB ?_ ?c2 ?c3 ?c4 ?c5; (case kA => exact rfl); (case kF => exact rfl); (case kK => assumption); (case k1 => k_asm); (case k2 => k_asm); (case k3 => k_asm); (case k4 => k_asm); (case k5 => k_asm); (case k6 => k_is); (case k7 => k_is); (case k8 => ktr_room); (case k9 => exact BindsTo.of_eq rfl); (case c5 => decide); (case kB => exact locs rfl); (case c2 => exact rfl); (case c3 => exact rfl); (case c4 => exact rfl); k_whole; intro g' L' h' FG' F' N' B' X' T')
  dsimp only
  repeat' ((fail_if_success (with_reducible show wpAny _ _ (call (Value.ref _) _) _ _ _)); walk1)
  k_dflt (refine ctoi_str _ _ _ _ _ _ _ _ _ _ _ _ _ _ _ _ _ _ c tx B' F' X' N' T' rfl ?_ ?_ ?_)
  · ktr_room
  · ktr_units
  intro t₂ h₂ tk₂ F₂ N₂
  dsimp only
  repeat' ((fail_if_success (with_reducible show wpAny _ _ (call (Value.builtin "chr") _) _ _ _)); walk1)
  rw [and31 c hc]
  refine chr_of_range (by omega) (by omega) ?_
  repeat' walk1
  rename Fr h₀ L _ m => kF
  rename News h₀ L _ _ => kN
  refine cb_retS ret ?_ kF kN
  rfl
end
end PartFn2

section PartLaw0
section
variable {prog : Program} {w : World} {A : Around} {h₀ : Heap} {L : Addr} {m : Str → Option Value} {env : Env} {elt : Expr} {x : Str} {scope : Scope} {cl : List (Str × Addr)} {s : Shared} {S : List (Addr × Obj) → Prop} {P : Nat → Value → Prop} {Fin : List Value → List (Addr × Obj) → Prop} {news : List (Addr × Obj)}
/-- the end of one element's way: an int -/
def IntEnd (h₀ : Heap) (L : Addr) (m : Str → Option Value) (s : Shared) (keep : List (Addr × Obj)) (r : Int) (y : Value) (s₂ : Shared) : Prop :=
  ∃ h' tk' all, s₂ = { s with heap := h', toks := tk' } ∧ Fr h₀ L h' m ∧ News h₀ L h' all ∧ (∀ p ∈ keep, p ∈ all) ∧ ∃ t', y = .int r t'
theorem IntEnd.intro {h₀ : Heap} {L : Addr} {m : Str → Option Value} {s : Shared} {keep all : List (Addr × Obj)} {r r' : Int} {t' : Tok} {h' : Heap} {tk' : Nat} (F : Fr h₀ L h' m) (N : News h₀ L h' all) (hk : ∀ p ∈ keep, p ∈ all) (e : r' = r) :
    IntEnd h₀ L m s keep r (.int r' t') { s with heap := h', toks := tk' } := ⟨h', tk', all, rfl, F, N, hk, t', by rw [e]⟩
theorem ints_snoc {y : Int} {t : Tok} : ∀ {vs : List Value} {ys : List Int}, IntsAre vs ys → IntsAre (vs ++ [.int y t]) (ys ++ [y])
  | _, _, .nil => .cons y t .nil
  | _, _, .cons z u r => .cons z u (ints_snoc r)
/-- the turns of a comprehension whose elements are ints -/
theorem comp_ints {α : Type} {n : Nat} (ks : List α) (mk : α → Tok → Value) (g : α → Int) (hks : ks.length = n) (hP : ∀ i v, i < n → P i v → ∃ k t, ks[i]? = some k ∧ v = mk k t) (hS : S news)
    (turn : ∀ k t I oI C oC D m₂ ys h tk (E' : Value → Shared → Prop), k ∈ ks → LCg.NsObj oC m₂ → m₂ x = some (mk k t) → Fr h₀ L h m → News h₀ L h ((I, oI) :: (C, oC) :: (D, LCg.lst ys) :: news) → LCg.Off3 I C D news → ((@Ne Nat I C) ∧ (@Ne Nat I D) ∧ (@Ne Nat C D)) →
      wpAny (model prog w) A (eval elt (compEnvC scope cl C env)) (IntEnd h₀ L m s ((I, oI) :: (C, oC) :: (D, LCg.lst ys) :: news) (g k)) E' { s with heap := h, toks := tk })
    (fin : ∀ ys, IntsAre ys (ks.map g) → ks.length = n → Fin ys news) : LCg.CompRest prog w A h₀ L m env elt x scope cl s S P Fin n 0 [] news := by
  have key : ∀ (j i : Nat) (ys : List Value), i + j = n → IntsAre ys ((ks.take i).map g) → LCg.CompRest prog w A h₀ L m env elt x scope cl s S P Fin j i ys news := by
    intro j
    induction j with
    | zero =>
      intro i ys hi hy
      have e : i = ks.length := by omega
      subst e
      rw [List.take_length] at hy
      exact LCg.CompRest.zero (fin ys hy hks)
    | succ j ih =>
      intro i ys hi hy
      refine LCg.CompRest.succ ?_
      intro v I oI C oC D m₂ h tk E' hv hC hx F N off ne
      obtain ⟨k, t, hk, hv'⟩ := hP i v (by omega) hv
      rw [hv'] at hx
      refine wpAny_mono (turn k t I oI C oC D m₂ ys h tk E' (List.mem_of_getElem? hk) hC hx F N off ne) (fun y s₂ hq => ?_) fun _ _ e => e
      obtain ⟨h', tk', all, e, F', N', hsub, t', hy'⟩ := hq
      refine ⟨h', tk', news, e, F', fun p hp => N' p (hsub p hp), off, hS, ?_⟩
      rw [hy']
      refine ih (i + 1) _ (by omega) ?_
      rw [List.take_add_one, hk]
      simpa using ints_snoc hy
  exact key n 0 [] (by omega) (by simp only [List.take_zero, List.map_nil]; exact .nil)
end


noncomputable def lawBody : List Stmt := match Challenge.pw_mq0054_01.main.body.getD 12 default with | (PySem.Stmt.FunctionDef _ _ body _ _ _ _ _ _ _) => body | _ => []
noncomputable def lawScope : Scope := match Challenge.pw_mq0054_01.main.body.getD 12 default with | (PySem.Stmt.FunctionDef _ _ _ _ _ _ sc _ _ _) => sc | _ => default
noncomputable abbrev lawEnv (L fa : Addr) (cd : Value) : Env := envOf (Str.ofString "law") lawScope L fa cd

def chrS (n : Int) : Str := ⟨#[n.toNat]⟩
def uncS (n : Int) : Str := unc n.toNat
def ctlS (n : Int) : Str := ⟨#[(n.toNat ^^^ 64) % 32]⟩
def bStep (st : List Str × List Str) (n : Int) : List Str × List Str := (st.1 ++ [chrS n, uncS n], st.2 ++ [uncS n, ctlS n])
theorem bStep_len (pre : List Int) : (pre.foldl bStep ([], [])).1.length = 2 * pre.length ∧ (pre.foldl bStep ([], [])).2.length = 2 * pre.length := by
  have key : ∀ (l : List Int) (st : List Str × List Str), (l.foldl bStep st).1.length = st.1.length + 2 * l.length ∧ (l.foldl bStep st).2.length = st.2.length + 2 * l.length := by
    intro l
    induction l with
    | nil => intro st; exact ⟨rfl, rfl⟩
    | cons a l ih =>
      intro st
      rw [List.foldl_cons, List.length_cons]
      have := ih (bStep st a)
      simp only [bStep, List.length_append, List.length_cons, List.length_nil] at this ⊢
      omega
  have := key pre ([], [])
  simpa using this
theorem unc_tail : ∀ n : Nat, n < 128 → Txt.slice (unc n) (some 1) none = ⟨#[n ^^^ 64]⟩ := by decide +kernel
def thereL (mk : List Int) : List Str := mk.flatMap fun n => [chrS n, uncS n]
def backL (mk : List Int) : List Str := mk.flatMap fun n => [uncS n, ctlS n]
theorem bFold (mk : List Int) : mk.foldl bStep ([], []) = (thereL mk, backL mk) := by
  have key : ∀ (l : List Int) (st : List Str × List Str), l.foldl bStep st = (st.1 ++ thereL l, st.2 ++ backL l) := by
    intro l
    induction l with
    | nil => intro st; simp [thereL, backL]
    | cons a l ih =>
      intro st
      rw [List.foldl_cons, ih]
      simp [bStep, thereL, backL]
  rw [key]
  simp
theorem four_map {m : Str → Option Value} {x y z k : Str} {u v t q : Value} (hx : m x = some u) (hy : m y = some v) (hz : m z = some t) (hk : m k = some q) :
    m = fun r => if r = x then some u else if r = y then some v else if r = z then some t else if r = k then some q else m r := by
  funext r
  by_cases h1 : r = x
  · subst h1; simp [hx]
  · by_cases h2 : r = y
    · subst h2; simp [h1, hy]
    · by_cases h3 : r = z
      · subst h3; simp [h1, h2, hz]
      · by_cases h4 : r = k
        · subst h4; simp [h1, h2, h3, hk]
        · simp [h1, h2, h3, h4]

theorem five_map {m : Str → Option Value} {x y z k l : Str} {u v t q p : Value} (hx : m x = some u) (hy : m y = some v) (hz : m z = some t) (hk : m k = some q) (hl : m l = some p) :
    m = fun r => if r = x then some u else if r = y then some v else if r = z then some t else if r = k then some q else if r = l then some p else m r := by
  funext r
  by_cases h1 : r = x
  · subst h1; simp [hx]
  · by_cases h2 : r = y
    · subst h2; simp [h1, hy]
    · by_cases h3 : r = z
      · subst h3; simp [h1, h2, hz]
      · by_cases h4 : r = k
        · subst h4; simp [h1, h2, h3, hk]
        · by_cases h5 : r = l
          · subst h5; simp [h1, h2, h3, h4, hl]
          · simp [h1, h2, h3, h4, h5]

/-- a fact that no line of the walk renames -/
structure Keep (P : Prop) : Prop where
  out : P
/-- what the plain law says of a page and its codes -/
structure LawMath (pg : Str) (mk : List Int) : Prop where
  okT : ∀ k : Nat, RepOk pg ((thereL mk).take (2 * k))
  okB : ∀ k : Nat, RepOk (repAll pg (thereL mk)) ((backL mk).take k)
  ok3 : RepOk pg (thereL mk ++ backL mk ++ thereL mk)
  e1 : ∀ k : Nat, repAll pg ((thereL mk).take (2 * k)) = wrAll pg (mk.take k)
  e2 : ∀ k : Nat, repAll (repAll pg (thereL mk)) ((backL mk).take (2 * k)) = rdAll (repAll pg (thereL mk)) (mk.take k)
  e3 : repAll pg (thereL mk ++ backL mk ++ thereL mk) = wrAll (rdAll (wrAll pg mk) mk) mk
  len1 : (repAll pg (thereL mk)).length ≤ 1000
  len2 : (wrAll pg mk).length ≤ 1000
  len3 : (rdAll (wrAll pg mk) mk).length ≤ 1000
end PartLaw0

section PartLawE
theorem thereL_len (mk : List Int) : (thereL mk).length = 2 * mk.length := by
  induction mk with
  | nil => rfl
  | cons a l ih =>
    show ([chrS a, uncS a] ++ thereL l).length = _
    rw [List.length_append, ih]
    simp only [List.length_cons, List.length_nil]
    omega
theorem backL_len (mk : List Int) : (backL mk).length = 2 * mk.length := by
  induction mk with
  | nil => rfl
  | cons a l ih =>
    show ([uncS a, ctlS a] ++ backL l).length = _
    rw [List.length_append, ih]
    simp only [List.length_cons, List.length_nil]
    omega
end PartLawE

section PartLawD
def dJ (Dm Dt Db : Addr) (wm tv bv : List Value) (nm tn bn : Nat) (pg sh : Str) (tp ts : Tok) (m : Str → Option Value) (news : List (Addr × Obj)) : Prop :=
  m (Str.ofString "shown") = some (.str sh ts) ∧ m (Str.ofString "there") = some (.ref Dt) ∧ m (Str.ofString "back") = some (.ref Db) ∧ m (Str.ofString "page") = some (.str pg tp) ∧ m (Str.ofString "marks") = some (.ref Dm) ∧
    ∃ lp, news = lp :: [(Db, W.listOf bv.toArray bn), (Dt, W.listOf tv.toArray tn), (Dm, W.listOf wm.toArray nm)]
section
local macro_rules | `(tactic| walk_at "eval Call") => `(tactic| ((fail_if_success k_compRoot); k_dflt (refine Call_ ?_)))
theorem law_d {w : World} {mean : ExcName → Option Value} {mg mb : Str → Option Value} {R : Result → Shared → Prop} {h₀ : Heap} {L fa : Addr} {cd : Value} {s : Shared} {m : Str → Option Value} (B : Below callerA h₀ [] h₀) (X : (Mine.hd.heap_39 w.params).In h₀) (T : Top Mine.hd.view_39 (looseW Mine.hd.view_39 []) mean mg mb h₀) (Dm Dt Db : Addr) (wm tv bv : List Value) (mk : List Int) (nm tn bn : Nat) (pg sh : Str) (tp ts : Tok) (hm : IntsAre wm mk) (htv : StrsAre tv (thereL mk)) (hbv : StrsAre bv (backL mk)) (hsh : sh = repAll pg (thereL mk))
    (hmk : ∀ n ∈ mk, (0 ≤ n ∧ n ≤ 31) ∨ n = 127) (hlen : mk.length ≤ 12) (hpos : 1 ≤ mk.length) (hpg : pg.length ≤ 12) (hM : LawMath pg mk)
    (F : Fr h₀ L s.heap (fun y => if y = Str.ofString "shown" then some (.str sh ts) else if y = Str.ofString "there" then some (.ref Dt) else if y = Str.ofString "back" then some (.ref Db) else if y = Str.ofString "page" then some (.str pg tp) else if y = Str.ofString "marks" then some (.ref Dm) else m y))
    (N : News h₀ L s.heap [(Db, W.listOf bv.toArray bn), (Dt, W.listOf tv.toArray tn), (Dm, W.listOf wm.toArray nm)])
    (done : ∀ h' tk' m', Fr h₀ L h' m' → R (.ok (.ret (.bool true))) { s with heap := h', toks := tk' }) :
    wpAny (model Challenge.rw_mq0054_01.row.prog w) (callerA.deeper (lawEnv L fa cd)) (execs (lawBody.drop 8) (lawEnv L fa cd)) (fun f s' => R (.ok (.ret (match f with | .ret v => v | _ => .none))) s') (fun e s' => wpAny (model Challenge.rw_mq0054_01.row.prog w) (callerA.deeper (lawEnv L fa cd)) (leaving (lawEnv L fa cd) e) (fun _ s'' => R (.error e) s'') (fun e' s'' => R (.error e') s'') s') s := by
  have hmK : Keep (IntsAre wm mk) := ⟨hm⟩
  have htvK : Keep (StrsAre tv (thereL mk)) := ⟨htv⟩
  have hbvK : Keep (StrsAre bv (backL mk)) := ⟨hbv⟩
  have hmk' : ∀ n ∈ mk, 0 ≤ n ∧ n ≤ 127 := fun n hn => by have := hmk n hn; omega
  show wpAny _ _ (execs (_ :: _) _) _ _ _
  repeat ((fail_if_success (first | (with_reducible show wpAny _ _ (call (Value.ref _) _) _ _ _) | (with_reducible show wpAny _ _ (binaryOp _ _ _) _ _ _) | (with_reducible show StarOf _ _ _ _ _ _))); walk1)
  have h2t := thereL_len mk
  have h2b := backL_len mk
  have hsl : (1000 : Nat) ≤ sizeLine := by decide
  refine add_lists F N (News.isList N (List.Mem.tail _ (List.Mem.head _))) (News.isList N (List.Mem.head _)) ?_ (hsz := by rw [htvK.out.length, hbvK.out.length]; omega)
  intro h₁ F₁ N₁
  try dsimp only
  repeat ((fail_if_success (first | (with_reducible show wpAny _ _ (call (Value.ref _) _) _ _ _) | (with_reducible show wpAny _ _ (binaryOp _ _ _) _ _ _) | (with_reducible show StarOf _ _ _ _ _ _))); walk1)
  refine add_lists F₁ N₁ (News.isList N₁ (List.Mem.head _)) (News.isList N₁ (List.Mem.tail _ (List.Mem.tail _ (List.Mem.head _)))) ?_ (hsz := by rw [List.length_append, htvK.out.length, hbvK.out.length]; omega)
  intro h₂ F₂ N₂
  try dsimp only
  have hall : StrsAre (tv ++ bv ++ tv) (thereL mk ++ backL mk ++ thereL mk) := (htvK.out.append' hbvK.out).append' htvK.out
  refine star_seq F₂ N₂ (List.Mem.head _) rfl rfl (.inl rfl) rfl ?_ ?_
  · rw [List.size_toArray, hall.length]
    simp only [List.length_append]
    omega
  intro h₃ F₃ N₃
  try dsimp only
  replace N₃ := news_sub N₃ (fun p hp => List.Mem.tail _ (List.Mem.tail _ hp))
  repeat ((fail_if_success (first | (with_reducible show wpAny _ _ (call (Value.ref _) _) _ _ _) | (with_reducible show wpAny _ _ (binaryOp _ _ _) _ _ _) | (with_reducible show StarOf _ _ _ _ _ _))); walk1)
  rw [List.append_nil]
  k_dflt (refine' rep_call _ _ _ _ _ _ _ _ _ _ _ _ _ _ _ _ _ _ pg tp (tv ++ bv ++ tv) (thereL mk ++ backL mk ++ thereL mk) hall ?hv hM.ok3 ?hB ?hF ?hX ?hN ?hT ?hk ?_ ?_ ?_ ?_; (case hk => exact rfl); (case hB => exact B); (case hX => exact X); (case hT => exact T); (case hF => exact F₃); (case hN => exact N₃))
  case hv =>
    rw [hall.length]
    simp only [List.length_append]
    omega
  · decide
  · decide
  · intro _ t₄ h₄ tk₄ F₄ N₄
    try dsimp only
    repeat ((fail_if_success (first | (with_reducible show wpAny _ _ (call (Value.ref _) _) _ _ _) | (with_reducible show wpAny _ _ (binaryOp _ _ _) _ _ _) | (with_reducible show StarOf _ _ _ _ _ _))); walk1)
    k_dflt (refine' wr_call _ _ _ _ _ _ _ _ _ _ _ _ _ _ _ _ _ _ pg tp Dm wm mk nm hmK.out (List.Mem.tail _ (List.Mem.tail _ (List.Mem.head _))) hmk' (by omega) (by omega) ?hB ?hF ?hX ?hN ?hT ?hk ?_ ?_ ?_; (case hk => exact rfl); (case hB => exact B); (case hX => exact X); (case hT => exact T); (case hF => exact F₄); (case hN => exact N₄))
    · decide
    · decide
    intro t₅ h₅ tk₅ F₅ N₅
    try dsimp only
    repeat ((fail_if_success (first | (with_reducible show wpAny _ _ (call (Value.ref _) _) _ _ _) | (with_reducible show wpAny _ _ (binaryOp _ _ _) _ _ _) | (with_reducible show StarOf _ _ _ _ _ _))); walk1)
    k_dflt (refine' rd_call _ _ _ _ _ _ _ _ _ _ _ _ _ _ _ _ _ _ (wrAll pg mk) t₅ Dm wm mk nm hmK.out (List.Mem.tail _ (List.Mem.tail _ (List.Mem.head _))) hmk' (by omega) hM.len2 ?hB ?hF ?hX ?hN ?hT ?hk ?_ ?_ ?_; (case hk => exact rfl); (case hB => exact B); (case hX => exact X); (case hT => exact T); (case hF => exact F₅); (case hN => exact N₅))
    · decide
    · decide
    intro t₆ h₆ tk₆ F₆ N₆
    try dsimp only
    repeat ((fail_if_success (first | (with_reducible show wpAny _ _ (call (Value.ref _) _) _ _ _) | (with_reducible show wpAny _ _ (binaryOp _ _ _) _ _ _) | (with_reducible show StarOf _ _ _ _ _ _))); walk1)
    k_dflt (refine' wr_call _ _ _ _ _ _ _ _ _ _ _ _ _ _ _ _ _ _ (rdAll (wrAll pg mk) mk) t₆ Dm wm mk nm hmK.out (List.Mem.tail _ (List.Mem.tail _ (List.Mem.head _))) hmk' (by omega) hM.len3 ?hB ?hF ?hX ?hN ?hT ?hk ?_ ?_ ?_; (case hk => exact rfl); (case hB => exact B); (case hX => exact X); (case hT => exact T); (case hF => exact F₆); (case hN => exact N₆))
    · decide
    · decide
    intro t₇ h₇ tk₇ F₇ N₇
    rw [hM.e3]
    try dsimp only
    repeat ((fail_if_success (first | (with_reducible show wpAny _ _ (call (Value.ref _) _) _ _ _) | (with_reducible show wpAny _ _ (compareOp _ _ _) _ _ _))); walk1)
    walk1
    walk1
    refine W.ite_neg (by simp) ?_
    try dsimp only
    repeat ((fail_if_success (first | (with_reducible show wpAny _ _ (call (Value.ref _) _) _ _ _) | (with_reducible show wpAny _ _ (binaryOp _ _ _) _ _ _) | (with_reducible show StarOf _ _ _ _ _ _))); walk1)
    k_dflt (refine' rep_call _ _ _ _ _ _ _ _ _ _ _ _ _ _ _ _ _ _ (Str.ofString "") _ [.str (Str.ofString "a") _, .str (Str.ofString "b") _] [Str.ofString "a", Str.ofString "b"] (.cons _ _ (.cons _ _ .nil)) (by simp) ⟨by decide +kernel, by decide +kernel, by decide +kernel, by decide +kernel, trivial⟩ ?hB ?hF ?hX ?hN ?hT ?hk ?_ ?_ ?_ ?_; (case hk => exact rfl); (case hB => exact B); (case hX => exact X); (case hT => exact T); (case hF => exact F₇); (case hN => exact N₇))
    · decide
    · decide
    rotate_left
    · intro ho
      exact absurd ho (by decide)
    intro _ t8 h8 tk8 F₈ N₈
    rw [show repAll (Str.ofString "") [Str.ofString "a", Str.ofString "b"] = Str.ofString "" from by decide +kernel]
    try dsimp only
    repeat ((fail_if_success (first | (with_reducible show wpAny _ _ (call (Value.ref _) _) _ _ _) | (with_reducible show wpAny _ _ (compareOp _ _ _) _ _ _))); walk1)
    k_dflt (refine' rep_call _ _ _ _ _ _ _ _ _ _ _ _ _ _ _ _ _ _ (Str.ofString "aaab") _ [.str (Str.ofString "aa") _, .str (Str.ofString "a") _] [Str.ofString "aa", Str.ofString "a"] (.cons _ _ (.cons _ _ .nil)) (by simp) ⟨by decide +kernel, by decide +kernel, by decide +kernel, by decide +kernel, trivial⟩ ?hB ?hF ?hX ?hN ?hT ?hk ?_ ?_ ?_ ?_; (case hk => exact rfl); (case hB => exact B); (case hX => exact X); (case hT => exact T); (case hF => exact F₈); (case hN => exact N₈))
    · decide
    · decide
    rotate_left
    · intro ho
      exact absurd ho (by decide)
    intro _ t9 h9 tk9 F₉ N₉
    rw [show repAll (Str.ofString "aaab") [Str.ofString "aa", Str.ofString "a"] = Str.ofString "aab" from by decide +kernel]
    try dsimp only
    repeat ((fail_if_success (first | (with_reducible show wpAny _ _ (call (Value.ref _) _) _ _ _) | (with_reducible show wpAny _ _ (compareOp _ _ _) _ _ _))); walk1)
    k_dflt (refine' rep_call _ _ _ _ _ _ _ _ _ _ _ _ _ _ _ _ _ _ (Str.ofString "abab") _ [.str (Str.ofString "ab") _, .str (Str.ofString "") _] [Str.ofString "ab", Str.ofString ""] (.cons _ _ (.cons _ _ .nil)) (by simp) ⟨by decide +kernel, by decide +kernel, by decide +kernel, by decide +kernel, trivial⟩ ?hB ?hF ?hX ?hN ?hT ?hk ?_ ?_ ?_ ?_; (case hk => exact rfl); (case hB => exact B); (case hX => exact X); (case hT => exact T); (case hF => exact F₉); (case hN => exact N₉))
    · decide
    · decide
    rotate_left
    · intro ho
      exact absurd ho (by decide)
    intro _ t10 h10 tk10 F₁₀ N₁₀
    rw [show repAll (Str.ofString "abab") [Str.ofString "ab", Str.ofString ""] = Str.ofString "" from by decide +kernel]
    try dsimp only
    repeat ((fail_if_success (first | (with_reducible show wpAny _ _ (call (Value.ref _) _) _ _ _) | (with_reducible show wpAny _ _ (compareOp _ _ _) _ _ _))); walk1)
    walk1
    repeat ((fail_if_success (with_reducible show wpAny _ _ (exec (Stmt.For _ _ _ _ _) _) _ _ _)); walk1)
    rename Fr h₀ L _ _ => F₁₁
    rename News h₀ L _ _ => N₁₁
    replace N₁₁ := news_sub N₁₁ (fun p hp => List.Mem.tail _ (List.Mem.tail _ hp))
    k_dflt (refine' For_invVF F₁₁ ?k1 ?k2 ?_; (case k1 => exact rfl); (case k2 => exact rfl))
    repeat ((fail_if_success (with_reducible show wpAny _ _ (pyIter _) _ _ _)); walk1)
    rename Fr h₀ L _ _ => F₁₂
    rename News h₀ L _ _ => N₁₂
    refine iter_listUnr rfl F₁₂ N₁₂ (List.Mem.head _) rfl rfl ?_
    intro I hI
    refine list_fold (fun y v => ∃ t, v = .int y t) (fun (_ : Unit) _ => ()) () [0, (mk.length : Int) - 1] (fun _ m news => dJ Dm Dt Db wm tv bv nm tn bn pg sh tp ts m news) ?turn ?done _ _ [] _ _ rfl (.cons ⟨_, rfl⟩ (.cons ⟨_, rfl⟩ .nil)) ?hJ (List.Mem.head _) (fun p hp => Nat.ne_of_lt (hI p hp))
    case hJ => exact ⟨rfl, rfl, rfl, rfl, rfl, _, rfl⟩
    case done =>
      rintro m₁ news₁ h₆ tk₆ ⟨e1, e2, e3, e4, e5, lp', rfl⟩ F₆ N₆
      change Fr h₀ L h₆ _ at F₆
      try dsimp only
      repeat walk1
      exact done h₆ tk₆ m₁ F₆
    case turn =>
      rintro pre kk post v it m₁ news₁ h₆ tk₆ hsplit ⟨tk', rfl⟩ ⟨e1, e2, e3, e4, e5, lp', rfl⟩ hit hlp hoff F₆ N₆
      change Fr h₀ L h₆ _ at F₆
      change News h₀ L h₆ _ at N₆
      rw [five_map e1 e2 e3 e4 e5] at F₆
      dsimp only at *
      generalize hpost : UnrPost _ _ _ _ _ _ _ = PQ
      repeat ((fail_if_success (first | (with_reducible show wpAny _ _ (call (Value.ref _) _) _ _ _) | (with_reducible show wpAny _ _ (subscriptTail _ _ _ _) _ _ _))); walk1)
      have hkk : 0 ≤ kk ∧ kk < (mk.length : Int) := by
        have hmem : kk ∈ [0, (mk.length : Int) - 1] := by rw [hsplit]; exact List.mem_append_right _ (List.Mem.head _)
        rcases List.mem_cons.mp hmem with h | h
        · omega
        · have := List.mem_singleton.mp h
          omega
      obtain ⟨kn, rfl⟩ : ∃ kn : Nat, kk = (kn : Int) := ⟨kk.toNat, by omega⟩
      refine slice_upto F₆ N₆ (News.isList N₆ (List.Mem.tail _ (List.Mem.tail _ (List.Mem.head _)))) (by omega) ?_ (by rw [hbvK.out.length]; omega)
      intro D₇ h₇ F₇ N₇ hlt₇
      rw [show (2 * (kn : Int) + 1).toNat = 2 * kn + 1 from by omega] at N₇
      try dsimp only
      refine star_seq F₇ N₇ (List.Mem.head _) rfl rfl (.inl rfl) rfl ?_ ?_
      · rw [List.size_toArray, List.length_take, hbvK.out.length]
        omega
      intro h₈ F₈ N₈
      try dsimp only
      replace N₈ := news_sub N₈ (fun p hp => List.Mem.tail _ hp)
      repeat ((fail_if_success (first | (with_reducible show wpAny _ _ (call (Value.ref _) _) _ _ _) | (with_reducible show wpAny _ _ (subscriptTail _ _ _ _) _ _ _))); walk1)
      rw [List.append_nil]
      k_dflt (refine' rep_call _ _ _ _ _ _ _ _ _ _ _ _ _ _ _ _ _ _ sh ts (bv.take (2 * kn + 1)) ((backL mk).take (2 * kn + 1)) (hbvK.out.take' _) ?hv (hsh ▸ hM.okB (2 * kn + 1)) ?hB ?hF ?hX ?hN ?hT ?hk ?_ ?_ ?_ ?_; (case hk => exact rfl); (case hB => exact B); (case hX => exact X); (case hT => exact T); (case hF => exact F₈); (case hN => exact N₈))
      case hv =>
        rw [List.length_take, hbvK.out.length]
        omega
      · decide
      · decide
      · intro he
        exfalso
        rw [List.length_take] at he
        omega
      · intro _ e h₉ h₁₀ tk₁₀ F₉ hU hR
        try dsimp only
        refine caught_N0 (T' := "IndexError") B F₉ hU hR (topRead_of T) PyProof.Rows.Boot.«IndexError» PySem.F.isExc_IndexError PySem.F.notTuple_IndexError (by rw [isSubtype_type]; kernel_rfl) ?_
        intro h₁₁ F₁₁ N₁₁
        try dsimp only
        repeat walk1
        rw [← hpost]
        exact UnrEnd.intro F₁₁ N₁₁ _ (fun p hp => hp) hoff ⟨hlp, rfl, rfl, rfl, rfl, rfl, lp', rfl⟩
  · intro ho
    exfalso
    simp only [List.length_append] at ho
    omega
end
end PartLawD

section PartLawC
def cJ (Dm Dt Db : Addr) (wm tv bv : List Value) (nm tn bn : Nat) (pg sh : Str) (tp ts : Tok) (m : Str → Option Value) (news : List (Addr × Obj)) : Prop :=
  m (Str.ofString "shown") = some (.str sh ts) ∧ m (Str.ofString "there") = some (.ref Dt) ∧ m (Str.ofString "back") = some (.ref Db) ∧ m (Str.ofString "page") = some (.str pg tp) ∧ m (Str.ofString "marks") = some (.ref Dm) ∧
    news = [(Db, W.listOf bv.toArray bn), (Dt, W.listOf tv.toArray tn), (Dm, W.listOf wm.toArray nm)]
theorem size_up {n : Nat} (h : n ≤ 1000) : Builtin.Range.rangeSize 0 ((n : Int) + 1) 1 = ((n + 1 : Nat) : Int) := by
  unfold Builtin.Range.rangeSize
  simp
theorem small_up {n : Nat} (h : n ≤ 1000) : Builtin.Range.small 0 ((n : Int) + 1) 1 = true := by
  have e := size_up h
  unfold Builtin.Range.small Builtin.Range.rangeFitsLong
  rw [e]
  simp
  omega
section
local macro_rules | `(tactic| walk_at "eval Call") => `(tactic| ((fail_if_success k_compRoot); k_dflt (refine Call_ ?_)))
theorem law_c {w : World} {mean : ExcName → Option Value} {mg mb : Str → Option Value} {R : Result → Shared → Prop} {h₀ : Heap} {L fa : Addr} {cd : Value} {s : Shared} {m : Str → Option Value} (B : Below callerA h₀ [] h₀) (X : (Mine.hd.heap_39 w.params).In h₀) (T : Top Mine.hd.view_39 (looseW Mine.hd.view_39 []) mean mg mb h₀) (Dm Dt Db : Addr) (wm tv bv : List Value) (mk : List Int) (nm tn bn : Nat) (pg sh : Str) (tp ts : Tok) (hm : IntsAre wm mk) (htv : StrsAre tv (thereL mk)) (hbv : StrsAre bv (backL mk)) (hsh : sh = repAll pg (thereL mk))
    (hmk : ∀ n ∈ mk, (0 ≤ n ∧ n ≤ 31) ∨ n = 127) (hlen : mk.length ≤ 12) (hpos : 1 ≤ mk.length) (hpg : pg.length ≤ 12) (hM : LawMath pg mk)
    (F : Fr h₀ L s.heap (fun y => if y = Str.ofString "shown" then some (.str sh ts) else if y = Str.ofString "there" then some (.ref Dt) else if y = Str.ofString "back" then some (.ref Db) else if y = Str.ofString "page" then some (.str pg tp) else if y = Str.ofString "marks" then some (.ref Dm) else m y))
    (N : News h₀ L s.heap [(Db, W.listOf bv.toArray bn), (Dt, W.listOf tv.toArray tn), (Dm, W.listOf wm.toArray nm)])
    (done : ∀ h' tk' m', Fr h₀ L h' m' → R (.ok (.ret (.bool true))) { s with heap := h', toks := tk' }) :
    wpAny (model Challenge.rw_mq0054_01.row.prog w) (callerA.deeper (lawEnv L fa cd)) (execs (lawBody.drop 7) (lawEnv L fa cd)) (fun f s' => R (.ok (.ret (match f with | .ret v => v | _ => .none))) s') (fun e s' => wpAny (model Challenge.rw_mq0054_01.row.prog w) (callerA.deeper (lawEnv L fa cd)) (leaving (lawEnv L fa cd) e) (fun _ s'' => R (.error e) s'') (fun e' s'' => R (.error e') s'') s') s := by
  have hmK : Keep (IntsAre wm mk) := ⟨hm⟩
  have htvK : Keep (StrsAre tv (thereL mk)) := ⟨htv⟩
  have hbvK : Keep (StrsAre bv (backL mk)) := ⟨hbv⟩
  have hmk' : ∀ n ∈ mk, 0 ≤ n ∧ n ≤ 127 := fun n hn => by have := hmk n hn; omega
  show wpAny _ _ (execs (_ :: _) _) _ _ _
  refine wpAny_execs_cons ?_
  k_dflt (refine' For_invVF F ?k1 ?k2 ?_; (case k1 => exact rfl); (case k2 => exact rfl))
  repeat ((fail_if_success (with_reducible show wpAny _ _ (pyIter _) _ _ _)); walk1)
  rename IsRange _ _ _ _ _ _ _ _ => hr
  rename Fr h₀ L _ _ => F₁
  rename News h₀ L _ _ => N₁
  refine iter_rangeUnr (n := mk.length + 1) rfl hr ?hsm ?hsz F₁ N₁ ?_
  case hsm => exact small_up (by omega)
  case hsz => exact size_up (by omega)
  intro I hI
  refine range_fold (fun (_ : Unit) _ => ()) () (fun _ => cJ Dm Dt Db wm tv bv nm tn bn pg sh tp ts) ?turn ?done _ _ _ _ (by omega) ⟨rfl, rfl, rfl, rfl, rfl, rfl⟩ (fun p hp => Nat.ne_of_lt (hI p hp))
  case done =>
    rintro m₁ news₁ h₆ tk₆ ⟨e1, e2, e3, e4, e5, rfl⟩ F₆ N₆
    change Fr h₀ L h₆ _ at F₆
    change News h₀ L h₆ _ at N₆
    rw [five_map e1 e2 e3 e4 e5] at F₆
    refine law_d B X T Dm Dt Db wm tv bv mk nm tn bn pg sh tp ts hmK.out htvK.out hbvK.out hsh hmk hlen hpos hpg hM F₆ N₆ ?_
    intro h' tk' m' F'
    exact done h' tk' m' F'
  case turn =>
    rintro i ti it m₁ news₁ h₆ tk₆ hi ⟨e1, e2, e3, e4, e5, rfl⟩ hoff F₆ N₆
    change Fr h₀ L h₆ _ at F₆
    change News h₀ L h₆ _ at N₆
    rw [five_map e1 e2 e3 e4 e5] at F₆
    dsimp only at *
    generalize hpost : UnrPost _ _ _ _ _ _ _ = PQ
    repeat ((fail_if_success (first | (with_reducible show wpAny _ _ (call (Value.ref _) _) _ _ _) | (with_reducible show wpAny _ _ (subscriptTail _ _ _ _) _ _ _))); walk1)
    refine slice_upto F₆ N₆ (News.isList N₆ (List.Mem.tail _ (List.Mem.tail _ (List.Mem.head _)))) (by omega) ?_ (by rw [htvK.out.length, thereL_len]; omega)
    intro D₇ h₇ F₇ N₇ hlt₇
    rw [show (2 * (0 + (i : Int))).toNat = 2 * i from by omega] at N₇
    try dsimp only
    refine star_seq F₇ N₇ (List.Mem.head _) rfl rfl (.inl rfl) rfl ?_ ?_
    · have : (1000 : Nat) ≤ sizeLine := by decide
      have h2 := thereL_len mk
      rw [List.size_toArray, List.length_take, htvK.out.length]
      omega
    intro h₈ F₈ N₈
    try dsimp only
    replace N₈ := news_sub N₈ (fun p hp => List.Mem.tail _ hp)
    repeat ((fail_if_success (first | (with_reducible show wpAny _ _ (call (Value.ref _) _) _ _ _) | (with_reducible show wpAny _ _ (subscriptTail _ _ _ _) _ _ _))); walk1)
    rw [List.append_nil]
    k_dflt (refine' rep_call _ _ _ _ _ _ _ _ _ _ _ _ _ _ _ _ _ _ pg tp (tv.take (2 * i)) ((thereL mk).take (2 * i)) (htvK.out.take' _) ?hv (hM.okT i) ?hB ?hF ?hX ?hN ?hT ?hk ?_ ?_ ?_ ?_; (case hk => exact rfl); (case hB => exact B); (case hX => exact X); (case hT => exact T); (case hF => exact F₈); (case hN => exact N₈))
    case hv =>
      have h2 := thereL_len mk
      rw [List.length_take, htvK.out.length]
      omega
    · decide
    · decide
    · intro _ t₉ h₉ tk₉ F₉ N₉
      try dsimp only
      repeat ((fail_if_success (first | (with_reducible show wpAny _ _ (call (Value.ref _) _) _ _ _) | (with_reducible show wpAny _ _ (subscriptTail _ _ _ _) _ _ _))); walk1)
      refine slice_upto F₉ N₉ (News.isList N₉ (List.Mem.tail _ (List.Mem.tail _ (List.Mem.tail _ (List.Mem.head _))))) (by omega) ?_ (by rw [hmK.out.length]; omega)
      intro D₁₀ h₁₀ F₁₀ N₁₀ hlt₁₀
      rw [show (0 + (i : Int)).toNat = i from by omega] at N₁₀
      try dsimp only
      repeat ((fail_if_success (first | (with_reducible show wpAny _ _ (call (Value.ref _) _) _ _ _) | (with_reducible show wpAny _ _ (subscriptTail _ _ _ _) _ _ _))); walk1)
      k_dflt (refine' wr_call _ _ _ _ _ _ _ _ _ _ _ _ _ _ _ _ _ _ pg tp D₁₀ (wm.take i) (mk.take i) 0 (hmK.out.take _) (List.Mem.head _) (fun n hn => hmk' n (List.mem_of_mem_take hn)) ?hv (by omega) ?hB ?hF ?hX ?hN ?hT ?hk ?_ ?_ ?_; (case hk => exact rfl); (case hB => exact B); (case hX => exact X); (case hT => exact T); (case hF => exact F₁₀); (case hN => exact N₁₀))
      case hv => rw [List.length_take]; omega
      · decide
      · decide
      intro t₁₁ h₁₁ tk₁₁ F₁₁ N₁₁
      replace N₁₁ := news_sub N₁₁ (fun p hp => List.Mem.tail _ hp)
      rw [hM.e1 i]
      try dsimp only
      repeat ((fail_if_success (first | (with_reducible show wpAny _ _ (call (Value.ref _) _) _ _ _) | (with_reducible show wpAny _ _ (compareOp _ _ _) _ _ _))); walk1)
      walk1
      walk1
      refine W.ite_neg (by simp) ?_
      try dsimp only
      repeat ((fail_if_success (first | (with_reducible show wpAny _ _ (call (Value.ref _) _) _ _ _) | (with_reducible show wpAny _ _ (subscriptTail _ _ _ _) _ _ _))); walk1)
      refine slice_upto F₁₁ N₁₁ (News.isList N₁₁ (List.Mem.tail _ (List.Mem.head _))) (by omega) ?_ (by rw [hbvK.out.length, backL_len]; omega)
      intro D₁₂ h₁₂ F₁₂ N₁₂ hlt₁₂
      rw [show (2 * (0 + (i : Int))).toNat = 2 * i from by omega] at N₁₂
      try dsimp only
      refine star_seq F₁₂ N₁₂ (List.Mem.head _) rfl rfl (.inl rfl) rfl ?_ ?_
      · have : (1000 : Nat) ≤ sizeLine := by decide
        have h2 := backL_len mk
        rw [List.size_toArray, List.length_take, hbvK.out.length]
        omega
      intro h₁₃ F₁₃ N₁₃
      try dsimp only
      replace N₁₃ := news_sub N₁₃ (fun p hp => List.Mem.tail _ hp)
      repeat ((fail_if_success (first | (with_reducible show wpAny _ _ (call (Value.ref _) _) _ _ _) | (with_reducible show wpAny _ _ (subscriptTail _ _ _ _) _ _ _))); walk1)
      rw [List.append_nil]
      k_dflt (refine' rep_call _ _ _ _ _ _ _ _ _ _ _ _ _ _ _ _ _ _ sh ts (bv.take (2 * i)) ((backL mk).take (2 * i)) (hbvK.out.take' _) ?hv (hsh ▸ hM.okB (2 * i)) ?hB ?hF ?hX ?hN ?hT ?hk ?_ ?_ ?_ ?_; (case hk => exact rfl); (case hB => exact B); (case hX => exact X); (case hT => exact T); (case hF => exact F₁₃); (case hN => exact N₁₃))
      case hv =>
        have h2 := backL_len mk
        rw [List.length_take, hbvK.out.length]
        omega
      · decide
      · decide
      · intro _ t₁₄ h₁₄ tk₁₄ F₁₄ N₁₄
        try dsimp only
        repeat ((fail_if_success (first | (with_reducible show wpAny _ _ (call (Value.ref _) _) _ _ _) | (with_reducible show wpAny _ _ (subscriptTail _ _ _ _) _ _ _))); walk1)
        refine slice_upto F₁₄ N₁₄ (News.isList N₁₄ (List.Mem.tail _ (List.Mem.tail _ (List.Mem.tail _ (List.Mem.head _))))) (by omega) ?_ (by rw [hmK.out.length]; omega)
        intro D₁₅ h₁₅ F₁₅ N₁₅ hlt₁₅
        rw [show (0 + (i : Int)).toNat = i from by omega] at N₁₅
        try dsimp only
        repeat ((fail_if_success (first | (with_reducible show wpAny _ _ (call (Value.ref _) _) _ _ _) | (with_reducible show wpAny _ _ (subscriptTail _ _ _ _) _ _ _))); walk1)
        k_dflt (refine' rd_call _ _ _ _ _ _ _ _ _ _ _ _ _ _ _ _ _ _ sh ts D₁₅ (wm.take i) (mk.take i) 0 (hmK.out.take _) (List.Mem.head _) (fun n hn => hmk' n (List.mem_of_mem_take hn)) ?hv (hsh ▸ hM.len1) ?hB ?hF ?hX ?hN ?hT ?hk ?_ ?_ ?_; (case hk => exact rfl); (case hB => exact B); (case hX => exact X); (case hT => exact T); (case hF => exact F₁₅); (case hN => exact N₁₅))
        case hv => rw [List.length_take]; omega
        · decide
        · decide
        intro t₁₆ h₁₆ tk₁₆ F₁₆ N₁₆
        replace N₁₆ := news_sub N₁₆ (fun p hp => List.Mem.tail _ hp)
        rw [show repAll sh ((backL mk).take (2 * i)) = rdAll sh (mk.take i) from hsh ▸ hM.e2 i]
        try dsimp only
        repeat ((fail_if_success (first | (with_reducible show wpAny _ _ (call (Value.ref _) _) _ _ _) | (with_reducible show wpAny _ _ (compareOp _ _ _) _ _ _))); walk1)
        walk1
        walk1
        refine W.ite_neg (by simp) ?_
        try dsimp only
        repeat walk1
        rw [← hpost]
        exact UnrEnd.intro F₁₆ N₁₆ _ (fun p hp => hp) hoff ⟨rfl, rfl, rfl, rfl, rfl, rfl⟩
      · intro ho
        exfalso
        have h2 := backL_len mk
        rw [List.length_take] at ho
        omega
    · intro ho
      exfalso
      have h2 := thereL_len mk
      rw [List.length_take] at ho
      omega
end
end PartLawC

section PartLawB
section
local macro_rules | `(tactic| walk_at "eval Call") => `(tactic| ((fail_if_success k_compRoot); k_dflt (refine Call_ ?_)))
def bJ (Dt Db Dm : Addr) (pg : Str) (tp : Tok) (wm : List Value) (nm : Nat) (st : List Str × List Str) (m : Str → Option Value) (news : List (Addr × Obj)) : Prop :=
  ∃ tv tn bv bn, m (Str.ofString "there") = some (.ref Dt) ∧ m (Str.ofString "back") = some (.ref Db) ∧ m (Str.ofString "page") = some (.str pg tp) ∧ m (Str.ofString "marks") = some (.ref Dm) ∧
    news = [(Db, W.listOf bv.toArray bn), (Dt, W.listOf tv.toArray tn), (Dm, W.listOf wm.toArray nm)] ∧ StrsAre tv st.1 ∧ StrsAre bv st.2
theorem law_b {w : World} {mean : ExcName → Option Value} {mg mb : Str → Option Value} {R : Result → Shared → Prop} {h₀ : Heap} {L fa : Addr} {cd : Value} {s : Shared} {m : Str → Option Value} (B : Below callerA h₀ [] h₀) (X : (Mine.hd.heap_39 w.params).In h₀) (T : Top Mine.hd.view_39 (looseW Mine.hd.view_39 []) mean mg mb h₀) (Dm : Addr) (wm : List Value) (mk : List Int) (nm : Nat) (pg : Str) (tp : Tok) (hm : IntsAre wm mk) (hmk : ∀ n ∈ mk, (0 ≤ n ∧ n ≤ 31) ∨ n = 127) (hlen : mk.length ≤ 12) (hpos : 1 ≤ mk.length) (hpg : pg.length ≤ 12) (hM : LawMath pg mk)
    (F : Fr h₀ L s.heap (fun y => if y = Str.ofString "page" then some (.str pg tp) else if y = Str.ofString "marks" then some (.ref Dm) else m y)) (N : News h₀ L s.heap [(Dm, W.listOf wm.toArray nm)])
    (done : ∀ h' tk' m', Fr h₀ L h' m' → R (.ok (.ret (.bool true))) { s with heap := h', toks := tk' }) :
    wpAny (model Challenge.rw_mq0054_01.row.prog w) (callerA.deeper (lawEnv L fa cd)) (execs (lawBody.drop 3) (lawEnv L fa cd)) (fun f s' => R (.ok (.ret (match f with | .ret v => v | _ => .none))) s') (fun e s' => wpAny (model Challenge.rw_mq0054_01.row.prog w) (callerA.deeper (lawEnv L fa cd)) (leaving (lawEnv L fa cd) e) (fun _ s'' => R (.error e) s'') (fun e' s'' => R (.error e') s'') s') s := by
  have hmK : Keep (IntsAre wm mk) := ⟨hm⟩
  show wpAny _ _ (execs (_ :: _) _) _ _ _
  refine wpAny_execs_cons ?_
  repeat ((fail_if_success (with_reducible show wpAny _ _ (exec (Stmt.For _ _ _ _ _) _) _ _ _)); walk1)
  rename Fr h₀ L _ _ => lF'
  k_dflt (refine' For_invVF lF' ?k1 ?k2 ?_; (case k1 => exact rfl); (case k2 => exact rfl))
  walk1
  rename_i Dt x1 lt1 x2 Db x3 lt2 hh NN
  refine iter_listUnr rfl lF' NN (List.Mem.tail _ (List.Mem.tail _ (List.Mem.head _))) rfl rfl ?_
  intro I hI
  refine list_fold (fun y v => ∃ t, v = .int y t) bStep ([], []) mk (bJ Dt Db Dm pg tp wm nm) ?turn ?done _ _ [] _ _ rfl (are2_ints hmK.out) ?hJ (List.Mem.tail _ (List.Mem.tail _ (List.Mem.head _))) (fun p hp => Nat.ne_of_lt (hI p hp))
  case hJ => exact ⟨[], 0, [], 0, rfl, rfl, rfl, rfl, rfl, .nil, .nil⟩
  case done =>
    rintro m₁ news₁ h₆ tk₆ ⟨tv, tn, bv, bn, hth, hba, hpa, hma, rfl, htv, hbv⟩ F₆ N₆
    change Fr h₀ L h₆ _ at F₆
    change News h₀ L h₆ _ at N₆
    rw [four_map hth hba hpa hma] at F₆
    rw [bFold mk] at htv hbv
    dsimp only at htv hbv
    dsimp only
    repeat ((fail_if_success (first | (with_reducible show wpAny _ _ (call (Value.ref _) _) _ _ _) | (with_reducible show StarOf _ _ _ _ _ _))); walk1)
    have h2t := thereL_len mk
    have hsl : (1000 : Nat) ≤ sizeLine := by decide
    have hokT : RepOk pg (thereL mk) := by
      have h := hM.okT mk.length
      rwa [List.take_of_length_le (by omega)] at h
    refine star_seq F₆ N₆ (List.Mem.tail _ (List.Mem.head _)) rfl rfl (.inl rfl) rfl ?_ ?_
    · rw [List.size_toArray, htv.length]
      omega
    intro h₇ F₇ N₇
    try dsimp only
    repeat ((fail_if_success (first | (with_reducible show wpAny _ _ (call (Value.ref _) _) _ _ _) | (with_reducible show StarOf _ _ _ _ _ _))); walk1)
    rw [List.append_nil]
    k_dflt (refine' rep_call _ _ _ _ _ _ _ _ _ _ _ _ _ _ _ _ _ _ pg tp tv (thereL mk) htv ?hv hokT ?hB ?hF ?hX ?hN ?hT ?hk ?_ ?_ ?_ ?_; (case hk => exact rfl); (case hB => exact B); (case hX => exact X); (case hT => exact T); (case hF => exact F₇); (case hN => exact N₇))
    case hv =>
      rw [htv.length]
      omega
    · decide
    · decide
    · intro _ t₈ h₈ tk₈ F₈ N₈
      try dsimp only
      repeat ((fail_if_success (with_reducible show wpAny _ _ (execs _ _) _ _ _)); walk1)
      rename Fr h₀ L _ _ => F₉
      rename News h₀ L _ _ => N₉
      refine law_c B X T Dm Dt Db wm tv bv mk nm tn bn pg _ tp t₈ hmK.out htv hbv rfl hmk hlen hpos hpg hM F₉ N₉ ?_
      intro h' tk' m' F'
      exact done h' tk' m' F'
    · intro ho
      exfalso
      omega
  case turn =>
    rintro pre n post v it m₁ news₁ h₆ tk₆ hsplit ⟨t₆, rfl⟩ ⟨tv, tn, bv, bn, hth, hba, hpa, hma, rfl, htv, hbv⟩ hit hlp hoff F₆ N₆
    change Fr h₀ L h₆ _ at F₆
    change News h₀ L h₆ _ at N₆
    rw [four_map hth hba hpa hma] at F₆
    have hn := hmk n (by rw [hsplit]; exact List.mem_append_right _ (List.Mem.head _))
    obtain ⟨n', rfl⟩ : ∃ n' : Nat, n = (n' : Int) := ⟨n.toNat, by omega⟩
    have hn' : n' ≤ 31 ∨ n' = 127 := by omega
    generalize hst : pre.foldl bStep ([], []) = st at *
    obtain ⟨ths, bas⟩ := st
    dsimp only at *
    generalize hpost : UnrPost _ _ _ _ _ _ _ = PQ
    repeat ((fail_if_success (with_reducible show wpAny _ _ (call (Value.ref _) _) _ _ _)); walk1)
    k_dflt (refine' ucs_call _ _ _ _ _ _ _ _ _ _ _ _ _ _ _ _ _ _ n' _ hn' ?hB ?hF ?hX ?hN ?hT ?hk ?_ ?_ ?_; (case hk => exact rfl); (case hB => exact B); (case hX => exact X); (case hT => exact T); (case hF => exact F₆); (case hN => exact N₆))
    · decide
    · decide
    intro t₇ h₇ tk₇ F₇ N₇
    dsimp only
    have hIt : I ≠ Dt := fun h => hoff (Dt, W.listOf tv.toArray tn) (List.Mem.tail _ (List.Mem.head _)) h.symm
    have hIb : I ≠ Db := fun h => hoff (Db, W.listOf bv.toArray bn) (List.Mem.head _) h.symm
    have hbt : Db ≠ Dt := Nat.ne_of_gt lt2.1
    have hmt : Dm ≠ Dt := Nat.ne_of_lt lt1
    have hmb : Dm ≠ Db := Nat.ne_of_lt lt2.2
    have htl : tv.length ≤ 24 := by
      have h1 := bStep_len pre
      have h2 := congrArg List.length hsplit
      rw [hst] at h1
      rw [htv.length]
      simp only [List.length_append, List.length_cons] at h1 h2
      omega
    have hbl : bv.length ≤ 24 := by
      have h1 := bStep_len pre
      have h2 := congrArg List.length hsplit
      rw [hst] at h1
      rw [hbv.length]
      simp only [List.length_append, List.length_cons] at h1 h2
      omega
    repeat ((fail_if_success (with_reducible show wpAny _ _ (call (Value.builtin "list.extend") _) _ _ _)); walk1)
    rename_i l₈ h₈ F₈ N₈ lt₈
    refine kl_extend F₈ N₈ (List.Mem.head _) rfl (by simp) (Upd.tail (Nat.ne_of_gt lt₈.2.2.1) (Upd.tail hIt (Upd.tail hbt (Upd.head (fun p hp => by rw [List.mem_singleton.mp hp]; exact hmt))))) ?_ ?_ ?_ ?_
    · refine extend_door ?_
      have : (1000 : Nat) ≤ sizeLine := by decide
      simp only [List.size_toArray, List.length_cons, List.length_nil]
      omega
    · have : (1000 : Nat) ≤ sizeLine := by decide
      show tv.length ≤ sizeLine
      omega
    · have : (1000 : Nat) ≤ sizeLine := by decide
      simp only [List.size_toArray, List.length_cons, List.length_nil]
      omega
    intro h₉ F₉ N₉
    dsimp only
    replace N₉ := news_sub N₉ (fun p hp => List.Mem.tail _ hp)
    repeat ((fail_if_success (with_reducible show wpAny _ _ (call (Value.ref _) _) _ _ _)); walk1)
    k_dflt (refine' uci_call _ _ _ _ _ _ _ _ _ _ _ _ _ _ _ _ _ _ n' _ hn' ?hB ?hF ?hX ?hN ?hT ?hk ?_ ?_ ?_; (case hk => exact rfl); (case hB => exact B); (case hX => exact X); (case hT => exact T); (case hF => exact F₉); (case hN => exact N₉))
    · decide
    · decide
    intro t₁₀ h₁₀ tk₁₀ F₁₀ N₁₀
    dsimp only
    repeat ((fail_if_success (with_reducible show wpAny _ _ (call (Value.ref _) _) _ _ _)); walk1)
    k_dflt (refine' uci_call _ _ _ _ _ _ _ _ _ _ _ _ _ _ _ _ _ _ n' _ hn' ?hB ?hF ?hX ?hN ?hT ?hk ?_ ?_ ?_; (case hk => exact rfl); (case hB => exact B); (case hX => exact X); (case hT => exact T); (case hF => exact F₁₀); (case hN => exact N₁₀))
    · decide
    · decide
    intro t₁₁ h₁₁ tk₁₁ F₁₁ N₁₁
    dsimp only
    have hn128 : n' < 128 := by omega
    repeat ((fail_if_success (with_reducible show wpAny _ _ (call (Value.ref _) _) _ _ _)); walk1)
    rw [unc_tail n' hn128]
    rename Fr h₀ L _ _ => F₁₂
    rename News h₀ L _ _ => N₁₂
    k_dflt (refine' ct_call _ _ _ _ _ _ _ _ _ _ _ _ _ _ _ _ _ _ (n' ^^^ 64) _ (xor64_lt n' hn128) ?hB ?hF ?hX ?hN ?hT ?hk ?_ ?_ ?_; (case hk => exact rfl); (case hB => exact B); (case hX => exact X); (case hT => exact T); (case hF => exact F₁₂); (case hN => exact N₁₂))
    · decide
    · decide
    intro t₁₃ h₁₃ tk₁₃ F₁₃ N₁₃
    dsimp only
    repeat ((fail_if_success (with_reducible show wpAny _ _ (call (Value.builtin "list.extend") _) _ _ _)); walk1)
    rename_i l₁₄ h₁₄ F₁₄ N₁₄ lt₁₄
    refine kl_extend F₁₄ N₁₄ (List.Mem.head _) rfl (by simp) (Upd.tail (Nat.ne_of_gt lt₁₄.2.1) (Upd.tail hIb (Upd.head (fun p hp => by
      rcases List.mem_cons.mp hp with rfl | hp
      · exact Ne.symm hbt
      · rw [List.mem_singleton.mp hp]; exact hmb)))) ?_ ?_ ?_ ?_
    · refine extend_door ?_
      have : (1000 : Nat) ≤ sizeLine := by decide
      simp only [List.size_toArray, List.length_cons, List.length_nil]
      omega
    · have : (1000 : Nat) ≤ sizeLine := by decide
      show bv.length ≤ sizeLine
      omega
    · have : (1000 : Nat) ≤ sizeLine := by decide
      simp only [List.size_toArray, List.length_cons, List.length_nil]
      omega
    intro h₁₅ F₁₅ N₁₅
    dsimp only
    replace N₁₅ := news_sub N₁₅ (fun p hp => List.Mem.tail _ hp)
    repeat walk1
    rw [← hpost]
    refine UnrEnd.intro F₁₅ N₁₅ _ (fun p hp => hp) ?_ ⟨List.Mem.tail _ (List.Mem.tail _ (List.Mem.head _)), _, _, _, _, rfl, rfl, rfl, rfl, rfl, ?_, ?_⟩
    · intro p hp
      rcases List.mem_cons.mp hp with rfl | hp
      · exact Ne.symm hIb
      · rcases List.mem_cons.mp hp with rfl | hp
        · exact Ne.symm hIt
        · exact hoff p (List.Mem.tail _ (List.Mem.tail _ hp))
    · exact htv.append' (.cons _ _ (.cons _ _ .nil))
    · exact hbv.append' (.cons _ _ (.cons _ _ .nil))
end
end PartLawB

section PartMath1
open Builtin Builtin.Str StrLaws
/-- one sign replaced -/
def sub1 (c : Nat) (z : List Nat) (l : List Nat) : List Nat := l.flatMap fun d => if d = c then z else [d]
/-- two signs replaced, from the left -/
def sub2 (a b : Nat) (z : List Nat) : List Nat → List Nat
  | [] => []
  | [c] => [c]
  | c :: d :: r => if c = a ∧ d = b then z ++ sub2 a b z r else c :: sub2 a b z (d :: r)

theorem sub1_free {c : Nat} {z : List Nat} : ∀ {l : List Nat}, c ∉ l → sub1 c z l = l
  | [], _ => rfl
  | d :: r, h => by
    have h1 : ¬ d = c := fun e => h (e ▸ List.mem_cons_self ..)
    have h2 : c ∉ r := fun m => h (List.mem_cons_of_mem _ m)
    show (if d = c then z else [d]) ++ sub1 c z r = d :: r
    rw [if_neg h1, sub1_free h2]
    rfl
theorem sub1_append (c : Nat) (z l l' : List Nat) : sub1 c z (l ++ l') = sub1 c z l ++ sub1 c z l' := List.flatMap_append
theorem sub1_join (c : Nat) (z : Str) : ∀ parts : List Str, (∀ p ∈ parts, c ∉ p.cps.toList) → sub1 c z.cps.toList (Str.join ⟨#[c]⟩ parts).cps.toList = (Str.join z parts).cps.toList
  | [], _ => rfl
  | [p], h => sub1_free (h p (List.mem_singleton.mpr rfl))
  | p :: q :: r, h => by
    have ih := sub1_join c z (q :: r) fun a ha => h a (List.mem_cons_of_mem _ ha)
    show sub1 c z.cps.toList (p ++ ⟨#[c]⟩ ++ Str.join ⟨#[c]⟩ (q :: r)).cps.toList = (p ++ z ++ Str.join z (q :: r)).cps.toList
    simp only [Str.cps_append, Array.toList_append]
    rw [sub1_append, sub1_append, ih, sub1_free (h p (List.mem_cons_self ..))]
    have e : sub1 c z.cps.toList [c] = z.cps.toList := by simp [sub1]
    show p.cps.toList ++ sub1 c z.cps.toList [c] ++ _ = _
    rw [e]
theorem split1_is (x z : Str) (c : Nat) : (Txt.join z (Txt.split x ⟨#[c]⟩)).cps.toList = sub1 c z.cps.toList x.cps.toList := by
  show (glued z (Txt.split x ⟨#[c]⟩)).cps.toList = _
  rw [glued_eq_join, ← sub1_join c z _ (split_free x c), join_split]

theorem sub2_hit (a b : Nat) (z r : List Nat) : sub2 a b z (a :: b :: r) = z ++ sub2 a b z r := by
  show (if a = a ∧ b = b then z ++ sub2 a b z r else a :: sub2 a b z (b :: r)) = _
  rw [if_pos ⟨rfl, rfl⟩]
theorem sub2_miss {a b : Nat} {z : List Nat} {c : Nat} {t : List Nat} (h : ¬ (c :: t).take 2 = [a, b]) : sub2 a b z (c :: t) = c :: sub2 a b z t := by
  cases t with
  | nil => rfl
  | cons d r =>
    have h' : ¬ (c = a ∧ d = b) := fun e => h (by rw [e.1, e.2]; rfl)
    show (if c = a ∧ d = b then z ++ sub2 a b z r else c :: sub2 a b z (d :: r)) = _
    rw [if_neg h']
theorem sub2_skip {a b : Nat} {z : List Nat} : ∀ (k : Nat) (l : List Nat), (∀ j, j < k → ¬ (l.drop j).take 2 = [a, b]) → k ≤ l.length → sub2 a b z l = l.take k ++ sub2 a b z (l.drop k)
  | 0, l, _, _ => by simp
  | k + 1, [], _, h => by simp at h
  | k + 1, c :: t, hn, h => by
    rw [sub2_miss (hn 0 (Nat.succ_pos k))]
    rw [sub2_skip k t (fun j hj => hn (j + 1) (Nat.succ_lt_succ hj)) (Nat.le_of_succ_le_succ h)]
    rfl
theorem sub2_none {a b : Nat} {z : List Nat} {l : List Nat} (h : ∀ j, ¬ (l.drop j).take 2 = [a, b]) : sub2 a b z l = l := by
  rw [sub2_skip l.length l (fun j _ => h j) (Nat.le_refl _), List.take_length, List.drop_length]
  simp [sub2]

theorem at_iff (x : Str) (a b k : Nat) : At x ⟨#[a, b]⟩ x.length k ↔ (x.cps.toList.drop k).take 2 = [a, b] := by
  unfold At
  rw [subAt_eq]
  constructor
  · intro h
    exact eq_of_beq h.2
  · intro h
    refine ⟨?_, ?_⟩
    · have h2 := congrArg List.length h
      simp only [List.length_take, List.length_drop, List.length_cons, List.length_nil, Array.length_toList] at h2
      show k + 2 ≤ x.cps.size
      omega
    · exact beq_iff_eq.mpr h

theorem chain2 (x z : Str) (a b : Nat) : ∀ (cuts : List Nat) (p f : Nat), ChainG x ⟨#[a, b]⟩ x.length p cuts f → (∀ k, f ≤ k → ¬ At x ⟨#[a, b]⟩ x.length k) → p ≤ x.length →
    (Str.join z (partsFrom x 2 p cuts)).cps.toList = sub2 a b z.cps.toList (x.cps.toList.drop p)
  | [], p, f, hG, hn, hp => by
    have e : f = p := hG
    subst e
    show (strSub x f x.length).cps.toList = _
    rw [strSub_toList, sub2_none]
    · exact List.take_of_length_le (by simp [Str.length])
    · intro j hj
      rw [List.drop_drop] at hj
      exact hn (f + j) (Nat.le_add_right _ _) ((at_iff x a b _).mpr hj)
  | c :: r, p, f, hG, hn, hp => by
    obtain ⟨h1, h2, h3, h4⟩ := hG
    have h5 : c + 2 ≤ x.length := h2.1
    have ih := chain2 x z a b r (c + 2) f h4 hn h5
    obtain ⟨q, r', he⟩ := partsFrom_ne x 2 (c + 2) r
    have e1 : Str.join z (partsFrom x 2 p (c :: r)) = strSub x p c ++ z ++ Str.join z (partsFrom x 2 (c + 2) r) := by
      show Str.join z (strSub x p c :: partsFrom x 2 (c + 2) r) = _
      rw [he]
      rfl
    rw [e1]
    simp only [Str.cps_append, Array.toList_append]
    rw [ih, strSub_toList]
    have hl : x.cps.toList.length = x.length := by simp [Str.length]
    rw [sub2_skip (c - p) (x.cps.toList.drop p) (fun j hj hA => by
      rw [List.drop_drop] at hA
      exact h3 (p + j) (Nat.le_add_right _ _) (by omega) ((at_iff x a b _).mpr hA)) (by rw [List.length_drop, hl]; omega)]
    rw [List.drop_drop, show p + (c - p) = c by omega]
    have h6 := (at_iff x a b c).mp h2
    have e2 : x.cps.toList.drop c = a :: b :: x.cps.toList.drop (c + 2) := by
      have h7 := List.take_append_drop 2 (x.cps.toList.drop c)
      rw [h6, List.drop_drop] at h7
      exact h7.symm
    rw [e2, sub2_hit, List.append_assoc]

theorem split2_is (x z : Str) (a b : Nat) (hk : ¬ strKind x < strKind ⟨#[a, b]⟩) : (Txt.join z (Txt.split x ⟨#[a, b]⟩)).cps.toList = sub2 a b z.cps.toList x.cps.toList := by
  show (glued z (Txt.split x ⟨#[a, b]⟩)).cps.toList = _
  rw [glued_eq_join]
  obtain ⟨f, hG, hn⟩ := occ_tight x ⟨#[a, b]⟩ (by show 1 ≤ 2; decide)
  have main := chain2 x z a b _ 0 f hG hn (Nat.zero_le _)
  unfold Txt.split
  split
  · rename_i hc
    rw [Bool.or_eq_true, decide_eq_true_eq, decide_eq_true_eq] at hc
    have hlt : x.length < 2 := hc.resolve_right hk
    show x.cps.toList = _
    symm
    apply sub2_none
    intro j hj
    have h2 := congrArg List.length hj
    have h3 : x.cps.size < 2 := hlt
    simp only [List.length_take, List.length_drop, List.length_cons, List.length_nil, Array.length_toList] at h2
    omega
  · split
    · rename_i he
      have e0 : occurrences x ⟨#[a, b]⟩ 0 x.length (x.length + 1) = [] := List.isEmpty_iff.mp he
      rw [e0] at main
      rw [List.drop_zero] at main
      rw [← main]
      show x.cps.toList = (strSub x 0 x.length).cps.toList
      rw [sub_whole]
    · rw [partsBetween_eq]
      rw [List.drop_zero] at main
      exact main
end PartMath1

section PartMath2
/-! texts as lists of numbers -/
/-- the page written -/
def wrN (ns : List Nat) (t : List Nat) : List Nat := t.flatMap fun d => if d ∈ ns then [94, d ^^^ 64] else [d]
/-- the codes that the law draws -/
def IsCode (n : Nat) : Prop := n ≤ 31 ∨ n = 127
theorem code_xor : ∀ n : Nat, n < 128 → (n ≤ 31 ∨ n = 127) → n ^^^ 64 ≥ 63 ∧ n ^^^ 64 ≤ 95 := by decide +kernel
theorem IsCode.lt {n : Nat} (h : IsCode n) : n < 128 := by unfold IsCode at h; omega
theorem IsCode.xor {n : Nat} (h : IsCode n) : n ^^^ 64 ≥ 63 ∧ n ^^^ 64 ≤ 95 := code_xor n h.lt h
theorem IsCode.off {n : Nat} (h : IsCode n) {k : Nat} (h1 : 63 ≤ k) (h2 : k ≤ 95) : k ≠ n := by unfold IsCode at h; omega

theorem wr_snoc {ns : List Nat} (hns : ∀ n ∈ ns, IsCode n) {n : Nat} (hn : IsCode n) (t : List Nat) : sub1 n [94, n ^^^ 64] (wrN ns t) = wrN (ns ++ [n]) t := by
  induction t with
  | nil => rfl
  | cons d t ih =>
    show sub1 n [94, n ^^^ 64] ((if d ∈ ns then [94, d ^^^ 64] else [d]) ++ wrN ns t) = (if d ∈ ns ++ [n] then [94, d ^^^ 64] else [d]) ++ wrN (ns ++ [n]) t
    rw [sub1_append, ih]
    congr 1
    by_cases h1 : d ∈ ns
    · rw [if_pos h1, if_pos (List.mem_append_left _ h1)]
      apply sub1_free
      intro hm
      have h2 := (hns d h1).xor
      simp only [List.mem_cons, List.not_mem_nil, or_false] at hm
      rcases hm with h | h
      · exact hn.off (k := 94) (by decide) (by decide) h.symm
      · exact hn.off h2.1 h2.2 h.symm
    · rw [if_neg h1]
      by_cases h2 : d = n
      · subst h2
        rw [if_pos (List.mem_append_right _ (List.mem_singleton.mpr rfl))]
        simp [sub1]
      · rw [if_neg (by simp [h1, h2])]
        apply sub1_free
        simp only [List.mem_singleton]
        exact fun h => h2 h.symm

/-! reading back -/
def eatN (lets : List Nat) (s r : Nat) : Nat := if s ∈ lets then (if 94 ∈ lets.take (lets.idxOf s) then r % 2 else min r 1) else 0
def twN (lets : List Nat) (left : Nat) : Nat := if 94 ∈ lets then left / 2 else 0
/-- a run's carets left and the signs put in for them -/
def runN (lets : List Nat) (left : Nat) : List Nat := List.replicate (twN lets left) 30 ++ List.replicate (left - 2 * twN lets left) 94
def sgN (e s : Nat) : Nat := if e = 1 then s % 32 else s
def rdN (lets : List Nat) : Nat → List Nat → List Nat
  | r, [] => runN lets r
  | r, s :: t => if s = 94 then rdN lets (r + 1) t else runN lets (r - eatN lets s r) ++ sgN (eatN lets s r) s :: rdN lets 0 t

theorem sub2_one {a b : Nat} {z : List Nat} {c : Nat} {t : List Nat} (h : c ≠ a) : sub2 a b z (c :: t) = c :: sub2 a b z t :=
  sub2_miss fun e => h (by
    cases t with
    | nil => cases e
    | cons d r => exact (List.cons.inj e).1)
theorem sub2_rep {a b : Nat} {z : List Nat} {c : Nat} (h : c ≠ a) (t : List Nat) : ∀ p : Nat, sub2 a b z (List.replicate p c ++ t) = List.replicate p c ++ sub2 a b z t
  | 0 => rfl
  | p + 1 => by
    rw [List.replicate_succ]
    show sub2 a b z (c :: (List.replicate p c ++ t)) = _
    rw [sub2_one h, sub2_rep h t p]
    rfl
/-- carets ahead of a sign that is none: another letter -/
theorem sub2_run_miss {b : Nat} {z : List Nat} {c : Nat} (hb : b ≠ 94) (hc : c ≠ 94) (hcb : c ≠ b) (t : List Nat) : ∀ q : Nat, sub2 94 b z (List.replicate q 94 ++ c :: t) = List.replicate q 94 ++ c :: sub2 94 b z t
  | 0 => sub2_one hc
  | q + 1 => by
    rw [List.replicate_succ]
    show sub2 94 b z (94 :: (List.replicate q 94 ++ c :: t)) = _
    rw [sub2_miss, sub2_run_miss hb hc hcb t q]
    · rfl
    · intro e
      cases q with
      | zero => exact hcb (List.cons.inj (List.cons.inj e).2).1
      | succ q => exact hb (List.cons.inj (List.cons.inj e).2).1.symm
/-- carets ahead of the letter: the last one is taken -/
theorem sub2_run_hit {b : Nat} {z : List Nat} (hb : b ≠ 94) (t : List Nat) : ∀ q : Nat, sub2 94 b z (List.replicate (q + 1) 94 ++ b :: t) = List.replicate q 94 ++ (z ++ sub2 94 b z t)
  | 0 => sub2_hit 94 b z t
  | q + 1 => by
    rw [List.replicate_succ]
    show sub2 94 b z (94 :: (List.replicate (q + 1) 94 ++ b :: t)) = _
    rw [sub2_miss, sub2_run_hit hb t q]
    · rfl
    · intro e
      exact hb (List.cons.inj (List.cons.inj e).2).1.symm
/-- carets at the end: another letter -/
theorem sub2_run_end {b : Nat} {z : List Nat} (hb : b ≠ 94) : ∀ q : Nat, sub2 94 b z (List.replicate q 94) = List.replicate q 94
  | 0 => rfl
  | 1 => rfl
  | q + 2 => by
    rw [List.replicate_succ, sub2_miss, sub2_run_end hb (q + 1)]
    intro e
    exact hb (List.cons.inj (List.cons.inj e).2).1.symm
/-- carets, two by two -/
theorem sub2_carets {X Y : List Nat} (h0 : sub2 94 94 [30] X = Y) (h1 : sub2 94 94 [30] (94 :: X) = 94 :: Y) : ∀ q : Nat, sub2 94 94 [30] (List.replicate q 94 ++ X) = List.replicate (q / 2) 30 ++ List.replicate (q % 2) 94 ++ Y
  | 0 => h0
  | 1 => h1
  | q + 2 => by
    rw [List.replicate_succ, List.replicate_succ]
    show sub2 94 94 [30] (94 :: 94 :: (List.replicate q 94 ++ X)) = _
    rw [sub2_hit, sub2_carets h0 h1 q, show (q + 2) / 2 = q / 2 + 1 by omega, show (q + 2) % 2 = q % 2 by omega, List.replicate_succ]
    rfl

theorem twN_snoc {lets : List Nat} {b : Nat} (hb : b ≠ 94) (left : Nat) : twN (lets ++ [b]) left = twN lets left := by
  unfold twN
  by_cases h : 94 ∈ lets
  · rw [if_pos h, if_pos (List.mem_append_left _ h)]
  · rw [if_neg h, if_neg (by simp [h]; exact fun e => hb e.symm)]
theorem runN_snoc {lets : List Nat} {b : Nat} (hb : b ≠ 94) (left : Nat) : runN (lets ++ [b]) left = runN lets left := by
  unfold runN
  rw [twN_snoc hb]
theorem idx_snoc : ∀ {lets : List Nat} {s b : Nat}, s ∈ lets → (lets ++ [b]).idxOf s = lets.idxOf s := by
  intro lets s b h
  rw [List.idxOf_append, if_pos h]
theorem idx_new {lets : List Nat} {s : Nat} (h : ¬ s ∈ lets) : (lets ++ [s]).idxOf s = lets.length := by
  rw [List.idxOf_append, if_neg h]
  simp
theorem take_idx {lets : List Nat} {s b : Nat} (h : s ∈ lets) : (lets ++ [b]).take ((lets ++ [b]).idxOf s) = lets.take (lets.idxOf s) := by
  rw [idx_snoc h]
  have := List.idxOf_lt_length_iff.mpr h
  rw [List.take_append_of_le_length (by omega)]
theorem eat_old {lets : List Nat} {s b r : Nat} (h : s ∈ lets) : eatN (lets ++ [b]) s r = eatN lets s r := by
  unfold eatN
  rw [if_pos (List.mem_append_left _ h), if_pos h, take_idx h]
theorem eat_other {lets : List Nat} {s b r : Nat} (h : s ≠ b) : eatN (lets ++ [b]) s r = eatN lets s r := by
  by_cases hs : s ∈ lets
  · exact eat_old hs
  · unfold eatN
    rw [if_neg hs, if_neg (by simp [hs, h])]
theorem eat_new {lets : List Nat} {s r : Nat} (h : ¬ s ∈ lets) : eatN (lets ++ [s]) s r = if 94 ∈ lets then r % 2 else min r 1 := by
  unfold eatN
  rw [if_pos (List.mem_append_right _ (List.mem_singleton.mpr rfl)), idx_new h, List.take_append_of_le_length (Nat.le_refl _), List.take_length]
theorem eat_none {lets : List Nat} {s r : Nat} (h : ¬ s ∈ lets) : eatN lets s r = 0 := by
  unfold eatN
  rw [if_neg h]
end PartMath2

section PartMath3
theorem sgN_ne {e s : Nat} (h : s ≠ 94) : sgN e s ≠ 94 := by
  unfold sgN
  split
  · omega
  · exact h
theorem runN_yes {lets : List Nat} (h : 94 ∈ lets) (left : Nat) : runN lets left = List.replicate (left / 2) 30 ++ List.replicate (left % 2) 94 := by
  unfold runN twN
  rw [if_pos h, show left - 2 * (left / 2) = left % 2 by omega]
theorem runN_no {lets : List Nat} (h : ¬ 94 ∈ lets) (left : Nat) : runN lets left = List.replicate left 94 := by
  unfold runN twN
  rw [if_neg h]
  simp
theorem runN_zero (lets : List Nat) : runN lets 0 = [] := by
  by_cases h : 94 ∈ lets
  · rw [runN_yes h]; rfl
  · rw [runN_no h]; rfl

/-- the pair that seeks two carets, over a run -/
theorem run_carets {lets X Y : List Nat} (h0 : sub2 94 94 [30] X = Y) (h1 : sub2 94 94 [30] (94 :: X) = 94 :: Y) (left : Nat) : sub2 94 94 [30] (runN lets left ++ X) = runN (lets ++ [94]) left ++ Y := by
  rw [runN_yes (lets := lets ++ [94]) (List.mem_append_right _ (List.mem_singleton.mpr rfl))]
  by_cases h : 94 ∈ lets
  · rw [runN_yes h, List.append_assoc, sub2_rep (by decide), sub2_carets h0 h1, show left % 2 / 2 = 0 by omega, show left % 2 % 2 = left % 2 by omega]
    simp
  · rw [runN_no h, sub2_carets h0 h1]

theorem rd_snoc {lets : List Nat} {b : Nat} (hb : 63 ≤ b) : ∀ (t : List Nat) (r : Nat), sub2 94 b [b % 32] (rdN lets r t) = rdN (lets ++ [b]) r t := by
  intro t
  induction t with
  | nil =>
    intro r
    show sub2 94 b [b % 32] (runN lets r) = runN (lets ++ [b]) r
    by_cases hc : b = 94
    · subst hc
      have := run_carets (lets := lets) (X := []) (Y := []) rfl rfl r
      simpa using this
    · rw [runN_snoc hc]
      unfold runN
      rw [sub2_rep (by decide), sub2_run_end hc]
  | cons s t ih =>
    intro r
    by_cases hs : s = 94
    · subst hs
      show sub2 94 b [b % 32] (if 94 = 94 then rdN lets (r + 1) t else _) = (if 94 = 94 then rdN (lets ++ [b]) (r + 1) t else _)
      rw [if_pos rfl, if_pos rfl]
      exact ih (r + 1)
    · have e1 : ∀ l : List Nat, rdN l r (s :: t) = runN l (r - eatN l s r) ++ sgN (eatN l s r) s :: rdN l 0 t := fun l => by
        show (if s = 94 then _ else _) = _
        rw [if_neg hs]
      rw [e1, e1, ← ih 0]
      have hcne := sgN_ne (e := eatN lets s r) hs
      by_cases hc : b = 94
      · subst hc
        rw [eat_other hs]
        exact run_carets (sub2_one hcne) (by
          rw [sub2_miss]
          · rw [sub2_one hcne]
          · intro e
            exact hcne (List.cons.inj (List.cons.inj e).2).1) _
      · rw [runN_snoc hc]
        by_cases hsb : s = b
        · subst hsb
          by_cases hin : s ∈ lets
          · rw [eat_old hin]
            by_cases he : eatN lets s r = 1
            · rw [he]
              unfold runN
              have h2 : sgN 1 s ≠ s := by
                show s % 32 ≠ s
                omega
              rw [List.append_assoc, List.append_assoc, sub2_rep (by decide), sub2_run_miss hc (sgN_ne hs) h2]
            · have hz : runN lets (r - eatN lets s r) = List.replicate (twN lets (r - eatN lets s r)) 30 := by
                have he2 : eatN lets s r = 0 ∧ r - 2 * twN lets r = 0 := by
                  unfold eatN at he ⊢
                  rw [if_pos hin] at he ⊢
                  by_cases hb4 : 94 ∈ lets.take (lets.idxOf s)
                  · rw [if_pos hb4] at he ⊢
                    unfold twN
                    rw [if_pos (List.mem_of_mem_take hb4)]
                    omega
                  · rw [if_neg hb4] at he ⊢
                    have hr0 : r = 0 := by omega
                    subst hr0
                    exact ⟨rfl, by omega⟩
                rw [he2.1, Nat.sub_zero]
                unfold runN
                rw [he2.2]
                simp
              rw [hz, sub2_rep (by decide), sub2_one hcne]
          · rw [eat_none hin, eat_new hin]
            rw [Nat.sub_zero]
            show sub2 94 s [s % 32] (runN lets r ++ s :: rdN lets 0 t) = _
            by_cases h4 : 94 ∈ lets
            · rw [if_pos h4, runN_yes h4, runN_yes h4]
              rcases Nat.mod_two_eq_zero_or_one r with h | h
              · rw [h, Nat.sub_zero, h]
                rw [List.append_assoc, sub2_rep (by decide)]
                show _ ++ sub2 94 s [s % 32] (s :: rdN lets 0 t) = _
                rw [sub2_one hs]
                simp [sgN]
              · rw [h, show (r - 1) / 2 = r / 2 by omega, show (r - 1) % 2 = 0 by omega]
                rw [List.append_assoc, sub2_rep (by decide), sub2_run_hit hc _ 0]
                simp [sgN]
            · rw [if_neg h4, runN_no h4, runN_no h4]
              cases r with
              | zero =>
                show sub2 94 s [s % 32] (s :: rdN lets 0 t) = s :: sub2 94 s [s % 32] (rdN lets 0 t)
                exact sub2_one hs
              | succ k =>
                rw [show min (k + 1) 1 = 1 by omega, Nat.add_sub_cancel, sub2_run_hit hc]
                rfl
        · rw [eat_other hsb]
          unfold runN
          have h2 : sgN (eatN lets s r) s ≠ b := by
            unfold sgN
            split
            · omega
            · exact hsb
          rw [List.append_assoc, List.append_assoc, sub2_rep (by decide), sub2_run_miss hc hcne h2]
end PartMath3

section PartMath4
open Builtin Builtin.Str StrLaws
theorem str_eq {x y : Str} (h : x.cps.toList = y.cps.toList) : x = y := Str.ext' (Array.toList_inj.mp h)
theorem join_flat : ∀ l : List Str, (Txt.join (Str.ofString "") l).cps.toList = l.flatMap (·.cps.toList) := by
  intro l
  show (glued (Str.ofString "") l).cps.toList = _
  rw [glued_eq_join]
  have e : (Str.ofString "").cps.toList = [] := by decide +kernel
  induction l with
  | nil => rfl
  | cons a l ih =>
    cases l with
    | nil => show a.cps.toList = a.cps.toList ++ []; rw [List.append_nil]
    | cons b r =>
      show (a ++ Str.ofString "" ++ Str.join (Str.ofString "") (b :: r)).cps.toList = _
      simp only [Str.cps_append, Array.toList_append]
      rw [ih, e, List.append_nil]
      rfl
theorem caret_is : Str.ofString "^" = ⟨#[94]⟩ := by decide +kernel
theorem empty_is : Str.ofString "" = ⟨#[]⟩ := by decide +kernel
theorem unc_is (n : Nat) : unc n = ⟨#[94, n ^^^ 64]⟩ := by
  unfold unc
  rw [caret_is]
  rfl

/-! the written page -/
theorem mem_toNat {ns : List Int} (hns : ∀ n ∈ ns, 0 ≤ n) (c : Nat) : ((c : Int) ∈ ns) ↔ c ∈ ns.map Int.toNat := by
  constructor
  · intro h
    exact List.mem_map.mpr ⟨_, h, by omega⟩
  · intro h
    obtain ⟨n, hn, e⟩ := List.mem_map.mp h
    have := hns n hn
    rw [show (c : Int) = n by omega]
    exact hn
theorem wrAll_is {ns : List Int} (hns : ∀ n ∈ ns, 0 ≤ n) (tx : Str) : (wrAll tx ns).cps.toList = wrN (ns.map Int.toNat) tx.cps.toList := by
  unfold wrAll wrN
  rw [join_flat, List.flatMap_map]
  congr 1
  funext c
  unfold wrOne
  by_cases h : (c : Int) ∈ ns
  · rw [if_pos h, if_pos ((mem_toNat hns c).mp h), caret_is]
    rfl
  · rw [if_neg h, if_neg (fun e => h ((mem_toNat hns c).mpr e))]
theorem wrN_len (ns : List Nat) (t : List Nat) : (wrN ns t).length ≤ 2 * t.length := by
  induction t with
  | nil => exact Nat.le_refl _
  | cons d t ih =>
    show ((if d ∈ ns then [94, d ^^^ 64] else [d]) ++ wrN ns t).length ≤ _
    rw [List.length_append, List.length_cons]
    split
    · simp only [List.length_cons, List.length_nil]; omega
    · simp only [List.length_cons, List.length_nil]; omega
theorem wrN_nil (t : List Nat) : wrN [] t = t := by
  induction t with
  | nil => rfl
  | cons d t ih =>
    show (if d ∈ ([] : List Nat) then [94, d ^^^ 64] else [d]) ++ wrN [] t = _
    rw [if_neg (List.not_mem_nil), ih]
    rfl

/-! the text read back -/
def mk1 (c : Nat) : Str := ⟨#[c]⟩
theorem mk1_inj {a b : Nat} (h : mk1 a = mk1 b) : a = b := by
  have := congrArg (fun s : Str => s.cps.toList) h
  simpa [mk1] using this
theorem mem_mk1 (l : List Nat) (c : Nat) : mk1 c ∈ l.map mk1 ↔ c ∈ l := by
  constructor
  · intro h
    obtain ⟨d, hd, e⟩ := List.mem_map.mp h
    rw [← mk1_inj e]; exact hd
  · intro h
    exact List.mem_map.mpr ⟨c, h, rfl⟩
theorem idx_mk1 (c : Nat) : ∀ l : List Nat, (l.map mk1).idxOf (mk1 c) = l.idxOf c
  | [] => rfl
  | d :: l => by
    rw [List.map_cons, List.idxOf_cons, List.idxOf_cons]
    by_cases h : d = c
    · subst h; simp
    · have h2 : mk1 d ≠ mk1 c := fun e => h (mk1_inj e)
      rw [beq_eq_false_iff_ne.mpr h, beq_eq_false_iff_ne.mpr h2]
      show (l.map mk1).idxOf (mk1 c) + 1 = l.idxOf c + 1
      rw [idx_mk1 c l]
theorem caret_mk1 : caret = mk1 94 := caret_is
theorem eaten_is (lets : List Nat) (s r : Nat) : eaten (lets.map mk1) (mk1 s) r = eatN lets s r := by
  unfold eaten eatN
  rw [idx_mk1, ← List.map_take, caret_mk1]
  simp only [mem_mk1]
theorem twos_is (lets : List Nat) (left : Nat) : twos (lets.map mk1) left = twN lets left := by
  unfold twos twN
  rw [caret_mk1]
  simp only [mem_mk1]
theorem rep_is (c n : Nat) : (rep c n).cps.toList = List.replicate n c := rfl
theorem empty_out (lets : List Nat) : ¬ Str.ofString "" ∈ lets.map mk1 := by
  intro h
  obtain ⟨d, _, e⟩ := List.mem_map.mp h
  rw [empty_is] at e
  have := congrArg (fun s : Str => s.cps.size) e
  simp [mk1] at this
theorem rd_fold (lets : List Nat) : ∀ (l : List Nat) (r : Nat) (row : List Str),
    ((l.map mk1 ++ [Str.ofString ""]).foldl (rdStep (lets.map mk1)) (r, row)).2.flatMap (·.cps.toList) = row.flatMap (·.cps.toList) ++ rdN lets r l
  | [], r, row => by
    show (rdStep (lets.map mk1) (r, row) (Str.ofString "")).2.flatMap (·.cps.toList) = _ ++ runN lets r
    have hne : Str.ofString "" ≠ caret := by decide +kernel
    have he : eaten (lets.map mk1) (Str.ofString "") r = 0 := by
      unfold eaten
      rw [if_neg (empty_out lets)]
    unfold rdStep
    rw [if_neg hne]
    dsimp only
    rw [he, Nat.sub_zero, twos_is, if_neg (by decide)]
    rw [List.flatMap_append]
    congr 1
    rw [empty_is]
    simp [runN, rep_is, Str.cps_append]
  | s :: l, r, row => by
    rw [List.map_cons, List.cons_append, List.foldl_cons]
    by_cases hs : s = 94
    · subst hs
      have e : rdStep (lets.map mk1) (r, row) (mk1 94) = (r + 1, row) := by
        unfold rdStep
        rw [if_pos caret_mk1.symm]
      rw [e, rd_fold lets l (r + 1) row]
      show _ = _ ++ (if 94 = 94 then rdN lets (r + 1) l else _)
      rw [if_pos rfl]
    · have hne : mk1 s ≠ caret := fun e => hs (mk1_inj (e.trans caret_mk1))
      have e : rdStep (lets.map mk1) (r, row) (mk1 s) = (0, row ++ [rep 30 (twN lets (r - eatN lets s r)) ++ rep 94 (r - eatN lets s r - 2 * twN lets (r - eatN lets s r)), mk1 (sgN (eatN lets s r) s)]) := by
        unfold rdStep
        rw [if_neg hne]
        dsimp only
        rw [eaten_is, twos_is]
        congr 3
        unfold sgN
        split
        · rfl
        · rfl
      rw [e, rd_fold lets l 0]
      show _ = _ ++ (if s = 94 then _ else _)
      rw [if_neg hs, List.flatMap_append, List.append_assoc]
      congr 1
      simp [runN, rep_is, Str.cps_append, mk1]
theorem signs_is (tx : Str) : signs tx = tx.cps.toList.map mk1 := rfl
theorem letter_is (ns : List Int) : ns.map letter = (ns.map fun n => n.toNat ^^^ 64).map mk1 := by
  rw [List.map_map]
  rfl
theorem rdAll_is (tx : Str) (ns : List Int) : (rdAll tx ns).cps.toList = rdN (ns.map fun n => n.toNat ^^^ 64) 0 tx.cps.toList := by
  unfold rdAll
  rw [join_flat, signs_is, letter_is, rd_fold]
  rfl
theorem rdN_nil : ∀ (t : List Nat) (r : Nat), rdN [] r t = List.replicate r 94 ++ t
  | [], r => by
    show runN [] r = _
    rw [runN_no (List.not_mem_nil), List.append_nil]
  | s :: t, r => by
    show (if s = 94 then rdN [] (r + 1) t else runN [] (r - eatN [] s r) ++ sgN (eatN [] s r) s :: rdN [] 0 t) = _
    by_cases hs : s = 94
    · subst hs
      rw [if_pos rfl, rdN_nil t (r + 1), List.replicate_succ']
      simp
    · rw [if_neg hs, eat_none (List.not_mem_nil), Nat.sub_zero, runN_no (List.not_mem_nil), rdN_nil t 0]
      rfl
theorem runN_len (lets : List Nat) (left : Nat) : (runN lets left).length ≤ left := by
  unfold runN twN
  split
  · simp only [List.length_append, List.length_replicate]; omega
  · simp only [List.length_append, List.length_replicate]; omega
theorem rdN_len (lets : List Nat) : ∀ (t : List Nat) (r : Nat), (rdN lets r t).length ≤ r + t.length
  | [], r => by
    show (runN lets r).length ≤ _
    have := runN_len lets r
    simpa using this
  | s :: t, r => by
    show (if s = 94 then rdN lets (r + 1) t else runN lets (r - eatN lets s r) ++ sgN (eatN lets s r) s :: rdN lets 0 t).length ≤ _
    rw [List.length_cons]
    by_cases hs : s = 94
    · rw [if_pos hs]
      have := rdN_len lets t (r + 1)
      omega
    · rw [if_neg hs]
      have h1 := rdN_len lets t 0
      have h2 := runN_len lets (r - eatN lets s r)
      simp only [List.length_append, List.length_cons]
      omega
end PartMath4

section PartMath5
open Builtin Builtin.Str StrLaws
theorem join_len_ge {a : Str} (ha : 1 ≤ a.length) : ∀ l : List Str, (l.map (·.length)).sum + l.length ≤ (Str.join a l).length + 1
  | [] => Nat.zero_le _
  | [x] => by
    show x.length + 0 + 1 ≤ x.length + 1
    omega
  | x :: y :: r => by
    have ih := join_len_ge ha (y :: r)
    show x.length + ((y :: r).map (·.length)).sum + ((y :: r).length + 1) ≤ (x ++ a ++ Str.join a (y :: r)).length + 1
    rw [Str.length_append, Str.length_append]
    omega
theorem split_weight (x a : Str) (ha : 1 ≤ a.length) : ((Txt.split x a).map (·.length)).sum + (Txt.split x a).length ≤ x.length + 1 := by
  have h := join_len_ge ha (Txt.split x a)
  rw [join_split] at h
  exact h
theorem len_is (x : Str) : x.length = x.cps.toList.length := by simp [Str.length]
theorem kind_low (x : Str) {a b : Nat} (ha : a < 256) (hb : b < 256) : ¬ strKind x < strKind ⟨#[a, b]⟩ := by
  have h1 : strKind ⟨#[a, b]⟩ = 1 := by
    unfold Builtin.Str.strKind
    rw [if_pos (by simp [ha, hb])]
  rw [h1]
  unfold Builtin.Str.strKind
  split
  · omega
  · split <;> omega

def InCode (n : Int) : Prop := (0 ≤ n ∧ n ≤ 31) ∨ n = 127
theorem InCode.code {n : Int} (h : InCode n) : IsCode n.toNat := by
  unfold InCode at h
  unfold IsCode
  omega

theorem there_run : ∀ (l : List Int) (acc : List Nat) (y : Str) (t : List Nat), (∀ n ∈ l, InCode n) → (∀ n ∈ acc, IsCode n) → t.length ≤ 1000 → y.cps.toList = wrN acc t →
    RepOk y (thereL l) ∧ (repAll y (thereL l)).cps.toList = wrN (acc ++ l.map Int.toNat) t
  | [], acc, y, t, _, _, _, hy => ⟨trivial, by rw [List.map_nil, List.append_nil]; exact hy⟩
  | n :: l, acc, y, t, hl, hacc, ht, hy => by
    have hc := (hl n (List.Mem.head _)).code
    have e1 : thereL (n :: l) = chrS n :: uncS n :: thereL l := rfl
    have hy' : (Txt.join (uncS n) (Txt.split y (chrS n))).cps.toList = wrN (acc ++ [n.toNat]) t := by
      have h := split1_is y (uncS n) n.toNat
      have hu : (uncS n).cps.toList = [94, n.toNat ^^^ 64] := by
        unfold uncS
        rw [unc_is]
      rw [hu, hy, wr_snoc hacc hc] at h
      exact h
    have hacc' : ∀ k ∈ acc ++ [n.toNat], IsCode k := fun k hk => by
      rcases List.mem_append.mp hk with h | h
      · exact hacc k h
      · rw [List.mem_singleton.mp h]; exact hc
    obtain ⟨i1, i2⟩ := there_run l (acc ++ [n.toNat]) _ t (fun k hk => hl k (List.Mem.tail _ hk)) hacc' ht hy'
    have hlen : y.length ≤ 2000 := by
      rw [len_is, hy]
      have := wrN_len acc t
      omega
    have hw := split_weight y (chrS n) (Nat.le_refl 1)
    have hsl : (10000 : Nat) ≤ sizeLine := by decide
    refine ⟨?_, ?_⟩
    · rw [e1]
      refine ⟨rfl, by omega, ?_, by omega, i1⟩
      rw [uncS, unc_is]
      show 2 ≤ 16
      decide
    · rw [e1]
      show (repAll (Txt.join (uncS n) (Txt.split y (chrS n))) (thereL l)).cps.toList = _
      rw [i2, List.map_cons, List.append_assoc]
      rfl

theorem back_run : ∀ (l : List Int) (acc : List Nat) (y : Str) (t : List Nat), (∀ n ∈ l, InCode n) → t.length ≤ 1000 → y.cps.toList = rdN acc 0 t →
    RepOk y (backL l) ∧ (repAll y (backL l)).cps.toList = rdN (acc ++ l.map fun n => n.toNat ^^^ 64) 0 t
  | [], acc, y, t, _, _, hy => ⟨trivial, by rw [List.map_nil, List.append_nil]; exact hy⟩
  | n :: l, acc, y, t, hl, ht, hy => by
    have hc := (hl n (List.Mem.head _)).code
    have hx := hc.xor
    have e1 : backL (n :: l) = uncS n :: ctlS n :: backL l := rfl
    have hu : uncS n = ⟨#[94, n.toNat ^^^ 64]⟩ := unc_is _
    have hy' : (Txt.join (ctlS n) (Txt.split y (uncS n))).cps.toList = rdN (acc ++ [n.toNat ^^^ 64]) 0 t := by
      rw [hu]
      have h := split2_is y (ctlS n) 94 (n.toNat ^^^ 64) (kind_low y (by decide) (by omega))
      have hz : (ctlS n).cps.toList = [(n.toNat ^^^ 64) % 32] := rfl
      rw [hz, hy, rd_snoc hx.1] at h
      exact h
    obtain ⟨i1, i2⟩ := back_run l (acc ++ [n.toNat ^^^ 64]) _ t (fun k hk => hl k (List.Mem.tail _ hk)) ht hy'
    have hlen : y.length ≤ 1000 := by
      rw [len_is, hy]
      have := rdN_len acc t 0
      omega
    have hul : (uncS n).length = 2 := by rw [hu]; rfl
    have hw := split_weight y (uncS n) (by omega)
    have hsl : (10000 : Nat) ≤ sizeLine := by decide
    refine ⟨?_, ?_⟩
    · rw [e1]
      refine ⟨?_, by omega, ?_, by omega, i1⟩
      · rw [hul]; rfl
      · show 1 ≤ 16
        decide
    · rw [e1]
      show (repAll (Txt.join (ctlS n) (Txt.split y (uncS n))) (backL l)).cps.toList = _
      rw [i2, List.map_cons, List.append_assoc]
      rfl

theorem codes_nonneg {l : List Int} (h : ∀ n ∈ l, InCode n) : ∀ n ∈ l, 0 ≤ n := fun n hn => by
  have := h n hn
  unfold InCode at this
  omega
/-- replace with the first row: the page written -/
theorem there_eq {l : List Int} (h : ∀ n ∈ l, InCode n) {x : Str} (hx : x.length ≤ 1000) : RepOk x (thereL l) ∧ repAll x (thereL l) = wrAll x l := by
  obtain ⟨a, b⟩ := there_run l [] x x.cps.toList h (fun _ hk => nomatch hk) (by rw [← len_is]; exact hx) (wrN_nil _).symm
  refine ⟨a, str_eq ?_⟩
  rw [b, wrAll_is (codes_nonneg h)]
  rfl
/-- replace with the second row: the text read back -/
theorem back_eq {l : List Int} (h : ∀ n ∈ l, InCode n) {x : Str} (hx : x.length ≤ 1000) : RepOk x (backL l) ∧ repAll x (backL l) = rdAll x l := by
  obtain ⟨a, b⟩ := back_run l [] x x.cps.toList h (by rw [← len_is]; exact hx) (by rw [rdN_nil]; rfl)
  refine ⟨a, str_eq ?_⟩
  rw [b, rdAll_is]
  rfl

theorem repOk_take : ∀ (k : Nat) (ws : List Str) (x : Str), RepOk x ws → RepOk x (ws.take k)
  | 0, ws, x, _ => by rw [List.take_zero]; trivial
  | 1, [], x, _ => trivial
  | 1, _ :: _, x, _ => trivial
  | k + 2, [], x, _ => trivial
  | k + 2, [_], x, _ => trivial
  | k + 2, _ :: _ :: r, x, h => ⟨h.1, h.2.1, h.2.2.1, h.2.2.2.1, repOk_take k r _ h.2.2.2.2⟩
theorem pairs_take {α : Type} (f g : α → Str) : ∀ (k : Nat) (l : List α), (l.flatMap fun n => [f n, g n]).take (2 * k) = (l.take k).flatMap fun n => [f n, g n]
  | 0, l => by simp
  | k + 1, [] => by simp
  | k + 1, a :: l => by
    show (f a :: g a :: (l.flatMap fun n => [f n, g n])).take (2 * k + 2) = f a :: g a :: ((l.take k).flatMap fun n => [f n, g n])
    rw [List.take_succ_cons, List.take_succ_cons, pairs_take f g k l]
theorem repAll_append {α : Type} (f g : α → Str) (ws : List Str) : ∀ (l : List α) (x : Str), repAll x ((l.flatMap fun n => [f n, g n]) ++ ws) = repAll (repAll x (l.flatMap fun n => [f n, g n])) ws
  | [], x => rfl
  | a :: l, x => repAll_append f g ws l _
theorem repOk_append {α : Type} (f g : α → Str) (ws : List Str) : ∀ (l : List α) (x : Str), RepOk x (l.flatMap fun n => [f n, g n]) → RepOk (repAll x (l.flatMap fun n => [f n, g n])) ws → RepOk x ((l.flatMap fun n => [f n, g n]) ++ ws)
  | [], x, _, h => h
  | a :: l, x, h, h2 => ⟨h.1, h.2.1, h.2.2.1, h.2.2.2.1, repOk_append f g ws l _ h.2.2.2.2 h2⟩

theorem wrAll_len {l : List Int} (h : ∀ n ∈ l, InCode n) (x : Str) : (wrAll x l).length ≤ 2 * x.length := by
  rw [len_is, wrAll_is (codes_nonneg h), len_is]
  exact wrN_len _ _
theorem rdAll_len (l : List Int) (x : Str) : (rdAll x l).length ≤ x.length := by
  rw [len_is, rdAll_is, len_is]
  have := rdN_len (l.map fun n => n.toNat ^^^ 64) x.cps.toList 0
  omega

theorem lawMath_holds (pg : Str) (mk : List Int) (hmk : ∀ n ∈ mk, (0 ≤ n ∧ n ≤ 31) ∨ n = 127) (hl : pg.length ≤ 12) : LawMath pg mk := by
  have hc : ∀ n ∈ mk, InCode n := hmk
  have ht : ∀ k : Nat, ∀ n ∈ mk.take k, InCode n := fun k n hn => hc n (List.mem_of_mem_take hn)
  obtain ⟨o1, q1⟩ := there_eq hc (x := pg) (by omega)
  have l1 := wrAll_len hc pg
  have l2 := rdAll_len mk (wrAll pg mk)
  obtain ⟨o2, q2⟩ := back_eq hc (x := wrAll pg mk) (by omega)
  obtain ⟨o3, q3⟩ := there_eq hc (x := rdAll (wrAll pg mk) mk) (by omega)
  refine ⟨?_, ?_, ?_, ?_, ?_, ?_, ?_, ?_, ?_⟩
  · exact fun k => repOk_take _ _ _ o1
  · intro k
    rw [q1]
    exact repOk_take _ _ _ o2
  · rw [List.append_assoc]
    refine repOk_append chrS uncS _ mk pg o1 ?_
    show RepOk (repAll pg (thereL mk)) (backL mk ++ thereL mk)
    rw [q1]
    refine repOk_append uncS ctlS _ mk _ o2 ?_
    show RepOk (repAll (wrAll pg mk) (backL mk)) (thereL mk)
    rw [q2]
    exact o3
  · intro k
    rw [show (thereL mk).take (2 * k) = thereL (mk.take k) from pairs_take chrS uncS k mk]
    exact (there_eq (ht k) (by omega)).2
  · intro k
    rw [show (backL mk).take (2 * k) = backL (mk.take k) from pairs_take uncS ctlS k mk, q1]
    exact (back_eq (ht k) (by omega)).2
  · rw [List.append_assoc]
    rw [show repAll pg (thereL mk ++ (backL mk ++ thereL mk)) = repAll (repAll pg (thereL mk)) (backL mk ++ thereL mk) from repAll_append chrS uncS _ mk pg, q1]
    rw [show repAll (wrAll pg mk) (backL mk ++ thereL mk) = repAll (repAll (wrAll pg mk) (backL mk)) (thereL mk) from repAll_append uncS ctlS _ mk _, q2, q3]
  · rw [q1]; omega
  · omega
  · omega

theorem pageLen (l : List Int) : (Txt.join (Str.ofString "") (l.map signOf)).length = l.length := by
  rw [len_is, join_flat, List.flatMap_map]
  induction l with
  | nil => rfl
  | cons a l ih =>
    show (([signCp a] : List Nat) ++ List.flatMap (fun x => (signOf x).cps.toList) l).length = l.length + 1
    rw [List.length_append, ih]
    simp only [List.length_cons, List.length_nil]
    omega
end PartMath5

section PartLawA
section
local macro_rules | `(tactic| walk_at "eval Call") => `(tactic| ((fail_if_success k_compRoot); k_dflt (refine Call_ ?_)))
theorem law_a {w : World} {mean : ExcName → Option Value} {mg mb : Str → Option Value} {R : Result → Shared → Prop} {h₀ : Heap} {L fa : Addr} {cd : Value} {s : Shared} {m : Str → Option Value} (B : Below callerA h₀ [] h₀) (X : (Mine.hd.heap_39 w.params).In h₀) (T : Top Mine.hd.view_39 (looseW Mine.hd.view_39 []) mean mg mb h₀) (Dd : Addr) (wd : List Value) (dr : List Int) (hI : IntsAre wd dr) (hdr : dr.length ≤ 12) (hpos : 1 ≤ dr.length)
    (hM : LawMath (Txt.join (Str.ofString "") ((dr.drop (dr.length - 6) ++ dr.take (dr.length - 6)).map signOf)) (dr.map codeOf))
    (F : Fr h₀ L s.heap (fun y => if y = Str.ofString "drawn" then some (.ref Dd) else m y)) (N : News h₀ L s.heap [(Dd, W.listOf wd.toArray 0)])
    (done : ∀ h' tk' m', Fr h₀ L h' m' → R (.ok (.ret (.bool true))) { s with heap := h', toks := tk' }) :
    wpAny (model Challenge.rw_mq0054_01.row.prog w) (callerA.deeper (lawEnv L fa cd)) (execs (lawBody.drop 1) (lawEnv L fa cd)) (fun f s' => R (.ok (.ret (match f with | .ret v => v | _ => .none))) s') (fun e s' => wpAny (model Challenge.rw_mq0054_01.row.prog w) (callerA.deeper (lawEnv L fa cd)) (leaving (lawEnv L fa cd) e) (fun _ s'' => R (.error e) s'') (fun e' s'' => R (.error e') s'') s') s := by
  show wpAny _ _ (execs (_ :: _) _) _ _ _
  refine wpAny_execs_cons ?_
  refine LCg.Assign_ListComp_U (cl := []) F rfl (by with_unfolding_all rfl) (by with_unfolding_all rfl) (by decide) (by rfl) (by decide) (by rfl) (by rfl) (by rfl) ?_
  walk1
  refine LCg.CompSrc.ledger rfl F N (List.Mem.head _) ?_ ?_
  · rw [List.size_toArray, hI.length]
    have : (1000 : Nat) ≤ sizeLine := by decide
    omega
  intro h₂
  refine comp_ints dr (fun c t => .int c t) codeOf (by rw [List.size_toArray, hI.length]) ?_ (.inr ⟨_, List.Mem.head _, rfl, _, rfl⟩) ?_ ?_
  · intro i v _ hv
    obtain ⟨k, t, e, hk⟩ := IntsAre.at hI i v (by simpa using hv)
    exact ⟨k, t, hk, e⟩
  · intro c t I oI C oC D m₂ ys h tk E' hc hC hx F N off ne
    dsimp only
    repeat ((fail_if_success (with_reducible show wpAny _ _ (call (Value.ref _) _) _ _ _)); walk1)
    k_dflt (refine' cd_call _ _ _ _ _ _ _ _ _ _ _ _ _ _ _ _ _ _ c t ?hB ?hF ?hX ?hN ?hT ?hk ?_ ?_ ?_; (case hk => exact rfl); (case hB => exact B); (case hX => exact X); (case hT => exact T); (case hF => exact F); (case hN => exact N))
    · decide
    · decide
    intro t₂ h₂ tk₂ F₂ N₂
    exact IntEnd.intro F₂ N₂ (fun p hp => hp) rfl
  · intro wm hm _
    intro Dm h tk F N off
    dsimp only
    repeat ((fail_if_success (with_reducible show wpAny _ _ (eval (Expr.ListComp _ _ _ _) _) _ _ _)); walk1)
    refine LCg.ListComp_U (cl := []) F (by with_unfolding_all rfl) (by decide) (by rfl) (by decide) (by rfl) ?_
    repeat ((fail_if_success (with_reducible show LCg.CompSrc _ _ _ _ _ _ _ _ _ _ _ _ _ _)); walk1)
    rename Fr h₀ L _ _ => F₁
    rename News h₀ L _ _ => N₁
    rename IntsAre _ (_ ++ _) => hI₁
    have hlen₁ : (List.drop (dr.length - 6) dr ++ List.take (dr.length - 6) dr).length ≤ 12 := by
      simp only [List.length_append, List.length_drop, List.length_take]; omega
    generalize hdr₁ : List.drop (dr.length - 6) dr ++ List.take (dr.length - 6) dr = dr₁ at *
    refine LCg.CompSrc.ledger rfl F₁ N₁ (List.Mem.head _) ?_ ?_
    · rw [List.size_toArray, hI₁.length]
      have : (1000 : Nat) ≤ sizeLine := by decide
      omega
    intro h₂
    refine comp_texts dr₁ (fun c t => .int c t) signOf (by rw [List.size_toArray, hI₁.length]) ?_ (.inr ⟨_, List.Mem.head _, rfl, _, rfl⟩) ?_ ?_
    · intro i v _ hv
      obtain ⟨k, t, e, hk⟩ := IntsAre.at hI₁ i v (by simpa using hv)
      exact ⟨k, t, hk, e⟩
    · intro c t I oI C oC D m₂ ys h tk E' hc hC hx F N off ne
      dsimp only
      repeat ((fail_if_success (with_reducible show wpAny _ _ (call (Value.ref _) _) _ _ _)); walk1)
      k_dflt (refine' sg_call _ _ _ _ _ _ _ _ _ _ _ _ _ _ _ _ _ _ c t ?hB ?hF ?hX ?hN ?hT ?hk ?_ ?_ ?_; (case hk => exact rfl); (case hB => exact B); (case hX => exact X); (case hT => exact T); (case hF => exact F); (case hN => exact N))
      · decide
      · decide
      intro t₂ h₂ tk₂ F₂ N₂
      exact TextEnd.intro F₂ N₂ (fun p hp => hp) rfl
    · intro wp hp _
      intro Dp h tk F N off
      dsimp only
      repeat ((fail_if_success (with_reducible show wpAny _ _ (call (Value.builtin "str.join") _) _ _ _)); walk1)
      refine join_listW (News.isList N (List.Mem.head _)) hp (by decide) ?_ ?_
      · have h1 : ∀ l : List Int, ((l.map signOf).map (·.length)).sum = l.length := by
          intro l
          induction l with
          | nil => rfl
          | cons c r ih =>
            simp only [List.map_cons, List.sum_cons, List.length_cons]
            rw [ih]
            show 1 + r.length = r.length + 1
            omega
        rw [h1, List.length_map]
        omega
      · intro t' k'
        dsimp only
        repeat ((fail_if_success (with_reducible show wpAny _ _ (execs _ _) _ _ _)); walk1)
        rename Fr h₀ L _ _ => F₉
        rename News h₀ L _ _ => N₉
        refine law_b B X T Dm wm (dr.map codeOf) wm.length _ t' hm ?_ (by rw [List.length_map]; omega) (by rw [List.length_map]; omega) ?_ hM F₉ (news_sub N₉ ?_) ?_
        · intro n hn
          obtain ⟨x, _, rfl⟩ := List.mem_map.mp hn
          unfold codeOf
          split <;> omega
        · rw [pageLen]
          exact hlen₁
        · intro p hp
          rw [List.mem_singleton.mp hp]
          exact List.mem_cons_of_mem _ (List.mem_cons_of_mem _ (List.mem_cons_of_mem _ (List.mem_cons_of_mem _ (List.Mem.head _))))
        · intro h' tk' m' F'
          exact done h' tk' m' F'
theorem law_holds : PySem.Challenge.rw_mq0054_01.Holds := by
  refine Mine.hd ?_
  k_go0
  rename World => w
  rename Top _ _ _ _ _ _ => T
  rename Below _ _ _ _ => B
  rename Frag.In _ _ => X
  rename Fr _ _ _ _ => F
  rename News _ _ _ _ => N
  rename IntsAre _ _ => hI
  rename Heap.IsList _ _ _ => hL
  refine wpAny_execs_cons ?_
  try dsimp only
  repeat ((fail_if_success (first | (with_reducible show wpAny _ _ (execs _ _) _ _ _))); walk1)
  rename Fr _ _ _ _ => F₁
  rename News _ _ _ _ => N₁
  rename IntsAre _ (_ ++ _) => hI₁
  k_dflt (refine' law_a ?hB ?hX ?hT _ _ _ hI₁ ?hl ?hp ?hM ?hF ?hN ?hd; (case hB => exact B); (case hX => exact X); (case hT => exact T); (case hF => exact F₁); (case hN => exact news_sub N₁ (by intro p hp; rw [List.mem_singleton.mp hp]; exact List.Mem.head _)))
  case hl => simp only [List.length_append, List.length_take, List.length_cons, List.length_nil]; omega
  case hp => simp only [List.length_append, List.length_take, List.length_cons, List.length_nil]; omega
  case hM =>
    refine lawMath_holds _ _ ?_ ?_
    · intro n hn
      obtain ⟨x, _, rfl⟩ := List.mem_map.mp hn
      unfold codeOf
      split <;> omega
    · rw [pageLen]
      simp only [List.length_append, List.length_drop, List.length_take, List.length_cons, List.length_nil]
      omega
  case hd =>
    intro h' tk' m' F'
    try dsimp only
    wrow_close
end
end PartLawA
end Mine

theorem PySem.Challenge.cw_mq0054_01_holds : PySem.Challenge.rw_mq0054_01.Holds :=
  Mine.law_holds
