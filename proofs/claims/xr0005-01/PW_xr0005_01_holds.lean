import PyProof.Rows.All
import Wide.All
import OpenK.AllK
import Wide.FinOn
import PySem.Challenge.RW_xr0005_01
open PySem PySem.W PyProof.Rows PySem.Calls
set_option Elab.async false
set_option compiler.extract_closed false
set_option maxRecDepth 100000
set_option maxHeartbeats 8000000
set_option linter.unusedSimpArgs false
set_option linter.unusedVariables false
namespace Mine
theorem wsL : looksOpen PySem.Challenge.pw_xr0005_01 = true := by
  unfold looksOpen
  repeat' (with_reducible refine look_both ?_ ?_)
  all_goals decide +kernel
theorem wsR : OpenRow.wellSaid (OpenLaw.row PySem.Challenge.rw_xr0005_01) = true := by
  have e : (OpenLaw.row PySem.Challenge.rw_xr0005_01).prog = PySem.Challenge.pw_xr0005_01 := rfl
  unfold OpenRow.wellSaid OpenRow.partSaid
  repeat' (with_reducible refine look_both ?_ ?_)
  · exact (congrArg looksOpen e).trans wsL
  all_goals decide +kernel
theorem wsA : OpenLaw.wellSaid PySem.Challenge.rw_xr0005_01 = true := by
  unfold OpenLaw.wellSaid
  repeat' (with_reducible refine look_both ?_ ?_)
  · exact wsR
  all_goals decide +kernel
-- hd itself proves nothing and nothing below uses it: walked from False, the head's tactic only writes out the objects that the top
-- leaves (hd.heap_1) and the view (hd.view_1). What is so of them is shown without it: wsA (the looks), asK_ok and hd_left (the run).
theorem keep3 {a p q : Prop} (x : a) (_ : p) (_ : q) : a := x
theorem hd (h : False) : PySem.Challenge.rw_xr0005_01.Holds := by
  w_on
  refine holds_law wsA fun said => ?_
  refine' keep3 ?main ?hl ?hc
  case main => k_head; (case hw => w_witness2)
  case hl => exact h.elim
  case hc => exact h.elim
noncomputable def asK : List Nat := [2, 3, 6, 15, 17, 18, 20, 21, 22, 24, 25, 27, 28, 29, 31, 32, 34, 35, 36, 38, 39, 41, 42, 43, 45, 46, 48, 49,
  50, 52, 53, 55, 56, 57, 59, 60, 62, 63, 64, 66, 67, 69, 70, 71, 73, 74, 76, 77, 78, 81, 82, 83, 85, 86, 88,
  89, 90, 92, 93, 95, 96, 97, 99, 100, 102, 103, 104, 106, 107, 109, 110, 111, 114, 115, 116, 119, 120]
theorem asK_ok (P : Params) : asK = (hd.heap_1 P).map (·.1) := by kernel_rfl
noncomputable def hook : Hook := kHook hd.heap_1 asK asK_ok
theorem hd_left : LeftO PySem.Challenge.pw_xr0005_01 hd.view_1 [] (fun s => xlAt hd.view_1 [] s && recOk (RowW.records PySem.Challenge.rw_xr0005_01.row.toRowW) s) (Hook.obs hook) (Hook.val hook) 1224 := by
  intro w
  kernel_rfl
section
noncomputable abbrev Led := List (Addr × Obj)
noncomputable abbrev TopF (mean : ExcName → Option Value) (mg mb : PySem.Str → Option Value) (h : Heap) : Prop := Top hd.view_1 (looseW hd.view_1 []) mean mg mb h
/-- what is left to show where a callee comes back: `tl` are the new objects that the caller gets to see -/
noncomputable def LeaveS (h₀ : Heap) (L : Addr) (m : PySem.Str → Option Value) (g : Heap) (sub news : Led) (R : Result → Shared → Prop) (v : Value) (s' : Shared) : Prop :=
  ∃ L' m' news' tl, Fr g L' s'.heap m' ∧ News g L' s'.heap news' ∧ (∀ p ∈ sub, p ∈ news') ∧ (∀ p ∈ tl, p ∈ news') ∧ (∀ p ∈ tl, ∀ q ∈ sub, q.1 ≠ p.1) ∧
    (Fr h₀ L s'.heap m → News h₀ L s'.heap (tl ++ news) → (∀ p ∈ tl, ∀ q ∈ news, q.1 ≠ p.1) → R (.ok (.ret v)) s')
theorem LeaveS.intro {h₀ : Heap} {L : Addr} {m : PySem.Str → Option Value} {g : Heap} {sub news : Led} {R : Result → Shared → Prop} {v : Value} {s' : Shared} {L' : Addr} {m' : PySem.Str → Option Value} {news' : Led} (tl : Led)
    (F : Fr g L' s'.heap m') (N : News g L' s'.heap news') (h1 : ∀ p ∈ sub, p ∈ news') (h2 : ∀ p ∈ tl, p ∈ news') (h3 : ∀ p ∈ tl, ∀ q ∈ sub, q.1 ≠ p.1)
    (k : Fr h₀ L s'.heap m → News h₀ L s'.heap (tl ++ news) → (∀ p ∈ tl, ∀ q ∈ news, q.1 ≠ p.1) → R (.ok (.ret v)) s') : LeaveS h₀ L m g sub news R v s' :=
  ⟨L', m', news', tl, F, N, h1, h2, h3, k⟩
noncomputable def Tell (lv : Nat) (w : World) (f : Addr) (vs : List Value) (sub : Led) (Ret : Led → Value → Prop) : Prop :=
  ∀ (mean : ExcName → Option Value) (mg mb : PySem.Str → Option Value) (gd : Option (List Code)) (cn : PySem.Str) (cs : Scope) (a : Addr) (ccd : Value) (cl : List (PySem.Str × Addr)) (outer : List Env) (A₀ : Around) (base h₀ : Heap) (L : Addr)
    (m : PySem.Str → Option Value) (news : Led) (s : Shared) (Q E : Value → Shared → Prop),
    Below A₀ base outer h₀ → Fr h₀ L s.heap m → (hd.heap_1 w.params).In h₀ → News h₀ L s.heap news → TopF mean mg mb h₀ → cs.kind = .function → (∀ p ∈ sub, p ∈ news) →
    (∀ r tl h' tk', Fr h₀ L h' m → News h₀ L h' (tl ++ news) → (∀ p ∈ tl, ∀ q ∈ news, q.1 ≠ p.1) → Ret tl r → Q r { s with heap := h', toks := tk' }) →
    wpAny (model PySem.Challenge.rw_xr0005_01.prog w) (ktrTop lv lv gd cn cs L a ccd cl outer) (call (.ref f) vs) Q E s
noncomputable def zipS : List Arg → List Value → List (PySem.Str × Value)
  | a :: as, v :: vs => (a.arg, v) :: zipS as vs
  | _, _ => []
theorem enterS {w : World} {mean : ExcName → Option Value} {mg mb : PySem.Str → Option Value} {A₀ A : Around} {s : Shared} {base h₀ : Heap} {outer : List Env} {L : Addr} {m : PySem.Str → Option Value} {env : Env} {news sub : Led} {K : Frag}
    {R : Result → Shared → Prop} {name qual : PySem.Str} {params : Arguments} {body : List Stmt} {scope : Scope} {dV kV doc pm cdv ct oc : Value} {an od : Option Addr} {osl : Array (Option Value)} {f : Addr} {vs : List Value}
    (B : Below A₀ base outer h₀) (F : Fr h₀ L s.heap m) (X₀ : K.In h₀) (N : News h₀ L s.heap news) (T : TopF mean mg mb h₀) (hsub : ∀ p ∈ sub, p ∈ news) (hA : A.frames = some (env :: outer)) (hf : env.frame = some L) (hke : env.scope.kind = .function)
    (ho : K.lookup f = some ⟨oc, od, .func (fnOf name qual params body scope dV kV doc pm an cdv ct), osl⟩) (hcd : codeIn K cdv qual = true) (hroom : A.depth < recursionLimit)
    (hbind : BindsTo s (fnOf name qual params body scope dV kV doc pm an cdv ct) ⟨vs, []⟩ (zipS params.args vs)) (hloc : ∀ y ∈ zipS params.args vs, scope.names.lookup y.1 = some .local)
    (h : ∀ g L' h₁, Fr h₀ L g m → Fr g L' h₁ (fun y => (zipS params.args vs).reverse.lookup y) → News g L' h₁ sub → Below A base (env :: outer) g → K.In g → TopF mean mg mb g →
      wpAny (model PySem.Challenge.rw_xr0005_01.prog w) (A.deeper (envOf qual scope L' f cdv)) (execs body (envOf qual scope L' f cdv))
        (fun fl s' => LeaveS h₀ L m g sub news R (match fl with | .ret v => v | _ => .none) s')
        (fun _ _ => False)
        { s with heap := h₁, toks := s.toks + (zipS params.args vs).length })
    (hcell : ∀ x ∈ scope.names, x.2 ≠ .cell) (hco : scope.isCoroutine = false) (hgen : scope.isGenerator = false) (hk : scope.kind = .function) :
    codeAny (model PySem.Challenge.rw_xr0005_01.prog w) A (.call (.ref f) ⟨vs, []⟩) R s := by
  have Ns : News h₀ L s.heap sub := fun p hp => N p (hsub p hp)
  obtain ⟨FG, BG, st, lv⟩ := groundX (R := R) B F Ns hA hf hke
  have X := X₀.keeps F.keep
  refine codeAny_call_def (fd := fnOf name qual params body scope dV kV doc pm an cdv ct) (body := body) (binds := zipS params.args vs) hroom (X _ _ ho) rfl (T.nolimit.keeps F.keep) (codeRec_of X hcd) rfl hbind hcell hloc (fun h₁ hns hk₁ => ?_) hco hgen hk
  refine wpAny_mono (h _ s.heap.objs.size h₁ FG ⟨hns, fun b o e => hk₁ b o (of_hideAll _ e), Nat.le_of_eq (hideAll_size _ _)⟩
    (fun p hp => ⟨hk₁ _ _ (Ns p hp).1, Nat.ne_of_lt (Heap.lt_size (Ns p hp).1), hideAll_none _ (List.mem_map_of_mem hp)⟩) BG (X₀.keeps st) (T.keeps st)) (fun fl s' hl => ?_) fun _ _ y => y.elim
  obtain ⟨L', m', news', tl, F', N', h1, h2, h3, k⟩ := hl
  refine lv _ _ ⟨L', m', news', F', N', fun F'' N'' => ?_⟩
  have all : ∀ p ∈ news, s'.heap.get? p.1 = some p.2 := fun p hp => by
    by_cases q : p.1 ∈ sub.map (·.1)
    · obtain ⟨p', hp', e⟩ := List.mem_map.mp q
      have a1 := (N p hp).1
      have a2 := (Ns p' hp').1
      rw [e] at a2
      have a3 := Option.some.inj (a2.symm.trans a1)
      have a4 : p' = p := Prod.ext e a3
      exact (N' p (h1 p (a4 ▸ hp'))).1
    · exact F'.keep _ _ (hideAll_get _ (N p hp).1 q)
  have apart : ∀ p ∈ tl, ∀ q ∈ news, q.1 ≠ p.1 := fun p hp q hq e => by
    have z := (N' p (h2 p hp)).2.2
    by_cases y : q.1 ∈ sub.map (·.1)
    · obtain ⟨q', hq', e'⟩ := List.mem_map.mp y
      exact h3 p hp q' hq' (e'.trans e)
    · rw [← e, hideAll_get _ (N q hq).1 y] at z; cases z
  refine k F'' (fun p hp => ?_) apart
  rcases List.mem_append.mp hp with hp | hp
  · exact N'' p (h2 p hp)
  · exact ⟨all p hp, (N p hp).2⟩
theorem wpAny_le {α : Type} {M : Model} {A : Around} {t : Sem α} {Q : α → Shared → Prop} {E : Value → Shared → Prop} {s : Shared} {d u : Nat} (h : wpAny M A t Q E s) (hd : d ≤ A.depth) (hu : u ≤ A.units) :
    wpAny M { A with depth := d, units := u } t Q E s := fun Γ p hΓ => h Γ p ⟨hΓ.1, Nat.le_trans hΓ.2.1 hd, hΓ.2.2.1, hΓ.2.2.2.1, Nat.le_trans hΓ.2.2.2.2 hu⟩
theorem TellUse {lv : Nat} {w : World} {f : Addr} {vs : List Value} {sub : Led} {Ret : Led → Value → Prop} (C : Tell lv w f vs sub Ret)
    {mean : ExcName → Option Value} {mg mb : PySem.Str → Option Value} {dp un : Nat} {gd : Option (List Code)} {cn : PySem.Str} {cs : Scope} {a : Addr} {ccd : Value} {cl : List (PySem.Str × Addr)} {outer : List Env} {A₀ : Around} {base h₀ : Heap} {L : Addr}
    {m : PySem.Str → Option Value} {news : Led} {s : Shared} {Q E : Value → Shared → Prop}
    (B : Below A₀ base outer h₀) (F : Fr h₀ L s.heap m) (X : (hd.heap_1 w.params).In h₀) (N : News h₀ L s.heap news) (T : TopF mean mg mb h₀) (hk : cs.kind = .function) (hsub : ∀ p ∈ sub, p ∈ news) (hd : dp ≤ lv) (hu : un ≤ lv)
    (ret : ∀ r tl h' tk', Fr h₀ L h' m → News h₀ L h' (tl ++ news) → (∀ p ∈ tl, ∀ q ∈ news, q.1 ≠ p.1) → Ret tl r → Q r { s with heap := h', toks := tk' }) :
    wpAny (model PySem.Challenge.rw_xr0005_01.prog w) (ktrTop dp un gd cn cs L a ccd cl outer) (call (.ref f) vs) Q E s :=
  wpAny_le (A := ktrTop lv lv gd cn cs L a ccd cl outer) (C mean mg mb gd cn cs a ccd cl outer A₀ base h₀ L m news s Q E B F X N T hk hsub ret) hd hu
/-- a callee that hands back a plain value: no new object is seen -/
theorem TellUse0 {lv : Nat} {w : World} {f : Addr} {vs : List Value} {sub : Led} {Ret : Value → Prop} (C : Tell lv w f vs sub (fun tl v => tl = [] ∧ Ret v))
    {mean : ExcName → Option Value} {mg mb : PySem.Str → Option Value} {dp un : Nat} {gd : Option (List Code)} {cn : PySem.Str} {cs : Scope} {a : Addr} {ccd : Value} {cl : List (PySem.Str × Addr)} {outer : List Env} {A₀ : Around} {base h₀ : Heap} {L : Addr}
    {m : PySem.Str → Option Value} {news : Led} {s : Shared} {Q E : Value → Shared → Prop}
    (B : Below A₀ base outer h₀) (F : Fr h₀ L s.heap m) (X : (hd.heap_1 w.params).In h₀) (N : News h₀ L s.heap news) (T : TopF mean mg mb h₀) (hk : cs.kind = .function) (hsub : ∀ p ∈ sub, p ∈ news) (hd : dp ≤ lv) (hu : un ≤ lv)
    (ret : ∀ r h' tk', Fr h₀ L h' m → News h₀ L h' news → Ret r → Q r { s with heap := h', toks := tk' }) :
    wpAny (model PySem.Challenge.rw_xr0005_01.prog w) (ktrTop dp un gd cn cs L a ccd cl outer) (call (.ref f) vs) Q E s :=
  TellUse C B F X N T hk hsub hd hu fun r tl h' tk' F' N' _ ⟨e, x⟩ => ret r h' tk' F' (by subst e; exact N') x
theorem LeaveS.intro1 {h₀ : Heap} {L : Addr} {m : PySem.Str → Option Value} {g : Heap} {sub news : Led} {R : Result → Shared → Prop} {l : Addr} {o : Obj} {s' : Shared} {L' : Addr} {m' : PySem.Str → Option Value} {news' : Led}
    (F : Fr g L' s'.heap m') (N : News g L' s'.heap news') (h1 : ∀ p ∈ sub, p ∈ news') (h2 : (l, o) ∈ news') (h3 : ∀ q ∈ sub, (@Ne Nat q.1 l))
    (k : Fr h₀ L s'.heap m → News h₀ L s'.heap ([(l, o)] ++ news) → (∀ p ∈ [(l, o)], ∀ q ∈ news, q.1 ≠ p.1) → R (.ok (.ret (.ref l))) s') : LeaveS h₀ L m g sub news R (.ref l) s' :=
  LeaveS.intro [(l, o)] F N h1 (fun p hp => by rw [List.mem_singleton.mp hp]; exact h2) (fun p hp q hq => by rw [List.mem_singleton.mp hp]; exact h3 q hq) k
noncomputable def nthV : List Value → Nat → Option Value
  | [], _ => none
  | v :: _, 0 => some v
  | _ :: r, i + 1 => nthV r i
theorem nthV_get : ∀ (l : List Value) (i : Nat), nthV l i = l[i]?
  | [], _ => rfl
  | _ :: _, 0 => rfl
  | _ :: r, i + 1 => nthV_get r i
theorem item_fast {prog : Program} {w : World} {A : Around} {E : Value → Shared → Prop} {s : Shared} {h₀ : Heap} {L : Addr} {news : Led} {value slice : PySem.Expr} {l : Addr} {its : Array Value} {n : Nat} {k : Int} {u : Tok} {v : Value} {Q : Value → Shared → Prop}
    (N : News h₀ L s.heap news) (hm : (l, listOf its n) ∈ news) (h0 : 0 ≤ k) (hhi : k < 2 ^ 63) (hx : nthV its.toList k.toNat = some v) (h : Q v s)
    (hs : subscripted slice false (.ref l) (.int k u) = operate [.ref l, .int k u] (getItem (.ref l) (.int k u))) :
    wpAny (model prog w) A (subscriptTail value slice (.ref l) (.int k u)) Q E s :=
  tail_any (News.isList N hm).typeIs slot_list_getitem.lookup (wpAny_getItem_list (News.isList N hm) h0 hhi (by rw [← Array.getElem?_toList, ← nthV_get]; exact hx) h) hs
noncomputable def Done (P : Prop) : Prop := P
theorem Done.intro {P : Prop} (h : Done P) : P := h
/-- the end of a loop's turn: the ledger stands as it stood -/
noncomputable def TurnEnd (h₀ : Heap) (L : Addr) (J : (PySem.Str → Option Value) → Prop) (need : Led) (s₁ s₂ : Shared) : Prop :=
  ∃ h' tk m', s₂ = { s₁ with heap := h', toks := tk } ∧ Fr h₀ L h' m' ∧ News h₀ L h' need ∧ J m'
noncomputable def TurnPost (h₀ : Heap) (L : Addr) (J : (PySem.Str → Option Value) → Prop) (need : Led) (s₁ : Shared) (Q : Flow → Shared → Prop) (f : Flow) (s₂ : Shared) : Prop :=
  match f with
  | .ret v => Q (.ret v) s₂
  | .brk => Q .next s₂
  | _ => TurnEnd h₀ L J need s₁ s₂
theorem TurnEnd.intro {h₀ : Heap} {L : Addr} {J : (PySem.Str → Option Value) → Prop} {need news' : Led} {s₁ : Shared} {h' : Heap} {tk : Nat} {m' : PySem.Str → Option Value} (F : Fr h₀ L h' m') (N : News h₀ L h' news') (sub : ∀ p ∈ need, p ∈ news') (hj : J m') :
    TurnEnd h₀ L J need s₁ { s₁ with heap := h', toks := tk } := ⟨h', tk, m', rfl, F, fun p hp => N p (sub p hp), hj⟩
theorem loopW {prog : Program} {w : World} {A : Around} {E : Value → Shared → Prop} {s₂ : Shared} {env : Env} {h₀ : Heap} {x : PySem.Str} {body : List Stmt} {Q : Flow → Shared → Prop}
    {I : Addr} {fp : List Addr} {n : Nat} {P : Nat → Value → Prop} {St : Nat → Heap → Prop} {m₀ : PySem.Str → Option Value} {news : Led} (J : Nat → (PySem.Str → Option Value) → Prop)
    (W : Walks prog w A I fp [I] n P St) (hst : St 0 s₂.heap) (F : Fr h₀ env.locals s₂.heap m₀) (N : News h₀ env.locals s₂.heap news) (hIn : ∀ p ∈ news, p.1 ≠ I) (hI₀ : h₀.get? I = none) (hL : env.locals ∉ fp)
    (hsrc : ∀ b ∈ fp, b = I ∨ (∃ o, (b, o) ∈ news) ∨ ∃ o, h₀.get? b = some o) (hIo : ∀ i h, St i h → ∃ o, h.get? I = some o) (hj : J 0 m₀)
    (turn : ∀ i v m₁ h tk oI, i < n → P i v → J i m₁ → Fr h₀ env.locals h (fun y => if y = x then some v else m₁ y) → News h₀ env.locals h ((I, oI) :: news) →
      wpAny (model prog w) A (execs body env) (TurnPost h₀ env.locals (J (i + 1)) ((I, oI) :: news) { s₂ with heap := h, toks := tk } Q) E { s₂ with heap := h, toks := tk })
    (done : ∀ m₁ h tk, J n m₁ → Fr h₀ env.locals h m₁ → News h₀ env.locals h news → Q .next { s₂ with heap := h, toks := tk }) :
    LoopAtV prog w A h₀ env x body Q E (.ref I) s₂ := by
  let J' : Nat → (PySem.Str → Option Value) → Led → Prop := fun i m₁ news₁ => news₁ = news ∧ J i m₁
  refine ⟨I, fp, [I], n, P, St, m₀, news, J', rfl, W, hL, (fun b hb => by rw [List.mem_singleton.mp hb]; exact hI₀), (fun p hp hm => hIn p hp (List.mem_singleton.mp hm)), hst, F, N, ⟨rfl, hj⟩, ?_, ?_⟩
  · rintro i v m₁ news₁ s₁ own ⟨h, tk, rfl⟩ hi hP ⟨rfl, hJ⟩ hoff hown hget hall hst₁ F₁ N₁
    obtain ⟨oI, heI⟩ := hIo _ _ hst₁
    have hmI : (I, oI) ∈ own := hall I (W.sub I (List.mem_singleton.mpr rfl)) hI₀ oI heI
    have N₂ : News h₀ env.locals h ((I, oI) :: news₁) := fun p hp => by
      rcases List.mem_cons.mp hp with rfl | hp
      · exact N₁ _ (List.mem_append_left _ hmI)
      · exact N₁ _ (List.mem_append_right _ hp)
    refine wpAny_mono (turn i v m₁ h tk oI hi hP hJ F₁ N₂) (fun f s₃ p => ?_) fun _ _ e => e
    have fin : TurnEnd h₀ env.locals (J (i + 1)) ((I, oI) :: news₁) { s₂ with heap := h, toks := tk } s₃ → LoopStepU h₀ env.locals [I] own (J' (i + 1)) { s₂ with heap := h, toks := tk } .next s₃ := by
      rintro ⟨h', tk', m', rfl, F', N', hm⟩
      refine ⟨rfl, h', tk', m', news₁, rfl, F', fun p hp => ?_, fun p hp hm => hIn p hp (List.mem_singleton.mp hm), rfl, hm⟩
      rcases List.mem_append.mp hp with hp | hp
      · have e1 := hget p hp
        rcases hsrc p.1 (hown p hp) with q | ⟨o, q⟩ | ⟨o, q⟩
        · rw [q] at e1
          have e2 : p = (I, oI) := Prod.ext q (Option.some.inj (e1.symm.trans heI))
          rw [e2]; exact N' _ (.head _)
        · have e3 := (N₂ _ (.tail _ q)).1
          have e2 : p = (p.1, o) := Prod.ext rfl (Option.some.inj (e1.symm.trans e3))
          rw [e2]; exact N' _ (.tail _ q)
        · have e3 := (N₁ p (List.mem_append_left _ hp)).2.2
          rw [e3] at q; cases q
      · exact N' _ (.tail _ hp)
    cases f with
    | ret v => exact .ret p
    | brk => exact .brk p
    | next => exact .next (fin p)
    | cont => exact .cont (fin p)
  · rintro h' tk m' news' F' N' _ ⟨rfl, hJ⟩
    exact done m' h' tk hJ F' N'
/-- a for over a list of the ledger -/
theorem iter_led {prog : Program} {w : World} {A : Around} {E : Value → Shared → Prop} {s : Shared} {env : Env} {h₀ : Heap} {x : PySem.Str} {body : List Stmt} {Q : Flow → Shared → Prop}
    {l : Addr} {vs : List Value} {k : Nat} {m₀ : PySem.Str → Option Value} {news : Led} (J : Nat → (PySem.Str → Option Value) → Prop)
    (hh : A.handled = none) (F : Fr h₀ env.locals s.heap m₀) (N : News h₀ env.locals s.heap news) (hm : (l, listOf vs.toArray k) ∈ news) (hj : J 0 m₀)
    (turn : ∀ i v m₁ h tk I oI, (∀ p ∈ news, p.1 < I) → i < vs.length → vs[i]? = some v → J i m₁ → Fr h₀ env.locals h (fun y => if y = x then some v else m₁ y) → News h₀ env.locals h ((I, oI) :: news) →
      wpAny (model prog w) A (execs body env) (TurnPost h₀ env.locals (J (i + 1)) ((I, oI) :: news) { s with heap := h, toks := tk } Q) E { s with heap := h, toks := tk })
    (done : ∀ m₁ h tk, J vs.length m₁ → Fr h₀ env.locals h m₁ → News h₀ env.locals h news → Q .next { s with heap := h, toks := tk }) :
    wpAny (model prog w) A (pyIter (.ref l)) (fun it s₂ => LoopAtV prog w A h₀ env x body Q E it s₂) E s := by
  have z := N _ hm
  have hls : s.heap.IsList l vs.toArray := ⟨_, z.1, rfl, _, rfl⟩
  have hlt : l < s.heap.objs.size := Heap.lt_size z.1
  refine wpAny_pyIter_list hls ?_
  have W := Walks.list (prog := prog) (w := w) hh s.heap.objs.size l (Nat.ne_of_lt hlt) vs.toArray
  rw [List.size_toArray] at W
  refine loopW (s₂ := { s with heap := s.heap.push { cls := .type "list_iterator", data := .fields #[.ref l, .int 0 0] } }) J W ⟨⟨_, Heap.get?_push_size _ rfl, rfl, rfl⟩, hls.at fun o e => Heap.get?_push_of_some _ e⟩ (F.push _) (fun p hp => ⟨Heap.get?_push_of_some _ (N p hp).1, (N p hp).2⟩)
    (fun p hp => Nat.ne_of_lt (Heap.lt_size (N p hp).1)) (next_is_new F) ?_ ?_ (fun i h st => by obtain ⟨o, e, _⟩ := st.1; exact ⟨o, e⟩) hj ?_ ?_
  · intro q
    rcases List.mem_cons.mp q with e | q
    · exact absurd F.ns.lt (e ▸ Nat.lt_irrefl _)
    · exact z.2.1 (List.mem_singleton.mp q).symm
  · intro b hb
    rcases List.mem_cons.mp hb with e | q
    · exact .inl e
    · exact .inr (.inl ⟨_, by rw [List.mem_singleton.mp q]; exact hm⟩)
  · intro i v m₁ h tk oI hi hP hJ F₁ N₁
    exact turn i v m₁ h tk _ oI (fun p hp => Heap.lt_size (N p hp).1) hi (by simpa using hP) hJ F₁ N₁
  · exact done
noncomputable def Short (x : PySem.Str) : Prop := x.length ≤ 200
theorem truthyW {prog : Program} {w : World} {A : Around} {E : Value → Shared → Prop} {s : Shared} {x : PySem.Str} {t : Tok} {Q : Bool → Shared → Prop} (hx : Short x) (h : Q ((x.length : Int) != 0) { s with toks := s.toks + 1 + 1 }) : wpAny (model prog w) A (truthy (.str x t)) Q E s :=
  P.truthy_str (by unfold Short at hx; omega) h
theorem lenW {prog : Program} {w : World} {A : Around} {E : Value → Shared → Prop} {s : Shared} {x : PySem.Str} {t : Tok} {Q : Value → Shared → Prop} (hx : Short x) (h : Q (.int x.length (s.toks + 1)) { s with toks := s.toks + 1 + 1 }) : wpAny (model prog w) A (call (.builtin "len") [.str x t]) Q E s :=
  P.len_str (by unfold Short at hx; omega) h
theorem Short.fits {x : PySem.Str} (h : Short x) : x.length ≤ sizeLine := Nat.le_trans h (by decide)
theorem ne1 {d a : Nat} {o : Obj} : ∀ {l : Led}, AllLt d l → (a, o) ∈ l → (@Ne Nat a d)
  | p :: r, h, m => by
    rcases List.mem_cons.mp m with e | m
    · exact Nat.ne_of_lt (by have := h.1; rw [← e] at this; exact this)
    · exact ne1 h.2 m
theorem ne2 {d a : Nat} {o : Obj} {l : Led} (h : AllLt d l) (m : (a, o) ∈ l) : (@Ne Nat d a) := (ne1 h m).symm
theorem ne3 {d a k : Nat} {o : Obj} {l : Led} (h : AllLt d l) (m : (a, o) ∈ l) : (@Ne Nat a (d + k)) := by
  have q : ∀ {l : Led}, AllLt d l → (a, o) ∈ l → a < d := by
    intro l
    induction l with
    | nil => intro _ m; exact nomatch m
    | cons p r ih =>
      intro h m
      rcases List.mem_cons.mp m with e | m
      · have := h.1; rw [← e] at this; exact this
      · exact ih h.2 m
  exact Nat.ne_of_lt (Nat.lt_of_lt_of_le (q h m) (Nat.le_add_right _ _))
end
section
noncomputable def Toks (T n : Nat) : Prop := T ≤ n
theorem runs_toks {M : Model} {Γ : Ctx} {p : Pos} {t : Sem Fin} {fs : List Frame} {s : Shared} {e : End} {s' : Shared} (h : Runs M Γ p t fs s e s') : s.toks ≤ s'.toks := by
  induction h <;> first | exact Nat.le_refl _ | assumption | omega | (simp only [Shared.setGen] at *; omega)
theorem wakes_toks {M : Model} {Γ : Ctx} {p : Pos} {g : Nat} {r : Resume} {s : Shared} {res : GenResult} {s' : Shared} (h : Wakes M Γ p g r s res s') : s.toks ≤ s'.toks := by
  unfold Wakes at h
  split at h
  · exact h.elim
  · split at h
    · obtain ⟨e₁, s₁, hr, _, _, rfl⟩ := h; have z := runs_toks hr; exact z
    · obtain ⟨_, rfl⟩ := h; exact Nat.le_refl _
    · obtain ⟨_, rfl⟩ := h; exact Nat.le_refl _
  · obtain ⟨e₁, s₁, hr, _, _, rfl⟩ := h; have z := runs_toks hr; exact z
  · obtain ⟨_, rfl⟩ := h; exact Nat.le_refl _
  · obtain ⟨_, rfl⟩ := h; exact Nat.le_refl _
theorem wp_toks {α : Type} {M : Model} {Γ : Ctx} {T : Nat} {m : Sem α} {Q : α → Pos → Shared → Prop} {E : Value → Pos → Shared → Prop} : ∀ {p : Pos} {s : Shared}, T ≤ s.toks →
    Sem.wp M Γ m (fun a p' s' => T ≤ s'.toks → Q a p' s') E p s → Sem.wp M Γ m Q E p s := by
  induction m with
  | «pure» a => intro p s hT h; exact h hT
  | «raise» e => intro p s hT h; exact h
  | unsupported => intro p s hT h; exact h.elim
  | finish => intro p s hT h; exact h.elim
  | rule tag k ih => intro p s hT h; exact ih () hT h
  | «at» p' k ih => intro p s hT h; exact ih () hT h
  | load a part k ih => intro p s hT h; obtain ⟨o, ho, h⟩ := h; exact ⟨o, ho, ih o hT h⟩
  | update a part f k ih => intro p s hT h; exact ⟨h.1, ih () hT h.2⟩
  | loadIfAlive a k ih => intro p s hT h; exact ih _ hT h
  | point l k ih => intro p s hT h; exact ih () hT h
  | register => intro p s hT h; exact h.elim
  | alloc o k ih => intro p s hT h; exact ih _ hT h
  | fresh k ih => intro p s hT h; exact ih _ (Nat.le_succ_of_le hT) h
  | ask k ih => intro p s hT h; exact ih _ hT h
  | choose src n k ih => intro p s hT h; exact ⟨h.1, ih _ hT h.2⟩
  | os q l k ih => intro p s hT h; exact ih _ hT h
  | call c hh g l k ih => intro p s hT h; obtain ⟨r, s', hr, h⟩ := h; exact ⟨r, s', hr, ih r (Nat.le_trans hT (runs_toks hr)) h⟩
  | handled own k ih => intro p s hT h; exact ih _ hT h
  | genState g k ih => intro p s hT h; obtain ⟨st, hs, h⟩ := h; exact ⟨st, hs, ih _ hT h⟩
  | newGen c k ih => intro p s hT h; exact ih _ hT h
  | resume g r l k ih => intro p s hT h; obtain ⟨res, s', hw, h⟩ := h; exact ⟨res, s', hw, ih res (Nat.le_trans hT (wakes_toks hw)) h⟩
  | «yield» => intro p s hT h; exact h.elim
  | stack k ih => intro p s hT h; exact ih _ hT h
  | fork => intro p s hT h; exact h.elim
  | thread k ih => intro p s hT h; exact ih _ hT h
  | await => intro p s hT h; exact h.elim
theorem wpAny_toks {α : Type} {M : Model} {A : Around} {T : Nat} {t : Sem α} {Q : α → Shared → Prop} {E : Value → Shared → Prop} {s : Shared} (hT : T ≤ s.toks) (h : wpAny M A t (fun v s' => T ≤ s'.toks → Q v s') E s) : wpAny M A t Q E s :=
  fun Γ p hΓ => wp_toks hT (h Γ p hΓ)
theorem execsT {M : Model} {A : Around} {T : Nat} {st : Stmt} {rest : List Stmt} {env : Env} {Q : Flow → Shared → Prop} {E : Value → Shared → Prop} {s : Shared} (hT : T ≤ s.toks)
    (h : wpAny M A (exec st env) (fun f s' => T ≤ s'.toks → match f with | .next => wpAny M A (execs rest env) Q E s' | f => Q f s') E s) : wpAny M A (execs (st :: rest) env) Q E s :=
  wpAny_execs_cons (wpAny_toks hT h)
open PySem.Builtin PySem.Builtin.Str in
theorem is_str {M : Model} {A : Around} {E : Value → Shared → Prop} {s : Shared} {y z : PySem.Str} {u v : Tok} {Q : Value → Shared → Prop} (hu : u ≠ 0) (hv : v ≠ 0) (huv : u ≠ v) (hb : NoneBooked s.heap)
    (hq : ∀ b, (b = true → (y == z) = true) → Q (.bool b) s) : wpAny M A (compareOp .Is (.str y u) (.str z v)) Q E s := by
  show wpAny M A (do return .bool (← isSame (.str y u) (.str z v))) Q E s
  refine wpAny_bind ?_
  show wpAny M A (isSame.created (y == z) u v) _ E s
  unfold isSame.created
  refine wpAny_ite ?_
  split
  · rename_i h; simp [hu, hv] at h
  refine wpAny_ite ?_
  split
  · rename_i h; simp [huv] at h
  refine wpAny_ite ?_
  split
  · exact wpAny_pure (wpAny_pure (hq _ (fun h => by cases h)))
  rename_i hyz
  have hyz' : (y == z) = true := by simpa using hyz
  refine wpAny_bind (wpAny_sharingNotTold_none hb ?_)
  first | rw [if_neg Bool.false_ne_true] | simp only [Bool.false_eq_true, if_false]
  refine wpAny_bind (wpAny_sharingNotTold_none hb ?_)
  first | rw [if_neg Bool.false_ne_true] | simp only [Bool.false_eq_true, if_false]
  exact wpAny_bind (wpAny_rule (wpAny_bind (wpAny_askSetting (wpAny_pure (wpAny_pure (hq _ fun _ => hyz'))))))
/-- the code of a for, as what is left to show -/
noncomputable def LoopT (prog : Program) (w : World) (A : Around) (env : Env) (x : PySem.Str) (px : Pos) (body : List Stmt) (Q : Flow → Shared → Prop) (E : Value → Shared → Prop) (it : Value) (s₂ : Shared) : Prop :=
  PassesOwn (model prog w) A env E → codeAny (model prog w) A (.forLoop (.Name x px) it body [] env) (fun r s' => match r with | .ok f => Q f s' | .error e => cameBackBy (model prog w) A env E e s') s₂
theorem For_T {prog : Program} {w : World} {A : Around} {s : Shared} {env : Env} {E : Value → Shared → Prop} {Q : Flow → Shared → Prop} {x : PySem.Str} {px pos : Pos} {iter : PySem.Expr} {body : List Stmt}
    (h : wpAny (model prog w) A (eval iter env) (fun xv s₁ => wpAny (model prog w) A (pyIter xv) (fun it s₂ => LoopT prog w A env x px body Q E it s₂) E s₁) E s)
    (hs : ∀ x, foldedSetIterable iter env x = pure x) (hE : PassesOwn (model prog w) A env E) :
    wpAny (model prog w) A (exec (.For (.Name x px) iter body [] pos) env) Q E s :=
  wpAny_For (wpAny_mono h (fun xv s₁ h₁ => wpAny_mono h₁ (fun it s₂ h₂ => h₂ hE) fun _ _ e => e) fun _ _ e => e) hs
structure WalksK (prog : Program) (w : World) (A : Around) (I : Addr) (fp : List Addr) (n : Nat) (PT : Nat → Tok → Value → Prop) (St : Nat → Heap → Prop) : Prop where
  frame : ∀ i h h', St i h → (∀ b ∈ fp, ∀ o, h.get? b = some o → h'.get? b = some o) → St i h'
  item : ∀ i (s : Shared) (Q : Option Value → Shared → Prop) (E : Value → Shared → Prop), i < n → St i s.heap →
    (∀ v h' tk, PT i s.toks v → St (i + 1) h' → (∀ b o, b ∉ [I] → s.heap.get? b = some o → h'.get? b = some o) → Q (some v) { s with heap := h', toks := tk }) → wpAny (model prog w) A (pyNext (.ref I)) Q E s
  done : ∀ (s : Shared) (Q : Option Value → Shared → Prop) (E : Value → Shared → Prop), St n s.heap →
    (∀ h' tk, (∀ b o, b ∉ [I] → s.heap.get? b = some o → h'.get? b = some o) → Q none { s with heap := h', toks := tk }) → wpAny (model prog w) A (pyNext (.ref I)) Q E s
theorem WalksK.of {prog : Program} {w : World} {A : Around} {I : Addr} {fp : List Addr} {n : Nat} {P : Nat → Value → Prop} {St : Nat → Heap → Prop} (W : Walks prog w A I fp [I] n P St) : WalksK prog w A I fp n (fun i _ v => P i v) St where
  frame := W.frame
  item := W.item
  done := W.done
theorem WalksK.ascii {prog : Program} {w : World} {A : Around} (hh : A.handled = none) (I : Addr) (x : PySem.Str) (t : Tok) :
    WalksK prog w A I [I] x.cps.size (fun i tk v => ∃ c, x.cps[i]? = some c ∧ v = .str ⟨#[c]⟩ tk) (fun i h => h.IsStrIter I "str_ascii_iterator" x t i) where
  frame := (Walks.strAscii (prog := prog) (w := w) hh I x t).frame
  item := fun i s Q E hi st hQ => by
    refine wpAny_pyNext_ascii_item st (c := x.cps[i]) (by simp [hi]) fun h' hit' hs' => ?_
    exact hQ _ h' (s.toks + 1) ⟨_, by simp [hi], rfl⟩ hit' fun b o hb e => hs'.extBut b o (fun h => hb (by simp [h])) e
  done := (Walks.strAscii (prog := prog) (w := w) hh I x t).done
theorem WalksK.wide {prog : Program} {w : World} {A : Around} (hh : A.handled = none) (I : Addr) (x : PySem.Str) (t : Tok) :
    WalksK prog w A I [I] x.cps.size (fun i tk v => ∃ c, x.cps[i]? = some c ∧ v = .str ⟨#[c]⟩ tk) (fun i h => h.IsStrIter I "str_iterator" x t i) where
  frame := (Walks.strWide (prog := prog) (w := w) hh I x t).frame
  item := fun i s Q E hi st hQ => by
    refine wpAny_pyNext_wide_item st (c := x.cps[i]) (by simp [hi]) fun h' hit' hs' => ?_
    exact hQ _ h' (s.toks + 1) ⟨_, by simp [hi], rfl⟩ hit' fun b o hb e => hs'.extBut b o (fun h => hb (by simp [h])) e
  done := (Walks.strWide (prog := prog) (w := w) hh I x t).done
theorem loopT {prog : Program} {w : World} {A : Around} {E : Value → Shared → Prop} {s₂ : Shared} {env : Env} {h₀ : Heap} {x : PySem.Str} {px : Pos} {body : List Stmt} {Q : Flow → Shared → Prop} {T : Nat}
    {I : Addr} {fp : List Addr} {n : Nat} {PT : Nat → Tok → Value → Prop} {St : Nat → Heap → Prop} {m₀ : PySem.Str → Option Value} {news : Led} (J : Nat → (PySem.Str → Option Value) → Prop)
    (W : WalksK prog w A I fp n PT St) (hst : St 0 s₂.heap) (F : Fr h₀ env.locals s₂.heap m₀) (N : News h₀ env.locals s₂.heap news) (hIn : ∀ p ∈ news, p.1 ≠ I) (hI₀ : h₀.get? I = none) (hL : env.locals ∉ fp) (hIf : I ∈ fp)
    (hsrc : ∀ b ∈ fp, b = I ∨ (∃ o, (b, o) ∈ news) ∨ ∃ o, h₀.get? b = some o) (hIo : ∀ i h, St i h → ∃ o, h.get? I = some o) (hj : J 0 m₀) (hT : T ≤ s₂.toks)
    (hx : env.kindOf x = some .local) (hp : (env.scope.kind == .class || (env.scope.kind == .module && env.locals != env.globals)) = false)
    (turn : ∀ i v m₁ h tk tv oI, i < n → T ≤ tv → tv ≤ tk → PT i tv v → J i m₁ → Fr h₀ env.locals h (fun y => if y = x then some v else m₁ y) → News h₀ env.locals h ((I, oI) :: news) →
      wpAny (model prog w) A (execs body env) (TurnPost h₀ env.locals (J (i + 1)) ((I, oI) :: news) { s₂ with heap := h, toks := tk } Q) E { s₂ with heap := h, toks := tk })
    (done : ∀ m₁ h tk, J n m₁ → T ≤ tk → Fr h₀ env.locals h m₁ → News h₀ env.locals h news → Q .next { s₂ with heap := h, toks := tk }) :
    LoopT prog w A env x px body Q E (.ref I) s₂ := by
  intro hE
  have hLI : env.locals ≠ I := fun e => hL (e ▸ hIf)
  refine codeAny_forLoop
    (fun k s' => ∃ h' tk m' i, s' = { s₂ with heap := h', toks := tk } ∧ T ≤ tk ∧ St i h' ∧ Fr h₀ env.locals h' m' ∧ News h₀ env.locals h' news ∧ J i m' ∧ i ≤ n ∧ k = n + 1 - i) ?_ (n + 1)
    ⟨s₂.heap, s₂.toks, m₀, 0, rfl, hT, hst, F, N, hj, Nat.zero_le _, rfl⟩
  rintro k s' ⟨h', tk, m', i, rfl, hT', hst', F', N', hJ, hi, rfl⟩
  have next : ∀ h₁ : Heap, (∀ b o, b ∉ [I] → h'.get? b = some o → h₁.get? b = some o) → Fr h₀ env.locals h₁ m' ∧ News h₀ env.locals h₁ news := fun h₁ hk₁ =>
    ⟨⟨F'.ns.at' fun o e => hk₁ _ o (fun q => hLI (List.mem_singleton.mp q)) e, fun b o e => hk₁ b o (fun q => by rw [List.mem_singleton.mp q, hI₀] at e; cases e) (F'.keep b o e), F'.above⟩,
     fun p hp => ⟨hk₁ _ _ (fun q => hIn p hp (List.mem_singleton.mp q)) (N' p hp).1, (N' p hp).2⟩⟩
  by_cases hlt : i < n
  · refine wpAny_toks (T := tk) (Nat.le_refl _) (W.item i _ _ _ hlt hst' fun v h₁ tk₁ hP hst₁ hk₁ htk₁' => ?_)
    have htk₁ : tk ≤ tk₁ := htk₁'
    obtain ⟨F₁, N₁⟩ := next h₁ hk₁
    refine wpAny_assign_Name (wpAny_storeName_local hx F₁.ns (fun h₂ hn₂ hs₂ => ?_) hp)
    have F₂ := F₁.set hn₂ hs₂
    have hst₂ : St (i + 1) h₂ := W.frame _ _ _ hst₁ fun b hb o e => (hs₂.2 b fun q => hL (q ▸ hb)).trans e
    obtain ⟨oI, heI⟩ := hIo _ _ hst₂
    have N₂ : News h₀ env.locals h₂ ((I, oI) :: news) := fun p hp => by
      rcases List.mem_cons.mp hp with rfl | hp
      · exact ⟨heI, Ne.symm hLI, hI₀⟩
      · exact (N₁.set hs₂) p hp
    have fin : ∀ s₃, TurnEnd h₀ env.locals (J (i + 1)) ((I, oI) :: news) { s₂ with heap := h₂, toks := tk₁ + 1 } s₃ → T ≤ s₃.toks →
        ∃ m, m < n + 1 - i ∧ ∃ h' tk m' i, s₃ = { s₂ with heap := h', toks := tk } ∧ T ≤ tk ∧ St i h' ∧ Fr h₀ env.locals h' m' ∧ News h₀ env.locals h' news ∧ J i m' ∧ i ≤ n ∧ m = n + 1 - i := by
      rintro s₃ ⟨h₃', tk₃, m₂, rfl, F₃, N₃, hJ₃⟩ hT₃
      refine ⟨n + 1 - (i + 1), by omega, h₃', tk₃, m₂, i + 1, rfl, hT₃, ?_, F₃, fun p hp => N₃ p (.tail _ hp), hJ₃, hlt, rfl⟩
      refine W.frame _ _ _ hst₂ fun b hb o e => ?_
      rcases hsrc b hb with q | ⟨o', q⟩ | ⟨o', q⟩
      · subst q
        have e3 := Option.some.inj (e.symm.trans heI)
        rw [e3]; exact (N₃ _ (.head _)).1
      · have e3 := Option.some.inj (e.symm.trans ((N₁.set hs₂) _ q).1)
        rw [e3]; exact (N₃ _ (.tail _ q)).1
      · have e3 := Option.some.inj (e.symm.trans (F₂.keep _ _ q))
        rw [e3]; exact F₃.keep _ _ q
    refine wpAny_toks (T := T) (show T ≤ tk₁ + 1 by omega) (wpAny_mono (wpAny_passesOwn hE (turn i v m' h₂ (tk₁ + 1) tk oI hlt hT' (by omega) hP hJ F₂ N₂)) (fun f s₃ h₃ hT₃ => ?_) fun _ _ e => e)
    cases f with
    | ret v => exact h₃
    | brk => exact h₃
    | cont => exact fin s₃ h₃ hT₃
    | next => exact fin s₃ h₃ hT₃
  · have hin : i = n := by omega
    subst hin
    refine wpAny_toks (T := tk) (Nat.le_refl _) (W.done _ _ _ hst' fun h₁ tk₁ hk₁ htk₁ => wpAny_execs_nil ?_)
    obtain ⟨F₁, N₁⟩ := next h₁ hk₁
    exact done m' h₁ tk₁ hJ (Nat.le_trans hT' htk₁) F₁ N₁
/-- a contract with a premise on the state -/
noncomputable def TellP (lv : Nat) (w : World) (f : Addr) (vs : List Value) (sub : Led) (P : Shared → Prop) (Ret : Led → Value → Prop) : Prop :=
  ∀ (mean : ExcName → Option Value) (mg mb : PySem.Str → Option Value) (gd : Option (List Code)) (cn : PySem.Str) (cs : Scope) (a : Addr) (ccd : Value) (cl : List (PySem.Str × Addr)) (outer : List Env) (A₀ : Around) (base h₀ : Heap) (L : Addr)
    (m : PySem.Str → Option Value) (news : Led) (s : Shared) (Q E : Value → Shared → Prop),
    Below A₀ base outer h₀ → Fr h₀ L s.heap m → (hd.heap_1 w.params).In h₀ → News h₀ L s.heap news → TopF mean mg mb h₀ → cs.kind = .function → (∀ p ∈ sub, p ∈ news) → P s →
    (∀ r tl h' tk', s.toks ≤ tk' → Fr h₀ L h' m → News h₀ L h' (tl ++ news) → (∀ p ∈ tl, ∀ q ∈ news, q.1 ≠ p.1) → Ret tl r → Q r { s with heap := h', toks := tk' }) →
    wpAny (model PySem.Challenge.rw_xr0005_01.prog w) (ktrTop lv lv gd cn cs L a ccd cl outer) (call (.ref f) vs) Q E s
theorem TellP.mk {lv : Nat} {w : World} {f : Addr} {vs : List Value} {sub : Led} {P : Shared → Prop} {Ret : Led → Value → Prop}
    (h : ∀ (mean : ExcName → Option Value) (mg mb : PySem.Str → Option Value) (gd : Option (List Code)) (cn : PySem.Str) (cs : Scope) (a : Addr) (ccd : Value) (cl : List (PySem.Str × Addr)) (outer : List Env) (A₀ : Around) (base h₀ : Heap) (L : Addr)
    (m : PySem.Str → Option Value) (news : Led) (s : Shared) (Q E : Value → Shared → Prop),
    Below A₀ base outer h₀ → Fr h₀ L s.heap m → (hd.heap_1 w.params).In h₀ → News h₀ L s.heap news → TopF mean mg mb h₀ → cs.kind = .function → (∀ p ∈ sub, p ∈ news) → P s →
    (∀ r tl h' tk', Fr h₀ L h' m → News h₀ L h' (tl ++ news) → (∀ p ∈ tl, ∀ q ∈ news, q.1 ≠ p.1) → Ret tl r → Q r { s with heap := h', toks := tk' }) →
    wpAny (model PySem.Challenge.rw_xr0005_01.prog w) (ktrTop lv lv gd cn cs L a ccd cl outer) (call (.ref f) vs) Q E s) : TellP lv w f vs sub P Ret := by
  intro mean mg mb gd cn cs a ccd cl outer A₀ base h₀ L m news s Q E B F X N T hk hsub hP hret
  refine wpAny_toks (T := s.toks) (Nat.le_refl _) (h mean mg mb gd cn cs a ccd cl outer A₀ base h₀ L m news s _ E B F X N T hk hsub hP fun r tl h' tk' F' N' a r' htk => hret r tl h' tk' htk F' N' a r')
theorem TellPUse {lv : Nat} {w : World} {f : Addr} {vs : List Value} {sub : Led} {P : Shared → Prop} {Ret : Led → Value → Prop} (C : TellP lv w f vs sub P Ret)
    {mean : ExcName → Option Value} {mg mb : PySem.Str → Option Value} {dp un : Nat} {gd : Option (List Code)} {cn : PySem.Str} {cs : Scope} {a : Addr} {ccd : Value} {cl : List (PySem.Str × Addr)} {outer : List Env} {A₀ : Around} {base h₀ : Heap} {L : Addr}
    {m : PySem.Str → Option Value} {news : Led} {s : Shared} {Q E : Value → Shared → Prop}
    (B : Below A₀ base outer h₀) (F : Fr h₀ L s.heap m) (X : (hd.heap_1 w.params).In h₀) (N : News h₀ L s.heap news) (T : TopF mean mg mb h₀) (hk : cs.kind = .function) (hsub : ∀ p ∈ sub, p ∈ news) (hd : dp ≤ lv) (hu : un ≤ lv) (hP : P s)
    (ret : ∀ r tl h' tk', s.toks ≤ tk' → Fr h₀ L h' m → News h₀ L h' (tl ++ news) → (∀ p ∈ tl, ∀ q ∈ news, q.1 ≠ p.1) → Ret tl r → Q r { s with heap := h', toks := tk' }) :
    wpAny (model PySem.Challenge.rw_xr0005_01.prog w) (ktrTop dp un gd cn cs L a ccd cl outer) (call (.ref f) vs) Q E s :=
  wpAny_le (A := ktrTop lv lv gd cn cs L a ccd cl outer) (C mean mg mb gd cn cs a ccd cl outer A₀ base h₀ L m news s Q E B F X N T hk hsub hP ret) hd hu
theorem TellPUse0 {lv : Nat} {w : World} {f : Addr} {vs : List Value} {sub : Led} {P : Shared → Prop} {Ret : Value → Prop} (C : TellP lv w f vs sub P (fun tl v => tl = [] ∧ Ret v))
    {mean : ExcName → Option Value} {mg mb : PySem.Str → Option Value} {dp un : Nat} {gd : Option (List Code)} {cn : PySem.Str} {cs : Scope} {a : Addr} {ccd : Value} {cl : List (PySem.Str × Addr)} {outer : List Env} {A₀ : Around} {base h₀ : Heap} {L : Addr}
    {m : PySem.Str → Option Value} {news : Led} {s : Shared} {Q E : Value → Shared → Prop}
    (B : Below A₀ base outer h₀) (F : Fr h₀ L s.heap m) (X : (hd.heap_1 w.params).In h₀) (N : News h₀ L s.heap news) (T : TopF mean mg mb h₀) (hk : cs.kind = .function) (hsub : ∀ p ∈ sub, p ∈ news) (hd : dp ≤ lv) (hu : un ≤ lv) (hP : P s)
    (ret : ∀ r h' tk', Fr h₀ L h' m → News h₀ L h' news → Ret r → Q r { s with heap := h', toks := tk' }) :
    wpAny (model PySem.Challenge.rw_xr0005_01.prog w) (ktrTop dp un gd cn cs L a ccd cl outer) (call (.ref f) vs) Q E s :=
  TellPUse C B F X N T hk hsub hd hu hP fun r tl h' tk' _ F' N' _ ⟨e, x⟩ => ret r h' tk' F' (by subst e; exact N') x
theorem noneBooked_of {w : World} {h : Heap} (X : (hd.heap_1 w.params).In h) {mc : PySem.Str → Option Value} (n : h.Ns cStatics mc) : NoneBooked h := ⟨mc, n, ns_none_of X n (by rfl)⟩
theorem noneBooked {w : World} {h h' : Heap} {mean : ExcName → Option Value} {mg mb : PySem.Str → Option Value} {L : Addr} {m : PySem.Str → Option Value} (X : (hd.heap_1 w.params).In h) (T : TopF mean mg mb h) (F : Fr h L h' m) : NoneBooked h' := by
  obtain ⟨mc, n, _⟩ := (topRead_of T).nolimit
  obtain ⟨mc, n, k⟩ := noneBooked_of X n
  exact ⟨mc, n.keeps F.keep, k⟩
theorem execsK {M : Model} {A : Around} {T n : Nat} {st : Stmt} {rest : List Stmt} {env : Env} {Q : Flow → Shared → Prop} {E : Value → Shared → Prop} {s : Shared} (hT : Toks T n) (hn : n ≤ s.toks)
    (h : wpAny M A (exec st env) (fun f s' => Toks T s'.toks → match f with | .next => wpAny M A (execs rest env) Q E s' | f => Q f s') E s) : wpAny M A (execs (st :: rest) env) Q E s :=
  wpAny_execs_cons (wpAny_toks (Nat.le_trans hT hn) h)
theorem enterSC {w : World} {mean : ExcName → Option Value} {mg mb : PySem.Str → Option Value} {A₀ A : Around} {s : Shared} {base h₀ : Heap} {outer : List Env} {L : Addr} {m : PySem.Str → Option Value} {env : Env} {news sub : Led} {K : Frag}
    {R : Result → Shared → Prop} {name qual : PySem.Str} {params : Arguments} {body : List Stmt} {scope : Scope} {dV kV doc pm cdv ct oc : Value} {an od : Option Addr} {osl : Array (Option Value)} {f : Addr} {vs : List Value} {T₀ : Nat}
    (B : Below A₀ base outer h₀) (F : Fr h₀ L s.heap m) (X₀ : K.In h₀) (N : News h₀ L s.heap news) (T : TopF mean mg mb h₀) (hsub : ∀ p ∈ sub, p ∈ news) (hA : A.frames = some (env :: outer)) (hf : env.frame = some L) (hke : env.scope.kind = .function)
    (ho : K.lookup f = some ⟨oc, od, .func (fnOf name qual params body scope dV kV doc pm an cdv ct), osl⟩) (hcd : codeIn K cdv qual = true) (hroom : A.depth < recursionLimit) (hT : Toks T₀ s.toks)
    (hbind : BindsTo s (fnOf name qual params body scope dV kV doc pm an cdv ct) ⟨vs, []⟩ (zipS params.args vs))
    (hkind : ((zipS params.args vs).all fun y => scope.names.lookup y.1 == some .local || scope.names.lookup y.1 == some .cell) = true)
    (hnd : ((cellsFrom 0 scope.names []).map (·.1)).Nodup)
    (h : ∀ g L' h₁ tk cells, Toks T₀ tk → Fr h₀ L g m → Fr g L' h₁ (bindL (envOfC qual scope L' f cdv).kindOf (zipS params.args vs) fun _ => none) → News g L' h₁ (cells ++ sub) →
      CellsAre (bindC (envOfC qual scope L' f cdv).kindOf (zipS params.args vs) fun _ => none) (cellsFrom (L' + 1) scope.names []) cells → Below A base (env :: outer) g → K.In g → TopF mean mg mb g → (∀ p ∈ sub, p.1 < L') →
      wpAny (model PySem.Challenge.rw_xr0005_01.prog w) (A.deeper (envOfC qual scope L' f cdv)) (execs body (envOfC qual scope L' f cdv))
        (fun fl s' => LeaveS h₀ L m g sub news R (match fl with | .ret v => v | _ => .none) s')
        (fun _ _ => False)
        { s with heap := h₁, toks := tk })
    (hco : scope.isCoroutine = false) (hgen : scope.isGenerator = false) (hk : scope.kind = .function) :
    codeAny (model PySem.Challenge.rw_xr0005_01.prog w) A (.call (.ref f) ⟨vs, []⟩) R s := by
  have Ns : News h₀ L s.heap sub := fun p hp => N p (hsub p hp)
  obtain ⟨FG, BG, st, lv⟩ := groundX (R := R) B F Ns hA hf hke
  have X := X₀.keeps F.keep
  refine codeAny_call_function (fd := fnOf name qual params body scope dV kV doc pm an cdv ct) (body := body) hroom (X _ _ ho) rfl hco hgen rfl (codeRec_of X hcd) (hbind _ _ _ _ ?_)
  refine wpAny_toks (T := T₀) (by exact Nat.le_trans hT (Nat.le_refl _)) (wpAny_newFunctionEnv_cells hk (kindsX hkind _) fun env' he s' x hT' => ?_)
  subst he
  refine ⟨(T.nolimit.keeps F.keep).keeps x.toInCall.keep, codeAny_func ?_⟩
  obtain ⟨h₁, tk, rfl, _⟩ := x.done
  have hk₁ := x.toInCall.keep
  obtain ⟨cells, NC, Y⟩ := Cl.news (h₀ := s.heap) (Nat.le_refl _) fun n c hm => ⟨x.cell n c (lookup_of_mem_nodup (cellsFrom_names scope.names 0 (s.heap.objs.size + 1) [] [] rfl ▸ hnd) hm), x.above n c hm⟩
  refine wpAny_mono (h _ s.heap.objs.size h₁ tk cells hT' FG ⟨x.toInCall.ns, fun b o e => hk₁ b o (of_hideAll _ e), Nat.le_of_eq (hideAll_size _ _)⟩ (fun p hp => ?_) Y BG (X₀.keeps st) (T.keeps st) (fun p hp => Heap.lt_size (Ns p hp).1)) (fun fl s' hl => ?_) fun _ _ y => y.elim
  · rcases List.mem_append.mp hp with hp | hp
    · refine ⟨(NC p hp).1, (NC p hp).2.1, ?_⟩
      cases q : (hideAll s.heap (sub.map (·.1))).get? p.1 with
      | none => rfl
      | some o => have := of_hideAll _ q; rw [(NC p hp).2.2] at this; cases this
    · exact ⟨hk₁ _ _ (Ns p hp).1, Nat.ne_of_lt (Heap.lt_size (Ns p hp).1), hideAll_none _ (List.mem_map_of_mem hp)⟩
  obtain ⟨L', m', news', tl, F', N', h1, h2, h3, k⟩ := hl
  refine lv _ _ ⟨L', m', news', F', N', fun F'' N'' => ?_⟩
  have all : ∀ p ∈ news, s'.heap.get? p.1 = some p.2 := fun p hp => by
    by_cases q : p.1 ∈ sub.map (·.1)
    · obtain ⟨p', hp', e⟩ := List.mem_map.mp q
      have a1 := (N p hp).1
      have a2 := (Ns p' hp').1
      rw [e] at a2
      have a3 := Option.some.inj (a2.symm.trans a1)
      have a4 : p' = p := Prod.ext e a3
      exact (N' p (h1 p (a4 ▸ hp'))).1
    · exact F'.keep _ _ (hideAll_get _ (N p hp).1 q)
  have apart : ∀ p ∈ tl, ∀ q ∈ news, q.1 ≠ p.1 := fun p hp q hq e => by
    have z := (N' p (h2 p hp)).2.2
    by_cases y : q.1 ∈ sub.map (·.1)
    · obtain ⟨q', hq', e'⟩ := List.mem_map.mp y
      exact h3 p hp q' hq' (e'.trans e)
    · rw [← e, hideAll_get _ (N q hq).1 y] at z; cases z
  refine k F'' (fun p hp => ?_) apart
  rcases List.mem_append.mp hp with hp | hp
  · exact N'' p (h2 p hp)
  · exact ⟨all p hp, (N p hp).2⟩
/-- a block's element, told by itself: the ledger stands as it stood -/
noncomputable def EltPost (h₀ : Heap) (L : Addr) (m : PySem.Str → Option Value) (s₁ : Shared) (news : Led) (R : Value → Prop) (y : Value) (s₂ : Shared) : Prop :=
  ∃ h' tk, s₂ = { s₁ with heap := h', toks := tk } ∧ R y ∧ Fr h₀ L h' m ∧ News h₀ L h' news
theorem EltPost.intro {h₀ : Heap} {L : Addr} {m : PySem.Str → Option Value} {s₁ : Shared} {news news' : Led} {R : Value → Prop} {y : Value} {h' : Heap} {tk : Nat} (F : Fr h₀ L h' m) (N : News h₀ L h' news') (sub : ∀ p ∈ news, p ∈ news') (r : R y) :
    EltPost h₀ L m s₁ news R y { s₁ with heap := h', toks := tk } := ⟨h', tk, rfl, r, F, fun p hp => N p (sub p hp)⟩
theorem elt_join {α : Type} {M : Model} {A : Around} {t : Sem Value} {E : Value → Shared → Prop} {s₁ : Shared} {Q : Value → Shared → Prop} {h₀ : Heap} {L : Addr} {m : PySem.Str → Option Value} {news : Led} (R : α → Value → Prop) (_F : Fr h₀ L s₁.heap m) (_N : News h₀ L s₁.heap news) (b : α)
    (h1 : wpAny M A t (EltPost h₀ L m s₁ news (R b)) E s₁) (h2 : ∀ y h' tk, R b y → Fr h₀ L h' m → News h₀ L h' news → Q y { s₁ with heap := h', toks := tk }) : wpAny M A t Q E s₁ :=
  wpAny_mono h1 (fun y s₂ h => by obtain ⟨h', tk, rfl, r, F, N⟩ := h; exact h2 y h' tk r F N) fun _ _ e => e
theorem compEnd_at {h₀ : Heap} {L I C D : Addr} {m : PySem.Str → Option Value} {s₁ : Shared} {oI oC oD : Obj} {S : Led → Prop} {rest : Value → Led → Prop} {y : Value} {h' : Heap} {tk : Nat} {news : Led}
    (F : Fr h₀ L h' m) (N : News h₀ L h' ((I, oI) :: (C, oC) :: (D, oD) :: news)) (off : LCg.Off3 I C D news) (hS : S news) (r : rest y news) :
    LCg.CompEnd h₀ L m s₁ I oI C oC D oD S rest y { s₁ with heap := h', toks := tk } := LCg.CompEnd.intro F N news (fun _ h => h) off hS r
noncomputable def isBool (b : Bool) (v : Value) : Prop := v = .bool b
noncomputable def isInt (b : Int) (v : Value) : Prop := ∃ t, v = .int b t
noncomputable def isStr (b : PySem.Str) (v : Value) : Prop := ∃ t, v = .str b t
theorem elt_joinB {M : Model} {A : Around} {t : Sem Value} {E : Value → Shared → Prop} {s₁ : Shared} {Q : Value → Shared → Prop} {h₀ : Heap} {L : Addr} {m : PySem.Str → Option Value} {news : Led} (F : Fr h₀ L s₁.heap m) (N : News h₀ L s₁.heap news) (b : Bool)
    (h1 : wpAny M A t (EltPost h₀ L m s₁ news (isBool b)) E s₁) (h2 : ∀ h' tk, Fr h₀ L h' m → News h₀ L h' news → Q (.bool b) { s₁ with heap := h', toks := tk }) : wpAny M A t Q E s₁ :=
  elt_join isBool F N b h1 fun y h' tk r => by cases r; exact h2 h' tk
/-- a block's test that is false -/
noncomputable def TestPost (h₀ : Heap) (L : Addr) (m : PySem.Str → Option Value) (s₁ : Shared) (news : Led) (ok : Bool) (s₂ : Shared) : Prop :=
  ok = false ∧ ∃ h' tk, s₂ = { s₁ with heap := h', toks := tk } ∧ Fr h₀ L h' m ∧ News h₀ L h' news
theorem TestPost.intro {h₀ : Heap} {L : Addr} {m : PySem.Str → Option Value} {s₁ : Shared} {news news' : Led} {ok : Bool} {h' : Heap} {tk : Nat} (hk : ok = false) (F : Fr h₀ L h' m) (N : News h₀ L h' news') (sub : ∀ p ∈ news, p ∈ news') :
    TestPost h₀ L m s₁ news ok { s₁ with heap := h', toks := tk } := ⟨hk, h', tk, rfl, F, fun p hp => N p (sub p hp)⟩
theorem restT_none {prog : Program} {w : World} {A : Around} {s : Shared} {h₀ : Heap} {L : Addr} {m : PySem.Str → Option Value} {env : Env} {ct elt : PySem.Expr} {x : PySem.Str} {scope : Scope} {cl : List (PySem.Str × Addr)} {S : Led → Prop} {P : Nat → Value → Prop}
    {Fin : List Value → Led → Prop} {news : Led} (Z : Value → Prop) (hP : ∀ i v, P i v → Z v) (hS : S news) (fin : Fin [] news)
    (h : ∀ v I oI C oC D m₂ hh tk (E' : Value → Shared → Prop), Z v → LCg.NsObj oC m₂ → m₂ x = some v → Fr h₀ L hh m → News h₀ L hh ((I, oI) :: (C, oC) :: (D, LCg.lst []) :: news) → LCg.Off3 I C D news → ((@Ne Nat I C) ∧ (@Ne Nat I D) ∧ (@Ne Nat C D)) →
      wpAny (model prog w) A (isTrue ct (compEnvC scope cl C env) (eval ct (compEnvC scope cl C env))) (TestPost h₀ L m { s with heap := hh, toks := tk } ((I, oI) :: (C, oC) :: (D, LCg.lst []) :: news)) E' { s with heap := hh, toks := tk }) :
    ∀ k i, LCt.CompRestT prog w A h₀ L m env ct elt x scope cl s S P Fin k i [] news
  | 0, _ => LCt.CompRestT.zero fin
  | k + 1, i => by
    refine LCt.CompRestT.succ fun v I oI C oC D m₂ hh tk E' hv hC hx F N off ne => ?_
    refine wpAny_mono (h v I oI C oC D m₂ hh tk E' (hP i v hv) hC hx F N off ne) (fun ok s₂ ht => ?_) fun _ _ e => e
    obtain ⟨rfl, h', tk', rfl, F', N'⟩ := ht
    rw [if_neg Bool.false_ne_true]
    exact compEnd_at F' N' off hS (restT_none Z hP hS fin h k (i + 1))
noncomputable def isB (v : Value) : Prop := ∃ b, v = .bool b
noncomputable def boolV : Value → Bool | .bool _ => true | _ => false
theorem allB {its : Array Value} (h : its.toList.all boolV = true) : ∀ (i : Nat) (v : Value), its[i]? = some v → isB v := by
  intro i v hv
  have hv' : its.toList[i]? = some v := by rw [Array.getElem?_toList]; exact hv
  have hm : v ∈ its.toList := List.mem_of_getElem? hv'
  have hb := List.all_eq_true.mp h v hm
  cases v <;> first | exact ⟨_, rfl⟩ | cases hb
theorem unr_mono {h₀ : Heap} {L : Addr} {s₁ s₂ : Shared} {its : Led} {R R' : (PySem.Str → Option Value) → Led → Prop} {Q : Flow → Shared → Prop} {f : Flow} (k : ∀ m n, R m n → R' m n) (h : UnrPostW h₀ L s₁ its R Q f s₂) : UnrPostW h₀ L s₁ its R' Q f s₂ := by
  have e : UnrEndW h₀ L s₁ its R s₂ → UnrEndW h₀ L s₁ its R' s₂ := fun ⟨h', tk, m', n', a, b, c, d, r⟩ => ⟨h', tk, m', n', a, b, c, d, k _ _ r⟩
  cases f with
  | ret v => exact h
  | brk => exact h
  | cont => exact e h
  | next => exact e h
theorem allObj_mono : ∀ {ws : List (Addr × String)} {k k' : Led → Prop}, (∀ its, k its → k' its) → AllObj ws k → AllObj ws k'
  | [], _, _, f, h => f _ h
  | _ :: _, _, _, f, h => fun o ho => allObj_mono (fun its x => f _ x) (h o ho)
theorem news_in {h₀ h : Heap} {L : Addr} {its n1 n2 : Led} (N : News h₀ L h (its ++ n1)) (sub : ∀ p ∈ n2, p ∈ n1) : News h₀ L h (its ++ n2) := fun p hp => by
  rcases List.mem_append.mp hp with hp | hp
  · exact N p (List.mem_append_left _ hp)
  · exact N p (List.mem_append_right _ (sub p hp))
end
section
/-- a pair out of a list of tuples: the block's test on it is false -/
noncomputable def PairNo (prog : Program) (w : World) (A : Around) (h₀ : Heap) (L : Addr) (m : PySem.Str → Option Value) (env : Env) (c : PySem.Expr) (x x₂ : PySem.Str) (scope : Scope) (cl : List (PySem.Str × Addr)) (s : Shared) (news : Led) (v : Value) : Prop :=
  ∃ (t : Addr) (ot : Obj) (v₁ v₂ : Value) (nt : Nat), v = .ref t ∧ (t, ot) ∈ news ∧ ot.cls = .type "tuple" ∧ ot.data = .seq #[v₁, v₂] nt ∧
    ∀ I oI C oC D m₂ h tk (E' : Value → Shared → Prop), LCg.NsObj oC m₂ → m₂ x = some v₁ → m₂ x₂ = some v₂ → Fr h₀ L h m → News h₀ L h ((I, oI) :: (C, oC) :: (D, LCg.lst []) :: news) →
      wpAny (model prog w) A (isTrue c (compEnvC scope cl C env) (eval c (compEnvC scope cl C env))) (TestPost h₀ L m { s with heap := h, toks := tk } ((I, oI) :: (C, oC) :: (D, LCg.lst []) :: news)) E' { s with heap := h, toks := tk }
noncomputable def PairsNo (prog : Program) (w : World) (A : Around) (h₀ : Heap) (L : Addr) (m : PySem.Str → Option Value) (env : Env) (c : PySem.Expr) (x x₂ : PySem.Str) (scope : Scope) (cl : List (PySem.Str × Addr)) (s : Shared) (news : Led) : List Value → Prop
  | [] => True
  | v :: r => PairNo prog w A h₀ L m env c x x₂ scope cl s news v ∧ PairsNo prog w A h₀ L m env c x x₂ scope cl s news r
section
variable {prog : Program} {w : World} {A : Around} {h₀ : Heap} {L : Addr} {m : PySem.Str → Option Value} {env : Env} {c : PySem.Expr} {x x₂ : PySem.Str} {scope : Scope} {cl : List (PySem.Str × Addr)} {s : Shared} {news : Led}
theorem PairsNo.cons {t : Addr} {v₁ v₂ : Value} {nt : Nat} {r : List Value} (hm : (t, ({ cls := .type "tuple", data := .seq #[v₁, v₂] nt } : Obj)) ∈ news)
    (turn : ∀ I oI C oC D m₂ h tk (E' : Value → Shared → Prop), LCg.NsObj oC m₂ → m₂ x = some v₁ → m₂ x₂ = some v₂ → Fr h₀ L h m → News h₀ L h ((I, oI) :: (C, oC) :: (D, LCg.lst []) :: news) →
      wpAny (model prog w) A (isTrue c (compEnvC scope cl C env) (eval c (compEnvC scope cl C env))) (TestPost h₀ L m { s with heap := h, toks := tk } ((I, oI) :: (C, oC) :: (D, LCg.lst []) :: news)) E' { s with heap := h, toks := tk })
    (rest : PairsNo prog w A h₀ L m env c x x₂ scope cl s news r) : PairsNo prog w A h₀ L m env c x x₂ scope cl s news (.ref t :: r) :=
  ⟨⟨t, _, v₁, v₂, nt, rfl, hm, rfl, rfl, turn⟩, rest⟩
theorem PairsNo.at : ∀ {vs : List Value}, PairsNo prog w A h₀ L m env c x x₂ scope cl s news vs → ∀ v ∈ vs, PairNo prog w A h₀ L m env c x x₂ scope cl s news v
  | [], _, _, h => nomatch h
  | _ :: _, p, v, h => by
    rcases List.mem_cons.mp h with rfl | h
    · exact p.1
    · exact p.2.at v h
/-- what a list of tuples is to show where the block filters it -/
noncomputable def SrcNo (prog : Program) (w : World) (A : Around) (h₀ : Heap) (L : Addr) (m : PySem.Str → Option Value) (env : Env) (c : PySem.Expr) (x x₂ : PySem.Str) (scope : Scope) (cl : List (PySem.Str × Addr)) (Q : Value → Shared → Prop) (xv : Value) (s₁ : Shared) : Prop :=
  ∃ (ax : Addr) (vs : List Value) (n : Nat) (news : Led), xv = .ref ax ∧ A.handled = none ∧ Fr h₀ L s₁.heap m ∧ News h₀ L s₁.heap news ∧ (ax, listOf vs.toArray n) ∈ news ∧ vs.length ≤ sizeLine ∧
    PairsNo prog w A h₀ L m env c x x₂ scope cl s₁ news vs ∧
    ∀ D h tk, Fr h₀ L h m → News h₀ L h ((D, LCg.lst []) :: news) → (∀ p ∈ news, p.1 ≠ D) → Q (.ref D) { s₁ with heap := h, toks := tk }
theorem SrcNo.intro {Q : Value → Shared → Prop} {ax : Addr} {vs : List Value} {n : Nat} (hh : A.handled = none) (F : Fr h₀ L s.heap m) (N : News h₀ L s.heap news) (hm : (ax, listOf vs.toArray n) ∈ news) (hl : vs.length ≤ sizeLine)
    (turns : PairsNo prog w A h₀ L m env c x x₂ scope cl s news vs)
    (fin : ∀ D h tk, Fr h₀ L h m → News h₀ L h ((D, LCg.lst []) :: news) → (∀ p ∈ news, p.1 ≠ D) → Q (.ref D) { s with heap := h, toks := tk }) : SrcNo prog w A h₀ L m env c x x₂ scope cl Q (.ref ax) s :=
  ⟨ax, vs, n, news, rfl, hh, F, N, hm, hl, turns, fin⟩
theorem block_No {elt iter : PySem.Expr} {px px₂ tp : Pos} {tk : Nat} {pos : Pos} {E : Value → Shared → Prop} {s₂ : Shared} {I ax : Addr} {vs : List Value} {n : Nat} {RR : Value → Addr → Result → Shared → Prop}
    (hh : A.handled = none) (hs : ∃ hp, s₂ = { s with heap := hp }) (hcell : ∀ y ∈ scope.names, y.2 ≠ .cell) (hkind : scope.kind = .function) (hx : scope.names.lookup x = some .local) (hx₂ : scope.names.lookup x₂ = some .local) (hxx : x ≠ x₂)
    (hIt : s₂.heap.IsListIter I ax 0) (hax : (ax, listOf vs.toArray n) ∈ news) (hne : ax ≠ I)
    (F : Fr h₀ L s₂.heap m) (N : News h₀ L s₂.heap news) (hIL : L ≠ I) (hI₀ : h₀.get? I = none) (off : ∀ p ∈ news, p.1 ≠ I)
    (R : PairsNo prog w A h₀ L m env c x x₂ scope cl s news vs)
    (hRR : ∀ D C h tk m', Fr h₀ L h m → News h₀ L h ((D, LCg.lst []) :: news) → (∀ p ∈ news, p.1 ≠ D) → h.Ns C m' → h₀.get? C = none → C ≠ L → C ≠ D → (∀ p ∈ news, p.1 ≠ C) → RR (.ref D) C (.ok .next) { s with heap := h, toks := tk }) :
    wpAny (model prog w) A (newList []) (fun acc s₃ => wpAny (model prog w) A (newFunctionEnv scope env.globals cl [] env.qual none .none (some env)) (fun cenv s₄ =>
      codeAny (model prog w) A (.compStart (.ListComp elt [⟨.Tuple [.Name x px, .Name x₂ px₂] tk tp, iter, [c], 0⟩] scope pos) 0 (.ref I) acc { cenv with scope := relabel scope env }) (RR acc cenv.locals) s₄) E s₃) E s₂ := by
  obtain ⟨hp₀, rfl⟩ := hs
  have W := Walks.list (prog := prog) (w := w) hh I ax hne vs.toArray
  refine wpAny_newObj_type (wpAny_newFunctionEnv hcell (by intro y hy; simp at hy) (fun h₁ hns₁ hsb₁ => ?_) hkind)
  dsimp only at hns₁ hsb₁ F N hIt ⊢
  generalize hH2 : hp₀.push { cls := .type "list", dict := none, data := .seq ([] : List Value).toArray } = H2 at hns₁ hsb₁ ⊢
  have hC : H2.objs.size = hp₀.objs.size + 1 := by rw [← hH2, Heap.size_push]
  have hIlt : I < hp₀.objs.size := by obtain ⟨o, e, _⟩ := hIt; exact Heap.lt_size e
  have below : ∀ b, b < hp₀.objs.size → b ≠ H2.objs.size ∧ b ≠ hp₀.objs.size := fun b hb => ⟨by rw [hC]; exact Nat.ne_of_lt (Nat.lt_succ_of_lt hb), Nat.ne_of_lt hb⟩
  have hDC : hp₀.objs.size ≠ H2.objs.size := by rw [hC]; exact Nat.ne_of_lt (Nat.lt_succ_self _)
  have old : ∀ b o, hp₀.get? b = some o → h₁.get? b = some o := fun b o e => hsb₁.extBut b o (below b (Heap.lt_size e)).1 (Heap.get?_push_of_some _ (hH2 ▸ Heap.get?_push_of_some _ e))
  have hacc : h₁.get? hp₀.objs.size = some (LCg.lst []) := hsb₁.extBut _ _ hDC (Heap.get?_push_of_some _ (hH2 ▸ Heap.get?_push_size _ rfl))
  have fresh₀ : ∀ a, hp₀.objs.size ≤ a → h₀.get? a = none := fun a ha => by
    cases e : h₀.get? a with
    | none => rfl
    | some o' => exact absurd (Heap.lt_size (F.keep a o' e)) (Nat.not_lt.mpr ha)
  have hD₀ : h₀.get? hp₀.objs.size = none := fresh₀ _ (Nat.le_refl _)
  have hC₀ : h₀.get? H2.objs.size = none := fresh₀ _ (by rw [hC]; exact Nat.le_succ _)
  have hLlt : L < hp₀.objs.size := F.ns.lt
  have hDL : hp₀.objs.size ≠ L := Ne.symm (below L hLlt).2
  have hCL : H2.objs.size ≠ L := Ne.symm (below L hLlt).1
  have hCI : I ≠ H2.objs.size := (below I hIlt).1
  have hDI : I ≠ hp₀.objs.size := (below I hIlt).2
  have offD : ∀ p ∈ news, p.1 ≠ hp₀.objs.size := fun p hp => (below _ (Heap.lt_size (N p hp).1)).2
  have offC : ∀ p ∈ news, p.1 ≠ H2.objs.size := fun p hp => (below _ (Heap.lt_size (N p hp).1)).1
  have hl : hp₀.IsList ax vs.toArray := ⟨_, (N _ hax).1, rfl, _, rfl⟩
  have loop : ∀ s₃ : Shared, s₃ = { s with heap := h₁, toks := s.toks + ([] : List (PySem.Str × Value)).length } →
      codeAny (model prog w) A (.compLoop (.ListComp elt [⟨.Tuple [.Name x px, .Name x₂ px₂] tk tp, iter, [c], 0⟩] scope pos) 0 (.ref I) (.ref hp₀.objs.size) (compEnvC scope cl H2.objs.size env))
        (RR (.ref hp₀.objs.size) H2.objs.size) s₃ := by
    rintro s₃ rfl
    refine kct_loop (fun k s' => ∃ h' tk i m', s' = { s with heap := h', toks := tk } ∧ i ≤ vs.length ∧ k = vs.length + 1 - i ∧ h'.IsListIter I ax i ∧ Fr h₀ L h' m ∧ h'.Ns H2.objs.size m' ∧ News h₀ L h' ((hp₀.objs.size, LCg.lst []) :: news)) ?_ (vs.length + 1)
      ⟨h₁, _, 0, _, rfl, Nat.zero_le _, rfl, hIt.at fun o e => old _ _ e, F.keeps old, hns₁, fun p hp => ?_⟩
    · rintro k s' ⟨h', tk, i, m', rfl, hi, rfl, hit', F', hn', N'⟩
      have hl' : h'.IsList ax vs.toArray := ⟨_, (N' _ (List.mem_cons_of_mem _ hax)).1, rfl, _, rfl⟩
      by_cases hlt : i < vs.length
      · refine W.item i _ _ _ (by simpa using hlt) ⟨hit', hl'⟩ fun v h₂ tk₂ hPv hst₂ hk₂ => ?_
        have hv : v ∈ vs := List.mem_of_getElem? (by simpa using hPv)
        obtain ⟨t, ot, v₁, v₂, nt, rfl, hmt, hct, hdt, R''⟩ := R.at v hv
        have N₂ : News h₀ L h₂ ((hp₀.objs.size, LCg.lst []) :: news) := LCg.news_but N' hk₂ fun p hp => by
          rcases List.mem_cons.mp hp with rfl | hp
          · exact Ne.symm hDI
          · exact off p hp
        have ht : IsTup h₂ t #[v₁, v₂] := ⟨ot, (N₂ _ (List.mem_cons_of_mem _ hmt)).1, hct, nt, hdt⟩
        refine wpAny_letOwnedTupleGo_listiter hst₂.1 ?_
        refine assign_Tuple_tuple hh ht rfl rfl fun h₅ he => ?_
        have he' : ∀ b o, h₂.get? b = some o → h₅.get? b = some o := fun b o e => he b o (Nat.ne_of_lt (Heap.lt_size e)) e
        refine assignInOrder_cons (wpAny_assign_Name (wpAny_storeName_local (lookup_relabel_local hx) ((hn'.at' fun o e => hk₂ _ o (by simpa using Ne.symm hCI) e).at' fun o e => he' _ o e) (fun h₆ hn₆ hs₆ => ?_) (by simp [compEnvC, relabel, hkind])))
        refine assignInOrder_cons (wpAny_assign_Name (wpAny_storeName_local (lookup_relabel_local hx₂) hn₆ (fun h₃ hn₃ hs₃ => ?_) (by simp [compEnvC, relabel, hkind])))
        refine assignInOrder_nil ?_
        have old3 : ∀ b o, b ≠ H2.objs.size → h₂.get? b = some o → h₃.get? b = some o := fun b o hb e => hs₃.extBut b o hb (hs₆.extBut b o hb (he' b o e))
        have hit₃ : h₃.IsListIter I ax (i + 1) := hst₂.1.at fun o e => old3 _ _ hCI e
        obtain ⟨oI, heI, hoI⟩ : ∃ oI : Obj, h₃.get? I = some oI ∧ ∀ h : Heap, h.get? I = some oI → h.IsListIter I ax (i + 1) := by
          obtain ⟨o, e, r⟩ := hit₃
          exact ⟨o, e, fun h e' => ⟨o, e', r⟩⟩
        obtain ⟨oC, heC, hoC⟩ := LCg.ns_obj hn₃
        have F₃ : Fr h₀ L h₃ m := (((LCg.fr_but F' hk₂ hIL hI₀).keeps he').change hs₆ hCL hC₀).change hs₃ hCL hC₀
        have N₃ : News h₀ L h₃ ((I, oI) :: (H2.objs.size, oC) :: (hp₀.objs.size, LCg.lst []) :: news) := fun p hp => by
          rcases List.mem_cons.mp hp with rfl | hp
          · exact ⟨heI, Ne.symm hIL, hI₀⟩
          · rcases List.mem_cons.mp hp with rfl | hp
            · exact ⟨heC, hCL, hC₀⟩
            · have z := N₂ p hp
              refine ⟨old3 _ _ ?_ z.1, z.2⟩
              rcases List.mem_cons.mp hp with rfl | hp
              · exact hDC
              · exact offC p hp
        refine wpAny_mono (R'' I oI H2.objs.size oC hp₀.objs.size _ h₃ _ _ hoC (by simp [hxx]) (by simp) F₃ N₃) (fun ok s₅ h₅ => ?_) fun _ _ e => e
        obtain ⟨rfl, h₅, tk₅, rfl, F₅, N₅⟩ := h₅
        simp only [Bool.false_eq_true, if_false]
        exact ⟨vs.length + 1 - (i + 1), by omega, h₅, tk₅, i + 1, _, rfl, hlt, rfl, hoI h₅ (N₅ _ List.mem_cons_self).1, F₅, hoC.ns (N₅ _ (List.mem_cons_of_mem _ List.mem_cons_self)).1, fun p hp => N₅ p (List.mem_cons_of_mem _ (List.mem_cons_of_mem _ hp))⟩
      · obtain rfl : i = vs.length := Nat.le_antisymm hi (Nat.not_lt.mp hlt)
        refine W.done _ _ _ ⟨by simpa using hit', hl'⟩ fun h₂ tk₂ hk₂ => ?_
        exact hRR _ _ h₂ tk₂ _ (LCg.fr_but F' hk₂ hIL hI₀) (LCg.news_but N' hk₂ fun p hp => by
          rcases List.mem_cons.mp hp with rfl | hp
          · exact Ne.symm hDI
          · exact off p hp) offD (hn'.at' fun o e => hk₂ _ o (by simpa using Ne.symm hCI) e) hC₀ hCL (Ne.symm hDC) offC
    · rcases List.mem_cons.mp hp with rfl | hp
      · exact ⟨hacc, hDL, hD₀⟩
      · exact ⟨old _ _ (N p hp).1, (N p hp).2⟩
  exact codeAny_compStart_list (loop _ rfl) (W.self 0 _ _ _ ⟨hIt.at fun o e => old _ _ e, hl.at fun o e => old _ _ e⟩ (loop _ rfl))
theorem ListComp_No {elt iter : PySem.Expr} {px px₂ tp : Pos} {tk : Nat} {pos : Pos} {E : Value → Shared → Prop} {Q : Value → Shared → Prop} (_F₀ : Fr h₀ L s.heap m)
    (hclos : closureFor scope env = pure cl) (hcell : ∀ y ∈ scope.names, y.2 ≠ .cell) (hkind : scope.kind = .function)
    (hnames : ∀ y ∈ scope.names, y.2 = .local → scope.names.lookup y.1 = some .local) (hx : scope.names.lookup x = some .local) (hx₂ : scope.names.lookup x₂ = some .local) (hxx : x ≠ x₂)
    (h : wpAny (model prog w) A (eval iter env) (SrcNo prog w A h₀ L m env c x x₂ scope cl Q) E s)
    (hs : ∀ x, foldedSetIterable iter env x = pure x) :
    wpAny (model prog w) A (eval (.ListComp elt [⟨.Tuple [.Name x px, .Name x₂ px₂] tk tp, iter, [c], 0⟩] scope pos) env) Q E s := by
  rw [eval_ListComp]
  refine wpAny_comprehension_free (use := none) rfl hs hclos hkind hnames (wpAny_mono h (fun xv s₁ h₁ => ?_) fun _ _ e => e)
  obtain ⟨ax, vs, n, news, rfl, hh, F, N, hm, hl, R, fin⟩ := h₁
  have hls : s₁.heap.IsList ax vs.toArray := ⟨_, (N _ hm).1, rfl, _, rfl⟩
  have hlt : ax < s₁.heap.objs.size := Heap.lt_size (N _ hm).1
  refine wpAny_pyIter_list hls ?_
  have up : ∀ b o, s₁.heap.get? b = some o → (s₁.heap.push { cls := .type "list_iterator", data := .fields #[.ref ax, .int 0 0] }).get? b = some o := fun b o e => Heap.get?_push_of_some _ e
  refine block_No (s := s₁) hh ⟨_, rfl⟩ hcell hkind hx hx₂ hxx ⟨_, Heap.get?_push_size _ rfl, rfl, rfl⟩ hm (Nat.ne_of_lt hlt) (F.keeps up) (N.grown up) (Nat.ne_of_lt F.ns.lt) (next_is_new F) (fun p hp => Nat.ne_of_lt (Heap.lt_size (N p hp).1)) R ?_
  intro D C h tk m' F' N' offD hn hC₀ hCL hCD offC
  refine ⟨m', hn, fun h'' hs'' => fin D h'' tk (F'.change hs'' hCL hC₀) (fun p hp => ?_) offD⟩
  refine ⟨hs''.extBut _ _ ?_ (N' p hp).1, (N' p hp).2⟩
  rcases List.mem_cons.mp hp with rfl | hp
  · exact Ne.symm hCD
  · exact offC p hp
end
end
section
section
variable {M : Model} {A : Around} {R : GenEnd} {Y : Protocol} {n : Nat} {s₀ : Shared} {c : Code} {fs : List Frame} {s : Shared} {env : Env}
  {K : Flow → Sem Fin} {H : Value → Sem Fin} {gd : Bool → Bool} {lv : List Value → List Value}
/-- what the frame of a code run for a statement goes on with -/
noncomputable abbrev ownK (env : Env) (K : Flow → Sem Fin) (H : Value → Sem Fin) (gd : Bool → Bool) (lv : List Value → List Value) (r : Result) : Sem Fin :=
  ((match r with | .ok f => (.pure f : Sem Flow) | .error e => .raise e).onRaise fun (x : Value) => do
    if (← field x 1) == Value.none then unsupported "frame.own-activation:exception-without-traceback"
    setFlight x env.frame).wrap K H gd lv
theorem seg_For {target iter : PySem.Expr} {body orelse : List Stmt} {pos : Pos}
    (h : wpAny M (A.over c fs) (eval iter env) (fun x s₁ => wpAny M (A.over c fs) (pyIter x) (fun it s₂ => ∀ p, Seg M A R Y n s₀ (.forLoop target it body orelse env) (M.den (.forLoop target it body orelse env)) (.ret (ownK env K H gd lv) none (gd false) (lv []) c p [] :: fs) s₂)
      (fun x s' => Seg M A R Y n s₀ c (H x) fs s') s₁) (fun x s' => Seg M A R Y n s₀ c (H x) fs s') s)
    (hs : ∀ x, foldedSetIterable iter env x = pure x) :
    Seg M A R Y n s₀ c ((exec (.For target iter body orelse pos) env).wrap K H gd lv) fs s := by
  rw [exec_For]
  show Seg M A R Y n s₀ c (.at pos fun _ => ((eval iter env >>= fun x => foldedSetIterable iter env x >>= fun x => standAt iter.pos >>= fun _ => holding [x] (pyIter x) >>= fun it => runOwn (.forLoop target it body orelse env) env).wrap K H gd lv)) fs s
  refine seg_at ?_
  rw [Sem.bind_eq_wrap', Sem.wrap_wrap]
  refine seg_wrap (wpAny_mono h (fun x s₁ h₁ => ?_) fun _ _ e => e)
  rw [hs x]
  show Seg M A R Y n s₀ c (.at iter.pos fun _ => ((holding [x] (pyIter x) >>= fun it => runOwn (.forLoop target it body orelse env) env).wrap K H gd lv)) fs s₁
  refine seg_at ?_
  rw [Sem.bind_eq_wrap', Sem.wrap_wrap]
  refine seg_wrap (wpAny_holding (wpAny_mono h₁ (fun it s₂ h₂ => ?_) fun _ _ e => e))
  exact seg_call h₂
theorem seg_If {test : PySem.Expr} {body orelse : List Stmt} {pos : Pos}
    (h : wpAny M (A.over c fs) (isTrue test env (eval test env)) (fun b s' => Seg M A R Y n s₀ c ((if b = true then execs body env else execs orelse env).wrap K H gd lv) fs s') (fun x s' => Seg M A R Y n s₀ c (H x) fs s') s) :
    Seg M A R Y n s₀ c ((exec (.If test body orelse pos) env).wrap K H gd lv) fs s := by
  show Seg M A R Y n s₀ c (.at pos fun _ => ((isTrue test env (eval test env) >>= fun b => if b = true then execs body env else execs orelse env).wrap K H gd lv)) fs s
  refine seg_at ?_
  rw [Sem.bind_eq_wrap', Sem.wrap_wrap]
  exact seg_wrap h
/-- a statement without a yield -/
theorem seg_leafStmt {st : Stmt} {rest : List Stmt}
    (h : wpAny M (A.over c fs) (exec st env) (fun f s' => Seg M A R Y n s₀ c (match f with | .next => (execs rest env).wrap K H gd lv | f => K f) fs s') (fun x s' => Seg M A R Y n s₀ c (H x) fs s') s) :
    Seg M A R Y n s₀ c ((execs (st :: rest) env).wrap K H gd lv) fs s := seg_execs_cons (seg_wrap h)
end
section
variable {prog : Program} {w : World} {A : Around} {R : GenEnd} {Y : Protocol} {n : Nat} {s₀ : Shared} {fs : List Frame} {s : Shared} {env : Env}
noncomputable abbrev noteH (env : Env) (e : Value) : Sem Fin := (do noteFrame e env; theTreesLotGoes e : Sem Unit).wrap (fun _ => .raise e) .raise id id
noncomputable abbrev turnK (c : Code) (f : Flow) : Sem Fin := match f with
  | .next | .cont => .pure (.again c)
  | .brk => .pure (.done .next)
  | .ret v => .pure (.done (.ret v))
theorem seg_forLoop {target : PySem.Expr} {it : Value} {body orelse : List Stmt}
    (h : wpAny (model prog w) (A.over (.forLoop target it body orelse env) fs) (pyNext it) (fun r s₁ => match r with
        | none => Seg (model prog w) A R Y n s₀ (.block orelse env) ((model prog w).den (.block orelse env)) fs s₁
        | some v => wpAny (model prog w) (A.over (.forLoop target it body orelse env) fs) (assign target env v) (fun _ s₂ =>
            Seg (model prog w) A R Y n s₀ (.forLoop target it body orelse env) ((execs body env).wrap (turnK (.forLoop target it body orelse env)) (noteH env) id id) fs s₂) (fun _ _ => False) s₁)
      (fun _ _ => False) s)
    (hq : (Code.block orelse env).quiet = true) (ht : ∀ v, letOwnedTupleGo target it v = pure ()) :
    Seg (model prog w) A R Y n s₀ (.forLoop target it body orelse env) ((model prog w).den (.forLoop target it body orelse env)) fs s := by
  show Seg _ A R Y n s₀ _ ((forTurn target it body orelse env).onRaise (fun x => do noteFrame x env; theTreesLotGoes x)) fs s
  unfold forTurn
  rw [Sem.onRaise_eq_wrap]
  show Seg _ A R Y n s₀ _ (.at target.pos fun _ => (((pyNext it).onRaise (fun _ => standAt { target.pos with line := 0 }) >>= fun r => match r with
    | none => again (.block orelse env)
    | some v => do
      letOwnedTupleGo target it v
      assign target env v
      match ← execs body env with
      | .next | .cont => again (.forLoop target it body orelse env)
      | .brk => pure (.done .next)
      | .ret v => pure (.done (.ret v))) : Sem Fin).wrap .pure (fun e => ((do noteFrame e env; theTreesLotGoes e : Sem Unit).bind fun _ => .raise e)) id id) fs s
  refine seg_at ?_
  rw [Sem.bind_eq_wrap', Sem.wrap_wrap]
  refine seg_wrap (wpAny_onRaise (wpAny_mono h (fun r s₁ h₁ => ?_) fun _ _ e => e.elim))
  cases r with
  | none => exact seg_again hq h₁
  | some v =>
    show Seg _ A R Y n s₀ _ (Sem.wrap _ _ _ _ (letOwnedTupleGo target it v >>= fun _ => _)) fs s₁
    rw [ht v]
    show Seg _ A R Y n s₀ _ (Sem.wrap _ _ _ _ (assign target env v >>= fun _ => _)) fs s₁
    rw [Sem.bind_eq_wrap', Sem.wrap_wrap]
    refine seg_wrap (wpAny_mono h₁ (fun _ s₂ h₂ => ?_) fun _ _ e => e.elim)
    rw [Sem.bind_eq_wrap', Sem.wrap_wrap]
    rw [Sem.wrap_congr (execs body env) _ _ (K' := turnK (.forLoop target it body orelse env)) (H' := noteH env) (fun f => by cases f <;> rfl)
      (fun e => by show ((do noteFrame e env; theTreesLotGoes e : Sem Unit).bind fun _ => .raise e) = _; rw [Sem.bind_eq_wrap])]
    exact h₂
theorem seg_block_nil (hR : Seg (model prog w) A R Y n s₀ (.block [] env) (.pure (.done .next)) fs s) :
    Seg (model prog w) A R Y n s₀ (.block [] env) ((model prog w).den (.block [] env)) fs s := hR
end
end
section
/-- the generator's own frame -/
noncomputable def mG (ax : Addr) (last : Value) (iv : Option Value) : PySem.Str → Option Value := fun y => if y = "interval" then iv else if y = "last_interval" then some last else if y = "grouping" then some (.ref ax) else none
theorem mG_iv {ax : Addr} {last v : Value} {iv : Option Value} : (fun y : PySem.Str => if y = "interval" then some v else mG ax last iv y) = mG ax last (some v) := by
  funext y
  unfold mG
  by_cases h : y = "interval"
  · rw [if_pos h, if_pos h]
  · rw [if_neg h, if_neg h, if_neg h]
theorem mG_last {ax : Addr} {last v : Value} {iv : Option Value} : (fun y : PySem.Str => if y = "last_interval" then some v else mG ax last iv y) = mG ax v iv := by
  funext y
  unfold mG
  by_cases h : y = "last_interval"
  · subst h; rfl
  · rw [if_neg h, if_neg h, if_neg h]
/-- only the generator's own two objects are written -/
noncomputable def Sn (L' It : Addr) (s₀ s₁ : Shared) : Prop := ∃ h tk, s₁ = { s₀ with heap := h, toks := tk } ∧ ∀ b o, b ≠ L' → b ≠ It → s₀.heap.get? b = some o → h.get? b = some o
theorem Sn.refl {L' It : Addr} {s : Shared} : Sn L' It s s := ⟨s.heap, s.toks, rfl, fun _ _ _ _ e => e⟩
theorem Sn.trans {L' It : Addr} {a b c : Shared} (x : Sn L' It a b) (y : Sn L' It b c) : Sn L' It a c := by
  obtain ⟨h, tk, rfl, k⟩ := x
  obtain ⟨h', tk', rfl, k'⟩ := y
  exact ⟨h', tk', rfl, fun b o h1 h2 e => k' b o h1 h2 (k b o h1 h2 e)⟩
theorem Sn.heap {L' It : Addr} {s : Shared} {h : Heap} {tk : Nat} (k : ∀ b o, b ≠ L' → b ≠ It → s.heap.get? b = some o → h.get? b = some o) : Sn L' It s { s with heap := h, toks := tk } := ⟨h, tk, rfl, k⟩
noncomputable def GenY (h₀ : Heap) (L' It ax : Addr) (Out : Nat → Value → Prop) : Protocol := fun j s₀ v s₁ kap =>
  Out j v ∧ Sn L' It s₀ s₁ ∧ (∃ oL, s₁.heap.get? L' = some oL) ∧ (∃ oI, s₁.heap.get? It = some oI) ∧
    (j ≠ 0 → ∀ s'', (∀ b o, (b = L' ∨ b = It ∨ b = ax) → s₁.heap.get? b = some o → s''.heap.get? b = some o) → (∀ b o, h₀.get? b = some o → s''.heap.get? b = some o) → kap (.send .none) s'')
noncomputable def GenR (L' It : Addr) (Stop : Nat → Prop) : GenEnd := fun n s₀ r s₁ => r = .ok (.ret .none) ∧ Stop n ∧ Sn L' It s₀ s₁
noncomputable def ToldG (Out : Nat → Value → Prop) (Stop : Nat → Prop) : Nat → Value → List (Int × Tok) → Prop
  | n, _, [] => Stop n
  | n, last, (x, t) :: r => if x = 127 then Stop n else if x = 0 then last ≠ .none ∧ n ≠ 0 ∧ ∀ j, j < n → Out j last else
    match n with | 0 => False | m + 1 => Out m (.int x t) ∧ (m ≠ 0 → ToldG Out Stop m (.int x t) r)
noncomputable def intV (p : Int × Tok) : Value := .int p.1 p.2
section
variable {w : World} {A₁ : Around} {h₀ : Heap} {L' It ax : Addr} {Out : Nat → Value → Prop} {Stop : Nat → Prop} {env : Env} {vs : List (Int × Tok)}
  {test1 test2 test3 testW eW eY : PySem.Expr} {st1 st3 st5 : Stmt} {pw pwx pwy p2 py1 py2 px : Pos}
noncomputable abbrev GProg := PySem.Challenge.rw_xr0005_01.prog
/-- what the leaves of the generator's body do -/
structure Leaves (w : World) (h₀ : Heap) (L' ax : Addr) (env : Env) (st1 : Stmt) (test2 : PySem.Expr) (st3 : Stmt) (testW eW eY : PySem.Expr) (st5 : Stmt) : Prop where
  one_go : ∀ (A : Around) (s : Shared) (E : Value → Shared → Prop) (Q : Flow → Shared → Prop) last x t, Fr h₀ L' s.heap (mG ax last (some (.int x t))) → x ≠ 127 → (∀ tk, Q .next { s with toks := tk }) → wpAny (model GProg w) A (exec st1 env) Q E s
  one_end : ∀ (A : Around) (s : Shared) (E : Value → Shared → Prop) (Q : Flow → Shared → Prop) last x t, Fr h₀ L' s.heap (mG ax last (some (.int x t))) → x = 127 → (∀ tk, Q (.ret .none) { s with toks := tk }) → wpAny (model GProg w) A (exec st1 env) Q E s
  two : ∀ (A : Around) (s : Shared) (E : Value → Shared → Prop) (Q : Bool → Shared → Prop) last x t, Fr h₀ L' s.heap (mG ax last (some (.int x t))) → (∀ tk, Q (decide (x = 0)) { s with toks := tk }) → wpAny (model GProg w) A (isTrue test2 env (eval test2 env)) Q E s
  three : ∀ (A : Around) (s : Shared) (E : Value → Shared → Prop) (Q : Flow → Shared → Prop) y u x t, Fr h₀ L' s.heap (mG ax (.int y u) (some (.int x t))) → (∀ tk, Q .next { s with toks := tk }) → wpAny (model GProg w) A (exec st3 env) Q E s
  wh : ∀ (A : Around) (s : Shared) (E : Value → Shared → Prop) (Q : Bool → Shared → Prop), (∀ tk, Q true { s with toks := tk }) → wpAny (model GProg w) A (isTrue testW env (eval testW env)) Q E s
  we : ∀ (A : Around) (s : Shared) (E : Value → Shared → Prop) (Q : Value → Shared → Prop) last iv, Fr h₀ L' s.heap (mG ax last iv) → (∀ tk, Q last { s with toks := tk }) → wpAny (model GProg w) A (eval eW env) Q E s
  ye : ∀ (A : Around) (s : Shared) (E : Value → Shared → Prop) (Q : Value → Shared → Prop) last x t, Fr h₀ L' s.heap (mG ax last (some (.int x t))) → (∀ tk, Q (.int x t) { s with toks := tk }) → wpAny (model GProg w) A (eval eY env) Q E s
  five : ∀ (A : Around) (s : Shared) (E : Value → Shared → Prop) (Q : Flow → Shared → Prop) last x t, Fr h₀ L' s.heap (mG ax last (some (.int x t))) →
    (∀ h' tk, Fr h₀ L' h' (mG ax (.int x t) (some (.int x t))) → Heap.SameBut L' s.heap h' → Q .next { s with heap := h', toks := tk }) → wpAny (model GProg w) A (exec st5 env) Q E s
theorem seg_toks {A : Around} {R : GenEnd} {Y : Protocol} {n : Nat} {s₀ : Shared} {c : Code} {t : Sem Fin} {fs : List Frame} {s : Shared} {tk : Nat} (h : ∀ tk, Seg (model GProg w) A R Y n s₀ c t fs { s with toks := tk }) : Seg (model GProg w) A R Y n s₀ c t fs { s with toks := tk } := h tk
theorem gen_forever (Lv : Leaves w h₀ L' ax env st1 test2 st3 testW eW eY st5) (hco : env.scope.isCoroutine = false) (hi : interactive env = false) {R : GenEnd} {last : Value} {iv : Option Value} {fs : List Frame}
    (hfs : splitAtGen fs = none) (hfg : fs.any Frame.guarded = false) (hq : (Code.whileLoop testW [.Expr (.Yield (some eW) pwy) pwx] [] env).quiet = true) :
    ∀ (n : Nat) (s₀ s : Shared), n ≠ 0 → (∀ j, j < n → Out j last) → Fr h₀ L' s.heap (mG ax last iv) → (∃ oI, s.heap.get? It = some oI) → Sn L' It s₀ s →
      Seg (model GProg w) A₁ R (GenY h₀ L' It ax Out) n s₀ (.whileLoop testW [.Expr (.Yield (some eW) pwy) pwx] [] env) ((model GProg w).den (.whileLoop testW [.Expr (.Yield (some eW) pwy) pwx] [] env)) fs s := by
  intro n
  induction n with
  | zero => intro s₀ s h; exact absurd rfl h
  | succ n ih =>
    intro s₀ s _ hout F hI hsn
    refine seg_whileLoop (Lv.wh _ _ _ _ fun tk => ?_)
    rw [if_pos rfl]
    refine seg_execs_cons (seg_Expr_Yield hfs rfl hfg (Lv.we _ _ _ _ last iv F fun tk' => ?_) hco hi)
    intro kap hk
    have hns := F.ns
    refine ⟨hout n (Nat.lt_succ_self n), hsn.trans ⟨s.heap, tk', rfl, fun _ _ _ _ e => e⟩, ?_, hI, fun hn0 s'' hsame hkeep => ?_⟩
    · obtain ⟨o, _, _, e, _⟩ := hns; exact ⟨o, e⟩
    · refine hk _ _ ?_
      show Seg _ _ _ _ n s'' _ (Sem.pure (.again _)) fs s''
      refine seg_again hq (ih s'' s'' hn0 (fun j hj => hout j (Nat.lt_succ_of_lt hj)) ⟨hns.at' fun o e => hsame L' o (.inl rfl) e, hkeep, F.above⟩ ?_ Sn.refl)
      obtain ⟨o, e⟩ := hI
      exact ⟨o, hsame It o (.inr (.inl rfl)) e⟩
noncomputable abbrev gBody (st1 : Stmt) (test2 : PySem.Expr) (st3 : Stmt) (testW eW eY : PySem.Expr) (st5 : Stmt) (pw pwx pwy p2 py1 py2 : Pos) : List Stmt :=
  [st1, .If test2 [st3, .While testW [.Expr (.Yield (some eW) pwy) pwx] [] pw] [] p2, .Expr (.Yield (some eY) py1) py2, st5]
theorem gen_head (Lv : Leaves w h₀ L' ax env st1 test2 st3 testW eW eY st5) (hLe : env.locals = L') (hco : env.scope.isCoroutine = false) (hi : interactive env = false) (hx : env.kindOf "interval" = some .local)
    (hp : (env.scope.kind == .class || (env.scope.kind == .module && env.locals != env.globals)) = false) (hLI : L' ≠ It) (haL : ax ≠ L') (haI : ax ≠ It) (hI₀ : h₀.get? It = none) (hL₀ : h₀.objs.size ≤ L')
    {K : Flow → Sem Fin} {H : Value → Sem Fin} {c : Code} {p : Pos} (hA : A₁.handled = none)
    (hK : ∀ v, K (.ret v) = .pure (.done (.ret v))) (hKn : K .next = .pure (.done (.ret .none)))
    (hq1 : (Code.forLoop (.Name "interval" px) (.ref It) (gBody st1 test2 st3 testW eW eY st5 pw pwx pwy p2 py1 py2) [] env).quiet = true) (hq2 : (Code.block [] env).quiet = true)
    (hq3 : (Code.whileLoop testW [.Expr (.Yield (some eW) pwy) pwx] [] env).quiet = true) :
    ∀ (r : List (Int × Tok)) (i n : Nat) (s₀ s : Shared) (last : Value) (iv : Option Value), (last = .none ∨ ∃ y u, last = .int y u) → vs.drop i = r → ToldG Out Stop n last r → Fr h₀ L' s.heap (mG ax last iv) → s.heap.IsListIter It ax i → s.heap.IsList ax (vs.map intV).toArray → Sn L' It s₀ s →
      Seg (model GProg w) A₁ (GenR L' It Stop) (GenY h₀ L' It ax Out) n s₀ (.forLoop (.Name "interval" px) (.ref It) (gBody st1 test2 st3 testW eW eY st5 pw pwx pwy p2 py1 py2) [] env)
        ((model GProg w).den (.forLoop (.Name "interval" px) (.ref It) (gBody st1 test2 st3 testW eW eY st5 pw pwx pwy p2 py1 py2) [] env)) [.ret (ownK env K H id id) none false [] c p []] s := by
  have stop : ∀ (c' : Code) (n : Nat) (s₀ s : Shared) (f : Flow), (f = .next ∨ f = .ret .none) → Stop n → Sn L' It s₀ s → Seg (model GProg w) A₁ (GenR L' It Stop) (GenY h₀ L' It ax Out) n s₀ c' (.pure (.done f)) [.ret (ownK env K H id id) none false [] c p []] s := by
    intro c' n s₀ s f hf hs hsn
    show Seg _ _ _ _ n s₀ c' (leafOf (.ok f)) _ s
    refine seg_leaf (.ok f) ?_
    show Seg _ _ _ _ n s₀ c (K f) [] s
    have e : K f = leafOf (.ok (.ret .none)) := by
      rcases hf with rfl | rfl
      · exact hKn
      · exact hK _
    rw [e]
    exact seg_end _ ⟨rfl, hs, hsn⟩
  intro r
  induction r with
  | nil =>
    intro i n s₀ s last iv _ hr htold F hit hl hsn
    have hlen : vs.length ≤ i := by
      have := congrArg List.length hr
      simp only [List.length_drop, List.length_nil] at this; omega
    refine seg_forLoop (wpAny_pyNext_list_end (by exact hA) hit hl (by simp [hlen]) fun h' he => ?_) hq2 (by intro _; rfl)
    refine seg_block_nil (stop _ n s₀ _ .next (.inl rfl) (by unfold ToldG at htold; exact htold) ?_)
    exact hsn.trans ⟨h', s.toks, rfl, fun b o _ h2 e => he b o h2 e⟩
  | cons xt r ih =>
    intro i n s₀ s last iv hlast hr htold F hit hl hsn
    obtain ⟨x, t⟩ := xt
    have hilt : i < vs.length := by
      rcases Nat.lt_or_ge i vs.length with h | h
      · exact h
      · rw [List.drop_eq_nil_of_le h] at hr; cases hr
    have hcons := List.drop_eq_getElem_cons hilt
    rw [hr] at hcons
    have hxi : vs[i] = (x, t) := (List.cons.inj hcons).1.symm
    have hri : vs.drop (i + 1) = r := (List.cons.inj hcons).2.symm
    have hL₀' : h₀.get? L' = none := Heap.get?_none_of_le hL₀
    refine seg_forLoop (wpAny_pyNext_list_item hit hl (x := .int x t) (by simp [hilt, hxi, intV]) fun h₁ hit₁ hs₁ => ?_) hq2 (by intro _; rfl)
    have ns₁ : h₁.Ns env.locals (mG ax last iv) := by rw [hLe]; exact F.ns.at' fun o e => hs₁.extBut L' o hLI e
    refine wpAny_assign_Name (wpAny_storeName_local hx ns₁ (fun h₂ ns₂ hs₂ => ?_) hp)
    rw [hLe] at ns₂ hs₂
    rw [mG_iv] at ns₂
    have keep₂ : ∀ b o, b ≠ L' → b ≠ It → s.heap.get? b = some o → h₂.get? b = some o := fun b o h1 h2 e => hs₂.extBut b o h1 (hs₁.extBut b o h2 e)
    have F₂ : Fr h₀ L' h₂ (mG ax last (some (.int x t))) := ⟨ns₂, fun b o e => keep₂ b o (fun q => by rw [q, hL₀'] at e; cases e) (fun q => by rw [q, hI₀] at e; cases e) (F.keep b o e), F.above⟩
    have hit₂ : h₂.IsListIter It ax (i + 1) := hit₁.at fun o e => hs₂.extBut It o (Ne.symm hLI) e
    have hl₂ : h₂.IsList ax (vs.map intV).toArray := hl.at fun o e => keep₂ ax o haL haI e
    have hI₂ : ∃ oI, h₂.get? It = some oI := by obtain ⟨o, e, _⟩ := hit₂; exact ⟨o, e⟩
    have sn₂ : ∀ tk, Sn L' It s₀ { s with heap := h₂, toks := tk } := fun tk => hsn.trans ⟨h₂, tk, rfl, keep₂⟩
    unfold ToldG at htold
    by_cases h127 : x = 127
    · rw [if_pos h127] at htold
      refine seg_leafStmt (Lv.one_end _ _ _ _ last x t F₂ h127 fun tk => ?_)
      exact stop _ n s₀ _ (.ret .none) (.inr rfl) htold (sn₂ tk)
    · rw [if_neg h127] at htold
      refine seg_leafStmt (Lv.one_go _ _ _ _ last x t F₂ h127 fun tk => ?_)
      refine seg_execs_cons (seg_If (Lv.two _ _ _ _ last x t F₂ fun tk' => ?_))
      by_cases h0 : x = 0
      · rw [if_pos h0] at htold
        obtain ⟨hne, hn0, hout⟩ := htold
        rw [decide_eq_true h0, if_pos rfl]
        obtain ⟨y, u, rfl⟩ : ∃ y u, last = .int y u := by
          rcases hlast with h | h
          · exact absurd h hne
          · exact h
        refine seg_leafStmt (Lv.three _ _ _ _ y u x t F₂ fun tk'' => ?_)
        refine seg_execs_cons (seg_While fun p' => ?_)
        exact gen_forever Lv hco hi rfl rfl hq3 n s₀ _ hn0 hout F₂ hI₂ (sn₂ tk'')
      · rw [if_neg h0] at htold
        rw [decide_eq_false h0, if_neg Bool.false_ne_true]
        cases n with
        | zero => exact htold.elim
        | succ m =>
          obtain ⟨hout, hrest⟩ := htold
          show Seg _ _ _ _ (m + 1) s₀ _ ((execs (_ :: _) env).wrap _ _ _ _) _ _
          refine seg_execs_cons (seg_Expr_Yield rfl rfl rfl (Lv.ye _ _ _ _ last x t F₂ fun tk'' => ?_) hco hi)
          intro kap hk
          refine ⟨hout, sn₂ tk'', ?_, hI₂, fun hm0 s'' hsame hkeep => ?_⟩
          · obtain ⟨o, _, _, e, _⟩ := ns₂; exact ⟨o, e⟩
          · refine hk _ _ ?_
            have F₃ : Fr h₀ L' s''.heap (mG ax last (some (.int x t))) := ⟨ns₂.at' fun o e => hsame L' o (.inl rfl) e, hkeep, F.above⟩
            show Seg _ _ _ _ m s'' _ ((execs (_ :: _) env).wrap _ _ _ _) _ _
            refine seg_leafStmt (Lv.five _ _ _ _ last x t F₃ fun h₄ tk₄ F₄ hs₄ => ?_)
            show Seg _ _ _ _ m s'' _ (Sem.pure (.again _)) _ _
            refine seg_again hq1 (ih (i + 1) m s'' _ (.int x t) _ (.inr ⟨x, t, rfl⟩) hri (hrest hm0) F₄ ?_ ?_ ⟨h₄, tk₄, rfl, fun b o h1 _ e => hs₄.extBut b o h1 e⟩)
            · exact (hit₂.at fun o e => hsame It o (.inr (.inl rfl)) e).at fun o e => hs₄.extBut It o (Ne.symm hLI) e
            · exact (hl₂.at fun o e => hsame ax o (.inr (.inr rfl)) e).at fun o e => hs₄.extBut ax o haL e
theorem gen_start {m₀ : PySem.Str → Option Value} {st0 : Stmt} {iter : PySem.Expr} {pf : Pos} (Lv : Leaves w h₀ L' ax env st1 test2 st3 testW eW eY st5)
    (zero : ∀ (A : Around) (s : Shared) (E : Value → Shared → Prop) (Q : Flow → Shared → Prop), Fr h₀ L' s.heap m₀ → (∀ h' tk, Fr h₀ L' h' (mG ax .none none) → Heap.SameBut L' s.heap h' → Q .next { s with heap := h', toks := tk }) → wpAny (model GProg w) A (exec st0 env) Q E s)
    (it : ∀ (A : Around) (s : Shared) (E : Value → Shared → Prop) (Q : Value → Shared → Prop), Fr h₀ L' s.heap (mG ax .none none) → (∀ tk, Q (.ref ax) { s with toks := tk }) → wpAny (model GProg w) A (eval iter env) Q E s)
    (hit : ∀ x, foldedSetIterable iter env x = pure x)
    (hLe : env.locals = L') (hco : env.scope.isCoroutine = false) (hi : interactive env = false) (hx : env.kindOf "interval" = some .local)
    (hp : (env.scope.kind == .class || (env.scope.kind == .module && env.locals != env.globals)) = false) (hLI : L' ≠ It) (haL : ax ≠ L') (haI : ax ≠ It) (hI₀ : h₀.get? It = none) (hL₀ : h₀.objs.size ≤ L')
    (hA : A₁.handled = none)
    (hq1 : (Code.forLoop (.Name "interval" px) (.ref It) (gBody st1 test2 st3 testW eW eY st5 pw pwx pwy p2 py1 py2) [] env).quiet = true) (hq2 : (Code.block [] env).quiet = true)
    (hq3 : (Code.whileLoop testW [.Expr (.Yield (some eW) pwy) pwx] [] env).quiet = true)
    {n : Nat} {s : Shared} (htold : ToldG Out Stop n .none vs) (F : Fr h₀ L' s.heap m₀) (hl : s.heap.IsList ax (vs.map intV).toArray) (hsz : s.heap.objs.size = It) :
    GenState.Goes (model GProg w) A₁ (GenR L' It Stop) (GenY h₀ L' It ax Out) n (.fresh (.func [st0, .For (.Name "interval" px) iter (gBody st1 test2 st3 testW eW eY st5 pw pwx pwy p2 py1 py2) [] pf] env)) (.send .none) s := by
  refine ⟨rfl, seg_func (seg_leafStmt (zero _ _ _ _ F fun h₁ tk₁ F₁ hs₁ => ?_))⟩
  refine seg_execs_cons (seg_For (it _ _ _ _ F₁ fun tk₂ => ?_) hit)
  have hl₁ : h₁.IsList ax (vs.map intV).toArray := hl.at fun o e => hs₁.extBut ax o haL e
  refine wpAny_pyIter_list (by exact hl₁) fun p => ?_
  have hsz₁ : h₁.objs.size = It := by rw [← hsz]; exact hs₁.1
  dsimp only
  rw [hsz₁]
  have up : ∀ b o, h₁.get? b = some o → (h₁.push { cls := .type "list_iterator", data := .fields #[.ref ax, .int 0 0] }).get? b = some o := fun b o e => Heap.get?_push_of_some _ e
  have itr : (h₁.push { cls := .type "list_iterator", data := .fields #[.ref ax, .int 0 0] }).IsListIter It ax 0 := by
    rw [← hsz₁]; exact ⟨_, Heap.get?_push_size _ rfl, rfl, rfl⟩
  exact gen_head Lv hLe hco hi hx hp hLI haL haI hI₀ hL₀ hA (fun _ => rfl) rfl hq1 hq2 hq3 vs 0 n s _ .none none (.inl rfl) rfl htold (F₁.keeps up) itr (hl₁.at fun o e => up _ _ e)
    ⟨_, _, rfl, fun b o h1 h2 e => up _ _ (hs₁.extBut b o h1 e)⟩
end
end
section
section
variable {prog : Program} {w : World} {A : Around} {E : Value → Shared → Prop} {s : Shared}
/-- next() of a def's generator: as the library's wpAny_pyNext_gen, and the generator is left without a cleanup -/
theorem pyNext_genQ {a : Addr} {g n : Nat} {gs : GenState} {P : Nat → Shared → Shared → Prop} {Y : Protocol} {Q : Option Value → Shared → Prop} (hh : A.handled = none)
    (hl : s.heap.NoLimit) (hroom : A.depth < recursionLimit) (hg : s.heap.IsGen a g) (hgs : s.gens[g]? = some gs)
    (hgo : gs.Goes (model prog w) A.in1 (fun n s₀ r s₁ => r = .ok (.ret .none) ∧ P n s₀ s₁) Y n (.send .none) (s.setGen g .running))
    (hY : ∀ v s₁ gs', gs'.bare = true → Y (n - 1) (s.setGen g .running) v s₁ (fun r' s'' => match n with
        | 0 => False
        | m + 1 => gs'.Goes (model prog w) A.in1 (fun n s₀ r s₁ => r = .ok (.ret .none) ∧ P n s₀ s₁) Y m r' s'') → Q (some v) (s₁.setGen g gs'))
    (hP : ∀ s₁, P n (s.setGen g .running) s₁ → ∀ h', (∀ b o, s₁.heap.get? b = some o → h'.get? b = some o) → Q none { s₁.setGen g .finished with heap := h' }) :
    wpAny (model prog w) A (pyNext (.ref a)) Q E s := by
  unfold pyNext
  refine wpAny_bind (wpAny_attempt (wpAny_callSpecial?_slot (name := PySem.Str.ofString "__next__") hg.typeIs slot_gen_next (wpAny_call_entry slot_gen_next hg.typeIs entry_gen_next ?_ (args_gen_next _))))
  show wpAny _ A.in1 (Builtin.Generator.genWake (.ref a) (.send .none)) _ _ s
  unfold Builtin.Generator.genWake
  refine wpAny_bind (wpAny_holding (wpAny_genNumber hg (wpAny_bind (wpAny_genState hgs ?_))))
  cases gs with
  | running => exact hgo.elim
  | finished => exact hgo.elim
  | _ =>
    refine wpAny_bind (wpAny_roomToWake hl hroom ?_)
    show wpAny _ A.in1 (.resume g (.send .none) [] _) _ _ s
    refine wpAny_resumeQ hgs hgo (fun x s₁ hx => ?_) (fun v s₁ gs' hb hv => ?_)
    · obtain ⟨rfl, hp⟩ := hx
      show wpAny _ A.in1 (newExc (.type "StopIteration") [] >>= _) _ _ _
      refine wpAny_bind ?_
      simp only [newExc, newTuple]
      refine wpAny_bind (wpAny_newObj_type ?_ (by size_fits))
      refine wpAny_bind (m := firstArgMember _ _) (wpAny_of_eq (a := Value.none) (by first | rfl | (simp only [firstArgMember]; rfl)) ?_)
      refine wpAny_newObj_type ?_ (by size_fits)
      simp only [raiseNew]
      refine wpAny_bind (wpAny_bind (wpAny_handled ?_))
      first | rw [show A.in1.handled = none from hh] | rw [hh]
      refine wpAny_throw ?_
      refine wpAny_bind (wpAny_isInstance (T := "StopIteration") (b := true) ⟨_, Heap.get?_push_size _ rfl, rfl⟩ isSubtype_stop ?_)
      exact wpAny_pure (hP s₁ hp _ fun b o hb => Heap.get?_push_of_some _ (Heap.get?_push_of_some _ hb))
    · exact wpAny_pure ⟨v, rfl, wpAny_pure (hY v s₁ gs' hb hv)⟩
end
noncomputable def GenO (oD : Obj) (g : Nat) : Prop := oD.cls = .type "generator" ∧ oD.slots = #[] ∧ ∃ nm qn, oD.data = .fields #[.int g 0, nm, qn]
theorem GenO.is {oD : Obj} {g : Nat} (x : GenO oD g) {h : Heap} {D : Addr} (e : h.get? D = some oD) : h.IsGen D g := let ⟨a, b, nm, qn, c⟩ := x; ⟨oD, nm, qn, e, a, c, b⟩
/-- the call that makes a generator -/
theorem callG {w : World} {mean : ExcName → Option Value} {mg mb : PySem.Str → Option Value} {A : Around} {s : Shared} {h₀ : Heap} {L : Addr} {m : PySem.Str → Option Value} {news : Led} {K : Frag} {Q E : Value → Shared → Prop}
    {name qual : PySem.Str} {params : Arguments} {body : List Stmt} {scope : Scope} {dV kV doc pm cdv ct oc : Value} {an od : Option Addr} {osl : Array (Option Value)} {f : Addr} {vs : List Value}
    (F : Fr h₀ L s.heap m) (X₀ : K.In h₀) (N : News h₀ L s.heap news) (T : TopF mean mg mb h₀)
    (ho : K.lookup f = some ⟨oc, od, .func (fnOf name qual params body scope dV kV doc pm an cdv ct), osl⟩) (hcd : codeIn K cdv qual = true) (hroom : A.depth < recursionLimit)
    (hbind : BindsTo s (fnOf name qual params body scope dV kV doc pm an cdv ct) ⟨vs, []⟩ (zipS params.args vs)) (hloc : ∀ y ∈ zipS params.args vs, scope.names.lookup y.1 = some .local)
    (hcell : ∀ x ∈ scope.names, x.2 ≠ .cell) (hco : scope.isCoroutine = false) (hgen : scope.isGenerator = true) (hk : scope.kind = .function)
    (h : ∀ (D L' g : Nat) h' tk oL oD, D = L' + 1 → h'.objs.size = D + 1 → g = s.gens.size → GenO oD g → Fr h₀ L h' m → News h₀ L h' ((D, oD) :: (L', oL) :: news) → (∀ p ∈ news, p.1 < L') → Fr h₀ L' h' (fun y => (zipS params.args vs).reverse.lookup y) → L < L' → L' = s.heap.objs.size → (∀ b o, s.heap.get? b = some o → h'.get? b = some o) →
      Q (.ref D) { s with heap := h', toks := tk, gens := s.gens.push (.fresh (.func body (envOf qual scope L' f cdv))) }) :
    wpAny (model PySem.Challenge.rw_xr0005_01.prog w) A (call (.ref f) vs) Q E s := by
  refine wpAny_call ?_
  have X := X₀.keeps F.keep
  have lim := T.nolimit.keeps F.keep
  refine codeAny_call_generator (fd := fnOf name qual params body scope dV kV doc pm an cdv ct) (body := body) hroom (X _ _ ho) rfl hco hgen rfl (codeRec_of X hcd) (hbind _ _ _ _ ?_)
  refine wpAny_newFunctionEnv hcell hloc (fun h₁ hns₁ hsb₁ => ⟨lim.fresh _ hsb₁, ?_⟩) hk
  have hsz₁ : h₁.objs.size = s.heap.objs.size + 1 := by rw [hsb₁.1, Heap.size_push]
  have up₁ : ∀ b o, s.heap.get? b = some o → h₁.get? b = some o := fun b o e => hsb₁.extBut b o (Nat.ne_of_lt (Heap.lt_size e)) (Heap.get?_push_of_some _ e)
  have hL₀ : h₀.get? s.heap.objs.size = none := by
    cases e : h₀.get? s.heap.objs.size with
    | none => rfl
    | some o' => exact absurd (Heap.lt_size (F.keep _ o' e)) (Nat.lt_irrefl _)
  have hD₀ : h₀.get? h₁.objs.size = none := by
    cases e : h₀.get? h₁.objs.size with
    | none => rfl
    | some o' =>
      have := Heap.lt_size (F.keep _ o' e)
      rw [hsz₁] at this
      exact absurd this (Nat.not_lt.mpr (Nat.le_succ _))
  have habove : h₀.objs.size ≤ s.heap.objs.size := Nat.le_trans F.above (Nat.le_of_lt F.ns.lt)
  obtain ⟨oL, eL, _⟩ := LCg.ns_obj hns₁
  refine h h₁.objs.size s.heap.objs.size s.gens.size _ _ oL { cls := .type "generator", data := .fields #[.int s.gens.size 0, .str name (s.toks + (zipS params.args vs).length), .str qual (s.toks + (zipS params.args vs).length + 1)] } hsz₁ (by rw [Heap.size_push]) rfl (by exact ⟨rfl, rfl, _, _, rfl⟩) ((F.keeps up₁).push _) (fun p hp => ?_) (fun p hp => Heap.lt_size (N p hp).1) ⟨hns₁.push _, fun b o e => Heap.get?_push_of_some _ (up₁ _ _ (F.keep _ _ e)), habove⟩ F.ns.lt rfl (fun b o e => Heap.get?_push_of_some _ (up₁ _ _ e))
  rcases List.mem_cons.mp hp with rfl | hp
  · exact ⟨Heap.get?_push_size _ rfl, by rw [hsz₁]; exact Nat.ne_of_gt (Nat.lt_succ_of_lt F.ns.lt), hD₀⟩
  rcases List.mem_cons.mp hp with rfl | hp
  · exact ⟨Heap.get?_push_of_some _ eL, Nat.ne_of_gt F.ns.lt, hL₀⟩
  · exact ⟨Heap.get?_push_of_some _ (up₁ _ _ (N p hp).1), (N p hp).2⟩
end
section
noncomputable def GenAtS (w : World) (A : Around) (h₀ : Heap) (L' It ax : Addr) (Out : Nat → Value → Prop) (Stop : Nat → Prop) (n g : Nat) (s : Shared) : Prop :=
  ∃ gs, s.gens[g]? = some gs ∧ gs.Goes (model GProg w) A.in1 (GenR L' It Stop) (GenY h₀ L' It ax Out) n (.send .none) (s.setGen g .running)
noncomputable def outY (ys : List Value) (n j : Nat) (v : Value) : Prop := ys[n - 1 - j]? = some v
noncomputable def stopY (ys : List Value) (n : Nat) (fin : Bool) (j : Nat) : Prop := fin = true ∧ j + ys.length = n
noncomputable def TurnG (h₀ : Heap) (L L' It : Addr) (oL oI : Obj) (s₁ : Shared) (Q : Flow → Shared → Prop) (next : (PySem.Str → Option Value) → Led → Prop) (f : Flow) (s₂ : Shared) : Prop :=
  match f with
  | .ret v => Q (.ret v) s₂
  | .brk => Q .next s₂
  | _ => ∃ h' tk m' news', s₂ = { s₁ with heap := h', toks := tk } ∧ Fr h₀ L h' m' ∧ News h₀ L h' ((It, oI) :: (L', oL) :: news') ∧ next m' news'
/-- the turns of a for over a generator, one by one: what it gives is known -/
noncomputable def GT (w : World) (A : Around) (h₀ : Heap) (L L' It D ax : Addr) (oD oA : Obj) (env : Env) (x : PySem.Str) (body : List Stmt) (Q : Flow → Shared → Prop) (E : Value → Shared → Prop) (s : Shared) (fin : Bool) (as : List Addr) : List Value → (PySem.Str → Option Value) → Led → Prop
  | [], m, news => fin = true ∧ ∀ h tk gn, AllBare gn → Fr h₀ L h m → News h₀ L h news → Q .next { s with heap := h, toks := tk, gens := gn }
  | v :: r, m, news => ∀ h tk gn oL oI, AllBare gn → Fr h₀ L h (fun y => if y = x then some v else m y) → News h₀ L h ((It, oI) :: (L', oL) :: news) →
      wpAny (model GProg w) A (execs body env) (TurnG h₀ L L' It oL oI { s with heap := h, toks := tk, gens := gn } Q (fun m' news' => news'.map (·.1) = as ∧ (D, oD) ∈ news' ∧ (ax, oA) ∈ news' ∧ GT w A h₀ L L' It D ax oD oA env x body Q E s fin as r m' news')) E
        { s with heap := h, toks := tk, gens := gn }
theorem for_gen {w : World} {mean : ExcName → Option Value} {mg mb : PySem.Str → Option Value} {A : Around} {h₀ : Heap} {L L' It D ax : Addr} {oD oA oL : Obj} {env : Env} {x : PySem.Str} {px : Pos} {body : List Stmt} {Q : Flow → Shared → Prop} {E : Value → Shared → Prop} {s : Shared}
    {m : PySem.Str → Option Value} {news : Led} {g n : Nat} {ys : List Value} {fin : Bool} {Out : Nat → Value → Prop} {Stop : Nat → Prop}
    (hh : A.handled = none) (hroom : A.depth < recursionLimit) (hE : PassesOwn (model GProg w) A env E) (T : TopF mean mg mb h₀) (hOut : ∀ j v, Out j v → outY ys n j v) (hStop : ∀ j, Stop j → stopY ys n fin j) (hn : n = ys.length + (if fin = true then 1 else 0))
    (henv : env.locals = L) (F : Fr h₀ L s.heap m) (N : News h₀ L s.heap ((L', oL) :: news)) (hD : (D, oD) ∈ news) (hO : GenO oD g) (hAx : (ax, oA) ∈ news) (hIt : s.heap.objs.size = It) (hL' : ∀ p ∈ news, p.1 ≠ L')
    (G : GenAtS w A h₀ L' It ax Out Stop n g s) (hb : AllBare s.gens) (hx : env.kindOf x = some .local) (hp : (env.scope.kind == .class || (env.scope.kind == .module && env.locals != env.globals)) = false)
    (turns : GT w A h₀ L L' It D ax oD oA env x body Q E s fin (news.map (·.1)) ys m news) :
    codeAny (model GProg w) A (.forLoop (.Name x px) (.ref D) body [] env) (fun r s' => match r with | .ok f => Q f s' | .error e => cameBackBy (model GProg w) A env E e s') s := by
  subst henv
  have hltI : ∀ p ∈ news, p.1 ≠ It := fun p hp => by rw [← hIt]; exact Nat.ne_of_lt (Heap.lt_size (N p (List.mem_cons_of_mem _ hp)).1)
  have hLI : env.locals ≠ It := by rw [← hIt]; exact Nat.ne_of_lt F.ns.lt
  have hL'I : L' ≠ It := by rw [← hIt]; exact Nat.ne_of_lt (Heap.lt_size (N _ (.head _)).1)
  have hL'L : L' ≠ env.locals := (N _ (.head _)).2.1
  have hI₀ : h₀.get? It = none := by
    cases e : h₀.get? It with
    | none => rfl
    | some o' => exact absurd (Heap.lt_size (F.keep _ o' e)) (by rw [hIt]; exact Nat.lt_irrefl _)
  have hL'₀ : h₀.get? L' = none := (N _ (.head _)).2.2
  have adr : ∀ {nw : Led}, nw.map (·.1) = news.map (·.1) → ∀ p ∈ nw, p.1 ≠ L' ∧ p.1 ≠ It := fun {nw} e p hp => by
    have : p.1 ∈ nw.map (·.1) := List.mem_map_of_mem hp
    rw [e] at this
    obtain ⟨q, hq, eq⟩ := List.mem_map.mp this
    rw [← eq]
    exact ⟨hL' q hq, hltI q hq⟩
  refine codeAny_forLoop
    (fun k s' => ∃ (pre r : List Value) (h' : Heap) (tk : Nat) (gn : Array GenState) (m' : PySem.Str → Option Value) (news' : Led) (oL' : Obj), s' = { s with heap := h', toks := tk, gens := gn } ∧ ys = pre ++ r ∧ k = r.length + 1 ∧
      GenAtS w A h₀ L' It ax Out Stop (r.length + (if fin = true then 1 else 0)) g { s with heap := h', toks := tk, gens := gn } ∧ AllBare gn ∧ Fr h₀ env.locals h' m' ∧ News h₀ env.locals h' ((L', oL') :: news') ∧ news'.map (·.1) = news.map (·.1) ∧ (D, oD) ∈ news' ∧ (ax, oA) ∈ news' ∧
      GT w A h₀ env.locals L' It D ax oD oA env x body Q E s fin (news.map (·.1)) r m' news') ?_ (ys.length + 1)
    ⟨[], ys, s.heap, s.toks, s.gens, m, news, oL, rfl, rfl, rfl, by rw [← hn]; exact G, hb, F, N, rfl, hD, hAx, turns⟩
  rintro k s' ⟨pre, r, h', tk, gn, m', news', oL', rfl, hys, rfl, ⟨gs, hgs, hgo⟩, hb', F', N', hadr, hD', hA', gt⟩
  have lim := T.nolimit.keeps F'.keep
  have hG : h'.IsGen D g := hO.is (N' _ (List.mem_cons_of_mem _ hD')).1
  have hlen : ys.length = pre.length + r.length := by rw [hys, List.length_append]
  cases r with
  | nil =>
    obtain ⟨hfin, done⟩ := gt
    rw [if_pos hfin] at hgo
    refine pyNext_genQ (n := 1) hh lim hroom hG hgs (by exact hgo) (fun v s₁ gs' _ hv => ?_) (fun s₁ hP h₂ hk₂ => ?_)
    · have := hOut _ _ hv.1
      unfold outY at this
      rw [hn, if_pos hfin] at this
      rw [List.getElem?_eq_none (by omega)] at this
      cases this
    · obtain ⟨_, h₁, tk₁, rfl, hk₁⟩ := hP
      refine wpAny_execs_nil ?_
      have keep : ∀ b o, b ≠ L' → b ≠ It → h'.get? b = some o → h₂.get? b = some o := fun b o h1 h2 e => hk₂ b o (hk₁ b o h1 h2 e)
      refine done h₂ tk₁ _ ?_ ⟨F'.ns.at' fun o e => keep _ o (Ne.symm hL'L) hLI e, fun b o e => keep b o (fun q => by rw [q, hL'₀] at e; cases e) (fun q => by rw [q, hI₀] at e; cases e) (F'.keep b o e), F'.above⟩
        (fun p hp => ⟨keep _ _ (adr hadr p hp).1 (adr hadr p hp).2 (N' p (List.mem_cons_of_mem _ hp)).1, (N' p (List.mem_cons_of_mem _ hp)).2⟩)
      exact AllBare.moved hb' (GenOnlyQ.of ((GenOnly.setGen _ g .running).trans (GenOnly.setGen _ g .finished)) (setGen_self (gs := .running) (setGen_self hgs)) rfl)
  | cons v₀ r =>
    have hM : (v₀ :: r).length + (if fin = true then 1 else 0) = (r.length + (if fin = true then 1 else 0)) + 1 := by simp only [List.length_cons]; omega
    rw [hM] at hgo
    refine pyNext_genQ (n := (r.length + (if fin = true then 1 else 0)) + 1) hh lim hroom hG hgs (by exact hgo) (fun v s₁ gs' hbare hv => ?_) (fun s₁ hP h₂ hk₂ => ?_)
    · obtain ⟨hout, ⟨h₁, tk₁, rfl, hk₁⟩, ⟨oL₁, eL₁⟩, ⟨oI₁, eI₁⟩, hkap⟩ := hv
      have hv₀ : v = v₀ := by
        have := hOut _ _ hout
        unfold outY at this
        have e1 : n - 1 - (r.length + (if fin = true then 1 else 0) + 1 - 1) = pre.length := by
          simp only [List.length_cons] at hlen
          omega
        rw [e1, hys, List.getElem?_append_right (Nat.le_refl _), Nat.sub_self] at this
        simpa using this.symm
      subst hv₀
      refine wpAny_assign_Name (wpAny_storeName_local hx (F'.ns.at' fun o e => hk₁ _ o (Ne.symm hL'L) hLI e) (fun h₂ ns₂ hs₂ => ?_) hp)
      have keep : ∀ b o, b ≠ L' → b ≠ It → b ≠ env.locals → h'.get? b = some o → h₂.get? b = some o := fun b o h1 h2 h3 e => hs₂.extBut b o h3 (hk₁ b o h1 h2 e)
      have hLL₀ : h₀.get? env.locals = none := Heap.get?_none_of_le F'.above
      have F₂ : Fr h₀ env.locals h₂ (fun y => if y = x then some v else m' y) := ⟨ns₂, fun b o e => keep b o (fun q => by rw [q, hL'₀] at e; cases e) (fun q => by rw [q, hI₀] at e; cases e) (fun q => by rw [q, hLL₀] at e; cases e) (F'.keep b o e), F'.above⟩
      have N₂ : News h₀ env.locals h₂ ((It, oI₁) :: (L', oL₁) :: news') := fun p hp => by
        rcases List.mem_cons.mp hp with rfl | hp
        · exact ⟨hs₂.extBut _ _ (Ne.symm hLI) eI₁, Ne.symm hLI, hI₀⟩
        rcases List.mem_cons.mp hp with rfl | hp
        · exact ⟨hs₂.extBut _ _ hL'L eL₁, hL'L, hL'₀⟩
        · have z := N' p (List.mem_cons_of_mem _ hp)
          exact ⟨keep _ _ (adr hadr p hp).1 (adr hadr p hp).2 z.2.1 z.1, z.2⟩
      have hb₂ := AllBare.moved hb' (GenOnlyQ.of ((GenOnly.setGen { s with heap := h', toks := tk, gens := gn } g .running).trans (GenOnly.setGen _ g gs')) (setGen_self (gs := .running) (setGen_self hgs)) hbare)
      have hg₂ := setGen_self (x := gs') (gs := .running) (setGen_self (x := .running) hgs)
      refine wpAny_mono (wpAny_passesOwn hE (gt h₂ _ _ oL₁ oI₁ hb₂ F₂ N₂)) (fun f s₃ h₃ => ?_) fun _ _ e => e
      have fin' : (∃ h'' tk' m'' news'', s₃ = { s with heap := h'', toks := tk', gens := ((({ s with heap := h', toks := tk, gens := gn } : Shared).setGen g .running).setGen g gs').gens } ∧ Fr h₀ env.locals h'' m'' ∧ News h₀ env.locals h'' ((It, oI₁) :: (L', oL₁) :: news'') ∧
          news''.map (·.1) = news.map (·.1) ∧ (D, oD) ∈ news'' ∧ (ax, oA) ∈ news'' ∧ GT w A h₀ env.locals L' It D ax oD oA env x body Q E s fin (news.map (·.1)) r m'' news'') → ∃ mm, mm < (v :: r).length + 1 ∧ ∃ (pre r : List Value) (h' : Heap) (tk : Nat) (gn : Array GenState) (m' : PySem.Str → Option Value) (news' : Led) (oL' : Obj), s₃ = { s with heap := h', toks := tk, gens := gn } ∧ ys = pre ++ r ∧ mm = r.length + 1 ∧
      GenAtS w A h₀ L' It ax Out Stop (r.length + (if fin = true then 1 else 0)) g { s with heap := h', toks := tk, gens := gn } ∧ AllBare gn ∧ Fr h₀ env.locals h' m' ∧ News h₀ env.locals h' ((L', oL') :: news') ∧ news'.map (·.1) = news.map (·.1) ∧ (D, oD) ∈ news' ∧ (ax, oA) ∈ news' ∧
      GT w A h₀ env.locals L' It D ax oD oA env x body Q E s fin (news.map (·.1)) r m' news' := by
        rintro ⟨h'', tk', m'', news'', rfl, F₃, N₃, hadr₃, hD₃, hA₃, gt₃⟩
        have hM0 : r.length + (if fin = true then 1 else 0) ≠ 0 := by
          cases r with
          | nil => rw [if_pos gt₃.1]; simp
          | cons _ _ => simp
        refine ⟨r.length + 1, by simp only [List.length_cons]; omega, pre ++ [v], r, h'', tk', _, m'', news'', oL₁, rfl, by rw [hys, List.append_assoc]; rfl, rfl, ⟨gs', hg₂, ?_⟩, hb₂, F₃, fun p hp => N₃ p (List.mem_cons_of_mem _ hp), hadr₃, hD₃, hA₃, gt₃⟩
        refine hkap hM0 _ (fun b o hb e => ?_) F₃.keep
        rcases hb with rfl | rfl | rfl
        · rw [eL₁] at e; cases e; exact (N₃ _ (List.mem_cons_of_mem _ (.head _))).1
        · rw [eI₁] at e; cases e; exact (N₃ _ (.head _)).1
        · have z := N' _ (List.mem_cons_of_mem _ hA')
          have e1 := hk₁ _ _ (adr hadr _ hA').1 (adr hadr _ hA').2 z.1
          have e2 : some oA = some o := e1.symm.trans e
          cases e2
          exact (N₃ _ (List.mem_cons_of_mem _ (List.mem_cons_of_mem _ hA₃))).1
      cases f with
      | ret v => exact h₃
      | brk => exact h₃
      | cont => exact fin' h₃
      | next => exact fin' h₃
    · obtain ⟨hst, _⟩ := hP
      have := hStop _ hst
      unfold stopY at this
      obtain ⟨hfin, e⟩ := this
      rw [if_pos hfin] at e hn
      simp only [List.length_cons] at hlen
      omega
end
local macro_rules | `(tactic| k_room) => `(tactic| exact Nat.le_of_ble_eq_true rfl)
local macro_rules | `(tactic| k_lt $h) => `(tactic| replace $h := allLt_of $h)
local macro_rules | `(tactic| k_ne) => `(tactic| (refine neN ?_; (try dsimp only); first | with_reducible assumption | exact ne1 (by assumption) (by k_mem) | exact ne2 (by assumption) (by k_mem) | exact ne3 (by assumption) (by k_mem) | exact (ne3 (by assumption) (by k_mem)).symm | omega))
local macro_rules | `(tactic| walk_at $s:str) => `(tactic| k_extra $(Lean.Syntax.mkStrLit ("m:" ++ s.getString)))
section
theorem lnF1a_0 : True := by k_with_none; exact trivial
theorem lnF1ap_1 : True := by
  (k_with "m:tell" => (
  unfold Tell
  k_fill
  intro mean9 mg9 mb9 gd9 cn9 cs9 a9 ccd9 cl9 outer9 A9 base9 h9 L9 m9 news9 s9 Q9 E9 B F X N T hk hsub hret
  refine wpAny_call ?_
  k_dflt (refine' enterS ?k1q ?k2q ?k3q ?k4q ?k5q hsub ?kAq ?kFq ?kKq ?k6q ?k7q ?k8q ?k9q ?kBq ?_ ?c5q ?c2q ?c3q ?c4q; (case kAq => exact rfl); (case kFq => exact rfl); (case kKq => assumption); (case k1q => k_asm); (case k2q => k_asm); (case k3q => k_asm); (case k4q => k_asm); (case k5q => k_asm); (case k6q => k_is); (case k7q => k_is); (case k8q => k_room); (case k9q => exact BindsTo.of_eq rfl); (case c5q => decide); (case kBq => exact locs rfl); (case c2q => exact rfl); (case c3q => exact rfl); (case c4q => exact rfl); k_whole)
  intro g' L' h' FG' F' N' B' X' T'
  (try dsimp only)
  (simp only [zipS, List.reverse_cons, List.reverse_nil, List.nil_append, List.cons_append] at F')
  clear B F X N T FG'
  k_fold))
  (k_with "m:sub" => first | exact List.forall_mem_nil _ | (refine List.forall_mem_cons.mpr ⟨by k_mem, ?_⟩; walk_at "sub"))
  (k_with "m:apart" => first | exact List.forall_mem_nil _ | (refine List.forall_mem_cons.mpr ⟨by k_ne, ?_⟩; walk_at "apart"))
  (k_with "m:leave0" => (k_dflt (refine' LeaveS.intro [] ?k1q ?k2q ?k3q (List.forall_mem_nil _) (List.forall_mem_nil _) ?_; (case k1q => k_asm); (case k2q => k_asm); (case k3q => walk_at "sub"); k_whole); intro kF kN kA; (with_reducible rename (∀ (_ : Value) (_ : List (Addr × Obj)) (_ : Heap) (_ : Nat), Fr _ _ _ _ → _) => hret); refine hret _ [] _ _ kF kN kA ⟨rfl, Done.intro ?_⟩; clear kF kN kA hret))
  (k_with "m:leave1" => (k_dflt (refine' LeaveS.intro1 ?k1q ?k2q ?k3q ?k4q ?k5q ?_; (case k1q => k_asm); (case k2q => k_asm); (case k3q => walk_at "sub"); (case k4q => k_mem); (case k5q => walk_at "apart"); k_whole); intro kF kN kA; (with_reducible rename (∀ (_ : Value) (_ : List (Addr × Obj)) (_ : Heap) (_ : Nat), Fr _ _ _ _ → _) => hret); refine hret _ [_] _ _ kF kN kA (Done.intro ?_); clear kF kN kA hret))
  (k_with "m:leave" => walk_at "leave0")
  (k_with "m:LeaveS" => ((try dsimp only); walk_at "leave"))
  (k_with "m:use0" => ((case k1q => k_asm); (case k2q => k_asm); (case k3q => k_asm); (case k4q => k_asm); (case k5q => k_asm); (case kKq => first | exact rfl | assumption); (case ks => walk_at "sub"); (case kd => k_room); (case ku => k_room); k_whole))
  (k_with "m:gotInt" => (intro r9 h9 tk9 F9 N9 hR9; obtain ⟨v9, t9, hv9, e9⟩ := hR9; subst e9; (try k_sweep); (try dsimp only)))
  (k_with "m:gotBool" => (intro r9 h9 tk9 F9 N9 hR9; obtain ⟨v9, hv9, e9⟩ := hR9; subst e9; (try k_sweep); (try dsimp only)))
  (k_with "m:item" => (k_here; k_dflt (refine' item_fast ?Nq ?mq ?aq ?bq ?xq ?_ ?yq; (case Nq => k_asm); (case mq => k_mem); (case aq => decide); (case bq => decide); (case xq => exact rfl); (case yq => with_unfolding_all rfl); k_whole)))
  (k_with "m:subscriptTail Name BinOp ref int" => walk_at "item")
  (k_with "m:subscriptTail Name Name ref int" => walk_at "item")
  (k_with "m:subscriptTail Name Constant ref int" => walk_at "item")
  (k_with "m:eval Name" => (k_here; k_dflt (refine' nameX_L ?Fq ?vq ?_ ?aq ?bq; (case bq => rfl); (case Fq => k_asm); (case aq => rfl); (case vq => rfl); k_whole)))
  (k_with "m:subscriptTail Name Slice str ref" => (k_here; (with_reducible rename Fr _ _ _ _ => F'); (with_reducible rename News _ _ _ _ => N'); (first | ((with_reducible show wpAny _ _ (subscriptTail _ (PySem.Expr.Slice none none none _) _ _) _ _ _); refine slice_strN_nn (hsz := ?hszq) (s := ⟨_, _, _, _, _⟩) F' N' ?_) | ((with_reducible show wpAny _ _ (subscriptTail _ (PySem.Expr.Slice none (some _) none _) _ _) _ _ _); refine slice_strN_ns (hsz := ?hszq) (s := ⟨_, _, _, _, _⟩) F' N' ?_) | ((with_reducible show wpAny _ _ (subscriptTail _ (PySem.Expr.Slice (some _) none none _) _ _) _ _ _); refine slice_strN_sn (hsz := ?hszq) (s := ⟨_, _, _, _, _⟩) F' N' ?_) | ((with_reducible show wpAny _ _ (subscriptTail _ (PySem.Expr.Slice (some _) (some _) none _) _ _) _ _ _); refine slice_strN_ss (hsz := ?hszq) (s := ⟨_, _, _, _, _⟩) F' N' ?_)); (case hszq => exact Short.fits (by assumption)); intro _ _ _ _ _))
  (k_with "m:execs cons" => (dsimp only; walk_at "execs cons"))
  exact trivial
noncomputable def sgn3 (a b : Int) : Int := (if b < a then 1 else 0) - (if a < b then 1 else 0)
theorem strcoll_tell (w : World) (a b : Int) (ta tb : Tok) : Tell 400 w 63 [.int a ta, .int b tb] [] (fun tl v => tl = [] ∧ ∃ r t, r = sgn3 a b ∧ v = .int r t) := by
  walk_at "tell"
  k_steps
  all_goals exact ⟨_, _, by simp only [sgn3, b2i, decide_eq_true_eq], rfl⟩
theorem mul_tell (w : World) (a b : Int) (ta tb : Tok) (ok : IntMulOk a b) : Tell 400 w 21 [.int a ta, .int b tb] [] (fun tl v => tl = [] ∧ ∃ r t, r = a * b ∧ v = .int r t) := by
  walk_at "tell"
  k_steps
  all_goals first | assumption | exact ⟨_, _, rfl, rfl⟩
theorem sub_tell (w : World) (a b : Int) (ta tb : Tok) : Tell 400 w 28 [.int a ta, .int b tb] [] (fun tl v => tl = [] ∧ ∃ r t, r = a - b ∧ v = .int r t) := by
  walk_at "tell"
  k_steps
  all_goals exact ⟨_, _, rfl, rfl⟩
end
section
theorem lnF1b_0 : True := by k_with_none; exact trivial
theorem lnF1bp_1 : True := by
  (k_with "m:tell" => (
  unfold Tell
  k_fill
  intro mean9 mg9 mb9 gd9 cn9 cs9 a9 ccd9 cl9 outer9 A9 base9 h9 L9 m9 news9 s9 Q9 E9 B F X N T hk hsub hret
  refine wpAny_call ?_
  k_dflt (refine' enterS ?k1q ?k2q ?k3q ?k4q ?k5q hsub ?kAq ?kFq ?kKq ?k6q ?k7q ?k8q ?k9q ?kBq ?_ ?c5q ?c2q ?c3q ?c4q; (case kAq => exact rfl); (case kFq => exact rfl); (case kKq => assumption); (case k1q => k_asm); (case k2q => k_asm); (case k3q => k_asm); (case k4q => k_asm); (case k5q => k_asm); (case k6q => k_is); (case k7q => k_is); (case k8q => k_room); (case k9q => exact BindsTo.of_eq rfl); (case c5q => decide); (case kBq => exact locs rfl); (case c2q => exact rfl); (case c3q => exact rfl); (case c4q => exact rfl); k_whole)
  intro g' L' h' FG' F' N' B' X' T'
  (try dsimp only)
  (simp only [zipS, List.reverse_cons, List.reverse_nil, List.nil_append, List.cons_append] at F')
  clear B F X N T FG'
  k_fold))
  (k_with "m:sub" => first | exact List.forall_mem_nil _ | (refine List.forall_mem_cons.mpr ⟨by k_mem, ?_⟩; walk_at "sub"))
  (k_with "m:apart" => first | exact List.forall_mem_nil _ | (refine List.forall_mem_cons.mpr ⟨by k_ne, ?_⟩; walk_at "apart"))
  (k_with "m:leave0" => (k_dflt (refine' LeaveS.intro [] ?k1q ?k2q ?k3q (List.forall_mem_nil _) (List.forall_mem_nil _) ?_; (case k1q => k_asm); (case k2q => k_asm); (case k3q => walk_at "sub"); k_whole); intro kF kN kA; (with_reducible rename (∀ (_ : Value) (_ : List (Addr × Obj)) (_ : Heap) (_ : Nat), Fr _ _ _ _ → _) => hret); refine hret _ [] _ _ kF kN kA ⟨rfl, Done.intro ?_⟩; clear kF kN kA hret))
  (k_with "m:leave1" => (k_dflt (refine' LeaveS.intro1 ?k1q ?k2q ?k3q ?k4q ?k5q ?_; (case k1q => k_asm); (case k2q => k_asm); (case k3q => walk_at "sub"); (case k4q => k_mem); (case k5q => walk_at "apart"); k_whole); intro kF kN kA; (with_reducible rename (∀ (_ : Value) (_ : List (Addr × Obj)) (_ : Heap) (_ : Nat), Fr _ _ _ _ → _) => hret); refine hret _ [_] _ _ kF kN kA (Done.intro ?_); clear kF kN kA hret))
  (k_with "m:leave" => walk_at "leave0")
  (k_with "m:LeaveS" => ((try dsimp only); walk_at "leave"))
  (k_with "m:use0" => ((case k1q => k_asm); (case k2q => k_asm); (case k3q => k_asm); (case k4q => k_asm); (case k5q => k_asm); (case kKq => first | exact rfl | assumption); (case ksq => walk_at "sub"); (case kdq => k_room); (case kuq => k_room); k_whole))
  (k_with "m:gotInt" => (intro r9 h9 tk9 F9 N9 hR9; obtain ⟨v9, t9, hv9, e9⟩ := hR9; subst e9; (try k_sweep); (try dsimp only)))
  (k_with "m:gotBool" => (intro r9 h9 tk9 F9 N9 hR9; obtain ⟨v9, hv9, e9⟩ := hR9; subst e9; (try k_sweep); (try dsimp only)))
  (k_with "m:item" => (k_here; k_dflt (refine' item_fast ?Nq ?mq ?aq ?bq ?xq ?_ ?yq; (case Nq => k_asm); (case mq => k_mem); (case aq => decide); (case bq => decide); (case xq => exact rfl); (case yq => with_unfolding_all rfl); k_whole)))
  (k_with "m:subscriptTail Name BinOp ref int" => walk_at "item")
  (k_with "m:subscriptTail Name Name ref int" => walk_at "item")
  (k_with "m:subscriptTail Name Constant ref int" => walk_at "item")
  (k_with "m:eval Name" => (k_here; k_dflt (refine' nameX_L ?Fq ?vq ?_ ?aq ?bq; (case bq => rfl); (case Fq => k_asm); (case aq => rfl); (case vq => rfl); k_whole)))
  (k_with "m:subscriptTail Name Slice str ref" => (k_here; (with_reducible rename Fr _ _ _ _ => F'); (with_reducible rename News _ _ _ _ => N'); (first | ((with_reducible show wpAny _ _ (subscriptTail _ (PySem.Expr.Slice none none none _) _ _) _ _ _); refine slice_strN_nn (hsz := ?hszq) (s := ⟨_, _, _, _, _⟩) F' N' ?_) | ((with_reducible show wpAny _ _ (subscriptTail _ (PySem.Expr.Slice none (some _) none _) _ _) _ _ _); refine slice_strN_ns (hsz := ?hszq) (s := ⟨_, _, _, _, _⟩) F' N' ?_) | ((with_reducible show wpAny _ _ (subscriptTail _ (PySem.Expr.Slice (some _) none none _) _ _) _ _ _); refine slice_strN_sn (hsz := ?hszq) (s := ⟨_, _, _, _, _⟩) F' N' ?_) | ((with_reducible show wpAny _ _ (subscriptTail _ (PySem.Expr.Slice (some _) (some _) none _) _ _) _ _ _); refine slice_strN_ss (hsz := ?hszq) (s := ⟨_, _, _, _, _⟩) F' N' ?_)); (case hszq => exact Short.fits (by assumption)); intro _ _ _ _ _))
  (k_with "m:execs cons" => (dsimp only; walk_at "execs cons"))
  exact trivial
theorem lnF1bF1a_1 : True := by
  (k_with "m:call ref" => (k_here; (with_reducible show wpAny _ _ (call (Value.ref 21) [Value.int _ _, Value.int _ _]) _ _ _); k_dflt (refine' TellUse0 (mul_tell _ _ _ _ _ ?okq) ?k1q ?k2q ?k3q ?k4q ?k5q ?kKq ?ksq ?kdq ?kuq ?_; (case okq => exact IntMulOk.of_left (by assumption)); walk_at "use0"); walk_at "gotInt"))
  (k_with "m:call ref" => (k_here; (with_reducible show wpAny _ _ (call (Value.ref 28) [Value.int _ _, Value.int _ _]) _ _ _); k_dflt (refine' TellUse0 (sub_tell _ _ _ _ _) ?k1q ?k2q ?k3q ?k4q ?k5q ?kKq ?ksq ?kdq ?kuq ?_; walk_at "use0"); walk_at "gotInt"))
  exact trivial
theorem lnF1b_1 : True := by
  (k_with "m:leave" => walk_at "leave1")
  exact trivial
open Builtin.Int in
theorem row_tell (w : World) (lw ll : Addr) (nw nl : Nat) (x0 x1 x2 x3 x4 l0 l1 l2 l3 : Int) (a0 a1 a2 a3 a4 b0 b1 b2 b3 : Tok) (more : List Value)
   (h0 : intBits x0 ≤ 64) (h1 : intBits x1 ≤ 64) (h2 : intBits x2 ≤ 64) (h3 : intBits x3 ≤ 64) (h4 : intBits x4 ≤ 64) (k0 : intBits l0 ≤ 64) (k1 : intBits l1 ≤ 64) (k2 : intBits l2 ≤ 64) (k3 : intBits l3 ≤ 64) :
    Tell 310 w 103 [.ref lw, .ref ll] [(lw, listOf #[.int x0 a0, .int x1 a1, .int x2 a2, .int x3 a3, .int x4 a4] nw), (ll, listOf (Value.int l0 b0 :: Value.int l1 b1 :: Value.int l2 b2 :: Value.int l3 b3 :: more).toArray nl)]
      (fun tl v => ∃ (l : Addr) (n : Nat) (p2 p3 p4 p5 : Int) (t0 t1 t2 t3 t4 t5 : Tok), p2 = x1 * x0 - l0 * 1 ∧ p3 = x2 * p2 - l1 * x0 ∧ p4 = x3 * p3 - l2 * p2 ∧ p5 = x4 * p4 - l3 * p3 ∧
        tl = [(l, listOf #[.int 1 t0, .int x0 t1, .int p2 t2, .int p3 t3, .int p4 t4, .int p5 t5] n)] ∧ v = .ref l) := by
  walk_at "tell"
  k_steps
  all_goals exact ⟨_, _, _, _, _, _, _, _, _, _, _, _, by subst_vars; rfl, by subst_vars; rfl, by subst_vars; rfl, by subst_vars; rfl, rfl, rfl⟩
end
section
theorem lnF1c_0 : True := by k_with_none; exact trivial
theorem lnF1cp_1 : True := by
  (k_with "m:tell" => (
  unfold Tell
  k_fill
  intro mean9 mg9 mb9 gd9 cn9 cs9 a9 ccd9 cl9 outer9 A9 base9 h9 L9 m9 news9 s9 Q9 E9 B F X N T hk hsub hret
  refine wpAny_call ?_
  k_dflt (refine' enterS ?k1q ?k2q ?k3q ?k4q ?k5q hsub ?kAq ?kFq ?kKq ?k6q ?k7q ?k8q ?k9q ?kBq ?_ ?c5q ?c2q ?c3q ?c4q; (case kAq => exact rfl); (case kFq => exact rfl); (case kKq => assumption); (case k1q => k_asm); (case k2q => k_asm); (case k3q => k_asm); (case k4q => k_asm); (case k5q => k_asm); (case k6q => k_is); (case k7q => k_is); (case k8q => k_room); (case k9q => exact BindsTo.of_eq rfl); (case c5q => decide); (case kBq => exact locs rfl); (case c2q => exact rfl); (case c3q => exact rfl); (case c4q => exact rfl); k_whole)
  intro g' L' h' FG' F' N' B' X' T'
  (try dsimp only)
  (simp only [zipS, List.reverse_cons, List.reverse_nil, List.nil_append, List.cons_append] at F')
  clear B F X N T FG'
  k_fold))
  (k_with "m:sub" => first | exact List.forall_mem_nil _ | (refine List.forall_mem_cons.mpr ⟨by k_mem, ?_⟩; walk_at "sub"))
  (k_with "m:apart" => first | exact List.forall_mem_nil _ | (refine List.forall_mem_cons.mpr ⟨by k_ne, ?_⟩; walk_at "apart"))
  (k_with "m:leave0" => (k_dflt (refine' LeaveS.intro [] ?k1q ?k2q ?k3q (List.forall_mem_nil _) (List.forall_mem_nil _) ?_; (case k1q => k_asm); (case k2q => k_asm); (case k3q => walk_at "sub"); k_whole); intro kF kN kA; (with_reducible rename (∀ (_ : Value) (_ : List (Addr × Obj)) (_ : Heap) (_ : Nat), Fr _ _ _ _ → _) => hret); refine hret _ [] _ _ kF kN kA ⟨rfl, Done.intro ?_⟩; clear kF kN kA hret))
  (k_with "m:leave1" => (k_dflt (refine' LeaveS.intro1 ?k1q ?k2q ?k3q ?k4q ?k5q ?_; (case k1q => k_asm); (case k2q => k_asm); (case k3q => walk_at "sub"); (case k4q => k_mem); (case k5q => walk_at "apart"); k_whole); intro kF kN kA; (with_reducible rename (∀ (_ : Value) (_ : List (Addr × Obj)) (_ : Heap) (_ : Nat), Fr _ _ _ _ → _) => hret); refine hret _ [_] _ _ kF kN kA (Done.intro ?_); clear kF kN kA hret))
  (k_with "m:leave" => walk_at "leave0")
  (k_with "m:LeaveS" => ((try dsimp only); walk_at "leave"))
  (k_with "m:use0" => ((case k1q => k_asm); (case k2q => k_asm); (case k3q => k_asm); (case k4q => k_asm); (case k5q => k_asm); (case kKq => first | exact rfl | assumption); (case ksq => walk_at "sub"); (case kdq => k_room); (case kuq => k_room); k_whole))
  (k_with "m:gotInt" => (intro r9 h9 tk9 F9 N9 hR9; obtain ⟨v9, t9, hv9, e9⟩ := hR9; subst e9; (try k_sweep); (try dsimp only)))
  (k_with "m:gotBool" => (intro r9 h9 tk9 F9 N9 hR9; obtain ⟨v9, hv9, e9⟩ := hR9; subst e9; (try k_sweep); (try dsimp only)))
  (k_with "m:item" => (k_here; k_dflt (refine' item_fast ?Nq ?mq ?aq ?bq ?xq ?_ ?yq; (case Nq => k_asm); (case mq => k_mem); (case aq => decide); (case bq => decide); (case xq => exact rfl); (case yq => with_unfolding_all rfl); k_whole)))
  (k_with "m:subscriptTail Name BinOp ref int" => walk_at "item")
  (k_with "m:subscriptTail Name Name ref int" => walk_at "item")
  (k_with "m:subscriptTail Name Constant ref int" => walk_at "item")
  (k_with "m:eval Name" => (k_here; k_dflt (refine' nameX_L ?Fq ?vq ?_ ?aq ?bq; (case bq => rfl); (case Fq => k_asm); (case aq => rfl); (case vq => rfl); k_whole)))
  (k_with "m:subscriptTail Name Slice str ref" => (k_here; (with_reducible rename Fr _ _ _ _ => F'); (with_reducible rename News _ _ _ _ => N'); (first | ((with_reducible show wpAny _ _ (subscriptTail _ (PySem.Expr.Slice none none none _) _ _) _ _ _); refine slice_strN_nn (hsz := ?hszq) (s := ⟨_, _, _, _, _⟩) F' N' ?_) | ((with_reducible show wpAny _ _ (subscriptTail _ (PySem.Expr.Slice none (some _) none _) _ _) _ _ _); refine slice_strN_ns (hsz := ?hszq) (s := ⟨_, _, _, _, _⟩) F' N' ?_) | ((with_reducible show wpAny _ _ (subscriptTail _ (PySem.Expr.Slice (some _) none none _) _ _) _ _ _); refine slice_strN_sn (hsz := ?hszq) (s := ⟨_, _, _, _, _⟩) F' N' ?_) | ((with_reducible show wpAny _ _ (subscriptTail _ (PySem.Expr.Slice (some _) (some _) none _) _ _) _ _ _); refine slice_strN_ss (hsz := ?hszq) (s := ⟨_, _, _, _, _⟩) F' N' ?_)); (case hszq => exact Short.fits (by assumption)); intro _ _ _ _ _))
  (k_with "m:execs cons" => (dsimp only; walk_at "execs cons"))
  exact trivial
theorem lnF1cF1a_1 : True := by
  (k_with "m:call ref" => (k_here; (with_reducible show wpAny _ _ (call (Value.ref 21) [Value.int _ _, Value.int _ _]) _ _ _); k_dflt (refine' TellUse0 (mul_tell _ _ _ _ _ ?okq) ?k1q ?k2q ?k3q ?k4q ?k5q ?kKq ?ksq ?kdq ?kuq ?_; (case okq => exact IntMulOk.of_left (by assumption)); walk_at "use0"); walk_at "gotInt"))
  (k_with "m:call ref" => (k_here; (with_reducible show wpAny _ _ (call (Value.ref 28) [Value.int _ _, Value.int _ _]) _ _ _); k_dflt (refine' TellUse0 (sub_tell _ _ _ _ _) ?k1q ?k2q ?k3q ?k4q ?k5q ?kKq ?ksq ?kdq ?kuq ?_; walk_at "use0"); walk_at "gotInt"))
  exact trivial
noncomputable def zipOf : List ((Int × Tok) × (Int × Tok)) → List Itm
  | [] => []
  | p :: r => Itm.pair (fun _ => Value.int p.1.1 p.1.2) (Value.int p.2.1 p.2.2) :: zipOf r
/-- a loop over the pairs of two lists of ints, turn by turn -/
theorem zip_ind {prog : Program} {w : World} {A : Around} {E : Value → Shared → Prop} {h₀ : Heap} {env : Env} {target : PySem.Expr} {body : List Stmt} {Q : Flow → Shared → Prop} {s : Shared} {ws : List (Addr × String)} {keep : Led} (J : List ((Int × Tok) × (Int × Tok)) → (PySem.Str → Option Value) → Led → Prop)
    (turn : ∀ (x : Int) (a : Tok) (l : Int) (b : Tok) r T h tk m news, IsTup h T #[.int x a, .int l b] → J (((x, a), (l, b)) :: r) m news → Fr h₀ env.locals h m → AllObj ws (fun its => News h₀ env.locals h (its ++ news) →
      wpAny (model prog w) A (assign target env (.ref T)) (fun _ s₂ => wpAny (model prog w) A (execs body env) (UnrPostW h₀ env.locals { s with heap := h, toks := tk } its (fun m' n' => SubL keep n' ∧ J r m' n') Q) E s₂) E { s with heap := h, toks := tk }))
    (done : ∀ m news h tk, J [] m news → Fr h₀ env.locals h m → News h₀ env.locals h news → Q .next { s with heap := h, toks := tk }) :
    ∀ r m news, J r m news → ItemsRest prog w A E h₀ env target body Q s ws keep (zipOf r) m news
  | [], m, news, hj => ItemsRest.zero fun h tk F N => done m news h tk hj F N
  | ((x, a), (l, b)) :: r, m, news, hj => by
    refine ItemsRest.pair fun T tI h tk ht F => ?_
    refine allObj_mono (fun its k N => ?_) (turn x a l b r T h tk m news ht hj F)
    refine wpAny_mono (k N) (fun _ s₂ h₂ => wpAny_mono h₂ (fun f s₃ h₃ => unr_mono (fun m' n' q => ⟨q.1, zip_ind J turn done r m' n' q.2⟩) h₃) fun _ _ e => e) fun _ _ e => e
noncomputable def turnC (h : Int) (cg : Int × Int) : Int × Int := (if h * cg.2 < 0 then cg.1 + 1 else cg.1, if h * cg.2 < 0 then -cg.2 else cg.2)
noncomputable def plainC (y1 y2 y3 y4 y5 : Int) : Int := (turnC y5 (turnC y4 (turnC y3 (turnC y2 (turnC y1 (0, 1)))))).1
noncomputable abbrev tupOf (its : Array Value) : Obj := { cls := .type "tuple", data := .seq its }
noncomputable def keyF (p : (Int × Tok) × (Int × Tok)) : Int × Int := (p.1.1, p.2.1)
noncomputable def planF : Int → Int → Int → Int → List (Int × Int) → Int × Int
  | _, hr, c, _, [] => (c, hr)
  | ah, hr, c, g, p :: r => if (p.1 * hr - p.2 * ah) * g < 0 then planF hr (p.1 * hr - p.2 * ah) (c + 1) (-g) r else planF hr (p.1 * hr - p.2 * ah) c g r
theorem planF_turn (ah hr c g : Int) (p : Int × Int) (r : List (Int × Int)) : planF ah hr c g (p :: r) = planF hr (p.1 * hr - p.2 * ah) (turnC (p.1 * hr - p.2 * ah) (c, g)).1 (turnC (p.1 * hr - p.2 * ah) (c, g)).2 r := by
  show (if _ then _ else _) = _
  unfold turnC
  split <;> simp [*]
theorem planF_five (x0 x1 x2 x3 x4 l0 l1 l2 l3 y1 y2 y3 y4 y5 : Int) (e1 : y1 = x0 * 1 - 0 * 0) (e2 : y2 = x1 * y1 - l0 * 1) (e3 : y3 = x2 * y2 - l1 * y1) (e4 : y4 = x3 * y3 - l2 * y2) (e5 : y5 = x4 * y4 - l3 * y3) :
    planF 0 1 0 1 [(x0, 0), (x1, l0), (x2, l1), (x3, l2), (x4, l3)] = (plainC y1 y2 y3 y4 y5, y5) := by
  rw [planF_turn, planF_turn, planF_turn, planF_turn, planF_turn]
  dsimp only
  rw [← e1, ← e2, ← e3, ← e4, ← e5]
  rfl
open Builtin.Int in
theorem intBits_neg (x : Int) : intBits (-x) = intBits x := by
  unfold intBits
  rw [Int.natAbs_neg]
  by_cases h : x = 0
  · subst h; rfl
  · have h' : ¬ (-x = 0) := by omega
    rw [if_neg (by simpa using h'), if_neg (by simpa using h)]
open Builtin.Int in
noncomputable def Fit (p : (Int × Tok) × (Int × Tok)) : Prop := intBits p.1.1 ≤ 64 ∧ intBits p.2.1 ≤ 64
open Builtin.Int in
noncomputable def PlJ (m₀ : PySem.Str → Option Value) (news₀ : Led) (C Y : Int) (r : List ((Int × Tok) × (Int × Tok))) (m : PySem.Str → Option Value) (news : Led) : Prop :=
  ∃ (ah hr c g : Int) (ta th tc tg : Tok) (o1 o2 : Option Value), (∀ z : PySem.Str, m z = if z = "ahead" then some (.int ah ta) else if z = "here" then some (.int hr th) else if z = "changes" then some (.int c tc) else if z = "sign" then some (.int g tg) else if z = "weight" then o1 else if z = "link" then o2 else m₀ z) ∧
    (∀ p ∈ news₀, p ∈ news) ∧ planF ah hr c g (r.map keyF) = (C, Y) ∧ intBits g ≤ 64 ∧ ∀ p ∈ r, Fit p
open Builtin.Int in
theorem PlJ.of {m₀ m : PySem.Str → Option Value} {news₀ news : Led} {C Y ah hr c g : Int} {ta th tc tg : Tok} {r : List ((Int × Tok) × (Int × Tok))} (e1 : m "ahead" = some (.int ah ta)) (e2 : m "here" = some (.int hr th)) (e3 : m "changes" = some (.int c tc)) (e4 : m "sign" = some (.int g tg))
    (h : ∀ z : PySem.Str, z ≠ "ahead" → z ≠ "here" → z ≠ "changes" → z ≠ "sign" → z ≠ "weight" → z ≠ "link" → m z = m₀ z) (e : planF ah hr c g (r.map keyF) = (C, Y)) (hg : intBits g ≤ 64) (hr' : ∀ p ∈ r, Fit p) (hs : ∀ p ∈ news₀, p ∈ news) : PlJ m₀ news₀ C Y r m news :=
  ⟨ah, hr, c, g, ta, th, tc, tg, m "weight", m "link", fun z => by
    by_cases h1 : z = "ahead"
    · rw [if_pos h1, h1, e1]
    rw [if_neg h1]
    by_cases h2 : z = "here"
    · rw [if_pos h2, h2, e2]
    rw [if_neg h2]
    by_cases h3 : z = "changes"
    · rw [if_pos h3, h3, e3]
    rw [if_neg h3]
    by_cases h4 : z = "sign"
    · rw [if_pos h4, h4, e4]
    rw [if_neg h4]
    by_cases h5 : z = "weight"
    · rw [if_pos h5, h5]
    rw [if_neg h5]
    by_cases h6 : z = "link"
    · rw [if_pos h6, h6]
    rw [if_neg h6]
    exact h z h1 h2 h3 h4 h5 h6, hs, e, hg, hr'⟩
theorem zip_plan {prog : Program} {w : World} {A : Around} {E : Value → Shared → Prop} {h₀ : Heap} {env : Env} {target : PySem.Expr} {body : List Stmt} {Q : Flow → Shared → Prop} {s : Shared} {ws : List (Addr × String)} {keep : Led} (e : Addr × Obj) (m₀ : PySem.Str → Option Value) (C Y : Int)
    (turn : ∀ (x : Int) (a : Tok) (l : Int) (b : Tok) r T h tk m news, IsTup h T #[.int x a, .int l b] → PlJ m₀ (e :: keep) C Y (((x, a), (l, b)) :: r) m news → Fr h₀ env.locals h m → AllObj ws (fun its => News h₀ env.locals h (its ++ news) →
      wpAny (model prog w) A (assign target env (.ref T)) (fun _ s₂ => wpAny (model prog w) A (execs body env) (UnrPostW h₀ env.locals { s with heap := h, toks := tk } its (fun m' n' => SubL keep n' ∧ PlJ m₀ (e :: keep) C Y r m' n') Q) E s₂) E { s with heap := h, toks := tk }))
    (done : ∀ m news h tk, PlJ m₀ (e :: keep) C Y [] m news → Fr h₀ env.locals h m → News h₀ env.locals h news → Q .next { s with heap := h, toks := tk }) :
    ∀ r m news, PlJ m₀ (e :: keep) C Y r m news → ItemsRest prog w A E h₀ env target body Q s ws keep (zipOf r) m news := zip_ind (PlJ m₀ (e :: keep) C Y) turn done
theorem plan_pos {ah hr c g x l C Y : Int} {r : List (Int × Int)} (h : planF ah hr c g ((x, l) :: r) = (C, Y)) (q : (x * hr - l * ah) * g < 0) : planF hr (x * hr - l * ah) (c + 1) (-g) r = (C, Y) := by
  rw [← h]; exact (if_pos q).symm
theorem plan_neg {ah hr c g x l C Y : Int} {r : List (Int × Int)} (h : planF ah hr c g ((x, l) :: r) = (C, Y)) (q : ¬ (x * hr - l * ah) * g < 0) : planF hr (x * hr - l * ah) c g r = (C, Y) := by
  rw [← h]; exact (if_neg q).symm
theorem lnF1c_1 : True := by
  (k_with "m:exec For Tuple Call cons nil" => (k_here; (rename Fr _ _ _ _ => lF'); (with_unfolding_all refine' For_turns lF' ?_; k_whole)))
  (k_with "m:leave" => walk_at "leave1")
  exact trivial
noncomputable def StopZ (P : Prop) : Prop := P
theorem StopZ.out {P : Prop} (h : StopZ P) : P := h
theorem lnF1c_2 : True := by
  (k_with "m:ItemsRest" => refine StopZ.out ?_)
  exact trivial
open Builtin.Int in
theorem plain_tell (w : World) (lw ll : Addr) (nw nl : Nat) (x0 x1 x2 x3 x4 l0 l1 l2 l3 : Int) (a0 a1 a2 a3 a4 b0 b1 b2 b3 : Tok)
   (h0 : intBits x0 ≤ 64) (h1 : intBits x1 ≤ 64) (h2 : intBits x2 ≤ 64) (h3 : intBits x3 ≤ 64) (h4 : intBits x4 ≤ 64) (k0 : intBits l0 ≤ 64) (k1 : intBits l1 ≤ 64) (k2 : intBits l2 ≤ 64) (k3 : intBits l3 ≤ 64) :
    Tell 310 w 110 [.ref lw, .ref ll] [(lw, listOf #[.int x0 a0, .int x1 a1, .int x2 a2, .int x3 a3, .int x4 a4] nw), (ll, listOf #[.int l0 b0, .int l1 b1, .int l2 b2, .int l3 b3] nl)]
      (fun tl v => ∃ (D : Addr) (y1 y2 y3 y4 y5 c : Int) (tc te : Tok), y1 = x0 * 1 - 0 * 0 ∧ y2 = x1 * y1 - l0 * 1 ∧ y3 = x2 * y2 - l1 * y1 ∧ y4 = x3 * y3 - l2 * y2 ∧ y5 = x4 * y4 - l3 * y3 ∧
        c = plainC y1 y2 y3 y4 y5 ∧ tl = [(D, tupOf #[.int c tc, .int y5 te])] ∧ v = .ref D) := by
  walk_at "tell"
  k_steps
  unfold StopZ
  (try dsimp only)
  refine zip_plan (ll, listOf #[.int l0 b0, .int l1 b1, .int l2 b2, .int l3 b3] nl) (fun z => List.lookup z [(("links" : PySem.Str), Value.ref ll), ("weights", Value.ref lw)]) (planF 0 1 0 1 [(x0, 0), (x1, l0), (x2, l1), (x3, l2), (x4, l3)]).1 (planF 0 1 0 1 [(x0, 0), (x1, l0), (x2, l1), (x3, l2), (x4, l3)]).2 ?_ ?_ [((x0, a0), (0, _)), ((x1, a1), (l0, b0)), ((x2, a2), (l1, b1)), ((x3, a3), (l2, b2)), ((x4, a4), (l3, b3))] _ _ (PlJ.of rfl rfl rfl rfl ?_ rfl (by decide) ?_ ?_)
  · intro x9 a9 l9 b9 r9 T9 h9 tk9 m9 news9 hT9 hj9 F9
    obtain ⟨ah, hr, c, g, ta, th, tc, tg, o1, o2, hm, hs9, hp, hg, hr9⟩ := hj9
    obtain rfl : m9 = _ := funext hm
    obtain ⟨hx9, hl9⟩ := hr9 _ (.head _)
    replace hr9 := fun p hp => hr9 p (.tail _ hp)
    dsimp only at hx9 hl9
    refine AllObj.cons fun o1 g1 => AllObj.cons fun o2 g2 => AllObj.cons fun o3 g3 => AllObj.cons fun o4 g4 => AllObj.cons fun o5 g5 => AllObj.nil fun N9 => ?_
    replace N9 := news_in N9 hs9
    clear hs9
    (simp only [List.cons_append, List.nil_append] at N9)
    k_steps
    · refine PlJ.of rfl rfl rfl rfl ?_ (plan_pos hp (by assumption)) (by rw [intBits_neg]; exact hg) hr9 (by walk_at "sub")
      intro z z1 z2 z3 z4 z5 z6
      simp only [if_neg z1, if_neg z2, if_neg z3, if_neg z4, if_neg z5, if_neg z6]
    · refine PlJ.of rfl rfl rfl rfl ?_ (plan_neg hp (by assumption)) hg hr9 (by walk_at "sub")
      intro z z1 z2 z3 z4 z5 z6
      simp only [if_neg z1, if_neg z2, if_neg z3, if_neg z4, if_neg z5, if_neg z6]
  · intro m9 news9 h9 tk9 hj9 F9 N9
    obtain ⟨ah, hr, c, g, ta, th, tc, tg, o1, o2, hm, hs9, hp, hg, hr9⟩ := hj9
    replace N9 := news_in (its := []) N9 hs9
    (simp only [List.nil_append] at N9)
    obtain rfl : m9 = _ := funext hm
    (try dsimp only)
    k_steps
    unfold Done
    have q := planF_five x0 x1 x2 x3 x4 l0 l1 l2 l3 _ _ _ _ _ rfl rfl rfl rfl rfl
    rw [q] at hp
    have q1 : c = _ := congrArg Prod.fst hp
    have q2 : hr = _ := congrArg Prod.snd hp
    exact ⟨_, _, _, _, _, _, _, _, _, rfl, rfl, rfl, rfl, q2, by rw [q2]; exact q1, rfl, rfl⟩
  · intro z z1 z2 z3 z4 z5 z6
    simp only [if_neg z1, if_neg z2, if_neg z3, if_neg z4]
  · have i0 : intBits 0 ≤ 64 := by decide
    exact List.forall_mem_cons.mpr ⟨⟨h0, i0⟩, List.forall_mem_cons.mpr ⟨⟨h1, k0⟩, List.forall_mem_cons.mpr ⟨⟨h2, k1⟩, List.forall_mem_cons.mpr ⟨⟨h3, k2⟩, List.forall_mem_cons.mpr ⟨⟨h4, k3⟩, List.forall_mem_nil _⟩⟩⟩⟩⟩
  · walk_at "sub"
end
section
theorem lnF2_0 : True := by k_with_none; exact trivial
theorem lnF2p_1 : True := by
  (k_with "m:tell" => (
  unfold Tell
  k_fill
  intro mean9 mg9 mb9 gd9 cn9 cs9 a9 ccd9 cl9 outer9 A9 base9 h9 L9 m9 news9 s9 Q9 E9 B F X N T hk hsub hret
  refine wpAny_call ?_
  k_dflt (refine' enterS ?k1q ?k2q ?k3q ?k4q ?k5q hsub ?kAq ?kFq ?kKq ?k6q ?k7q ?k8q ?k9q ?kBq ?_ ?c5q ?c2q ?c3q ?c4q; (case kAq => exact rfl); (case kFq => exact rfl); (case kKq => assumption); (case k1q => k_asm); (case k2q => k_asm); (case k3q => k_asm); (case k4q => k_asm); (case k5q => k_asm); (case k6q => k_is); (case k7q => k_is); (case k8q => k_room); (case k9q => exact BindsTo.of_eq rfl); (case c5q => decide); (case kBq => exact locs rfl); (case c2q => exact rfl); (case c3q => exact rfl); (case c4q => exact rfl); k_whole)
  intro g' L' h' FG' F' N' B' X' T'
  (try dsimp only)
  (simp only [zipS, List.reverse_cons, List.reverse_nil, List.nil_append, List.cons_append] at F')
  clear B F X N T FG'
  k_fold))
  (k_with "m:sub" => first | exact List.forall_mem_nil _ | (refine List.forall_mem_cons.mpr ⟨by k_mem, ?_⟩; walk_at "sub"))
  (k_with "m:apart" => first | exact List.forall_mem_nil _ | (refine List.forall_mem_cons.mpr ⟨by k_ne, ?_⟩; walk_at "apart"))
  (k_with "m:leave0" => (k_dflt (refine' LeaveS.intro [] ?k1q ?k2q ?k3q (List.forall_mem_nil _) (List.forall_mem_nil _) ?_; (case k1q => k_asm); (case k2q => k_asm); (case k3q => walk_at "sub"); k_whole); intro kF kN kA; (with_reducible rename (∀ (_ : Value) (_ : List (Addr × Obj)) (_ : Heap) (_ : Nat), Fr _ _ _ _ → _) => hret); refine hret _ [] _ _ kF kN kA ⟨rfl, Done.intro ?_⟩; clear kF kN kA hret))
  (k_with "m:leave1" => (k_dflt (refine' LeaveS.intro1 ?k1q ?k2q ?k3q ?k4q ?k5q ?_; (case k1q => k_asm); (case k2q => k_asm); (case k3q => walk_at "sub"); (case k4q => k_mem); (case k5q => walk_at "apart"); k_whole); intro kF kN kA; (with_reducible rename (∀ (_ : Value) (_ : List (Addr × Obj)) (_ : Heap) (_ : Nat), Fr _ _ _ _ → _) => hret); refine hret _ [_] _ _ kF kN kA (Done.intro ?_); clear kF kN kA hret))
  (k_with "m:leave" => walk_at "leave0")
  (k_with "m:LeaveS" => ((try dsimp only); walk_at "leave"))
  (k_with "m:use0" => ((case k1q => k_asm); (case k2q => k_asm); (case k3q => k_asm); (case k4q => k_asm); (case k5q => k_asm); (case kKq => first | exact rfl | assumption); (case ksq => walk_at "sub"); (case kdq => k_room); (case kuq => k_room); k_whole))
  (k_with "m:gotInt" => (intro r9 h9 tk9 F9 N9 hR9; obtain ⟨v9, t9, hv9, e9⟩ := hR9; subst e9; (try k_sweep); (try dsimp only)))
  (k_with "m:gotBool" => (intro r9 h9 tk9 F9 N9 hR9; obtain ⟨v9, hv9, e9⟩ := hR9; subst e9; (try k_sweep); (try dsimp only)))
  (k_with "m:item" => (k_here; k_dflt (refine' item_fast ?Nq ?mq ?aq ?bq ?xq ?_ ?yq; (case Nq => k_asm); (case mq => k_mem); (case aq => decide); (case bq => decide); (case xq => exact rfl); (case yq => with_unfolding_all rfl); k_whole)))
  (k_with "m:subscriptTail Name BinOp ref int" => walk_at "item")
  (k_with "m:subscriptTail Name Name ref int" => walk_at "item")
  (k_with "m:subscriptTail Name Constant ref int" => walk_at "item")
  (k_with "m:eval Name" => (k_here; k_dflt (refine' nameX_L ?Fq ?vq ?_ ?aq ?bq; (case bq => rfl); (case Fq => k_asm); (case aq => rfl); (case vq => rfl); k_whole)))
  (k_with "m:subscriptTail Name Slice str ref" => (k_here; (with_reducible rename Fr _ _ _ _ => F'); (with_reducible rename News _ _ _ _ => N'); (first | ((with_reducible show wpAny _ _ (subscriptTail _ (PySem.Expr.Slice none none none _) _ _) _ _ _); refine slice_strN_nn (hsz := ?hszq) (s := ⟨_, _, _, _, _⟩) F' N' ?_) | ((with_reducible show wpAny _ _ (subscriptTail _ (PySem.Expr.Slice none (some _) none _) _ _) _ _ _); refine slice_strN_ns (hsz := ?hszq) (s := ⟨_, _, _, _, _⟩) F' N' ?_) | ((with_reducible show wpAny _ _ (subscriptTail _ (PySem.Expr.Slice (some _) none none _) _ _) _ _ _); refine slice_strN_sn (hsz := ?hszq) (s := ⟨_, _, _, _, _⟩) F' N' ?_) | ((with_reducible show wpAny _ _ (subscriptTail _ (PySem.Expr.Slice (some _) (some _) none _) _ _) _ _ _); refine slice_strN_ss (hsz := ?hszq) (s := ⟨_, _, _, _, _⟩) F' N' ?_)); (case hszq => exact Short.fits (by assumption)); intro _ _ _ _ _))
  (k_with "m:execs cons" => (dsimp only; walk_at "execs cons"))
  exact trivial
theorem lnF2F1a_1 : True := by
  (k_with "m:call ref" => (k_here; (with_reducible show wpAny _ _ (call (Value.ref 21) [Value.int _ _, Value.int _ _]) _ _ _); k_dflt (refine' TellUse0 (mul_tell _ _ _ _ _ ?okq) ?k1q ?k2q ?k3q ?k4q ?k5q ?kKq ?ksq ?kdq ?kuq ?_; (case okq => exact IntMulOk.of_left (by assumption)); walk_at "use0"); walk_at "gotInt"))
  (k_with "m:call ref" => (k_here; (with_reducible show wpAny _ _ (call (Value.ref 28) [Value.int _ _, Value.int _ _]) _ _ _); k_dflt (refine' TellUse0 (sub_tell _ _ _ _ _) ?k1q ?k2q ?k3q ?k4q ?k5q ?kKq ?ksq ?kdq ?kuq ?_; walk_at "use0"); walk_at "gotInt"))
  exact trivial
open PySem.Builtin.Str in
noncomputable def find4 (x y : PySem.Str) (i j : Int) : Int := match occurrences x y (fromIndex x.length i) (min (fromIndex x.length j) x.length) 1 with | k :: _ => (k : Int) | [] => -1
open PySem.Builtin PySem.Builtin.Str in
theorem gives_find4 (x y : PySem.Str) (i j : Int) (t u v z : Tok) : Gives («str.find» ⟨[.str x t, .str y u, .int i v, .int j z], []⟩) (.int (find4 x y i j)) := by
  show Gives (match occurrences x y (fromIndex x.length i) (min (fromIndex x.length j) x.length) 1 with | k :: _ => retInt k | [] => (do rule "str.find.not-found"; retInt (-1))) _
  unfold find4
  cases occurrences x y (fromIndex x.length i) (min (fromIndex x.length j) x.length) 1 with
  | nil => exact .rule (.of_eq rfl)
  | cons k _ => exact .of_eq rfl
theorem call_find4 {prog : Program} {w : World} {A : Around} {E : Value → Shared → Prop} {s : Shared} {x y : PySem.Str} {t u v z : Tok} {i j : Int} {Q : Value → Shared → Prop}
    (hq : Q (.int (find4 x y i j) s.toks) { s with toks := s.toks + 1 }) : wpAny (model prog w) A (call (.builtin "str.find") [.str x t, .str y u, .int i v, .int j z]) Q E s :=
  call_gives F.slot_str_find (typeIs_str _ _ _) F.entry_str_find (F.args_str_find_4 _ _ _ _) (gives_find4 x y i j t u v z) hq
theorem lnF2_1 : True := by
  (k_with "m:call builtin:str.find" => (k_here; k_dflt (refine' call_find4 ?_; k_whole)))
  exact trivial
noncomputable def emLoop (got : PySem.Str) : List PySem.Str → Int → Int → Bool
  | [], _, _ => true
  | w :: ws, st, e => if find4 got w st e < 0 then false else emLoop got ws (find4 got w st e + w.length) e
noncomputable def emEnd (got : PySem.Str) (ws : List PySem.Str) (st e : Int) : Bool := if st > e then false else emLoop got ws st e
noncomputable def emTail (got w0 : PySem.Str) (vm : List PySem.Str) (wl : PySem.Str) (keep : Bool) (st : Int) : Bool :=
  if ((wl.length : Int) != 0) = true then (if Txt.endswith got wl = true then emEnd got (if keep then w0 :: vm else vm) st (got.length - wl.length) else false)
  else emEnd got (if keep then w0 :: (vm ++ [wl]) else vm ++ [wl]) st got.length
noncomputable def emW (got w0 : PySem.Str) (vm : List PySem.Str) (wl : PySem.Str) : Bool :=
  if ((w0.length : Int) != 0) = true then (if Txt.startswith got w0 = true then emTail got w0 vm wl false w0.length else false) else emTail got w0 vm wl true 0
noncomputable def emAt (got : PySem.Str) : List PySem.Str → Bool
  | [] => true
  | w0 :: r => emW got w0 r.dropLast (r.getLastD "")
theorem split_shape {l : List (PySem.Str × Tok)} (h : 2 ≤ l.length) : ∃ w0 t0 vm wl tl, l = (w0, t0) :: (vm ++ [(wl, tl)]) := by
  match l, h with
  | p :: r, h =>
    have hr : r ≠ [] := by intro e; subst e; simp at h
    exact ⟨p.1, p.2, r.dropLast, (r.getLast hr).1, (r.getLast hr).2, by rw [List.dropLast_concat_getLast hr]⟩
theorem emAt_shape (got w0 : PySem.Str) (vm : List PySem.Str) (wl : PySem.Str) : emAt got (w0 :: (vm ++ [wl])) = emW got w0 vm wl := by
  simp only [emAt, List.dropLast_concat, List.getLastD_concat]
noncomputable def em (want got : PySem.Str) : Bool := if (PySem.Builtin.Str.occurrences want "..." 0 want.length 1).isEmpty = true then want == got else emAt got (Txt.split want "...")
noncomputable def SplitOk (want : PySem.Str) : Prop := (PySem.Builtin.Str.occurrences want "..." 0 want.length 1).isEmpty = false → 2 ≤ (Txt.split want "...").length ∧ (Txt.split want "...").length ≤ 200
theorem em_in {want got : PySem.Str} (h : (PySem.Builtin.Str.occurrences want "..." 0 want.length 1).isEmpty = true) : (want == got) = em want got := by unfold em; rw [if_pos h]
theorem em_W {want got w0 wl : PySem.Str} {vm : List (PySem.Str × Tok)} (h : (PySem.Builtin.Str.occurrences want "..." 0 want.length 1).isEmpty = false) (e : Txt.split want "..." = w0 :: (vm.map (·.1) ++ [wl])) : em want got = emW got w0 (vm.map (·.1)) wl := by
  unfold em; rw [if_neg (by rw [h]; decide), e, emAt_shape]
theorem split_em {prog : Program} {w : World} {A : Around} {E : Value → Shared → Prop} {s : Shared} {h₀ : Heap} {L : Addr} {m : PySem.Str → Option Value} {news : Led} {x y : PySem.Str} {t u : Tok} {Q : Value → Shared → Prop}
    (F : Fr h₀ L s.heap m) (N : News h₀ L s.heap news) (hy : (y.length == 0) = false) (hx : Short x) (h2 : 2 ≤ (Txt.split x y).length ∧ (Txt.split x y).length ≤ 200)
    (h : ∀ (D : Addr) (w0 wl : PySem.Str) (t0 tl : Tok) (vm : List (PySem.Str × Tok)) h' k, Txt.split x y = w0 :: (vm.map (·.1) ++ [wl]) → Short w0 → Short wl → (∀ p ∈ vm, Short p.1) → vm.length ≤ 200 → Fr h₀ L h' m →
      News h₀ L h' ((D, listOf (Value.str w0 t0 :: (strValues vm ++ [Value.str wl tl])).toArray 0) :: news) → (∀ p ∈ news, p.1 < D) → Q (.ref D) { s with heap := h', toks := k }) :
    wpAny (model prog w) A (call (.builtin "str.split") [.str x t, .str y u]) Q E s := by
  refine splitN1A F N hy (fun l h' k e _ hl _ F' N' => ?_) (Nat.le_trans (Nat.add_le_add_right hx 2) (by decide))
  have hll : (Txt.split x y).length = l.length := by rw [← e, List.length_map]
  obtain ⟨w0, t0, vm, wl, tl, rfl⟩ := split_shape (l := l) (by omega)
  have a : ∀ q ∈ ((w0, t0) :: (vm ++ [(wl, tl)])), q.1.length ≤ 200 := fun q hq => Nat.le_trans (hl q.1 (List.mem_map_of_mem hq)) hx
  refine h _ w0 wl t0 tl vm h' k (by rw [← e]; simp) (a _ (.head _)) (a (wl, tl) (by simp)) (fun p hp => a p (by simp [hp])) (by simp at hll; omega) F' (by simpa [strValues] using N') (fun p hp => Heap.lt_size (N p hp).1)
theorem item_neg {prog : Program} {w : World} {A : Around} {E : Value → Shared → Prop} {s : Shared} {h₀ : Heap} {L : Addr} {news : Led} {value slice : PySem.Expr} {l : Addr} {vs pre : List Value} {n : Nat} {u : Tok} {v : Value} {Q : Value → Shared → Prop}
    (N : News h₀ L s.heap news) (hm : (l, listOf vs.toArray n) ∈ news) (hx : vs = pre ++ [v]) (hlen : vs.length ≤ 1000) (h : Q v s)
    (hs : subscripted slice false (.ref l) (.int (-1) u) = operate [.ref l, .int (-1) u] (getItem (.ref l) (.int (-1) u))) :
    wpAny (model prog w) A (subscriptTail value slice (.ref l) (.int (-1) u)) Q E s := by
  have hl := News.isList N hm
  refine tail_any hl.typeIs slot_list_getitem.lookup (wpAny_getItem_list_neg hl (by decide) ?_ (by decide) ?_ h) hs
  · subst hx; simp; omega
  · subst hx
    have e : (-1 + ((pre ++ [v]).toArray.size : Int)).toNat = pre.length := by simp; omega
    rw [e]; simp
theorem del_zero {prog : Program} {w : World} {A : Around} {E : Value → Shared → Prop} {s : Shared} {h₀ : Heap} {L D : Addr} {m : PySem.Str → Option Value} {news news' : Led} {v : Value} {vs : List Value} {n : Nat} {u : Tok} {Q : Unit → Shared → Prop}
    (F : Fr h₀ L s.heap m) (N : News h₀ L s.heap news) (U : Upd D (listOf (v :: vs).toArray n) (listOf vs.toArray (n + 1)) news news') (hlen : (v :: vs).length ≤ 1000)
    (h : ∀ h', Fr h₀ L h' m → News h₀ L h' news' → Q () { s with heap := h' }) : wpAny (model prog w) A (delItem (.ref D) (.int 0 u)) Q E s := by
  obtain ⟨pre, post, rfl, rfl, a, b⟩ := U.split
  have z := N (D, listOf (v :: vs).toArray n) (List.mem_append.mpr (.inr (.head _)))
  have hk : seqIndex? 0 (v :: vs).toArray.size = some 0 := by simp [seqIndex?]
  refine delItem_at (k := 0) (hsz := Nat.le_trans (by simpa using hlen) (show 1000 ≤ sizeLine by decide)) z.1 (by decide) hk (fun h' hs ho' => ?_)
  exact h h' (F.change hs z.2.1 z.2.2) (news_set N a b hs ho')
theorem del_neg {prog : Program} {w : World} {A : Around} {E : Value → Shared → Prop} {s : Shared} {h₀ : Heap} {L D : Addr} {m : PySem.Str → Option Value} {news news' : Led} {v : Value} {vs pre : List Value} {n : Nat} {u : Tok} {Q : Unit → Shared → Prop}
    (F : Fr h₀ L s.heap m) (N : News h₀ L s.heap news) (hx : vs = pre ++ [v]) (U : Upd D (listOf vs.toArray n) (listOf pre.toArray (n + 1)) news news') (hlen : vs.length ≤ 1000)
    (h : ∀ h', Fr h₀ L h' m → News h₀ L h' news' → Q () { s with heap := h' }) : wpAny (model prog w) A (delItem (.ref D) (.int (-1) u)) Q E s := by
  obtain ⟨p1, p2, rfl, rfl, a, b⟩ := U.split
  have z := N (D, listOf vs.toArray n) (List.mem_append.mpr (.inr (.head _)))
  have hk : seqIndex? (-1) vs.toArray.size = some pre.length := by subst hx; simp [seqIndex?]; omega
  refine delItem_at (k := pre.length) (hsz := Nat.le_trans (by simpa using hlen) (show 1000 ≤ sizeLine by decide)) z.1 (by decide) hk (fun h' hs ho' => ?_)
  refine h h' (F.change hs z.2.1 z.2.2) (news_set N a b hs ?_)
  rw [ho']; subst hx; show some (listOf ((pre ++ [v]).eraseIdx pre.length).toArray (n + 1)) = _; rw [List.eraseIdx_append_of_length_le (Nat.le_refl _)]; simp
theorem len_em {prog : Program} {w : World} {A : Around} {E : Value → Shared → Prop} {s : Shared} {h₀ : Heap} {L D : Addr} {news : Led} {vm : List (PySem.Str × Tok)} {a b : Value} {n : Nat} {Q : Value → Shared → Prop}
    (N : News h₀ L s.heap news) (hm : (D, listOf (a :: (strValues vm ++ [b])).toArray n) ∈ news) (hl : vm.length ≤ 200) (h : ∀ k : Int, 2 ≤ k → Q (.int k (s.toks + 1)) { s with toks := s.toks + 1 + 1 }) :
    wpAny (model prog w) A (call (.builtin "len") [.ref D]) Q E s :=
  kun_lenL (News.isList N hm) rfl (by simp [strValues]; omega) (h _ (by simp [strValues]; omega))
noncomputable def EmJ (m₀ : PySem.Str → Option Value) (got : PySem.Str) (e : Int) (lp : List (PySem.Str × Tok)) (st : Int) (i : Nat) (m : PySem.Str → Option Value) : Prop :=
  ∃ (p : Int) (tp : Tok) (w' : Value), (∀ z, m z = if z = "w" then some w' else if z = "startpos" then some (.int p tp) else m₀ z) ∧ emLoop got ((lp.drop i).map (·.1)) p e = emLoop got (lp.map (·.1)) st e
theorem iter_em {prog : Program} {w : World} {A : Around} {E : Value → Shared → Prop} {s : Shared} {env : Env} {h₀ : Heap} {body : List Stmt} {Q : Flow → Shared → Prop}
    {l : Addr} {vs : List Value} {k : Nat} {m₀ : PySem.Str → Option Value} {news : Led} {a : Value} {st : Int} {ts u te : Tok} (lp : List (PySem.Str × Tok)) {got : PySem.Str} {e : Int}
    (hh : A.handled = none) (F : Fr h₀ env.locals s.heap m₀) (N : News h₀ env.locals s.heap news) (hm : (l, listOf vs.toArray k) ∈ news) (hvs : vs = strValues lp) (h1 : m₀ "w" = some a) (h2 : m₀ "startpos" = some (.int st ts)) (h3 : m₀ "got" = some (.str got u)) (h4 : m₀ "endpos" = some (.int e te)) (hsh : ∀ p ∈ lp, Short p.1)
    (turn : ∀ i x tx rest p tp h tk I oI, (∀ q ∈ news, q.1 < I) → Short x → lp.drop (i + 1) = rest → emLoop got (x :: rest.map (·.1)) p e = emLoop got (lp.map (·.1)) st e →
      Fr h₀ env.locals h (fun y => if y = "w" then some (.str x tx) else if y = "startpos" then some (.int p tp) else m₀ y) → News h₀ env.locals h ((I, oI) :: news) →
      wpAny (model prog w) A (execs body env) (TurnPost h₀ env.locals (EmJ m₀ got e lp st (i + 1)) ((I, oI) :: news) { s with heap := h, toks := tk } Q) E { s with heap := h, toks := tk })
    (done : ∀ w' p tp h tk, emLoop got (lp.map (·.1)) st e = true → Fr h₀ env.locals h (fun y => if y = "w" then some w' else if y = "startpos" then some (.int p tp) else m₀ y) → News h₀ env.locals h news → Q .next { s with heap := h, toks := tk }) :
    wpAny (model prog w) A (pyIter (.ref l)) (fun it s₂ => LoopAtV prog w A h₀ env "w" body Q E it s₂) E s := by
  refine iter_led (vs := vs) (EmJ m₀ got e lp st) hh F N hm ⟨st, ts, a, fun z => ?_, by simp⟩ ?_ ?_
  · by_cases z1 : z = "w"
    · subst z1; rw [if_pos rfl, h1]
    · rw [if_neg z1]
      by_cases z2 : z = "startpos"
      · subst z2; rw [if_pos rfl, h2]
      · rw [if_neg z2]
  · rintro i v m₁ h tk I oI hI hi hv ⟨p, tp, w', em1, ev⟩ F₁ N₁
    subst hvs
    have hil : i < lp.length := by simpa [strValues] using hi
    have hv' : v = .str lp[i].1 lp[i].2 := by
      have := hv; simp only [strValues, List.getElem?_map, List.getElem?_eq_getElem hil, Option.map_some, Option.some.injEq] at this; exact this.symm
    subst hv'
    have hd' : lp.drop i = lp[i] :: lp.drop (i + 1) := List.drop_eq_getElem_cons hil
    rw [hd'] at ev
    refine turn i lp[i].1 lp[i].2 _ p tp h tk I oI hI (hsh _ (List.getElem_mem hil)) rfl ev ?_ N₁
    have : (fun (y : PySem.Str) => if y = "w" then some (Value.str lp[i].1 lp[i].2) else if y = "startpos" then some (Value.int p tp) else m₀ y) = (fun (y : PySem.Str) => if y = "w" then some (Value.str lp[i].1 lp[i].2) else m₁ y) := by
      funext y
      by_cases z1 : y = "w"
      · rw [if_pos z1, if_pos z1]
      · rw [if_neg z1, if_neg z1, em1, if_neg z1]
    rw [this]; exact F₁
  · rintro m₁ h tk ⟨p, tp, w', em1, ev⟩ F₁ N₁
    subst hvs
    have hl0 : lp.drop (strValues lp).length = [] := by simp [strValues]
    rw [hl0] at ev
    have : m₁ = (fun (y : PySem.Str) => if y = "w" then some w' else if y = "startpos" then some (Value.int p tp) else m₀ y) := funext em1
    exact done w' p tp h tk ev.symm (this ▸ F₁) N₁
theorem sv1 (w0 wl : PySem.Str) (t0 tl : Tok) (vm : List (PySem.Str × Tok)) : (Value.str w0 t0 :: (strValues vm ++ [Value.str wl tl])) = strValues ((w0, t0) :: (vm ++ [(wl, tl)])) := by simp [strValues]
theorem sv2 (wl : PySem.Str) (tl : Tok) (vm : List (PySem.Str × Tok)) : (strValues vm ++ [Value.str wl tl]) = strValues (vm ++ [(wl, tl)]) := by simp [strValues]
theorem sv3 (w0 : PySem.Str) (t0 : Tok) (vm : List (PySem.Str × Tok)) : (Value.str w0 t0 :: strValues vm) = strValues ((w0, t0) :: vm) := by simp [strValues]
theorem sh1 {w0 wl : PySem.Str} {t0 tl : Tok} {vm : List (PySem.Str × Tok)} (a : Short w0) (b : Short wl) (c : ∀ p ∈ vm, Short p.1) : ∀ p ∈ ((w0, t0) :: (vm ++ [(wl, tl)])), Short p.1 := by
  intro p hp; rcases List.mem_cons.mp hp with rfl | hp; exact a; rcases List.mem_append.mp hp with hp | hp; exact c p hp; rw [List.mem_singleton.mp hp]; exact b
theorem sh2 {wl : PySem.Str} {tl : Tok} {vm : List (PySem.Str × Tok)} (b : Short wl) (c : ∀ p ∈ vm, Short p.1) : ∀ p ∈ ((vm ++ [(wl, tl)])), Short p.1 := by
  intro p hp; rcases List.mem_append.mp hp with hp | hp; exact c p hp; rw [List.mem_singleton.mp hp]; exact b
theorem sh3 {w0 : PySem.Str} {t0 : Tok} {vm : List (PySem.Str × Tok)} (a : Short w0) (c : ∀ p ∈ vm, Short p.1) : ∀ p ∈ ((w0, t0) :: vm), Short p.1 := by
  intro p hp; rcases List.mem_cons.mp hp with rfl | hp; exact a; exact c p hp
section
variable {got w0 wl : PySem.Str} {vm : List PySem.Str} {keep : Bool} {st e : Int}
theorem emW_t (a : (w0.length : Int) ≠ 0) (b : Txt.startswith got w0 = true) : emW got w0 vm wl = emTail got w0 vm wl false w0.length := by unfold emW; rw [if_pos (by simpa using a), if_pos b]
theorem emW_f (a : (w0.length : Int) ≠ 0) (b : Txt.startswith got w0 = false) : emW got w0 vm wl = false := by unfold emW; rw [if_pos (by simpa using a), if_neg (by rw [b]; decide)]
theorem emW_e (a : (w0.length : Int) = 0) : emW got w0 vm wl = emTail got w0 vm wl true 0 := by unfold emW; rw [if_neg (by rw [a]; decide)]
theorem emT_t (a : (wl.length : Int) ≠ 0) (b : Txt.endswith got wl = true) : emTail got w0 vm wl keep st = emEnd got (if keep then w0 :: vm else vm) st (got.length - wl.length) := by unfold emTail; rw [if_pos (by simpa using a), if_pos b]
theorem emT_f (a : (wl.length : Int) ≠ 0) (b : Txt.endswith got wl = false) : emTail got w0 vm wl keep st = false := by unfold emTail; rw [if_pos (by simpa using a), if_neg (by rw [b]; decide)]
theorem emT_e (a : (wl.length : Int) = 0) : emTail got w0 vm wl keep st = emEnd got (if keep then w0 :: (vm ++ [wl]) else vm ++ [wl]) st got.length := by unfold emTail; rw [if_neg (by rw [a]; decide)]
theorem emE_f (h : e < st) : emEnd got vm st e = false := if_pos h
theorem emE_t (h : ¬ e < st) : emEnd got vm st e = emLoop got vm st e := if_neg h
theorem emL_t {lp : List (PySem.Str × Tok)} (h : emLoop got (lp.map (·.1)) st e = true) (hl : lp.map (·.1) = vm) : true = emLoop got vm st e := hl ▸ h.symm
theorem emL_f {lp : List (PySem.Str × Tok)} {x : PySem.Str} {rest : List PySem.Str} {p : Int} (h : emLoop got (x :: rest) p e = emLoop got (lp.map (·.1)) st e) (hf : find4 got x p e < 0) (hl : lp.map (·.1) = vm) : false = emLoop got vm st e := by
  subst hl; rw [← h, emLoop, if_pos hf]
theorem Done.bool {b : Bool} {P : Bool → Prop} (h : P b) : Done (∃ c, P c ∧ Value.bool b = Value.bool c) := ⟨b, h, rfl⟩
theorem EmJ.step {m₀ m : PySem.Str → Option Value} {lp : List (PySem.Str × Tok)} {x : PySem.Str} {p : Int} {i : Nat} {rest : List (PySem.Str × Tok)} (h : emLoop got (x :: rest.map (·.1)) p e = emLoop got (lp.map (·.1)) st e) (hf : ¬ find4 got x p e < 0) (hr : lp.drop (i + 1) = rest) {w' : Value} {tp : Tok}
    (hm1 : m "w" = some w') (hm2 : m "startpos" = some (.int (find4 got x p e + x.length) tp)) (hm : ∀ z : PySem.Str, z ≠ "w" → z ≠ "startpos" → m z = m₀ z) : EmJ m₀ got e lp st (i + 1) m := by
  refine ⟨find4 got x p e + x.length, tp, w', fun z => (by by_cases z1 : z = "w" <;> by_cases z2 : z = "startpos" <;> simp_all), ?_⟩
  rw [hr, ← h, emLoop, if_neg hf]
end
theorem lnF2_2 : True := by
  (k_with "m:TurnPost" => ((try dsimp only [TurnPost]); (try dsimp only); first
  | (k_dflt (refine' TurnEnd.intro ?Fq ?Nq ?sq ?_; (case Fq => k_asm); (case Nq => k_asm); (case sq => walk_at "sub"); k_whole))
  | skip))
  exact trivial
theorem lenEm {vm : List (PySem.Str × Tok)} {a b : Value} (h : vm.length ≤ 200) : (a :: (strValues vm ++ [b])).length ≤ 1000 := by simp [strValues]; omega
theorem lenEm' {vm : List (PySem.Str × Tok)} {b : Value} (h : vm.length ≤ 200) : (strValues vm ++ [b]).length ≤ 1000 := by simp [strValues]; omega
theorem lnF2_3 : True := by
  (k_with "m:call builtin:str.split" => (k_here; k_dflt (refine' split_em ?Fq ?Nq ?yq ?xq ?zq ?_; (case Fq => k_asm); (case Nq => k_asm); (case yq => decide); (case xq => assumption); (case zq => exact (by assumption : SplitOk _) (by assumption)); k_whole); intro D' w0 wl t0 tl vm h' k' eS hw0 hwl hvm hvl F' N' l1; k_lt l1; (try k_sweep)))
  (k_with "m:truthy str" => (k_here; k_dflt (refine' truthyW ?aq ?_; (case aq => assumption); k_whole)))
  (k_with "m:em len" => first | exact lenEm (by assumption) | exact lenEm' (by assumption))
  (k_with "m:delItem ref int" => (k_here; first
  | ((with_reducible show wpAny _ _ (delItem (Value.ref _) (Value.int 0 _)) _ _ _); k_dflt (refine' del_zero ?Fq ?Nq ?Uq ?xq ?_; (case Fq => k_asm); (case Nq => k_asm); (case Uq => k_upd); (case xq => walk_at "em len"); k_whole); intro h' F' N'; (try dsimp only); (try k_sweep))
  | ((with_reducible show wpAny _ _ (delItem (Value.ref _) (Value.int (-1) _)) _ _ _); k_dflt (refine' del_neg ?Fq ?Nq ?yq ?Uq ?xq ?_; (case Fq => k_asm); (case Nq => k_asm); (case Uq => k_upd); (case yq => first | exact (List.cons_append ..).symm | exact rfl); (case xq => walk_at "em len"); k_whole); intro h' F' N'; (try dsimp only); (try k_sweep))))
  (k_with "m:subscriptTail Name UnaryOp ref int" => (k_here; k_dflt (refine' item_neg ?Nq ?mq ?xq ?zq ?_ ?yq; (case Nq => k_asm); (case mq => k_mem); (case xq => first | exact (List.cons_append ..).symm | exact rfl); (case zq => walk_at "em len"); (case yq => with_unfolding_all rfl); k_whole)))
  (k_with "m:call builtin:len" => (k_here; k_dflt (refine' len_em ?Nq ?mq ?lq ?_; (case Nq => k_asm); (case mq => k_mem); (case lq => assumption); k_whole); intro k9 hk9))
  (k_with "m:pyIter ref" => (k_here; k_dflt (refine' iter_em _ ?hhq ?Fq ?Nq ?mq ?vsq ?h1q ?h2q ?h3q ?h4q ?shq ?_ ?_; (case hhq => rfl); (case Fq => k_asm); (case Nq => k_asm); (case mq => k_mem); (case vsq => first | exact sv1 _ _ _ _ _ | exact sv2 _ _ _ | exact sv3 _ _ _ | exact rfl); (case h1q => rfl); (case h2q => rfl); (case h3q => rfl); (case h4q => rfl); (case shq => first | exact sh1 (by assumption) (by assumption) (by assumption) | exact sh2 (by assumption) (by assumption) | exact sh3 (by assumption) (by assumption) | assumption); k_whole)))
  (k_with "m:call builtin:len" => (k_here; (with_reducible show wpAny _ _ (call (Value.builtin "len") [Value.str _ _]) _ _ _); k_dflt (refine' lenW ?lq ?_; (case lq => assumption); k_whole)))
  exact trivial
theorem em_tell (w : World) (want got : PySem.Str) (t u : Tok) (hw : Short want) (hg : Short got) (hs2 : SplitOk want) :
    Tell 350 w 56 [.str want t, .str got u] [] (fun tl v => tl = [] ∧ ∃ b, b = em want got ∧ v = .bool b) := by
  walk_at "tell"
  k_steps
  any_goals refine Done.bool (b := _) (P := fun b => b = em want got) ?_
  any_goals with_reducible exact em_in (by assumption)
  any_goals rw [em_W (by assumption) (by assumption)]
  any_goals first | rw [emW_t (by assumption) (by assumption)] | rw [emW_f (by assumption) (by assumption)] | rw [emW_e (by assumption)]
  any_goals first | rw [emT_t (by assumption) (by assumption)] | rw [emT_f (by assumption) (by assumption)] | rw [emT_e (by assumption)]
  any_goals first | rw [emE_t (by assumption)] | rw [emE_f (by assumption)]
  any_goals first | exact emL_t (by assumption) (by simp) | exact emL_f (by assumption) (by assumption) (by simp)
  all_goals refine EmJ.step (by assumption) (by assumption) (by assumption) rfl rfl (fun z z1 z2 => ?_)
  all_goals simp only [if_neg z1, if_neg z2]
  all_goals first | rfl
noncomputable def splitOkB (want : PySem.Str) : Bool := (PySem.Builtin.Str.occurrences want "..." 0 want.length 1).isEmpty || (decide (2 ≤ (Txt.split want "...").length) && decide ((Txt.split want "...").length ≤ 200))
theorem SplitOk.of {want : PySem.Str} (h : splitOkB want = true) : SplitOk want := by
  intro q
  unfold splitOkB at h
  rw [q] at h
  simpa using h
theorem Short.of {x : PySem.Str} (h : decide (x.length ≤ 200) = true) : Short x := by unfold Short; exact of_decide_eq_true h
end
section
theorem lnF2b_0 : True := by k_with_none; exact trivial
theorem lnF2bp_1 : True := by
  (k_with "m:tell" => (
  unfold Tell
  k_fill
  intro mean9 mg9 mb9 gd9 cn9 cs9 a9 ccd9 cl9 outer9 A9 base9 h9 L9 m9 news9 s9 Q9 E9 B F X N T hk hsub hret
  refine wpAny_call ?_
  k_dflt (refine' enterS ?k1q ?k2q ?k3q ?k4q ?k5q hsub ?kAq ?kFq ?kKq ?k6q ?k7q ?k8q ?k9q ?kBq ?_ ?c5q ?c2q ?c3q ?c4q; (case kAq => exact rfl); (case kFq => exact rfl); (case kKq => assumption); (case k1q => k_asm); (case k2q => k_asm); (case k3q => k_asm); (case k4q => k_asm); (case k5q => k_asm); (case k6q => k_is); (case k7q => k_is); (case k8q => k_room); (case k9q => exact BindsTo.of_eq rfl); (case c5q => decide); (case kBq => exact locs rfl); (case c2q => exact rfl); (case c3q => exact rfl); (case c4q => exact rfl); k_whole)
  intro g' L' h' FG' F' N' B' X' T'
  (try dsimp only)
  (simp only [zipS, List.reverse_cons, List.reverse_nil, List.nil_append, List.cons_append] at F')
  clear B F X N T FG'
  k_fold))
  (k_with "m:sub" => first | exact List.forall_mem_nil _ | (refine List.forall_mem_cons.mpr ⟨by k_mem, ?_⟩; walk_at "sub"))
  (k_with "m:apart" => first | exact List.forall_mem_nil _ | (refine List.forall_mem_cons.mpr ⟨by k_ne, ?_⟩; walk_at "apart"))
  (k_with "m:leave0" => (k_dflt (refine' LeaveS.intro [] ?k1q ?k2q ?k3q (List.forall_mem_nil _) (List.forall_mem_nil _) ?_; (case k1q => k_asm); (case k2q => k_asm); (case k3q => walk_at "sub"); k_whole); intro kF kN kA; (with_reducible rename (∀ (_ : Value) (_ : List (Addr × Obj)) (_ : Heap) (_ : Nat), Fr _ _ _ _ → _) => hret); refine hret _ [] _ _ kF kN kA ⟨rfl, Done.intro ?_⟩; clear kF kN kA hret))
  (k_with "m:leave1" => (k_dflt (refine' LeaveS.intro1 ?k1q ?k2q ?k3q ?k4q ?k5q ?_; (case k1q => k_asm); (case k2q => k_asm); (case k3q => walk_at "sub"); (case k4q => k_mem); (case k5q => walk_at "apart"); k_whole); intro kF kN kA; (with_reducible rename (∀ (_ : Value) (_ : List (Addr × Obj)) (_ : Heap) (_ : Nat), Fr _ _ _ _ → _) => hret); refine hret _ [_] _ _ kF kN kA (Done.intro ?_); clear kF kN kA hret))
  (k_with "m:leave" => walk_at "leave0")
  (k_with "m:LeaveS" => ((try dsimp only); walk_at "leave"))
  (k_with "m:use0" => ((case k1q => k_asm); (case k2q => k_asm); (case k3q => k_asm); (case k4q => k_asm); (case k5q => k_asm); (case kKq => first | exact rfl | assumption); (case ksq => walk_at "sub"); (case kdq => k_room); (case kuq => k_room); k_whole))
  (k_with "m:gotInt" => (intro r9 h9 tk9 F9 N9 hR9; obtain ⟨v9, t9, hv9, e9⟩ := hR9; subst e9; (try k_sweep); (try dsimp only)))
  (k_with "m:gotBool" => (intro r9 h9 tk9 F9 N9 hR9; obtain ⟨v9, hv9, e9⟩ := hR9; subst e9; (try k_sweep); (try dsimp only)))
  (k_with "m:item" => (k_here; k_dflt (refine' item_fast ?Nq ?mq ?aq ?bq ?xq ?_ ?yq; (case Nq => k_asm); (case mq => k_mem); (case aq => decide); (case bq => decide); (case xq => exact rfl); (case yq => with_unfolding_all rfl); k_whole)))
  (k_with "m:subscriptTail Name BinOp ref int" => walk_at "item")
  (k_with "m:subscriptTail Name Name ref int" => walk_at "item")
  (k_with "m:subscriptTail Name Constant ref int" => walk_at "item")
  (k_with "m:eval Name" => (k_here; k_dflt (refine' nameX_L ?Fq ?vq ?_ ?aq ?bq; (case bq => rfl); (case Fq => k_asm); (case aq => rfl); (case vq => rfl); k_whole)))
  (k_with "m:subscriptTail Name Slice str ref" => (k_here; (with_reducible rename Fr _ _ _ _ => F'); (with_reducible rename News _ _ _ _ => N'); (first | ((with_reducible show wpAny _ _ (subscriptTail _ (PySem.Expr.Slice none none none _) _ _) _ _ _); refine slice_strN_nn (hsz := ?hszq) (s := ⟨_, _, _, _, _⟩) F' N' ?_) | ((with_reducible show wpAny _ _ (subscriptTail _ (PySem.Expr.Slice none (some _) none _) _ _) _ _ _); refine slice_strN_ns (hsz := ?hszq) (s := ⟨_, _, _, _, _⟩) F' N' ?_) | ((with_reducible show wpAny _ _ (subscriptTail _ (PySem.Expr.Slice (some _) none none _) _ _) _ _ _); refine slice_strN_sn (hsz := ?hszq) (s := ⟨_, _, _, _, _⟩) F' N' ?_) | ((with_reducible show wpAny _ _ (subscriptTail _ (PySem.Expr.Slice (some _) (some _) none _) _ _) _ _ _); refine slice_strN_ss (hsz := ?hszq) (s := ⟨_, _, _, _, _⟩) F' N' ?_)); (case hszq => exact Short.fits (by assumption)); intro _ _ _ _ _))
  (k_with "m:execs cons" => (dsimp only; walk_at "execs cons"))
  exact trivial
theorem lnF2bF1a_1 : True := by
  (k_with "m:call ref" => (k_here; (with_reducible show wpAny _ _ (call (Value.ref 21) [Value.int _ _, Value.int _ _]) _ _ _); k_dflt (refine' TellUse0 (mul_tell _ _ _ _ _ ?okq) ?k1q ?k2q ?k3q ?k4q ?k5q ?kKq ?ksq ?kdq ?kuq ?_; (case okq => exact IntMulOk.of_left (by assumption)); walk_at "use0"); walk_at "gotInt"))
  (k_with "m:call ref" => (k_here; (with_reducible show wpAny _ _ (call (Value.ref 28) [Value.int _ _, Value.int _ _]) _ _ _); k_dflt (refine' TellUse0 (sub_tell _ _ _ _ _) ?k1q ?k2q ?k3q ?k4q ?k5q ?kKq ?ksq ?kdq ?kuq ?_; walk_at "use0"); walk_at "gotInt"))
  exact trivial
noncomputable def sw (s : PySem.Str) (d : Int) : Nat → Int → Nat × Int
  | 0, p => (0, p)
  | a + 1, p => if (Txt.item s p == " ") = true then sw s d a (p + d) else (a + 1, p)
noncomputable def SwR (s : PySem.Str) (d : Int) (n : Nat) (p : Int) : Prop := (d = 1 ∧ 0 ≤ p ∧ p + n ≤ s.length) ∨ (d = -1 ∧ p < s.length ∧ n ≤ p + 1)
noncomputable def SwJ (m₀ : PySem.Str → Option Value) (x : PySem.Str) (s : PySem.Str) (d : Int) (n₀ : Nat) (p₀ : Int) (news : Led) (n : Nat) (m : PySem.Str → Option Value) (news₁ : Led) : Prop :=
  news₁ = news ∧ ∃ (p : Int) (tp ta : Tok), (∀ z, m z = if z = x then some (.int p tp) else if z = "amount" then some (.int n ta) else m₀ z) ∧ sw s d n p = sw s d n₀ p₀ ∧ SwR s d n p
theorem while_sw {prog : Program} {w : World} {A : Around} {E : Value → Shared → Prop} {Q : Flow → Shared → Prop} {st : Shared} {env : Env} {h₀ : Heap} {L : Addr} {test : PySem.Expr} {body : List Stmt} {pos : Pos} {m : PySem.Str → Option Value} {news : Led} {x s : PySem.Str} {d : Int} {n₀ : Nat} {a₀ p₀ : Int} {t₀ ta₀ : Tok}
    (F : Fr h₀ L st.heap m) (N : News h₀ L st.heap news) (h1 : m x = some (.int p₀ t₀)) (h2 : m "amount" = some (.int a₀ ta₀)) (ha : a₀ = n₀) (hR : SwR s d n₀ p₀)
    (turn : ∀ (n : Nat) (p : Int) (tp ta : Tok) h₁ tk₁, SwR s d n p → Fr h₀ L h₁ (fun z => if z = x then some (.int p tp) else if z = "amount" then some (.int n ta) else m z) → News h₀ L h₁ news → sw s d n p = sw s d n₀ p₀ →
      wpAny (model prog w) A (isTrue test env (eval test env)) (fun b s₂ =>
        if b = true then wpAny (model prog w) A (execs body env) (WhileStep h₀ L st (SwJ m x s d n₀ p₀ news) n) E s₂ else Q .next s₂) E { st with heap := h₁, toks := tk₁ })
    (hE : PassesOwn (model prog w) A env E) :
    wpAny (model prog w) A (exec (.While test body [] pos) env) Q E st := by
  refine While_inv (SwJ m x s d n₀ p₀ news) (n₀ := n₀) F N ⟨rfl, p₀, t₀, ta₀, fun z => ?_, rfl, hR⟩ ?_ hE
  · by_cases z1 : z = x
    · subst z1; rw [if_pos rfl, h1]
    · rw [if_neg z1]
      by_cases z2 : z = "amount"
      · subst z2; rw [if_pos rfl, h2, ha]
      · rw [if_neg z2]
  · rintro n m₁ news₁ h₁ tk₁ F₁ N₁ ⟨rfl, p, tp, ta, em, es, hR'⟩
    have : m₁ = (fun (z : PySem.Str) => if z = x then some (Value.int p tp) else if z = "amount" then some (Value.int n ta) else m z) := funext em
    exact turn n p tp ta h₁ tk₁ hR' (this ▸ F₁) N₁ es
theorem SwJ.step {m₀ m : PySem.Str → Option Value} {x s : PySem.Str} {d : Int} {n₀ n : Nat} {p₀ p : Int} {news : Led} {tp ta : Tok} {a' p' : Int} (hs : sw s d n p = sw s d n₀ p₀) (hR : SwR s d n p) (hn : (n : Int) ≠ 0) (hi : (Txt.item s p == " ") = true) (hx : x ≠ "amount")
    (h1 : m x = some (.int p' tp)) (h2 : m "amount" = some (.int a' ta)) (hp : p' = p + d) (ha : a' = n - 1) (hm : ∀ z : PySem.Str, z ≠ x → z ≠ "amount" → m z = m₀ z) : SwJ m₀ x s d n₀ p₀ news (n - 1) m news := by
  subst hp ha
  obtain ⟨k, rfl⟩ : ∃ k, n = k + 1 := ⟨n - 1, by omega⟩
  refine ⟨rfl, p + d, tp, ta, fun z => ?_, ?_, ?_⟩
  · by_cases z1 : z = x
    · subst z1; rw [if_pos rfl, h1]
    · rw [if_neg z1]
      by_cases z2 : z = "amount"
      · subst z2; rw [if_pos rfl, h2]; congr 2; omega
      · rw [if_neg z2, hm z z1 z2]
  · rw [← hs, Nat.add_sub_cancel]; conv => rhs; rw [sw, if_pos hi]
  · unfold SwR at *; rw [Nat.add_sub_cancel]; omega
theorem sw_end {s : PySem.Str} {d : Int} {n : Nat} {p : Int} (h : (n : Int) = 0 ∨ (Txt.item s p == " ") = false) : sw s d n p = (n, p) := by
  cases n with
  | zero => rfl
  | succ k => rcases h with h | h
              · omega
              · rw [sw, if_neg (by rw [h]; decide)]
theorem itemW {prog : Program} {w : World} {A : Around} {E : Value → Shared → Prop} {st : Shared} {value slice : PySem.Expr} {s : PySem.Str} {t u : Tok} {d : Int} {n : Nat} {p : Int} {Q : Value → Shared → Prop} (hs : Short s) (hR : SwR s d n p) (hn : (n : Int) ≠ 0)
    (h : Q (.str (Txt.item s p) st.toks) { st with toks := st.toks + 1 }) (hsub : subscripted slice false (.str s t) (.int p u) = operate [.str s t, .int p u] (getItem (.str s t) (.int p u))) (ht : ∀ r, letTemporaryGo value (.str s t) r = pure ()) : wpAny (model prog w) A (subscriptTail value slice (.str s t) (.int p u)) Q E st := by
  have hh : s.length ≤ 200 := hs
  have h1 : 0 ≤ p := by unfold SwR at hR; omega
  have h2 : p < s.length := by unfold SwR at hR; omega
  exact item_str (fitsSsize_of (N := 9223372036854775808) (by omega) (by omega) (Int.le_refl _)) (by omega) h2 (fun _ => h) hsub ht
theorem SwR.lo {s : PySem.Str} {n : Nat} (h : n < s.length) : SwR s 1 n 0 := .inl ⟨rfl, Int.le_refl _, by omega⟩
theorem SwR.hi {s : PySem.Str} {n : Nat} {p : Int} (h : SwR s 1 n p) : SwR s (-1) n (s.length - 1) := by
  unfold SwR at *; omega
theorem lnF2b_1 : True := by
  (k_with "m:truthy str" => (k_here; k_dflt (refine' truthyW ?aq ?_; (case aq => assumption); k_whole)))
  (k_with "m:call builtin:len" => (k_here; (with_reducible show wpAny _ _ (call (Value.builtin "len") [Value.str _ _]) _ _ _); k_dflt (refine' lenW ?lq ?_; (case lq => assumption); k_whole)))
  (k_with "m:subscriptTail Name Name str int" => (k_here; k_dflt (refine' itemW ?aq ?bq ?cq ?_ ?dq ?eq; (case aq => assumption); (case bq => assumption); (case cq => assumption); (case dq => with_unfolding_all rfl); (case eq => intro _; with_unfolding_all rfl); k_whole)))
  (k_with "m:exec While BoolOp" => (k_here; k_dflt (first
  | (refine' while_sw (x := "rpos") (d := -1) ?Fq ?Nq ?h1q ?h2q ?aq ?Rq ?_ ?Eq; (case Fq => k_asm); (case Nq => k_asm); (case h1q => rfl); (case h2q => rfl); (case aq => exact rfl); (case Rq => exact SwR.hi (by assumption)); (case Eq => passes_own))
  | (refine' while_sw (x := "lpos") (d := 1) ?Fq ?Nq ?h1q ?h2q ?aq ?Rq ?_ ?Eq; (case Fq => k_asm); (case Nq => k_asm); (case h1q => rfl); (case h2q => rfl); (case aq => exact rfl); (case Rq => exact SwR.lo (by assumption)); (case Eq => passes_own))); k_whole))
  exact trivial
theorem SwStep {h₀ h' : Heap} {L : Addr} {st : Shared} {tk : Nat} {m₀ m : PySem.Str → Option Value} {x s : PySem.Str} {d : Int} {n₀ n : Nat} {p₀ p : Int} {news : Led} {tp ta : Tok} {a' p' : Int} (F : Fr h₀ L h' m) (N : News h₀ L h' news)
    (hs : sw s d n p = sw s d n₀ p₀) (hR : SwR s d n p) (hn : (n : Int) ≠ 0) (hi : (Txt.item s p == " ") = true) (hx : x ≠ "amount")
    (h1 : m x = some (.int p' tp)) (h2 : m "amount" = some (.int a' ta)) (hp : p' = p + d) (ha : a' = n - 1) (hm : ∀ z : PySem.Str, z ≠ x → z ≠ "amount" → m z = m₀ z) :
    WhileStep h₀ L st (SwJ m₀ x s d n₀ p₀ news) n .next { st with heap := h', toks := tk } :=
  WhileStep.intro F N (by omega) (SwJ.step hs hR hn hi hx h1 h2 hp ha hm)
theorem lnF2b_2 : True := by
  (k_with "m:WhileStep" => (k_dflt (refine' SwStep ?Fq ?Nq ?aq ?bq ?cq ?dq ?eq ?fq ?gq ?hq ?iq ?jq; (case Fq => k_asm); (case Nq => k_asm); (case aq => assumption); (case bq => assumption); (case cq => assumption); (case dq => assumption); (case eq => decide); (case fq => rfl); (case gq => rfl); (case hq => first | rfl | omega); (case iq => rfl); (case jq => intro z z1 z2; simp only [if_neg z1, if_neg z2]))))
  exact trivial
noncomputable def stripF (s : PySem.Str) (n : Nat) : PySem.Str := Txt.slice s (some (sw s 1 n 0).2) (some ((sw s (-1) (sw s 1 n 0).1 (s.length - 1)).2 + 1))
theorem strip_eq {s : PySem.Str} {n n1 n2 : Nat} {p1 p2 : Int} (e1 : sw s 1 n1 p1 = sw s 1 n 0) (e2 : sw s (-1) n2 p2 = sw s (-1) n1 (s.length - 1)) (x1 : (n1 : Int) = 0 ∨ (Txt.item s p1 == " ") = false) (x2 : (n2 : Int) = 0 ∨ (Txt.item s p2 == " ") = false) :
    Txt.slice s (some p1) (some (p2 + 1)) = stripF s n := by
  rw [sw_end x1] at e1
  rw [sw_end x2] at e2
  unfold stripF
  rw [← e1, ← e2]
theorem Done.str {b : PySem.Str} {P : PySem.Str → Prop} {t : Tok} (h : P b) : Done (∃ c tc, P c ∧ Value.str b t = Value.str c tc) := ⟨b, t, h, rfl⟩
theorem strip_tell (w : World) (s : PySem.Str) (n : Nat) (t u : Tok) (hs : Short s) (hn : n < s.length) :
    Tell 350 w 77 [.str s t, .int n u] [] (fun tl v => tl = [] ∧ ∃ b tb, b = stripF s n ∧ v = .str b tb) := by
  walk_at "tell"
  k_steps
  all_goals refine Done.str (P := fun b => b = stripF s n) ?_
  all_goals exact strip_eq (by assumption) (by assumption) (by first | exact .inl (by assumption) | exact .inr (by assumption)) (by first | exact .inl (by assumption) | exact .inr (by assumption))
end
section
theorem lnF2c_0 : True := by k_with_none; exact trivial
theorem lnF2cp_1 : True := by
  (k_with "m:tell" => (
  unfold Tell
  k_fill
  intro mean9 mg9 mb9 gd9 cn9 cs9 a9 ccd9 cl9 outer9 A9 base9 h9 L9 m9 news9 s9 Q9 E9 B F X N T hk hsub hret
  refine wpAny_call ?_
  k_dflt (refine' enterS ?k1q ?k2q ?k3q ?k4q ?k5q hsub ?kAq ?kFq ?kKq ?k6q ?k7q ?k8q ?k9q ?kBq ?_ ?c5q ?c2q ?c3q ?c4q; (case kAq => exact rfl); (case kFq => exact rfl); (case kKq => assumption); (case k1q => k_asm); (case k2q => k_asm); (case k3q => k_asm); (case k4q => k_asm); (case k5q => k_asm); (case k6q => k_is); (case k7q => k_is); (case k8q => k_room); (case k9q => exact BindsTo.of_eq rfl); (case c5q => decide); (case kBq => exact locs rfl); (case c2q => exact rfl); (case c3q => exact rfl); (case c4q => exact rfl); k_whole)
  intro g' L' h' FG' F' N' B' X' T'
  (try dsimp only)
  (simp only [zipS, List.reverse_cons, List.reverse_nil, List.nil_append, List.cons_append] at F')
  clear B F X N T FG'
  k_fold))
  (k_with "m:sub" => first | exact List.forall_mem_nil _ | (refine List.forall_mem_cons.mpr ⟨by k_mem, ?_⟩; walk_at "sub"))
  (k_with "m:apart" => first | exact List.forall_mem_nil _ | (refine List.forall_mem_cons.mpr ⟨by k_ne, ?_⟩; walk_at "apart"))
  (k_with "m:leave0" => (k_dflt (refine' LeaveS.intro [] ?k1q ?k2q ?k3q (List.forall_mem_nil _) (List.forall_mem_nil _) ?_; (case k1q => k_asm); (case k2q => k_asm); (case k3q => walk_at "sub"); k_whole); intro kF kN kA; (with_reducible rename (∀ (_ : Value) (_ : List (Addr × Obj)) (_ : Heap) (_ : Nat), Fr _ _ _ _ → _) => hret); refine hret _ [] _ _ kF kN kA ⟨rfl, Done.intro ?_⟩; clear kF kN kA hret))
  (k_with "m:leave1" => (k_dflt (refine' LeaveS.intro1 ?k1q ?k2q ?k3q ?k4q ?k5q ?_; (case k1q => k_asm); (case k2q => k_asm); (case k3q => walk_at "sub"); (case k4q => k_mem); (case k5q => walk_at "apart"); k_whole); intro kF kN kA; (with_reducible rename (∀ (_ : Value) (_ : List (Addr × Obj)) (_ : Heap) (_ : Nat), Fr _ _ _ _ → _) => hret); refine hret _ [_] _ _ kF kN kA (Done.intro ?_); clear kF kN kA hret))
  (k_with "m:leave" => walk_at "leave0")
  (k_with "m:LeaveS" => ((try dsimp only); walk_at "leave"))
  (k_with "m:use0" => ((case k1q => k_asm); (case k2q => k_asm); (case k3q => k_asm); (case k4q => k_asm); (case k5q => k_asm); (case kKq => first | exact rfl | assumption); (case ksq => walk_at "sub"); (case kdq => k_room); (case kuq => k_room); k_whole))
  (k_with "m:gotInt" => (intro r9 h9 tk9 F9 N9 hR9; obtain ⟨v9, t9, hv9, e9⟩ := hR9; subst e9; (try k_sweep); (try dsimp only)))
  (k_with "m:gotBool" => (intro r9 h9 tk9 F9 N9 hR9; obtain ⟨v9, hv9, e9⟩ := hR9; subst e9; (try k_sweep); (try dsimp only)))
  (k_with "m:item" => (k_here; k_dflt (refine' item_fast ?Nq ?mq ?aq ?bq ?xq ?_ ?yq; (case Nq => k_asm); (case mq => k_mem); (case aq => decide); (case bq => decide); (case xq => exact rfl); (case yq => with_unfolding_all rfl); k_whole)))
  (k_with "m:subscriptTail Name BinOp ref int" => walk_at "item")
  (k_with "m:subscriptTail Name Name ref int" => walk_at "item")
  (k_with "m:subscriptTail Name Constant ref int" => walk_at "item")
  (k_with "m:eval Name" => (k_here; k_dflt (refine' nameX_L ?Fq ?vq ?_ ?aq ?bq; (case bq => rfl); (case Fq => k_asm); (case aq => rfl); (case vq => rfl); k_whole)))
  (k_with "m:subscriptTail Name Slice str ref" => (k_here; (with_reducible rename Fr _ _ _ _ => F'); (with_reducible rename News _ _ _ _ => N'); (first | ((with_reducible show wpAny _ _ (subscriptTail _ (PySem.Expr.Slice none none none _) _ _) _ _ _); refine slice_strN_nn (hsz := ?hszq) (s := ⟨_, _, _, _, _⟩) F' N' ?_) | ((with_reducible show wpAny _ _ (subscriptTail _ (PySem.Expr.Slice none (some _) none _) _ _) _ _ _); refine slice_strN_ns (hsz := ?hszq) (s := ⟨_, _, _, _, _⟩) F' N' ?_) | ((with_reducible show wpAny _ _ (subscriptTail _ (PySem.Expr.Slice (some _) none none _) _ _) _ _ _); refine slice_strN_sn (hsz := ?hszq) (s := ⟨_, _, _, _, _⟩) F' N' ?_) | ((with_reducible show wpAny _ _ (subscriptTail _ (PySem.Expr.Slice (some _) (some _) none _) _ _) _ _ _); refine slice_strN_ss (hsz := ?hszq) (s := ⟨_, _, _, _, _⟩) F' N' ?_)); (case hszq => exact Short.fits (by assumption)); intro _ _ _ _ _))
  (k_with "m:execs cons" => (dsimp only; walk_at "execs cons"))
  exact trivial
theorem lnF2cF1a_1 : True := by
  (k_with "m:call ref" => (k_here; (with_reducible show wpAny _ _ (call (Value.ref 21) [Value.int _ _, Value.int _ _]) _ _ _); k_dflt (refine' TellUse0 (mul_tell _ _ _ _ _ ?okq) ?k1q ?k2q ?k3q ?k4q ?k5q ?kKq ?ksq ?kdq ?kuq ?_; (case okq => exact IntMulOk.of_left (by assumption)); walk_at "use0"); walk_at "gotInt"))
  (k_with "m:call ref" => (k_here; (with_reducible show wpAny _ _ (call (Value.ref 28) [Value.int _ _, Value.int _ _]) _ _ _); k_dflt (refine' TellUse0 (sub_tell _ _ _ _ _) ?k1q ?k2q ?k3q ?k4q ?k5q ?kKq ?ksq ?kdq ?kuq ?_; walk_at "use0"); walk_at "gotInt"))
  exact trivial
theorem itemS {prog : Program} {w : World} {A : Around} {E : Value → Shared → Prop} {st : Shared} {value slice : PySem.Expr} {s : PySem.Str} {t u : Tok} {p : Int} {Q : Value → Shared → Prop} (hs : Short s) (h1 : -(s.length : Int) ≤ p) (h2 : p < s.length)
    (h : Q (.str (Txt.item s p) st.toks) { st with toks := st.toks + 1 }) (hsub : subscripted slice false (.str s t) (.int p u) = operate [.str s t, .int p u] (getItem (.str s t) (.int p u))) (ht : ∀ r, letTemporaryGo value (.str s t) r = pure ()) : wpAny (model prog w) A (subscriptTail value slice (.str s t) (.int p u)) Q E st := by
  have hh : s.length ≤ 200 := hs
  exact item_str (fitsSsize_of (N := 9223372036854775808) (by omega) (by omega) (Int.le_refl _)) h1 h2 (fun _ => h) hsub ht
theorem Done.str' {b : PySem.Str} {P : PySem.Str → Prop} {t : Tok} (h : P b) : Done (∃ c tc, P c ∧ Value.str b t = Value.str c tc) := ⟨b, t, h, rfl⟩
section
theorem lnF2c_1 : True := by
  (k_with "m:subscriptTail Name Name str int" => (k_here; k_dflt (refine' itemS ?aq ?bq ?cq ?_ ?dq ?eq; (case aq => assumption); (case bq => assumption); (case cq => assumption); (case dq => with_unfolding_all rfl); (case eq => intro _; with_unfolding_all rfl); k_whole)))
  exact trivial
theorem getitem_tell (w : World) (s : PySem.Str) (p : Int) (t u : Tok) (hs : Short s) (h1 : -(s.length : Int) ≤ p) (h2 : p < s.length) :
    Tell 400 w 42 [.str s t, .int p u] [] (fun tl v => tl = [] ∧ ∃ b tb, b = Txt.item s p ∧ v = .str b tb) := by
  walk_at "tell"
  k_steps
  all_goals refine Done.str' (P := fun b => b = Txt.item s p) rfl
end
noncomputable def CtJ (m₀ : PySem.Str → Option Value) (f : Nat → Int) (i : Nat) (m : PySem.Str → Option Value) : Prop :=
  ∃ (c : Int) (tc : Tok) (o : Option Value), (∀ z : PySem.Str, m z = if z = "i" then o else if z = "count" then some (.int c tc) else m₀ z) ∧ c = f i
theorem CtJ.start {m₀ : PySem.Str → Option Value} {f : Nat → Int} {c : Int} {tc : Tok} (h : m₀ "count" = some (.int c tc)) (hc : c = f 0) : CtJ m₀ f 0 m₀ :=
  ⟨c, tc, m₀ "i", fun z => by
    by_cases z1 : z = "i"
    · subst z1; rw [if_pos rfl]
    · rw [if_neg z1]
      by_cases z2 : z = "count"
      · subst z2; rw [if_pos rfl, h]
      · rw [if_neg z2], hc⟩
theorem CtJ.step {m₀ m : PySem.Str → Option Value} {f : Nat → Int} {i : Nat} {c : Int} {tc : Tok} (h : m "count" = some (.int c tc)) (hc : c = f (i + 1)) (hm : ∀ z : PySem.Str, z ≠ "i" → z ≠ "count" → m z = m₀ z) : CtJ m₀ f (i + 1) m :=
  ⟨c, tc, m "i", fun z => by
    by_cases z1 : z = "i"
    · subst z1; rw [if_pos rfl]
    · rw [if_neg z1]
      by_cases z2 : z = "count"
      · subst z2; rw [if_pos rfl, h]
      · rw [if_neg z2, hm z z1 z2], hc⟩
theorem CtJ.fr {m₀ m₁ : PySem.Str → Option Value} {v : Value} {c : Int} {tc : Tok} {o : Option Value} (h : ∀ z : PySem.Str, m₁ z = if z = "i" then o else if z = "count" then some (.int c tc) else m₀ z) :
    (fun (y : PySem.Str) => if y = "i" then some v else m₁ y) = (fun (y : PySem.Str) => if y = "i" then some v else if y = "count" then some (.int c tc) else m₀ y) := by
  funext y
  by_cases z1 : y = "i"
  · rw [if_pos z1, if_pos z1]
  · rw [if_neg z1, if_neg z1, h, if_neg z1]
noncomputable def cntB (b : Bool) : List Bool → Int | [] => 0 | x :: r => (if (x == b) = true then 1 else 0) + cntB b r
theorem cntB_take (b : Bool) : ∀ (bs : List Bool) (i : Nat) (h : i < bs.length), cntB b (bs.take (i + 1)) = cntB b (bs.take i) + (if (bs[i] == b) = true then 1 else 0)
  | x :: r, 0, _ => by simp [cntB]
  | x :: r, i + 1, h => by
    have := cntB_take b r i (by simpa using h)
    simp only [List.take_succ_cons, cntB, this, List.getElem_cons_succ]; omega
noncomputable def cntS (b : PySem.Str) : List Nat → Int | [] => 0 | c :: r => (if ((⟨#[c]⟩ : PySem.Str) == b) = true then 1 else 0) + cntS b r
theorem cntS_take (b : PySem.Str) : ∀ (bs : List Nat) (i : Nat) (h : i < bs.length), cntS b (bs.take (i + 1)) = cntS b (bs.take i) + (if ((⟨#[bs[i]]⟩ : PySem.Str) == b) = true then 1 else 0)
  | x :: r, 0, _ => by simp [cntS]
  | x :: r, i + 1, h => by
    have := cntS_take b r i (by simpa using h)
    simp only [List.take_succ_cons, cntS, this, List.getElem_cons_succ]; omega
theorem iter_cntB {prog : Program} {w : World} {A : Around} {E : Value → Shared → Prop} {s : Shared} {env : Env} {h₀ : Heap} {body : List Stmt} {Q : Flow → Shared → Prop}
    {l : Addr} {vs : List Value} {k : Nat} {m₀ : PySem.Str → Option Value} {news : Led} {bs : List Bool} {b : Bool} {ts : Tok}
    (hvs : vs = bs.map Value.bool) (hh : A.handled = none) (F : Fr h₀ env.locals s.heap m₀) (N : News h₀ env.locals s.heap news) (hm : (l, listOf vs.toArray k) ∈ news) (h2 : m₀ "count" = some (.int 0 ts)) (hb : m₀ "b" = some (.bool b))
    (turn : ∀ i x c tc h tk I oI, (∀ q ∈ news, q.1 < I) → c + (if (x == b) = true then 1 else 0) = cntB b (bs.take (i + 1)) →
      Fr h₀ env.locals h (fun y => if y = "i" then some (.bool x) else if y = "count" then some (.int c tc) else m₀ y) → News h₀ env.locals h ((I, oI) :: news) →
      wpAny (model prog w) A (execs body env) (TurnPost h₀ env.locals (CtJ m₀ (fun i => cntB b (bs.take i)) (i + 1)) ((I, oI) :: news) { s with heap := h, toks := tk } Q) E { s with heap := h, toks := tk })
    (done : ∀ o c tc h tk, c = cntB b bs → Fr h₀ env.locals h (fun y => if y = "i" then o else if y = "count" then some (.int c tc) else m₀ y) → News h₀ env.locals h news → Q .next { s with heap := h, toks := tk }) :
    wpAny (model prog w) A (pyIter (.ref l)) (fun it s₂ => LoopAtV prog w A h₀ env "i" body Q E it s₂) E s := by
  refine iter_led (vs := vs) (CtJ m₀ (fun i => cntB b (bs.take i))) hh F N hm (.start h2 rfl) ?_ ?_
  · rintro i v m₁ h tk I oI hI hi hv ⟨c, tc, o, em1, ec⟩ F₁ N₁
    subst hvs
    have hil : i < bs.length := by simpa using hi
    have hv' : v = .bool bs[i] := by
      have := hv; simp only [List.getElem?_map, List.getElem?_eq_getElem hil, Option.map_some, Option.some.injEq] at this; exact this.symm
    subst hv'
    refine turn i bs[i] c tc h tk I oI hI (by rw [cntB_take b bs i hil, ec]) ?_ N₁
    rw [← CtJ.fr em1]; exact F₁
  · rintro m₁ h tk ⟨c, tc, o, em1, ec⟩ F₁ N₁
    subst hvs
    have : m₁ = (fun (y : PySem.Str) => if y = "i" then o else if y = "count" then some (Value.int c tc) else m₀ y) := funext em1
    exact done o c tc h tk (by rw [ec]; simp) (this ▸ F₁) N₁
theorem iter_cntS {prog : Program} {w : World} {A : Around} {E : Value → Shared → Prop} {s : Shared} {env : Env} {h₀ : Heap} {px : Pos} {body : List Stmt} {Q : Flow → Shared → Prop}
    {x b : PySem.Str} {t tb : Tok} {m₀ : PySem.Str → Option Value} {news : Led} {ts : Tok} {n : Nat}
    (hh : A.handled = none) (F : Fr h₀ env.locals s.heap m₀) (N : News h₀ env.locals s.heap news) (h2 : m₀ "count" = some (.int 0 ts)) (hb : m₀ "b" = some (.str b tb)) (hT : Toks (tb + 1) n) (hn : n ≤ s.toks)
    (hx : env.kindOf "i" = some .local) (hp : (env.scope.kind == .class || (env.scope.kind == .module && env.locals != env.globals)) = false)
    (turn : ∀ i ch tch c tc h tk I oI, (∀ q ∈ news, q.1 < I) → tch ≠ 0 → tch ≠ tb → c + (if (ch == b) = true then 1 else 0) = cntS b (x.cps.toList.take (i + 1)) →
      Fr h₀ env.locals h (fun y => if y = "i" then some (.str ch tch) else if y = "count" then some (.int c tc) else m₀ y) → News h₀ env.locals h ((I, oI) :: news) →
      wpAny (model prog w) A (execs body env) (TurnPost h₀ env.locals (CtJ m₀ (fun i => cntS b (x.cps.toList.take i)) (i + 1)) ((I, oI) :: news) { s with heap := h, toks := tk } Q) E { s with heap := h, toks := tk })
    (done : ∀ o c tc h tk, c = cntS b x.cps.toList → Fr h₀ env.locals h (fun y => if y = "i" then o else if y = "count" then some (.int c tc) else m₀ y) → News h₀ env.locals h news → Q .next { s with heap := h, toks := tk }) :
    wpAny (model prog w) A (pyIter (.str x t)) (fun it s₂ => LoopT prog w A env "i" px body Q E it s₂) E s := by
  have main : ∀ (o : Obj) (St : Nat → Heap → Prop), WalksK prog w A s.heap.objs.size [s.heap.objs.size] x.cps.size (fun i tk v => ∃ c, x.cps[i]? = some c ∧ v = .str ⟨#[c]⟩ tk) St → St 0 (s.heap.push o) → (∀ i h, St i h → ∃ o, h.get? s.heap.objs.size = some o) →
      LoopT prog w A env "i" px body Q E (.ref s.heap.objs.size) { s with heap := s.heap.push o } := by
    intro o St W st hIo
    refine loopT (s₂ := { s with heap := s.heap.push o }) (T := tb + 1) (CtJ m₀ (fun i => cntS b (x.cps.toList.take i))) W st (F.push _) (fun p hp => ⟨Heap.get?_push_of_some _ (N p hp).1, (N p hp).2⟩)
      (fun p hp => Nat.ne_of_lt (Heap.lt_size (N p hp).1)) (next_is_new F) ?_ (.head _) ?_ hIo (.start h2 rfl) (Nat.le_trans hT hn) hx hp ?_ ?_
    · intro q
      exact absurd F.ns.lt ((List.mem_singleton.mp q) ▸ Nat.lt_irrefl _)
    · intro b' hb'
      exact .inl (List.mem_singleton.mp hb')
    · rintro i v m₁ h tk tv oI hi hTv _ hP ⟨c, tc, o, em1, ec⟩ F₁ N₁
      obtain ⟨ch, hc, rfl⟩ := hP
      have hil : i < x.cps.toList.length := by simpa using hi
      have hch : ch = x.cps.toList[i] := by
        have := hc; simp only [hi, Array.getElem?_eq_getElem, Option.some.injEq] at this; rw [← this]; simp
      refine turn i ⟨#[ch]⟩ tv c tc h tk _ oI (fun p hp => Heap.lt_size (N p hp).1) (Nat.ne_of_gt (Nat.lt_of_lt_of_le (Nat.succ_pos tb) hTv)) (Nat.ne_of_gt (show tb < tv from hTv)) (by rw [cntS_take b _ i hil, ec, hch]) ?_ N₁
      rw [← CtJ.fr em1]; exact F₁
    · rintro m₁ h tk ⟨c, tc, o, em1, ec⟩ _ F₁ N₁
      have : m₁ = (fun (y : PySem.Str) => if y = "i" then o else if y = "count" then some (Value.int c tc) else m₀ y) := funext em1
      have e2 : x.cps.toList.take x.cps.size = x.cps.toList := List.take_of_length_le (by simp)
      exact done o c tc h tk (by rw [ec]; simp only [e2]) (this ▸ F₁) N₁
  cases ha : x.cps.all (· < 128)
  · exact wpAny_pyIter_wide ha (main _ _ (WalksK.wide hh _ x t) ⟨_, Heap.get?_push_size _ rfl, rfl, rfl⟩ (fun i h st => by obtain ⟨o, e, _⟩ := st; exact ⟨o, e⟩))
  · exact wpAny_pyIter_ascii ha (main _ _ (WalksK.ascii hh _ x t) ⟨_, Heap.get?_push_size _ rfl, rfl, rfl⟩ (fun i h st => by obtain ⟨o, e, _⟩ := st; exact ⟨o, e⟩))
theorem CtJ.hit {f : Nat → Int} {i : Nat} {c : Int} {q : Bool} (h : c + (if q = true then 1 else 0) = f (i + 1)) (hq : q = true) : c + 1 = f (i + 1) := by rw [if_pos hq] at h; exact h
theorem CtJ.miss {f : Nat → Int} {i : Nat} {c : Int} {q : Bool} (h : c + (if q = true then 1 else 0) = f (i + 1)) (hq : q = false) : c = f (i + 1) := by rw [if_neg (by rw [hq]; decide)] at h; omega
theorem Done.int {b : Int} {P : Int → Prop} {t : Tok} (h : P b) : Done (∃ c tc, P c ∧ Value.int b t = Value.int c tc) := ⟨b, t, h, rfl⟩
theorem lnF2c_2 : True := by
  (k_with "m:TurnPost" => ((try dsimp only [TurnPost]); (try dsimp only); first
  | (k_dflt (refine' TurnEnd.intro ?Fq ?Nq ?sq ?_; (case Fq => k_asm); (case Nq => k_asm); (case sq => walk_at "sub"); k_whole))
  | skip))
  exact trivial
section
theorem lnF2c_3 : True := by
  (k_with "m:pyIter ref" => (k_here; k_dflt (refine' iter_cntB ?vq ?hhq ?Fq ?Nq ?mq ?h2q ?h3q ?_ ?_; (case vq => assumption); (case hhq => rfl); (case Fq => k_asm); (case Nq => k_asm); (case mq => k_mem); (case h2q => rfl); (case h3q => rfl); k_whole)))
  exact trivial
theorem countB_tell (w : World) (l : Addr) (vs : List Value) (k : Nat) (bs : List Bool) (b : Bool) (hvs : vs = bs.map Value.bool) :
    Tell 350 w 35 [.ref l, .bool b] [(l, listOf vs.toArray k)] (fun tl v => tl = [] ∧ ∃ r t, r = cntB b bs ∧ v = .int r t) := by
  walk_at "tell"
  k_steps
  any_goals refine CtJ.step (c := _) rfl ?_ (fun z z1 z2 => by simp only [if_neg z1, if_neg z2])
  any_goals first | exact CtJ.hit (f := fun i => cntB b (bs.take i)) (by assumption) (by assumption) | exact CtJ.miss (f := fun i => cntB b (bs.take i)) (by assumption) (by assumption)
  all_goals refine Done.int (P := fun c => c = cntB b bs) (by assumption)
end
section
theorem lnF2c_4 : True := by
  (k_with "m:tellP" => (
  refine TellP.mk ?_
  k_fill
  intro mean mg mb gd cn cs a ccd cl outer A₀ base h₀ L m news s Q E B F X N T hk hsub hP hret
  refine wpAny_call ?_
  k_dflt (refine' enterS ?k1q ?k2q ?k3q ?k4q ?k5q hsub ?kAq ?kFq ?kKq ?k6q ?k7q ?k8q ?k9q ?kBq ?_ ?c5q ?c2q ?c3q ?c4q; (case kAq => exact rfl); (case kFq => exact rfl); (case kKq => assumption); (case k1q => k_asm); (case k2q => k_asm); (case k3q => k_asm); (case k4q => k_asm); (case k5q => k_asm); (case k6q => k_is); (case k7q => k_is); (case k8q => k_room); (case k9q => exact BindsTo.of_eq rfl); (case c5q => decide); (case kBq => exact locs rfl); (case c2q => exact rfl); (case c3q => exact rfl); (case c4q => exact rfl); k_whole)
  intro g' L' h' FG' F' N' B' X' T'
  (try dsimp only)
  (simp only [zipS, List.reverse_cons, List.reverse_nil, List.nil_append, List.cons_append] at F')
  clear B F X N T FG'
  k_fold))
  (k_with "m:execs cons" => (k_here; k_dflt (refine' execsK ?Tq ?nq ?_; (case Tq => assumption); (case nq => first | exact Nat.le_refl _ | exact Nat.le_add_right _ _ | (dsimp only; omega)); k_whole); (try dsimp only)))
  (k_with "m:compareOp Is str str" => (k_here; k_dflt (refine' is_str ?aq ?bq ?cq ?dq ?_; (case aq => assumption); (case bq => assumption); (case cq => assumption); (case dq => exact noneBooked (by assumption) (by assumption) (by assumption)); k_whole); intro b9 hb9))
  (k_with "m:exec For Name Name cons nil" => (k_here; k_dflt (refine' For_T ?_ ?hsq ?hEq; (case hsq => intro _; rfl); (case hEq => passes_own); k_whole)))
  (k_with "m:pyIter str" => (k_here; k_dflt (refine' iter_cntS ?hhq ?Fq ?Nq ?h2q ?h3q ?Tq ?nq ?hxq ?hpq ?_ ?_; (case hhq => rfl); (case Fq => k_asm); (case Nq => k_asm); (case h2q => rfl); (case h3q => rfl); (case Tq => assumption); (case nq => first | exact Nat.le_refl _ | exact Nat.le_add_right _ _ | (dsimp only; omega)); (case hxq => rfl); (case hpq => rfl); k_whole)))
  exact trivial
theorem countS_tell (w : World) (x b : PySem.Str) (t u : Tok) (hu : u ≠ 0) :
    TellP 350 w 35 [.str x t, .str b u] [] (fun s => Toks (u + 1) s.toks) (fun tl v => tl = [] ∧ ∃ r t, r = cntS b x.cps.toList ∧ v = .int r t) := by
  walk_at "tellP"
  k_steps
  any_goals refine CtJ.step (c := _) rfl ?_ (fun z z1 z2 => by simp only [if_neg z1, if_neg z2])
  any_goals first | exact CtJ.hit (f := fun i => cntS b (x.cps.toList.take i)) (by assumption) (by assumption) | exact CtJ.miss (f := fun i => cntS b (x.cps.toList.take i)) (by assumption) (by assumption) | exact CtJ.hit (f := fun i => cntS b (x.cps.toList.take i)) (by assumption) ((by assumption : _ → _) (by assumption))
  all_goals refine Done.int (P := fun c => c = cntS b x.cps.toList) (by assumption)
end
end
section
theorem lnF2d_0 : True := by k_with_none; exact trivial
theorem lnF2dp_1 : True := by
  (k_with "m:tell" => (
  unfold Tell
  k_fill
  intro mean9 mg9 mb9 gd9 cn9 cs9 a9 ccd9 cl9 outer9 A9 base9 h9 L9 m9 news9 s9 Q9 E9 B F X N T hk hsub hret
  refine wpAny_call ?_
  k_dflt (refine' enterS ?k1q ?k2q ?k3q ?k4q ?k5q hsub ?kAq ?kFq ?kKq ?k6q ?k7q ?k8q ?k9q ?kBq ?_ ?c5q ?c2q ?c3q ?c4q; (case kAq => exact rfl); (case kFq => exact rfl); (case kKq => assumption); (case k1q => k_asm); (case k2q => k_asm); (case k3q => k_asm); (case k4q => k_asm); (case k5q => k_asm); (case k6q => k_is); (case k7q => k_is); (case k8q => k_room); (case k9q => exact BindsTo.of_eq rfl); (case c5q => decide); (case kBq => exact locs rfl); (case c2q => exact rfl); (case c3q => exact rfl); (case c4q => exact rfl); k_whole)
  intro g' L' h' FG' F' N' B' X' T'
  (try dsimp only)
  (simp only [zipS, List.reverse_cons, List.reverse_nil, List.nil_append, List.cons_append] at F')
  clear B F X N T FG'
  k_fold))
  (k_with "m:sub" => first | exact List.forall_mem_nil _ | (refine List.forall_mem_cons.mpr ⟨by k_mem, ?_⟩; walk_at "sub"))
  (k_with "m:apart" => first | exact List.forall_mem_nil _ | (refine List.forall_mem_cons.mpr ⟨by k_ne, ?_⟩; walk_at "apart"))
  (k_with "m:leave0" => (k_dflt (refine' LeaveS.intro [] ?k1q ?k2q ?k3q (List.forall_mem_nil _) (List.forall_mem_nil _) ?_; (case k1q => k_asm); (case k2q => k_asm); (case k3q => walk_at "sub"); k_whole); intro kF kN kA; (with_reducible rename (∀ (_ : Value) (_ : List (Addr × Obj)) (_ : Heap) (_ : Nat), Fr _ _ _ _ → _) => hret); refine hret _ [] _ _ kF kN kA ⟨rfl, Done.intro ?_⟩; clear kF kN kA hret))
  (k_with "m:leave1" => (k_dflt (refine' LeaveS.intro1 ?k1q ?k2q ?k3q ?k4q ?k5q ?_; (case k1q => k_asm); (case k2q => k_asm); (case k3q => walk_at "sub"); (case k4q => k_mem); (case k5q => walk_at "apart"); k_whole); intro kF kN kA; (with_reducible rename (∀ (_ : Value) (_ : List (Addr × Obj)) (_ : Heap) (_ : Nat), Fr _ _ _ _ → _) => hret); refine hret _ [_] _ _ kF kN kA (Done.intro ?_); clear kF kN kA hret))
  (k_with "m:leave" => walk_at "leave0")
  (k_with "m:LeaveS" => ((try dsimp only); walk_at "leave"))
  (k_with "m:use0" => ((case k1q => k_asm); (case k2q => k_asm); (case k3q => k_asm); (case k4q => k_asm); (case k5q => k_asm); (case kKq => first | exact rfl | assumption); (case ksq => walk_at "sub"); (case kdq => k_room); (case kuq => k_room); k_whole))
  (k_with "m:gotInt" => (intro r9 h9 tk9 F9 N9 hR9; obtain ⟨v9, t9, hv9, e9⟩ := hR9; subst e9; (try k_sweep); (try dsimp only)))
  (k_with "m:gotBool" => (intro r9 h9 tk9 F9 N9 hR9; obtain ⟨v9, hv9, e9⟩ := hR9; subst e9; (try k_sweep); (try dsimp only)))
  (k_with "m:item" => (k_here; k_dflt (refine' item_fast ?Nq ?mq ?aq ?bq ?xq ?_ ?yq; (case Nq => k_asm); (case mq => k_mem); (case aq => decide); (case bq => decide); (case xq => exact rfl); (case yq => with_unfolding_all rfl); k_whole)))
  (k_with "m:subscriptTail Name BinOp ref int" => walk_at "item")
  (k_with "m:subscriptTail Name Name ref int" => walk_at "item")
  (k_with "m:subscriptTail Name Constant ref int" => walk_at "item")
  (k_with "m:eval Name" => (k_here; k_dflt (refine' nameX_L ?Fq ?vq ?_ ?aq ?bq; (case bq => rfl); (case Fq => k_asm); (case aq => rfl); (case vq => rfl); k_whole)))
  (k_with "m:subscriptTail Name Slice str ref" => (k_here; (with_reducible rename Fr _ _ _ _ => F'); (with_reducible rename News _ _ _ _ => N'); (first | ((with_reducible show wpAny _ _ (subscriptTail _ (PySem.Expr.Slice none none none _) _ _) _ _ _); refine slice_strN_nn (hsz := ?hszq) (s := ⟨_, _, _, _, _⟩) F' N' ?_) | ((with_reducible show wpAny _ _ (subscriptTail _ (PySem.Expr.Slice none (some _) none _) _ _) _ _ _); refine slice_strN_ns (hsz := ?hszq) (s := ⟨_, _, _, _, _⟩) F' N' ?_) | ((with_reducible show wpAny _ _ (subscriptTail _ (PySem.Expr.Slice (some _) none none _) _ _) _ _ _); refine slice_strN_sn (hsz := ?hszq) (s := ⟨_, _, _, _, _⟩) F' N' ?_) | ((with_reducible show wpAny _ _ (subscriptTail _ (PySem.Expr.Slice (some _) (some _) none _) _ _) _ _ _); refine slice_strN_ss (hsz := ?hszq) (s := ⟨_, _, _, _, _⟩) F' N' ?_)); (case hszq => exact Short.fits (by assumption)); intro _ _ _ _ _))
  (k_with "m:execs cons" => (dsimp only; walk_at "execs cons"))
  exact trivial
theorem lnF2dF1a_1 : True := by
  (k_with "m:call ref" => (k_here; (with_reducible show wpAny _ _ (call (Value.ref 21) [Value.int _ _, Value.int _ _]) _ _ _); k_dflt (refine' TellUse0 (mul_tell _ _ _ _ _ ?okq) ?k1q ?k2q ?k3q ?k4q ?k5q ?kKq ?ksq ?kdq ?kuq ?_; (case okq => exact IntMulOk.of_left (by assumption)); walk_at "use0"); walk_at "gotInt"))
  (k_with "m:call ref" => (k_here; (with_reducible show wpAny _ _ (call (Value.ref 28) [Value.int _ _, Value.int _ _]) _ _ _); k_dflt (refine' TellUse0 (sub_tell _ _ _ _ _) ?k1q ?k2q ?k3q ?k4q ?k5q ?kKq ?ksq ?kdq ?kuq ?_; walk_at "use0"); walk_at "gotInt"))
  exact trivial
/-- the postcondition of a for whose end is never reached -/
noncomputable def Never (Q : Flow → Shared → Prop) (f : Flow) (s : Shared) : Prop := match f with | .next => False | f => Q f s
theorem For_never {prog : Program} {w : World} {A : Around} {E : Value → Shared → Prop} {s : Shared} {env : Env} {h₀ : Heap} {target iter : PySem.Expr} {body orelse : List Stmt} {Q : Flow → Shared → Prop} {pos : Pos} {m : PySem.Str → Option Value} (_F : Fr h₀ env.locals s.heap m)
    (h : wpAny (model prog w) A (eval iter env) (fun xv s₁ => wpAny (model prog w) A (pyIter xv) (fun it s₂ => TurnsAt prog w A h₀ env target body (Never Q) E it s₂) E s₁) E s)
    (hs : ∀ x, foldedSetIterable iter env x = pure x) (hE : PassesOwn (model prog w) A env E) :
    wpAny (model prog w) A (exec (.For target iter body orelse pos) env) Q E s := by
  refine wpAny_For (wpAny_mono h (fun xv s₁ h₁ => wpAny_mono h₁ (fun it s₂ h₂ => ?_) fun _ _ e => e) fun _ _ e => e) hs
  obtain ⟨I, fp, wr, n, P, Md, St, m, news, J, rfl, W, hLf, hwr, hnw, hst, F, N, h0, step, hQ⟩ := h₂
  have old : ∀ b o, h₀.get? b = some o → b ∉ wr := fun b o e hb => by rw [hwr b hb] at e; cases e
  refine codeAny_forLoop_any
    (fun k s' => ∃ i h' tk m' news', s' = { s₂ with heap := h', toks := tk } ∧ J i m' news' ∧ Fr h₀ env.locals h' m' ∧ News h₀ env.locals h' news' ∧ St i h' ∧ (∀ p ∈ news', p.1 ∉ wr) ∧ i ≤ n ∧ k + i = n + 1) ?_ (n + 1)
    ⟨0, s₂.heap, s₂.toks, m, news, rfl, h0, F, N, hst, hnw, Nat.zero_le _, rfl⟩
  rintro k s' ⟨i, h', tk, m', news', rfl, hJ, F', N', hst', hnw', hi, hk⟩
  have keepF : ∀ h₁ : Heap, (∀ b o, b ∉ wr → h'.get? b = some o → h₁.get? b = some o) → Fr h₀ env.locals h₁ m' := fun h₁ hk₁ =>
    ⟨F'.ns.at' fun o e => hk₁ _ o (fun q => hLf (W.sub _ q)) e, fun b o e => hk₁ b o (old b o e) (F'.keep b o e), F'.above⟩
  have keepN : ∀ h₁ : Heap, (∀ b o, b ∉ wr → h'.get? b = some o → h₁.get? b = some o) → News h₀ env.locals h₁ news' := fun h₁ hk₁ p hp => ⟨hk₁ _ _ (hnw' p hp) (N' p hp).1, (N' p hp).2⟩
  by_cases hlt : i < n
  · refine W.item i _ _ _ hlt hst' fun v h₁ tk₁ hMd hk₁ => W.go i v _ _ _ hMd fun h₂ hP hst₂ hk₂ => ?_
    have both := fun b o hb x => hk₂ b o hb (hk₁ b o hb x)
    have F₂ := keepF h₂ both
    have Nown : News h₀ env.locals h₂ (PyProof.Rows.ownOf h₀ fp h₂) := news_ownOf hLf
    refine wpAny_mono (step i v m' news' h₂ tk₁ (PyProof.Rows.ownOf h₀ fp h₂) hlt hP hJ hnw' ownOf_sub (fun p hp => (Nown p hp).1) (fun b hb hn o e => mem_ownOf hb hn e) hst₂ F₂ (Nown.append (keepN h₂ both)))
      (fun _ s₃ hb => wpAny_mono (wpAny_passesOwn hE hb) (fun f s₄ h₄ => ?_) fun _ _ e => e) hE
    have on : LoopStepU h₀ env.locals wr (PyProof.Rows.ownOf h₀ fp h₂) (J (i + 1)) { s₂ with heap := h₂, toks := tk₁ } .next s₄ →
        ∃ k', k' < k ∧ ∃ i h' tk m' news', s₄ = { s₂ with heap := h', toks := tk } ∧ J i m' news' ∧ Fr h₀ env.locals h' m' ∧ News h₀ env.locals h' news' ∧ St i h' ∧ (∀ p ∈ news', p.1 ∉ wr) ∧ i ≤ n ∧ k' + i = n + 1 := by
      rintro ⟨_, h₃, tk₃, m₂, news₂, rfl, F₃, N₃, ha₃, hJ₃⟩
      refine ⟨k - 1, by omega, i + 1, h₃, tk₃, m₂, news₂, rfl, hJ₃, F₃, N₃.right, ?_, ha₃, hlt, by omega⟩
      refine W.frame _ _ _ hst₂ fun b hb o e => ?_
      cases hn : h₀.get? b with
      | none => exact (N₃ _ (List.mem_append_left _ (mem_ownOf hb hn e))).1
      | some o₀ =>
        have q := F₂.keep b o₀ hn
        rw [e] at q
        rw [Option.some.inj q]; exact F₃.keep b o₀ hn
    cases f with
    | ret v => exact h₄
    | brk => exact (h₄ : False).elim
    | cont => exact on h₄
    | next => exact on h₄
  · have hin : i = n := by omega
    subst hin
    exact W.done _ _ _ hst' fun h₁ tk₁ hk₁ => (hQ h₁ tk₁ m' news' (keepF h₁ hk₁) (keepN h₁ hk₁) hnw' hJ : False).elim
noncomputable def idxB (b : Bool) : List Bool → Option Nat | [] => none | x :: r => if (x == b) = true then some 0 else (idxB b r).map (· + 1)
theorem idx_hit {b x : Bool} {r : List Bool} (h : (x == b) = true) : idxB b (x :: r) = some 0 := if_pos h
theorem idx_miss {b x : Bool} {r : List Bool} (h : (x == b) = false) : idxB b (x :: r) = (idxB b r).map (· + 1) := if_neg (by rw [h]; decide)
theorem lnF2d_1 : True := by
  (k_with "m:exec For" => (k_here; (rename Fr _ _ _ _ => lF'); k_dflt (refine' For_never lF' ?_ ?hsq ?hEq; (case hsq => intro _; rfl); (case hEq => passes_own); k_whole)))
  (k_with "m:Never" => ((try dsimp only [Never]); (try dsimp only)))
  exact trivial
theorem index_tell (w : World) (l : Addr) (k : Nat) (b1 b2 b3 b4 b5 b6 b7 b : Bool) (hs : idxB b [b1, b2, b3, b4, b5, b6, b7] ≠ none) :
    Tell 350 w 49 [.ref l, .bool b] [(l, listOf #[.bool b1, .bool b2, .bool b3, .bool b4, .bool b5, .bool b6, .bool b7] k)] (fun tl v => tl = [] ∧ ∃ (r : Nat) (t : Tok), idxB b [b1, b2, b3, b4, b5, b6, b7] = some r ∧ v = .int r t) := by
  walk_at "tell"
  k_steps
  any_goals first
    | exact ⟨0, _, by rw [idx_hit (by assumption)], rfl⟩
    | exact ⟨1, _, by rw [idx_miss (by assumption), idx_hit (by assumption)]; rfl, rfl⟩
    | exact ⟨2, _, by rw [idx_miss (by assumption), idx_miss (by assumption), idx_hit (by assumption)]; rfl, rfl⟩
    | exact ⟨3, _, by rw [idx_miss (by assumption), idx_miss (by assumption), idx_miss (by assumption), idx_hit (by assumption)]; rfl, rfl⟩
    | exact ⟨4, _, by rw [idx_miss (by assumption), idx_miss (by assumption), idx_miss (by assumption), idx_miss (by assumption), idx_hit (by assumption)]; rfl, rfl⟩
    | exact ⟨5, _, by rw [idx_miss (by assumption), idx_miss (by assumption), idx_miss (by assumption), idx_miss (by assumption), idx_miss (by assumption), idx_hit (by assumption)]; rfl, rfl⟩
    | exact ⟨6, _, by rw [idx_miss (by assumption), idx_miss (by assumption), idx_miss (by assumption), idx_miss (by assumption), idx_miss (by assumption), idx_miss (by assumption), idx_hit (by assumption)]; rfl, rfl⟩
    | exact absurd (show idxB b [b1, b2, b3, b4, b5, b6, b7] = none by rw [idx_miss (by assumption), idx_miss (by assumption), idx_miss (by assumption), idx_miss (by assumption), idx_miss (by assumption), idx_miss (by assumption), idx_miss (by assumption)]; rfl) (by assumption)
end
section
theorem lnF3d_0 : True := by k_with_none; exact trivial
theorem lnF3dp_1 : True := by
  (k_with "m:tell" => (
  unfold Tell
  k_fill
  intro mean9 mg9 mb9 gd9 cn9 cs9 a9 ccd9 cl9 outer9 A9 base9 h9 L9 m9 news9 s9 Q9 E9 B F X N T hk hsub hret
  refine wpAny_call ?_
  k_dflt (refine' enterS ?k1q ?k2q ?k3q ?k4q ?k5q hsub ?kAq ?kFq ?kKq ?k6q ?k7q ?k8q ?k9q ?kBq ?_ ?c5q ?c2q ?c3q ?c4q; (case kAq => exact rfl); (case kFq => exact rfl); (case kKq => assumption); (case k1q => k_asm); (case k2q => k_asm); (case k3q => k_asm); (case k4q => k_asm); (case k5q => k_asm); (case k6q => k_is); (case k7q => k_is); (case k8q => k_room); (case k9q => exact BindsTo.of_eq rfl); (case c5q => decide); (case kBq => exact locs rfl); (case c2q => exact rfl); (case c3q => exact rfl); (case c4q => exact rfl); k_whole)
  intro g' L' h' FG' F' N' B' X' T'
  (try dsimp only)
  (simp only [zipS, List.reverse_cons, List.reverse_nil, List.nil_append, List.cons_append] at F')
  clear B F X N T FG'
  k_fold))
  (k_with "m:sub" => first | exact List.forall_mem_nil _ | (refine List.forall_mem_cons.mpr ⟨by k_mem, ?_⟩; walk_at "sub"))
  (k_with "m:apart" => first | exact List.forall_mem_nil _ | (refine List.forall_mem_cons.mpr ⟨by k_ne, ?_⟩; walk_at "apart"))
  (k_with "m:leave0" => (k_dflt (refine' LeaveS.intro [] ?k1q ?k2q ?k3q (List.forall_mem_nil _) (List.forall_mem_nil _) ?_; (case k1q => k_asm); (case k2q => k_asm); (case k3q => walk_at "sub"); k_whole); intro kF kN kA; (with_reducible rename (∀ (_ : Value) (_ : List (Addr × Obj)) (_ : Heap) (_ : Nat), Fr _ _ _ _ → _) => hret); refine hret _ [] _ _ kF kN kA ⟨rfl, Done.intro ?_⟩; clear kF kN kA hret))
  (k_with "m:leave1" => (k_dflt (refine' LeaveS.intro1 ?k1q ?k2q ?k3q ?k4q ?k5q ?_; (case k1q => k_asm); (case k2q => k_asm); (case k3q => walk_at "sub"); (case k4q => k_mem); (case k5q => walk_at "apart"); k_whole); intro kF kN kA; (with_reducible rename (∀ (_ : Value) (_ : List (Addr × Obj)) (_ : Heap) (_ : Nat), Fr _ _ _ _ → _) => hret); refine hret _ [_] _ _ kF kN kA (Done.intro ?_); clear kF kN kA hret))
  (k_with "m:leave" => walk_at "leave0")
  (k_with "m:LeaveS" => ((try dsimp only); walk_at "leave"))
  (k_with "m:use0" => ((case k1q => k_asm); (case k2q => k_asm); (case k3q => k_asm); (case k4q => k_asm); (case k5q => k_asm); (case kKq => first | exact rfl | assumption); (case ksq => walk_at "sub"); (case kdq => k_room); (case kuq => k_room); k_whole))
  (k_with "m:gotInt" => (intro r9 h9 tk9 F9 N9 hR9; obtain ⟨v9, t9, hv9, e9⟩ := hR9; subst e9; (try k_sweep); (try dsimp only)))
  (k_with "m:gotBool" => (intro r9 h9 tk9 F9 N9 hR9; obtain ⟨v9, hv9, e9⟩ := hR9; subst e9; (try k_sweep); (try dsimp only)))
  (k_with "m:item" => (k_here; k_dflt (refine' item_fast ?Nq ?mq ?aq ?bq ?xq ?_ ?yq; (case Nq => k_asm); (case mq => k_mem); (case aq => decide); (case bq => decide); (case xq => exact rfl); (case yq => with_unfolding_all rfl); k_whole)))
  (k_with "m:subscriptTail Name BinOp ref int" => walk_at "item")
  (k_with "m:subscriptTail Name Name ref int" => walk_at "item")
  (k_with "m:subscriptTail Name Constant ref int" => walk_at "item")
  (k_with "m:eval Name" => (k_here; k_dflt (refine' nameX_L ?Fq ?vq ?_ ?aq ?bq; (case bq => rfl); (case Fq => k_asm); (case aq => rfl); (case vq => rfl); k_whole)))
  (k_with "m:subscriptTail Name Slice str ref" => (k_here; (with_reducible rename Fr _ _ _ _ => F'); (with_reducible rename News _ _ _ _ => N'); (first | ((with_reducible show wpAny _ _ (subscriptTail _ (PySem.Expr.Slice none none none _) _ _) _ _ _); refine slice_strN_nn (hsz := ?hszq) (s := ⟨_, _, _, _, _⟩) F' N' ?_) | ((with_reducible show wpAny _ _ (subscriptTail _ (PySem.Expr.Slice none (some _) none _) _ _) _ _ _); refine slice_strN_ns (hsz := ?hszq) (s := ⟨_, _, _, _, _⟩) F' N' ?_) | ((with_reducible show wpAny _ _ (subscriptTail _ (PySem.Expr.Slice (some _) none none _) _ _) _ _ _); refine slice_strN_sn (hsz := ?hszq) (s := ⟨_, _, _, _, _⟩) F' N' ?_) | ((with_reducible show wpAny _ _ (subscriptTail _ (PySem.Expr.Slice (some _) (some _) none _) _ _) _ _ _); refine slice_strN_ss (hsz := ?hszq) (s := ⟨_, _, _, _, _⟩) F' N' ?_)); (case hszq => exact Short.fits (by assumption)); intro _ _ _ _ _))
  (k_with "m:execs cons" => (dsimp only; walk_at "execs cons"))
  exact trivial
theorem lnF3dF1a_1 : True := by
  (k_with "m:call ref" => (k_here; (with_reducible show wpAny _ _ (call (Value.ref 21) [Value.int _ _, Value.int _ _]) _ _ _); k_dflt (refine' TellUse0 (mul_tell _ _ _ _ _ ?okq) ?k1q ?k2q ?k3q ?k4q ?k5q ?kKq ?ksq ?kdq ?kuq ?_; (case okq => exact IntMulOk.of_left (by assumption)); walk_at "use0"); walk_at "gotInt"))
  (k_with "m:call ref" => (k_here; (with_reducible show wpAny _ _ (call (Value.ref 28) [Value.int _ _, Value.int _ _]) _ _ _); k_dflt (refine' TellUse0 (sub_tell _ _ _ _ _) ?k1q ?k2q ?k3q ?k4q ?k5q ?kKq ?ksq ?kdq ?kuq ?_; walk_at "use0"); walk_at "gotInt"))
  exact trivial
theorem lnF3dF2_1 : True := by
  (k_with "m:short" => first | assumption | exact Short.of (by decide +kernel))
  (k_with "m:splitok" => first | assumption | exact SplitOk.of (by decide +kernel))
  (k_with "m:call ref" => (k_here; (with_reducible show wpAny _ _ (call (Value.ref 56) [Value.str _ _, Value.str _ _]) _ _ _); k_dflt (refine' TellUse0 (em_tell _ _ _ _ _ ?swq ?sgq ?soq) ?k1q ?k2q ?k3q ?k4q ?k5q ?kKq ?ksq ?kdq ?kuq ?_; (case swq => walk_at "short"); (case sgq => walk_at "short"); (case soq => walk_at "splitok"); walk_at "use0"); walk_at "gotBool"))
  exact trivial
noncomputable def dueB (k c : Int) : Bool := decide (k ≤ c + 1) && (Int.fmod k 2 != Int.fmod c 2)
noncomputable def CRange (c : Int) : Prop := 0 ≤ c ∧ c ≤ 5
noncomputable def Long (x : PySem.Str) : Prop := 5 ≤ x.length
noncomputable def wOk (w : PySem.Str) (d : Bool) (bare : PySem.Str) : Bool := (decide (w.length ≤ 200) && splitOkB w) && ((em w bare != d) == false)
theorem wOk.short {w bare : PySem.Str} {d : Bool} (h : wOk w d bare = true) : Short w := by unfold wOk at h; simp only [Bool.and_eq_true, decide_eq_true_eq] at h; exact h.1.1
theorem wOk.split {w bare : PySem.Str} {d : Bool} (h : wOk w d bare = true) : SplitOk w := by unfold wOk at h; simp only [Bool.and_eq_true] at h; exact SplitOk.of h.1.2
theorem wOk.no {w bare : PySem.Str} {d : Bool} (h : wOk w d bare = true) : (em w bare != d) = false := by unfold wOk at h; simp only [Bool.and_eq_true, beq_iff_eq] at h; exact h.2
noncomputable def szOk (x y : PySem.Str) : Bool := decide (x.length + y.length ≤ 1000)
theorem szOk.fits {x y : PySem.Str} (h : szOk x y = true) : x.length + y.length ≤ sizeLine := by unfold szOk at h; exact Nat.le_trans (of_decide_eq_true h) (by decide)
noncomputable def mulB (x : PySem.Str) (n : Int) : Bool := decide (x.length ≤ 100) && (decide (0 ≤ n) && decide (n ≤ 100))
theorem mulB.ok {x : PySem.Str} {n : Int} (h : mulB x n = true) : MulOk x n := by
  unfold mulB at h
  simp only [Bool.and_eq_true, decide_eq_true_eq] at h
  exact mulOk_of 100 100 h.1 (by omega) (by omega) (by decide) (by decide)
noncomputable def nthJ (k : Nat) : PySem.Str := Txt.join "..." (([("+" : PySem.Str), "-", "+", "-", "+", "-", "+", "-"] : List PySem.Str).take k)
noncomputable def emRow (row : PySem.Str) (k : Nat) : Bool := em (nthJ k ++ ("..." : PySem.Str)) row
noncomputable def emBare (bare : PySem.Str) (k : Nat) : Bool := em (nthJ k) bare
noncomputable abbrev lastS (bare : PySem.Str) : PySem.Str := Txt.item bare (-1)
noncomputable abbrev oftenS (bare : PySem.Str) : PySem.Str := ("..." : PySem.Str) ++ Txt.mul (Txt.item bare (-1) ++ ("..." : PySem.Str)) (cntS (Txt.item bare (-1)) bare.cps.toList)
structure Facts (row bare : PySem.Str) (c : Int) : Prop where
  sr : Short row
  sb : Short bare
  lb : Long bare
  cr : CRange c
  so : Short (oftenS bare)
  ml : mulB (Txt.item bare (-1) ++ ("..." : PySem.Str)) (cntS (Txt.item bare (-1)) bare.cps.toList) = true
  ne : (Txt.item bare (-1) == ("" : PySem.Str)) = false
  a0 : szOk (Txt.item bare (-1)) "..." = true
  a1 : szOk "..." (Txt.mul (Txt.item bare (-1) ++ ("..." : PySem.Str)) (cntS (Txt.item bare (-1)) bare.cps.toList)) = true
  a2 : szOk (Txt.slice bare none (some 3)) "..." = true
  a3 : szOk (Txt.slice bare none (some 3) ++ ("..." : PySem.Str)) (Txt.slice bare (some 3) none) = true
  a4 : szOk bare "..." = true
  a5 : szOk (bare ++ ("..." : PySem.Str)) (Txt.item bare (-1)) = true
  a6 : szOk "+..." bare = true
  a7 : szOk "-..." (Txt.slice bare (some 1) none) = true
  a8 : szOk "..." bare = true
  a9 : szOk (("..." : PySem.Str) ++ bare) "..." = true
  a10 : szOk "..." (Txt.slice bare none (some (-1))) = true
  a11 : szOk (("..." : PySem.Str) ++ Txt.slice bare none (some (-1))) (Txt.replace "+-" (Txt.item bare (-1)) "") = true
  a12 : szOk (("..." : PySem.Str) ++ Txt.slice bare none (some (-1)) ++ Txt.replace "+-" (Txt.item bare (-1)) "") "..." = true
  a13 : szOk "...+" (Txt.item bare (-1)) = true
  a14 : szOk (("...+" : PySem.Str) ++ Txt.item bare (-1)) "..." = true
  a15 : szOk "+" (Txt.item bare (-1)) = true
  a16 : szOk (oftenS bare) (Txt.item bare (-1)) = true
  w0 : wOk bare true bare = true
  w1 : wOk (Txt.slice bare (some 1) none) false bare = true
  w2 : wOk (Txt.slice bare none (some (-1))) false bare = true
  w3 : wOk (Txt.slice bare none (some 3) ++ ("..." : PySem.Str) ++ Txt.slice bare (some 3) none) true bare = true
  w4 : wOk (bare ++ ("..." : PySem.Str) ++ Txt.item bare (-1)) false bare = true
  w5 : wOk (("+..." : PySem.Str) ++ bare) false bare = true
  w6 : wOk "-..." false bare = true
  w7 : wOk (("-..." : PySem.Str) ++ Txt.slice bare (some 1) none) false bare = true
  w8 : wOk (("..." : PySem.Str) ++ bare ++ ("..." : PySem.Str)) true bare = true
  w9 : wOk (("..." : PySem.Str) ++ Txt.slice bare none (some (-1)) ++ Txt.replace "+-" (Txt.item bare (-1)) "" ++ ("..." : PySem.Str)) false bare = true
  w10 : wOk (("...+" : PySem.Str) ++ Txt.item bare (-1) ++ ("..." : PySem.Str)) (!(PySem.Builtin.Str.occurrences bare (("+" : PySem.Str) ++ Txt.item bare (-1)) 0 bare.length 1).isEmpty) bare = true
  w11 : wOk (oftenS bare ++ Txt.item bare (-1)) false bare = true
  w12 : wOk (Txt.slice (oftenS bare) none (some (-3))) true bare = true
  ix : idxB false [emRow row 1, emRow row 2, emRow row 3, emRow row 4, emRow row 5, emRow row 6, emRow row 7] = some (c + 1).toNat
  ct : cntB true [emRow row 1, emRow row 2, emRow row 3, emRow row 4, emRow row 5, emRow row 6, emRow row 7] = c + 1
  d1 : emBare bare 1 = false
  d2 : emBare bare 2 = dueB 2 c
  d3 : emBare bare 3 = dueB 3 c
  d4 : emBare bare 4 = dueB 4 c
  d5 : emBare bare 5 = dueB 5 c
  d6 : emBare bare 6 = dueB 6 c
  d7 : emBare bare 7 = dueB 7 c
end
section
theorem lnF3_0 : True := by k_with_none; exact trivial
theorem lnF3p_1 : True := by
  (k_with "m:tell" => (
  unfold Tell
  k_fill
  intro mean9 mg9 mb9 gd9 cn9 cs9 a9 ccd9 cl9 outer9 A9 base9 h9 L9 m9 news9 s9 Q9 E9 B F X N T hk hsub hret
  refine wpAny_call ?_
  k_dflt (refine' enterS ?k1q ?k2q ?k3q ?k4q ?k5q hsub ?kAq ?kFq ?kKq ?k6q ?k7q ?k8q ?k9q ?kBq ?_ ?c5q ?c2q ?c3q ?c4q; (case kAq => exact rfl); (case kFq => exact rfl); (case kKq => assumption); (case k1q => k_asm); (case k2q => k_asm); (case k3q => k_asm); (case k4q => k_asm); (case k5q => k_asm); (case k6q => k_is); (case k7q => k_is); (case k8q => k_room); (case k9q => exact BindsTo.of_eq rfl); (case c5q => decide); (case kBq => exact locs rfl); (case c2q => exact rfl); (case c3q => exact rfl); (case c4q => exact rfl); k_whole)
  intro g' L' h' FG' F' N' B' X' T'
  (try dsimp only)
  (simp only [zipS, List.reverse_cons, List.reverse_nil, List.nil_append, List.cons_append] at F')
  clear B F X N T FG'
  k_fold))
  (k_with "m:sub" => first | exact List.forall_mem_nil _ | (refine List.forall_mem_cons.mpr ⟨by k_mem, ?_⟩; walk_at "sub"))
  (k_with "m:apart" => first | exact List.forall_mem_nil _ | (refine List.forall_mem_cons.mpr ⟨by k_ne, ?_⟩; walk_at "apart"))
  (k_with "m:leave0" => (k_dflt (refine' LeaveS.intro [] ?k1q ?k2q ?k3q (List.forall_mem_nil _) (List.forall_mem_nil _) ?_; (case k1q => k_asm); (case k2q => k_asm); (case k3q => walk_at "sub"); k_whole); intro kF kN kA; (with_reducible rename (∀ (_ : Value) (_ : List (Addr × Obj)) (_ : Heap) (_ : Nat), Fr _ _ _ _ → _) => hret); refine hret _ [] _ _ kF kN kA ⟨rfl, Done.intro ?_⟩; clear kF kN kA hret))
  (k_with "m:leave1" => (k_dflt (refine' LeaveS.intro1 ?k1q ?k2q ?k3q ?k4q ?k5q ?_; (case k1q => k_asm); (case k2q => k_asm); (case k3q => walk_at "sub"); (case k4q => k_mem); (case k5q => walk_at "apart"); k_whole); intro kF kN kA; (with_reducible rename (∀ (_ : Value) (_ : List (Addr × Obj)) (_ : Heap) (_ : Nat), Fr _ _ _ _ → _) => hret); refine hret _ [_] _ _ kF kN kA (Done.intro ?_); clear kF kN kA hret))
  (k_with "m:leave" => walk_at "leave0")
  (k_with "m:LeaveS" => ((try dsimp only); walk_at "leave"))
  (k_with "m:use0" => ((case k1q => k_asm); (case k2q => k_asm); (case k3q => k_asm); (case k4q => k_asm); (case k5q => k_asm); (case kKq => first | exact rfl | assumption); (case ksq => walk_at "sub"); (case kdq => k_room); (case kuq => k_room); k_whole))
  (k_with "m:gotInt" => (intro r9 h9 tk9 F9 N9 hR9; obtain ⟨v9, t9, hv9, e9⟩ := hR9; subst e9; (try k_sweep); (try dsimp only)))
  (k_with "m:gotBool" => (intro r9 h9 tk9 F9 N9 hR9; obtain ⟨v9, hv9, e9⟩ := hR9; subst e9; (try k_sweep); (try dsimp only)))
  (k_with "m:item" => (k_here; k_dflt (refine' item_fast ?Nq ?mq ?aq ?bq ?xq ?_ ?yq; (case Nq => k_asm); (case mq => k_mem); (case aq => decide); (case bq => decide); (case xq => exact rfl); (case yq => with_unfolding_all rfl); k_whole)))
  (k_with "m:subscriptTail Name BinOp ref int" => walk_at "item")
  (k_with "m:subscriptTail Name Name ref int" => walk_at "item")
  (k_with "m:subscriptTail Name Constant ref int" => walk_at "item")
  (k_with "m:eval Name" => (k_here; k_dflt (refine' nameX_L ?Fq ?vq ?_ ?aq ?bq; (case bq => rfl); (case Fq => k_asm); (case aq => rfl); (case vq => rfl); k_whole)))
  (k_with "m:subscriptTail Name Slice str ref" => (k_here; (with_reducible rename Fr _ _ _ _ => F'); (with_reducible rename News _ _ _ _ => N'); (first | ((with_reducible show wpAny _ _ (subscriptTail _ (PySem.Expr.Slice none none none _) _ _) _ _ _); refine slice_strN_nn (hsz := ?hszq) (s := ⟨_, _, _, _, _⟩) F' N' ?_) | ((with_reducible show wpAny _ _ (subscriptTail _ (PySem.Expr.Slice none (some _) none _) _ _) _ _ _); refine slice_strN_ns (hsz := ?hszq) (s := ⟨_, _, _, _, _⟩) F' N' ?_) | ((with_reducible show wpAny _ _ (subscriptTail _ (PySem.Expr.Slice (some _) none none _) _ _) _ _ _); refine slice_strN_sn (hsz := ?hszq) (s := ⟨_, _, _, _, _⟩) F' N' ?_) | ((with_reducible show wpAny _ _ (subscriptTail _ (PySem.Expr.Slice (some _) (some _) none _) _ _) _ _ _); refine slice_strN_ss (hsz := ?hszq) (s := ⟨_, _, _, _, _⟩) F' N' ?_)); (case hszq => exact Short.fits (by assumption)); intro _ _ _ _ _))
  (k_with "m:execs cons" => (dsimp only; walk_at "execs cons"))
  exact trivial
theorem lnF3F1a_1 : True := by
  (k_with "m:call ref" => (k_here; (with_reducible show wpAny _ _ (call (Value.ref 21) [Value.int _ _, Value.int _ _]) _ _ _); k_dflt (refine' TellUse0 (mul_tell _ _ _ _ _ ?okq) ?k1q ?k2q ?k3q ?k4q ?k5q ?kKq ?ksq ?kdq ?kuq ?_; (case okq => exact IntMulOk.of_left (by assumption)); walk_at "use0"); walk_at "gotInt"))
  (k_with "m:call ref" => (k_here; (with_reducible show wpAny _ _ (call (Value.ref 28) [Value.int _ _, Value.int _ _]) _ _ _); k_dflt (refine' TellUse0 (sub_tell _ _ _ _ _) ?k1q ?k2q ?k3q ?k4q ?k5q ?kKq ?ksq ?kdq ?kuq ?_; walk_at "use0"); walk_at "gotInt"))
  exact trivial
theorem lnF3F2_1 : True := by
  (k_with "m:short" => first | assumption | exact Short.of (by decide +kernel))
  (k_with "m:splitok" => first | assumption | exact SplitOk.of (by decide +kernel))
  (k_with "m:call ref" => (k_here; (with_reducible show wpAny _ _ (call (Value.ref 56) [Value.str _ _, Value.str _ _]) _ _ _); k_dflt (refine' TellUse0 (em_tell _ _ _ _ _ ?swq ?sgq ?soq) ?k1q ?k2q ?k3q ?k4q ?k5q ?kKq ?ksq ?kdq ?kuq ?_; (case swq => walk_at "short"); (case sgq => walk_at "short"); (case soq => walk_at "splitok"); walk_at "use0"); walk_at "gotBool"))
  exact trivial
theorem lastIn {x : PySem.Str} (h : Long x) : -(x.length : Int) ≤ -1 ∧ (-1 : Int) < x.length := by unfold Long at h; omega
theorem due_set {M : Model} {A : Around} {E : Value → Shared → Prop} {s s₁ : Shared} {h₀ : Heap} {L : Addr} {m m' : PySem.Str → Option Value} {news : Led} {tr : Sem Value} {x : PySem.Str} {k c : Int} {t : Tok} (_ : m' x = some (.int k t)) (_ : 1 < k) (_ : CRange c)
    (g : wpAny M A tr (EltPost h₀ L m s₁ news (isBool (dueB k c))) E s) : wpAny M A tr (EltPost h₀ L m s₁ news (isBool (dueB k c))) E s := g
theorem due_no {k c : Int} (h : ¬ k ≤ c + 1) : isBool (dueB k c) (.bool (decide (k ≤ c + 1))) := by unfold isBool dueB; rw [decide_eq_false h]; rfl
theorem due_yes {k c : Int} (h : k ≤ c + 1) : isBool (dueB k c) (.bool (Int.fmod k 2 != Int.fmod c 2)) := by unfold isBool dueB; rw [decide_eq_true h]; rfl
theorem restB {prog : Program} {w : World} {A : Around} {s : Shared} {h₀ : Heap} {L : Addr} {m : PySem.Str → Option Value} {env : Env} {elt : PySem.Expr} {x : PySem.Str} {scope : Scope} {cl : List (PySem.Str × Addr)} {S : Led → Prop} {P : Nat → Value → Prop}
    {Fin : List Value → Led → Prop} {news : Led} {k i : Nat} {ys : List Value} (b : Bool) (hS : S news)
    (elem : ∀ v I oI C oC D m₂ hh tk (E' : Value → Shared → Prop), P i v → LCg.NsObj oC m₂ → m₂ x = some v → Fr h₀ L hh m → News h₀ L hh ((I, oI) :: (C, oC) :: (D, LCg.lst ys) :: news) → LCg.Off3 I C D news → ((@Ne Nat I C) ∧ (@Ne Nat I D) ∧ (@Ne Nat C D)) →
      wpAny (model prog w) A (eval elt (compEnvC scope cl C env)) (EltPost h₀ L m { s with heap := hh, toks := tk } ((I, oI) :: (C, oC) :: (D, LCg.lst ys) :: news) (isBool b)) E' { s with heap := hh, toks := tk })
    (rest : LCg.CompRest prog w A h₀ L m env elt x scope cl s S P Fin k (i + 1) (ys ++ [.bool b]) news) : LCg.CompRest prog w A h₀ L m env elt x scope cl s S P Fin (k + 1) i ys news := by
  refine LCg.CompRest.succ fun v I oI C oC D m₂ hh tk E' hv hC hx F N off ne => ?_
  refine wpAny_mono (elem v I oI C oC D m₂ hh tk E' hv hC hx F N off ne) (fun y s₂ ht => ?_) fun _ _ e => e
  obtain ⟨h', tk', rfl, r, F', N'⟩ := ht
  cases r
  exact compEnd_at F' N' off hS rest
theorem nsI (w : World) : nsIn (hd.heap_1 w.params) mainGlobals "_ellipsis_match" = some (some (.ref 56)) := by rfl
theorem add_strS {prog : Program} {w : World} {A : Around} {E : Value → Shared → Prop} {s : Shared} {x y : PySem.Str} {t u : Tok} {Q : Value → Shared → Prop} (hz : szOk x y = true) (h : ∀ t' tk, Q (.str (x ++ y) t') { s with toks := tk }) : wpAny (model prog w) A (binaryOp .Add (.str x t) (.str y u)) Q E s :=
  PyProof.Rows.add_str h (szOk.fits hz)
theorem toksK {α : Type} {M : Model} {A : Around} {T n : Nat} {t : Sem α} {Q : α → Shared → Prop} {E : Value → Shared → Prop} {s : Shared} (hT : Toks T n) (hn : n ≤ s.toks) (h : wpAny M A t (fun v s' => Toks T s'.toks → Q v s') E s) : wpAny M A t Q E s :=
  wpAny_toks (Nat.le_trans hT hn) h
theorem itemT {prog : Program} {w : World} {A : Around} {E : Value → Shared → Prop} {st : Shared} {value slice : PySem.Expr} {s : PySem.Str} {t u : Tok} {p : Int} {Q : Value → Shared → Prop} (hs : Short s) (h1 : -(s.length : Int) ≤ p) (h2 : p < s.length)
    (h : Toks (st.toks + 1) (st.toks + 1) → Q (.str (Txt.item s p) st.toks) { st with toks := st.toks + 1 }) (hsub : subscripted slice false (.str s t) (.int p u) = operate [.str s t, .int p u] (getItem (.str s t) (.int p u))) (ht : ∀ r, letTemporaryGo value (.str s t) r = pure ()) : wpAny (model prog w) A (subscriptTail value slice (.str s t) (.int p u)) Q E st :=
  itemS hs h1 h2 (h (Nat.le_refl _)) hsub ht
theorem TellPUseT {lv : Nat} {w : World} {f : Addr} {vs : List Value} {sub : Led} {P : Shared → Prop} {Ret : Value → Prop} (C : TellP lv w f vs sub P (fun tl v => tl = [] ∧ Ret v)) {T n : Nat}
    {mean : ExcName → Option Value} {mg mb : PySem.Str → Option Value} {dp un : Nat} {gd : Option (List Code)} {cn : PySem.Str} {cs : Scope} {a : Addr} {ccd : Value} {cl : List (PySem.Str × Addr)} {outer : List Env} {A₀ : Around} {base h₀ : Heap} {L : Addr}
    {m : PySem.Str → Option Value} {news : Led} {s : Shared} {Q E : Value → Shared → Prop}
    (B : Below A₀ base outer h₀) (F : Fr h₀ L s.heap m) (X : (hd.heap_1 w.params).In h₀) (N : News h₀ L s.heap news) (TT : TopF mean mg mb h₀) (hk : cs.kind = .function) (hsub : ∀ p ∈ sub, p ∈ news) (hd : dp ≤ lv) (hu : un ≤ lv) (hT : Toks T n) (hn : n ≤ s.toks) (hP : T ≤ s.toks → P s)
    (ret : ∀ r h' tk', Fr h₀ L h' m → News h₀ L h' news → Ret r → Toks T tk' → Q r { s with heap := h', toks := tk' }) :
    wpAny (model PySem.Challenge.rw_xr0005_01.prog w) (ktrTop dp un gd cn cs L a ccd cl outer) (call (.ref f) vs) Q E s :=
  TellPUse C B F X N TT hk hsub hd hu (hP (Nat.le_trans hT hn)) fun r tl h' tk' ht F' N' _ ⟨e, x⟩ => ret r h' tk' F' (by subst e; exact N') x (Nat.le_trans (Nat.le_trans hT hn) ht)
theorem replaceT {prog : Program} {w : World} {A : Around} {E : Value → Shared → Prop} {s : Shared} {x y z : PySem.Str} {t u v : Tok} {Q : Value → Shared → Prop} {n : Nat} (hu : u ≠ 0) (hT : Toks (u + 1) n) (hn : n ≤ v) (hyz : (y == z) = false) (hb : x.length + (x.length + 1) * z.length ≤ 16777216)
    (hq : ∀ t' k, Q (.str (Txt.replace x y z) t') { s with toks := k }) : wpAny (model prog w) A (call (.builtin "str.replace") [.str x t, .str y u, .str z v]) Q E s := by
  have h : u + 1 ≤ v := Nat.le_trans hT hn
  exact SC.replace hu (Nat.ne_of_gt (Nat.lt_of_lt_of_le (Nat.succ_pos u) h)) (Nat.ne_of_lt h) hyz hb hq
theorem CRange.cast {c : Int} (h : CRange c) : (((c + 1).toNat : Nat) : Int) = c + 1 := by unfold CRange at h; omega
theorem index_at (w : World) {l : Addr} {k : Nat} {b1 b2 b3 b4 b5 b6 b7 b : Bool} {n : Nat} {z : Int} (e : idxB b [b1, b2, b3, b4, b5, b6, b7] = some n) (hz : (n : Int) = z) :
    Tell 350 w 49 [.ref l, .bool b] [(l, listOf #[.bool b1, .bool b2, .bool b3, .bool b4, .bool b5, .bool b6, .bool b7] k)] (fun tl v => tl = [] ∧ ∃ (r : Int) (t : Tok), r = z ∧ v = .int r t) := by
  intro mean mg mb gd cn cs a ccd cl outer A₀ base h₀ L m news s Q E B F X N T hk hsub hret
  refine index_tell w l k b1 b2 b3 b4 b5 b6 b7 b (by rw [e]; exact fun h => nomatch h) mean mg mb gd cn cs a ccd cl outer A₀ base h₀ L m news s Q E B F X N T hk hsub fun r tl h' tk' F' N' ap hr => hret r tl h' tk' F' N' ap ?_
  obtain ⟨h1, r', t, hr', rfl⟩ := hr
  rw [e] at hr'
  cases hr'
  exact ⟨h1, _, t, hz, rfl⟩
theorem countB_at (w : World) {l : Addr} {vs : List Value} {k : Nat} {bs : List Bool} {b : Bool} {z : Int} (hvs : vs = bs.map Value.bool) (e : cntB b bs = z) :
    Tell 350 w 35 [.ref l, .bool b] [(l, listOf vs.toArray k)] (fun tl v => tl = [] ∧ ∃ r t, r = z ∧ v = .int r t) := by
  subst e
  exact countB_tell w l vs k bs b hvs
theorem lnF3_1 : True := by
  (k_with "m:tellC" => (
  unfold Tell
  k_fill
  intro mean mg mb gd cn cs a ccd cl outer A₀ base h₀ L m news s Q E B F X N T hk hsub hret
  refine wpAny_call ?_
  k_dflt (refine' enterSC (T₀ := 0) ?k1q ?k2q ?k3q ?k4q ?k5q hsub ?kAq ?kFq ?kKq ?k6q ?k7q ?k8q (Nat.zero_le _) ?k9q ?kBq ?kDq ?_ ?c2q ?c3q ?c4q; (case kAq => exact rfl); (case kFq => exact rfl); (case kKq => assumption); (case k1q => k_asm); (case k2q => k_asm); (case k3q => k_asm); (case k4q => k_asm); (case k5q => k_asm); (case k6q => k_is); (case k7q => k_is); (case k8q => k_room); (case k9q => exact BindsTo.of_eq rfl); (case kBq => exact rfl); (case kDq => decide +kernel); (case c2q => exact rfl); (case c3q => exact rfl); (case c4q => exact rfl); k_whole)
  intro g' L' h' tk' cells' hTk' FG' F' N' Y' B' X' T' l1
  clear hTk' l1
  (have hY := PyProof.Rows.CellsAre.four Y'; obtain ⟨o', o2', o3', o4', hE', d1', d2', d3', d4'⟩ := hY; subst hE'; clear Y')
  change _ = Data.cell none at d1'
  change _ = Data.cell (some (Value.int _ _)) at d2'
  change _ = Data.cell (some (Value.str _ _)) at d3'
  change _ = Data.cell (some (Value.str _ _)) at d4'
  (try simp only [List.cons_append, List.nil_append] at N')
  (try dsimp only)
  clear B F X N T FG'
  (try k_fold)))
  (k_with "m:exec Assign cons ListComp" => (k_here; k_dflt (refine LCg.Assign_ListComp_U (F₀ := by k_asm) (by rfl) (by with_unfolding_all rfl) (by with_unfolding_all rfl) (by decide) (by rfl) (by decide) (by rfl) (by rfl) (by rfl) ?_); k_dflt lcg_toSrc))
  (k_with "m:CompSrc" => (k_here; k_dflt (first
  | (refine LCg.CompSrc.range (by rfl) (by k_asm) (by k_asm) (by assumption) (by first | decide | rfl) (by first | rfl | decide) (by exact Nat.le_of_ble_eq_true rfl) ?_; intro g'; lcg_lit)
  | (refine LCg.CompSrc.ledger (by rfl) (by k_asm) (by k_asm) (by k_mem) (by exact Nat.le_of_ble_eq_true rfl) ?_; intro g'; lcg_lit))))
  (k_with "m:newList" => (k_here; k_dflt (refine' newList_K ?k1q ?k2q ?_ ?k3q; (case k1q => k_asm); (case k2q => k_asm); (case k3q => exact Nat.le_of_ble_eq_true rfl); k_whole); intro l' h' F' N' l1; (try k_lt l1); (try k_sweep)))
  (k_with "m:ite" => (k_closed; k_dflt (first | refine ite_pos (by decide) ?_ | refine ite_neg (by decide) ?_)))
  (k_with "m:eval Name" => (k_here; (with_reducible show wpAny _ _ (eval (PySem.Expr.Name _ _) (compEnvC _ _ _ _)) _ _ _); first
  | ((first | (with_reducible show wpAny _ _ (eval (PySem.Expr.Name (PySem.Str.ofString "k") _) _) _ _ _) | (with_reducible show wpAny _ _ (eval (PySem.Expr.Name (PySem.Str.ofString "answer") _) _) _ _ _) | (with_reducible show wpAny _ _ (eval (PySem.Expr.Name (PySem.Str.ofString "want") _) _) _ _ _) | (with_reducible show wpAny _ _ (eval (PySem.Expr.Name (PySem.Str.ofString "due") _) _) _ _ _)); k_dflt (refine LCgL.ld_own (by k_asm) (by k_mem) (by with_reducible assumption) (by with_reducible assumption) ?_))
  | ((with_reducible show wpAny _ _ (eval (PySem.Expr.Name (PySem.Str.ofString "_ellipsis_match") _) _) _ _ _); k_dflt (refine LCgL.ld_global (by k_asm) (by k_asm) (by k_asm) (nsI _) ?_))
  | (k_dflt (refine kcf_cell (by k_asm) (by rfl) (by k_mem) (by k_asm) ?_))))
  (k_with "m:EltPost" => ((try dsimp only); k_dflt (refine' EltPost.intro ?Fq ?Nq ?sq ?rq; (case Fq => k_asm); (case Nq => k_asm); (case sq => walk_at "sub"); (case rq => first | exact rfl | exact due_no (by with_reducible assumption) | exact due_yes (by with_reducible assumption)))))
  (k_with "m:CompEnd" => (k_dflt (refine' compEnd_at ?Fq ?Nq ?oq True.intro ?_; (case Fq => k_asm); (case Nq => k_asm); (case oq => with_reducible assumption); k_whole)))
  (k_with "m:CompRest" => (k_dflt (refine' restB _ ?hSq ?_ ?_; (case hSq => lcg_src)); rotate_left; rotate_left; (rotate_right); intro v' I' oI' C' oC' D' m' h' tk' E' hv' hC' hx' F' N' off' ne'; k_dflt (first | lcg_open hv' | (obtain ⟨t9', hv9'⟩ := hv'; subst hv9'))))
  (k_with "m:gotBool" => (intro r9 h9 tk9 F9 N9 hR9; obtain ⟨v9, hv9, e9⟩ := hR9; subst e9; subst hv9; (try k_sweep); (try dsimp only)))
  (k_with "m:eval BoolOp" => (k_here; (with_reducible rename (_ = some (Value.int _ _)) => hk9); k_dflt (refine' due_set hk9 ?aq ?bq ?_; (case aq => decide); (case bq => exact Facts.cr (by with_reducible assumption)); k_whole); (with_reducible refine BoolOp_and ?_)))
  (k_with "m:eval ListComp" => (k_here; k_dflt (refine LCt.ListComp_T (F₀ := by k_asm) (by with_unfolding_all rfl) (by decide) (by rfl) (by decide) (by rfl) ?_); k_dflt lct_toSrc))
  (k_with "m:CompSrcT" => (k_here; k_dflt (refine LCt.CompSrcT.ledger (by rfl) (by k_asm) (by k_asm) (by k_mem) (by exact Nat.le_of_ble_eq_true rfl) ?_); intro g'; k_dflt (refine restT_none isB (allB (by rfl)) ?Sq ?_ ?_ _ _; (case Sq => lcg_src)); rotate_left; intro v' I' oI' C' oC' D' m' h' tk' E' hv' hC' hx' F' N' off' ne'; (try simp only [LCg.Off3, and_true] at off'); (k_dflt (obtain ⟨_ | _, hb9⟩ := hv')) <;> subst hb9))
  (k_with "m:TestPost" => ((try dsimp only); k_dflt (refine' TestPost.intro ?kq ?Fq ?Nq ?sq; (case kq => first | rfl | with_reducible assumption); (case Fq => k_asm); (case Nq => k_asm); (case sq => walk_at "sub"))))
  (k_with "m:subscriptTail Name UnaryOp str int" => (k_here; k_dflt (refine' itemS ?aq ?bq ?cq ?_ ?dq ?eq; (case aq => with_reducible assumption); (case bq => exact (lastIn (by with_reducible assumption)).1); (case cq => exact (lastIn (by with_reducible assumption)).2); (case dq => with_unfolding_all rfl); (case eq => intro _; with_unfolding_all rfl); k_whole)))
  (k_with "m:toks le" => first | exact Nat.le_refl _ | exact Nat.le_add_right _ _ | (dsimp only; omega))
  (k_with "m:wrapT" => (k_dflt (refine' toksK ?Tq ?nq ?_; (case Tq => with_reducible assumption); (case nq => walk_at "toks le"); k_whole)))
  (k_with "m:subscriptTail Name UnaryOp str int" => (k_here; k_dflt (refine' itemT ?aq ?bq ?cq ?_ ?dq ?eq; (case aq => exact Facts.sb (by with_reducible assumption)); (case bq => exact (lastIn (Facts.lb (by with_reducible assumption))).1); (case cq => exact (lastIn (Facts.lb (by with_reducible assumption))).2); (case dq => with_unfolding_all rfl); (case eq => intro _; with_unfolding_all rfl); k_whole); intro hT9; dsimp only at hT9))
  (k_with "m:binaryOp Mult str int" => (k_here; walk_at "wrapT"; k_dflt (refine' SB.mul ?okq ?_; (case okq => walk_at "mulok"); k_whole); intro t9 tk9 hT9; dsimp only at hT9))
  (k_with "m:binaryOp Add str str" => (k_here; walk_at "wrapT"; (refine' add_strS ?zq ?_; (case zq => walk_at "size"); k_whole); intro t9 tk9 hT9; dsimp only at hT9))
  (k_with "m:call builtin:str.replace" => (k_here; walk_at "wrapT"; k_dflt (refine' replaceT ?uq ?Tq ?nq ?eq ?zq ?_; (case uq => exact Nat.succ_ne_zero _); (case Tq => with_reducible assumption); (case nq => walk_at "toks le"); (case eq => walk_at "strne"); (case zq => exact Nat.le_of_ble_eq_true rfl); k_whole); intro t9 tk9 hT9; dsimp only at hT9))
  (k_with "m:subscriptTail Name Slice str ref" => (k_here; walk_at "wrapT"; (with_reducible rename Fr _ _ _ _ => F'); (with_reducible rename News _ _ _ _ => N'); (first | ((with_reducible show wpAny _ _ (subscriptTail _ (PySem.Expr.Slice none none none _) _ _) _ _ _); refine slice_strN_nn (hsz := ?hszq) (s := ⟨_, _, _, _, _⟩) F' N' ?_) | ((with_reducible show wpAny _ _ (subscriptTail _ (PySem.Expr.Slice none (some _) none _) _ _) _ _ _); refine slice_strN_ns (hsz := ?hszq) (s := ⟨_, _, _, _, _⟩) F' N' ?_) | ((with_reducible show wpAny _ _ (subscriptTail _ (PySem.Expr.Slice (some _) none none _) _ _) _ _ _); refine slice_strN_sn (hsz := ?hszq) (s := ⟨_, _, _, _, _⟩) F' N' ?_) | ((with_reducible show wpAny _ _ (subscriptTail _ (PySem.Expr.Slice (some _) (some _) none _) _ _) _ _ _); refine slice_strN_ss (hsz := ?hszq) (s := ⟨_, _, _, _, _⟩) F' N' ?_)); (case hszq => exact Short.fits (by walk_at "short")); intro _ _ _ _ _ hT9; (try dsimp only at hT9)))
  (k_with "m:gotIntS" => (intro r9 h9 tk9 F9 N9 hR9 hT9; obtain ⟨v9, t9, hv9, e9⟩ := hR9; subst e9; subst hv9; (try k_sweep); (try dsimp only)))
  (k_with "m:call ref" => (k_here; (with_reducible show wpAny _ _ (call (Value.ref 35) [Value.str _ _, Value.str _ _]) _ _ _); k_dflt (refine' TellPUseT (countS_tell _ _ _ _ _ ?huq) ?k1q ?k2q ?k3q ?k4q ?k5q ?kKq ?ksq ?kdq ?kuq ?hTq ?hnq ?hPq ?_; (case huq => exact Nat.succ_ne_zero _); (case hTq => with_reducible assumption); (case hnq => walk_at "toks le"); (case hPq => exact fun h => h); walk_at "use0"); walk_at "gotIntS"))
  (k_with "m:newTuple" => (k_here; walk_at "wrapT"; k_dflt (refine' kup_newTuple ?Fq ?Nq ?_ ?zq; (case Fq => k_asm); (case Nq => k_asm); (case zq => exact Nat.le_of_ble_eq_true rfl)); intro D' h' F' N' l1 hT9; (try dsimp only at hT9); (try k_lt l1); (try k_sweep)))
  (k_with "m:execs cons" => (k_here; k_dflt (refine' execsK ?Tq ?nq ?_; (case Tq => with_reducible assumption); (case nq => walk_at "toks le"); k_whole); (try dsimp only)))
  (k_with "m:wno" => ((have hF9 := (by with_reducible assumption : Facts _ _ _)); simp only [wOk.no (Facts.w0 hF9), wOk.no (Facts.w1 hF9), wOk.no (Facts.w2 hF9), wOk.no (Facts.w3 hF9), wOk.no (Facts.w4 hF9), wOk.no (Facts.w5 hF9), wOk.no (Facts.w6 hF9), wOk.no (Facts.w7 hF9), wOk.no (Facts.w8 hF9), wOk.no (Facts.w9 hF9), wOk.no (Facts.w10 hF9), wOk.no (Facts.w11 hF9), wOk.no (Facts.w12 hF9)]))
  (k_with "m:size" => ((have hF9 := (by with_reducible assumption : Facts _ _ _)); simp only [Facts.a0 hF9, Facts.a1 hF9, Facts.a2 hF9, Facts.a3 hF9, Facts.a4 hF9, Facts.a5 hF9, Facts.a6 hF9, Facts.a7 hF9, Facts.a8 hF9, Facts.a9 hF9, Facts.a10 hF9, Facts.a11 hF9, Facts.a12 hF9, Facts.a13 hF9, Facts.a14 hF9, Facts.a15 hF9, Facts.a16 hF9]))
  (k_with "m:short" => first | exact Short.of (by decide +kernel) | ((have hF9 := (by with_reducible assumption : Facts _ _ _)); simp only [Facts.sb hF9, Facts.sr hF9, Facts.so hF9, wOk.short (Facts.w0 hF9), wOk.short (Facts.w1 hF9), wOk.short (Facts.w2 hF9), wOk.short (Facts.w3 hF9), wOk.short (Facts.w4 hF9), wOk.short (Facts.w5 hF9), wOk.short (Facts.w6 hF9), wOk.short (Facts.w7 hF9), wOk.short (Facts.w8 hF9), wOk.short (Facts.w9 hF9), wOk.short (Facts.w10 hF9), wOk.short (Facts.w11 hF9), wOk.short (Facts.w12 hF9)]))
  (k_with "m:splitok" => first | exact SplitOk.of (by decide +kernel) | ((have hF9 := (by with_reducible assumption : Facts _ _ _)); simp only [wOk.split (Facts.w0 hF9), wOk.split (Facts.w1 hF9), wOk.split (Facts.w2 hF9), wOk.split (Facts.w3 hF9), wOk.split (Facts.w4 hF9), wOk.split (Facts.w5 hF9), wOk.split (Facts.w6 hF9), wOk.split (Facts.w7 hF9), wOk.split (Facts.w8 hF9), wOk.split (Facts.w9 hF9), wOk.split (Facts.w10 hF9), wOk.split (Facts.w11 hF9), wOk.split (Facts.w12 hF9)]))
  (k_with "m:mulok" => with_reducible exact mulB.ok (Facts.ml (by assumption)))
  (k_with "m:strne" => with_reducible exact Facts.ne (by assumption))
  (k_with "m:eval ListComp" => (k_here; (with_reducible show wpAny _ _ (eval (PySem.Expr.ListComp _ [⟨PySem.Expr.Tuple _ _ _, _, _, _⟩] _ _) _) _ _ _); k_dflt (refine ListComp_No (x := "want") (x₂ := "due") (by k_asm) (by with_unfolding_all rfl) (by decide) (by rfl) (by decide) (by rfl) (by rfl) (by decide) ?_ (by intro _; rfl))))
  (k_with "m:SrcNo" => (k_here; k_dflt (refine SrcNo.intro (by rfl) (by k_asm) (by k_asm) (by k_mem) (by exact Nat.le_of_ble_eq_true rfl) ?_ ?_)))
  (k_with "m:PairsNo" => (k_dflt (first | exact True.intro | refine PairsNo.cons (by k_mem) ?_ ?_)))
  (k_with "m:TestPost" => ((try dsimp only); k_dflt (refine' TestPost.intro ?kq ?Fq ?Nq ?sq; (case kq => walk_at "wno"); (case Fq => k_asm); (case Nq => k_asm); (case sq => walk_at "sub"))))
  (k_with "m:call ref" => (k_here; (with_reducible show wpAny _ _ (call (Value.ref 49) [Value.ref _, Value.bool _]) _ _ _); k_dflt (refine' TellUse0 (index_at _ ?eq ?hzq) ?k1q ?k2q ?k3q ?k4q ?k5q ?kKq ?ksq ?kdq ?kuq ?_; (case eq => exact Facts.ix (by with_reducible assumption)); (case hzq => exact CRange.cast (Facts.cr (by with_reducible assumption))); walk_at "use0"); walk_at "gotIntS0"))
  (k_with "m:call ref" => (k_here; (with_reducible show wpAny _ _ (call (Value.ref 35) [Value.ref _, Value.bool _]) _ _ _); k_dflt (refine' TellUse0 (countB_at _ ?hvsq ?eq) ?k1q ?k2q ?k3q ?k4q ?k5q ?kKq ?ksq ?kdq ?kuq ?_; (case eq => exact Facts.ct (by with_reducible assumption)); (case hvsq => exact rfl); walk_at "use0"); walk_at "gotIntS0"))
  (k_with "m:gotIntS0" => (intro r9 h9 tk9 F9 N9 hR9; obtain ⟨v9, t9, hv9, e9⟩ := hR9; subst e9; subst hv9; (try k_sweep); (try dsimp only)))
  (k_with "m:sub" => first | exact fun _ h => h | exact List.forall_mem_nil _ | (refine List.forall_mem_cons.mpr ⟨by k_mem, ?_⟩; walk_at "sub"))
  (k_with "m:eval Name" => (k_here; (with_reducible show wpAny _ _ (eval (PySem.Expr.Name _ _) (envOfC _ _ _ _ _)) _ _ _); first
  | ((first | (with_reducible show wpAny _ _ (eval (PySem.Expr.Name (PySem.Str.ofString "bare") _) _) _ _ _) | (with_reducible show wpAny _ _ (eval (PySem.Expr.Name (PySem.Str.ofString "changes") _) _) _ _ _)); k_dflt (refine' nameX_C ?Nq ?cq ?mq ?dq ?_ ?aq ?bq; (case aq => rfl); (case bq => rfl); (case Nq => k_asm); (case cq => rfl); (case mq => k_mem); (case dq => k_asm); k_whole))
  | (k_dflt (refine' nameX_L ?Fq ?vq ?_ ?aq ?bq; (case bq => rfl); (case Fq => k_asm); (case aq => rfl); (case vq => rfl); k_whole))))
  exact trivial
theorem end_dues {row bare : PySem.Str} {c : Int} (hf : Facts row bare c) : (emBare bare 1 == false && (emBare bare 2 == dueB 2 c && (emBare bare 3 == dueB 3 c && (emBare bare 4 == dueB 4 c && (emBare bare 5 == dueB 5 c && (emBare bare 6 == dueB 6 c && emBare bare 7 == dueB 7 c)))))) = true := by
  rw [hf.d1, hf.d2, hf.d3, hf.d4, hf.d5, hf.d6, hf.d7]
  simp
set_option maxHeartbeats 4000000 in
theorem changes_tell (w : World) (row bare : PySem.Str) (c : Int) (tr tb tc : Tok) (hf : Facts row bare c) :
    Tell 310 w 115 [.str row tr, .str bare tb, .int c tc] [] (fun tl v => tl = [] ∧ v = .bool true) := by
  walk_at "tellC"
  k_steps
  · exact congrArg Value.bool (end_dues (by assumption))
  · exact congrArg Value.bool (decide_eq_true rfl)
end
section
theorem lnF4a_0 : True := by k_with_none; exact trivial
theorem lnF4ap_1 : True := by
  (k_with "m:tell" => (
  unfold Tell
  k_fill
  intro mean9 mg9 mb9 gd9 cn9 cs9 a9 ccd9 cl9 outer9 A9 base9 h9 L9 m9 news9 s9 Q9 E9 B F X N T hk hsub hret
  refine wpAny_call ?_
  k_dflt (refine' enterS ?k1q ?k2q ?k3q ?k4q ?k5q hsub ?kAq ?kFq ?kKq ?k6q ?k7q ?k8q ?k9q ?kBq ?_ ?c5q ?c2q ?c3q ?c4q; (case kAq => exact rfl); (case kFq => exact rfl); (case kKq => assumption); (case k1q => k_asm); (case k2q => k_asm); (case k3q => k_asm); (case k4q => k_asm); (case k5q => k_asm); (case k6q => k_is); (case k7q => k_is); (case k8q => k_room); (case k9q => exact BindsTo.of_eq rfl); (case c5q => decide); (case kBq => exact locs rfl); (case c2q => exact rfl); (case c3q => exact rfl); (case c4q => exact rfl); k_whole)
  intro g' L' h' FG' F' N' B' X' T'
  (try dsimp only)
  (simp only [zipS, List.reverse_cons, List.reverse_nil, List.nil_append, List.cons_append] at F')
  clear B F X N T FG'
  k_fold))
  (k_with "m:sub" => first | exact List.forall_mem_nil _ | (refine List.forall_mem_cons.mpr ⟨by k_mem, ?_⟩; walk_at "sub"))
  (k_with "m:apart" => first | exact List.forall_mem_nil _ | (refine List.forall_mem_cons.mpr ⟨by k_ne, ?_⟩; walk_at "apart"))
  (k_with "m:leave0" => (k_dflt (refine' LeaveS.intro [] ?k1q ?k2q ?k3q (List.forall_mem_nil _) (List.forall_mem_nil _) ?_; (case k1q => k_asm); (case k2q => k_asm); (case k3q => walk_at "sub"); k_whole); intro kF kN kA; (with_reducible rename (∀ (_ : Value) (_ : List (Addr × Obj)) (_ : Heap) (_ : Nat), Fr _ _ _ _ → _) => hret); refine hret _ [] _ _ kF kN kA ⟨rfl, Done.intro ?_⟩; clear kF kN kA hret))
  (k_with "m:leave1" => (k_dflt (refine' LeaveS.intro1 ?k1q ?k2q ?k3q ?k4q ?k5q ?_; (case k1q => k_asm); (case k2q => k_asm); (case k3q => walk_at "sub"); (case k4q => k_mem); (case k5q => walk_at "apart"); k_whole); intro kF kN kA; (with_reducible rename (∀ (_ : Value) (_ : List (Addr × Obj)) (_ : Heap) (_ : Nat), Fr _ _ _ _ → _) => hret); refine hret _ [_] _ _ kF kN kA (Done.intro ?_); clear kF kN kA hret))
  (k_with "m:leave" => walk_at "leave0")
  (k_with "m:LeaveS" => ((try dsimp only); walk_at "leave"))
  (k_with "m:use0" => ((case k1q => k_asm); (case k2q => k_asm); (case k3q => k_asm); (case k4q => k_asm); (case k5q => k_asm); (case kKq => first | exact rfl | assumption); (case ksq => walk_at "sub"); (case kdq => k_room); (case kuq => k_room); k_whole))
  (k_with "m:gotInt" => (intro r9 h9 tk9 F9 N9 hR9; obtain ⟨v9, t9, hv9, e9⟩ := hR9; subst e9; (try k_sweep); (try dsimp only)))
  (k_with "m:gotBool" => (intro r9 h9 tk9 F9 N9 hR9; obtain ⟨v9, hv9, e9⟩ := hR9; subst e9; (try k_sweep); (try dsimp only)))
  (k_with "m:item" => (k_here; k_dflt (refine' item_fast ?Nq ?mq ?aq ?bq ?xq ?_ ?yq; (case Nq => k_asm); (case mq => k_mem); (case aq => decide); (case bq => decide); (case xq => exact rfl); (case yq => with_unfolding_all rfl); k_whole)))
  (k_with "m:subscriptTail Name BinOp ref int" => walk_at "item")
  (k_with "m:subscriptTail Name Name ref int" => walk_at "item")
  (k_with "m:subscriptTail Name Constant ref int" => walk_at "item")
  (k_with "m:eval Name" => (k_here; k_dflt (refine' nameX_L ?Fq ?vq ?_ ?aq ?bq; (case bq => rfl); (case Fq => k_asm); (case aq => rfl); (case vq => rfl); k_whole)))
  (k_with "m:subscriptTail Name Slice str ref" => (k_here; (with_reducible rename Fr _ _ _ _ => F'); (with_reducible rename News _ _ _ _ => N'); (first | ((with_reducible show wpAny _ _ (subscriptTail _ (PySem.Expr.Slice none none none _) _ _) _ _ _); refine slice_strN_nn (hsz := ?hszq) (s := ⟨_, _, _, _, _⟩) F' N' ?_) | ((with_reducible show wpAny _ _ (subscriptTail _ (PySem.Expr.Slice none (some _) none _) _ _) _ _ _); refine slice_strN_ns (hsz := ?hszq) (s := ⟨_, _, _, _, _⟩) F' N' ?_) | ((with_reducible show wpAny _ _ (subscriptTail _ (PySem.Expr.Slice (some _) none none _) _ _) _ _ _); refine slice_strN_sn (hsz := ?hszq) (s := ⟨_, _, _, _, _⟩) F' N' ?_) | ((with_reducible show wpAny _ _ (subscriptTail _ (PySem.Expr.Slice (some _) (some _) none _) _ _) _ _ _); refine slice_strN_ss (hsz := ?hszq) (s := ⟨_, _, _, _, _⟩) F' N' ?_)); (case hszq => exact Short.fits (by assumption)); intro _ _ _ _ _))
  (k_with "m:execs cons" => (dsimp only; walk_at "execs cons"))
  exact trivial
theorem lnF4aF1a_1 : True := by
  (k_with "m:call ref" => (k_here; (with_reducible show wpAny _ _ (call (Value.ref 21) [Value.int _ _, Value.int _ _]) _ _ _); k_dflt (refine' TellUse0 (mul_tell _ _ _ _ _ ?okq) ?k1q ?k2q ?k3q ?k4q ?k5q ?kKq ?ksq ?kdq ?kuq ?_; (case okq => exact IntMulOk.of_left (by assumption)); walk_at "use0"); walk_at "gotInt"))
  (k_with "m:call ref" => (k_here; (with_reducible show wpAny _ _ (call (Value.ref 28) [Value.int _ _, Value.int _ _]) _ _ _); k_dflt (refine' TellUse0 (sub_tell _ _ _ _ _) ?k1q ?k2q ?k3q ?k4q ?k5q ?kKq ?ksq ?kdq ?kuq ?_; walk_at "use0"); walk_at "gotInt"))
  exact trivial
theorem items_ind {prog : Program} {w : World} {A : Around} {E : Value → Shared → Prop} {h₀ : Heap} {env : Env} {target : PySem.Expr} {body : List Stmt} {Q : Flow → Shared → Prop} {s : Shared} {ws : List (Addr × String)} {keep : Led} (J : (PySem.Str → Option Value) → Led → Prop)
    (turn : ∀ (i : Nat) (x : Int) (t : Tok) T tI h tk m news, IsTup h T #[.int (i : Int) tI, .int x t] → J m news → Fr h₀ env.locals h m → AllObj ws (fun its => News h₀ env.locals h (its ++ news) →
      wpAny (model prog w) A (assign target env (.ref T)) (fun _ s₂ => wpAny (model prog w) A (execs body env) (UnrPostW h₀ env.locals { s with heap := h, toks := tk } its (fun m' n' => SubL keep n' ∧ J m' n') Q) E s₂) E { s with heap := h, toks := tk }))
    (done : ∀ m news h tk, J m news → Fr h₀ env.locals h m → News h₀ env.locals h news → Q .next { s with heap := h, toks := tk }) :
    ∀ (r : List Value) (i : Nat) m news, (∀ v ∈ r, ∃ x t, v = .int x t) → J m news → ItemsRest prog w A E h₀ env target body Q s ws keep (enumItems i r) m news
  | [], i, m, news, _, hj => ItemsRest.zero fun h tk F N => done m news h tk hj F N
  | v :: r, i, m, news, hv, hj => by
    obtain ⟨x, t, rfl⟩ := hv _ (.head _)
    refine ItemsRest.pair fun T tI h tk ht F => ?_
    refine allObj_mono (fun its k N => ?_) (turn i x t T tI h tk m news ht hj F)
    refine wpAny_mono (k N) (fun _ s₂ h₂ => wpAny_mono h₂ (fun f s₃ h₃ => unr_mono (fun m' n' q => ⟨q.1, items_ind J turn done r (i + 1) m' n' (fun v hv' => hv v (.tail _ hv')) q.2⟩) h₃) fun _ _ e => e) fun _ _ e => e
end
section
theorem lnF4_0 : True := by k_with_none; exact trivial
theorem lnF4p_1 : True := by
  (k_with "m:tell" => (
  unfold Tell
  k_fill
  intro mean9 mg9 mb9 gd9 cn9 cs9 a9 ccd9 cl9 outer9 A9 base9 h9 L9 m9 news9 s9 Q9 E9 B F X N T hk hsub hret
  refine wpAny_call ?_
  k_dflt (refine' enterS ?k1q ?k2q ?k3q ?k4q ?k5q hsub ?kAq ?kFq ?kKq ?k6q ?k7q ?k8q ?k9q ?kBq ?_ ?c5q ?c2q ?c3q ?c4q; (case kAq => exact rfl); (case kFq => exact rfl); (case kKq => assumption); (case k1q => k_asm); (case k2q => k_asm); (case k3q => k_asm); (case k4q => k_asm); (case k5q => k_asm); (case k6q => k_is); (case k7q => k_is); (case k8q => k_room); (case k9q => exact BindsTo.of_eq rfl); (case c5q => decide); (case kBq => exact locs rfl); (case c2q => exact rfl); (case c3q => exact rfl); (case c4q => exact rfl); k_whole)
  intro g' L' h' FG' F' N' B' X' T'
  (try dsimp only)
  (simp only [zipS, List.reverse_cons, List.reverse_nil, List.nil_append, List.cons_append] at F')
  clear B F X N T FG'
  k_fold))
  (k_with "m:sub" => first | exact List.forall_mem_nil _ | (refine List.forall_mem_cons.mpr ⟨by k_mem, ?_⟩; walk_at "sub"))
  (k_with "m:apart" => first | exact List.forall_mem_nil _ | (refine List.forall_mem_cons.mpr ⟨by k_ne, ?_⟩; walk_at "apart"))
  (k_with "m:leave0" => (k_dflt (refine' LeaveS.intro [] ?k1q ?k2q ?k3q (List.forall_mem_nil _) (List.forall_mem_nil _) ?_; (case k1q => k_asm); (case k2q => k_asm); (case k3q => walk_at "sub"); k_whole); intro kF kN kA; (with_reducible rename (∀ (_ : Value) (_ : List (Addr × Obj)) (_ : Heap) (_ : Nat), Fr _ _ _ _ → _) => hret); refine hret _ [] _ _ kF kN kA ⟨rfl, Done.intro ?_⟩; clear kF kN kA hret))
  (k_with "m:leave1" => (k_dflt (refine' LeaveS.intro1 ?k1q ?k2q ?k3q ?k4q ?k5q ?_; (case k1q => k_asm); (case k2q => k_asm); (case k3q => walk_at "sub"); (case k4q => k_mem); (case k5q => walk_at "apart"); k_whole); intro kF kN kA; (with_reducible rename (∀ (_ : Value) (_ : List (Addr × Obj)) (_ : Heap) (_ : Nat), Fr _ _ _ _ → _) => hret); refine hret _ [_] _ _ kF kN kA (Done.intro ?_); clear kF kN kA hret))
  (k_with "m:leave" => walk_at "leave0")
  (k_with "m:LeaveS" => ((try dsimp only); walk_at "leave"))
  (k_with "m:use0" => ((case k1q => k_asm); (case k2q => k_asm); (case k3q => k_asm); (case k4q => k_asm); (case k5q => k_asm); (case kKq => first | exact rfl | assumption); (case ksq => walk_at "sub"); (case kdq => k_room); (case kuq => k_room); k_whole))
  (k_with "m:gotInt" => (intro r9 h9 tk9 F9 N9 hR9; obtain ⟨v9, t9, hv9, e9⟩ := hR9; subst e9; (try k_sweep); (try dsimp only)))
  (k_with "m:gotBool" => (intro r9 h9 tk9 F9 N9 hR9; obtain ⟨v9, hv9, e9⟩ := hR9; subst e9; (try k_sweep); (try dsimp only)))
  (k_with "m:item" => (k_here; k_dflt (refine' item_fast ?Nq ?mq ?aq ?bq ?xq ?_ ?yq; (case Nq => k_asm); (case mq => k_mem); (case aq => decide); (case bq => decide); (case xq => exact rfl); (case yq => with_unfolding_all rfl); k_whole)))
  (k_with "m:subscriptTail Name BinOp ref int" => walk_at "item")
  (k_with "m:subscriptTail Name Name ref int" => walk_at "item")
  (k_with "m:subscriptTail Name Constant ref int" => walk_at "item")
  (k_with "m:eval Name" => (k_here; k_dflt (refine' nameX_L ?Fq ?vq ?_ ?aq ?bq; (case bq => rfl); (case Fq => k_asm); (case aq => rfl); (case vq => rfl); k_whole)))
  (k_with "m:subscriptTail Name Slice str ref" => (k_here; (with_reducible rename Fr _ _ _ _ => F'); (with_reducible rename News _ _ _ _ => N'); (first | ((with_reducible show wpAny _ _ (subscriptTail _ (PySem.Expr.Slice none none none _) _ _) _ _ _); refine slice_strN_nn (hsz := ?hszq) (s := ⟨_, _, _, _, _⟩) F' N' ?_) | ((with_reducible show wpAny _ _ (subscriptTail _ (PySem.Expr.Slice none (some _) none _) _ _) _ _ _); refine slice_strN_ns (hsz := ?hszq) (s := ⟨_, _, _, _, _⟩) F' N' ?_) | ((with_reducible show wpAny _ _ (subscriptTail _ (PySem.Expr.Slice (some _) none none _) _ _) _ _ _); refine slice_strN_sn (hsz := ?hszq) (s := ⟨_, _, _, _, _⟩) F' N' ?_) | ((with_reducible show wpAny _ _ (subscriptTail _ (PySem.Expr.Slice (some _) (some _) none _) _ _) _ _ _); refine slice_strN_ss (hsz := ?hszq) (s := ⟨_, _, _, _, _⟩) F' N' ?_)); (case hszq => exact Short.fits (by assumption)); intro _ _ _ _ _))
  (k_with "m:execs cons" => (dsimp only; walk_at "execs cons"))
  exact trivial
theorem lnF4F1a_1 : True := by
  (k_with "m:call ref" => (k_here; (with_reducible show wpAny _ _ (call (Value.ref 21) [Value.int _ _, Value.int _ _]) _ _ _); k_dflt (refine' TellUse0 (mul_tell _ _ _ _ _ ?okq) ?k1q ?k2q ?k3q ?k4q ?k5q ?kKq ?ksq ?kdq ?kuq ?_; (case okq => exact IntMulOk.of_left (by assumption)); walk_at "use0"); walk_at "gotInt"))
  (k_with "m:call ref" => (k_here; (with_reducible show wpAny _ _ (call (Value.ref 28) [Value.int _ _, Value.int _ _]) _ _ _); k_dflt (refine' TellUse0 (sub_tell _ _ _ _ _) ?k1q ?k2q ?k3q ?k4q ?k5q ?kKq ?ksq ?kdq ?kuq ?_; walk_at "use0"); walk_at "gotInt"))
  exact trivial
noncomputable def DrawnOk (w0 w1 w2 w3 w4 z0 z1 z2 z3 d : Int) : Prop :=
  (w0.natAbs < 1000000 ∧ w1.natAbs < 1000000 ∧ w2.natAbs < 1000000 ∧ w3.natAbs < 1000000 ∧ w4.natAbs < 1000000) ∧
  ((1 ≤ z0 ∧ z0 ≤ 1000000000000 ∧ z0 ≠ 127) ∧ (1 ≤ z1 ∧ z1 ≤ 1000000000000 ∧ z1 ≠ 127) ∧ (1 ≤ z2 ∧ z2 ≤ 1000000000000 ∧ z2 ≠ 127) ∧ (1 ≤ z3 ∧ z3 ≤ 1000000000000 ∧ z3 ≠ 127)) ∧ (0 ≤ d ∧ d < 4)
noncomputable def DrJ (Dr : Addr) (e : Addr × Obj) (m₀ : PySem.Str → Option Value) (m : PySem.Str → Option Value) (news : Led) : Prop :=
  ∃ (zs : List Value) (ks : List Int) (n : Nat) (o1 o2 : Option Value), (∀ y : PySem.Str, m y = if y = "x" then o1 else if y = "i" then o2 else m₀ y) ∧ news = [e, (Dr, listOf zs.toArray n)] ∧ IntsAre zs ks ∧ ks.length = 8
theorem DrJ.start {Dr : Addr} {e : Addr × Obj} {m : PySem.Str → Option Value} {zs : List Value} {ks : List Int} {n : Nat} (hz : IntsAre zs ks) (h8 : ks.length = 8) : DrJ Dr e m m [e, (Dr, listOf zs.toArray n)] :=
  ⟨zs, ks, n, m "x", m "i", fun y => by
    by_cases h1 : y = "x"
    · rw [if_pos h1, h1]
    · rw [if_neg h1]
      by_cases h2 : y = "i"
      · rw [if_pos h2, h2]
      · rw [if_neg h2], rfl, hz, h8⟩
theorem ints_set : ∀ {zs : List Value} {ks : List Int}, IntsAre zs ks → ∀ (k : Nat) (v : Int) (t : Tok), IntsAre (zs.set k (.int v t)) (ks.set k v)
  | _, _, .nil, _, _, _ => .nil
  | _, _, .cons a u h, 0, v, t => .cons v t h
  | _, _, .cons a u h, k + 1, v, t => .cons a u (ints_set h k v t)
theorem DrJ.step {Dr : Addr} {e : Addr × Obj} {m₀ : PySem.Str → Option Value} {x1 x2 o1 o2 : Option Value} {zs : List Value} {ks : List Int} {n k : Nat} {v : Int} {t : Tok} (hz : IntsAre zs ks) (h8 : ks.length = 8) :
    DrJ Dr e m₀ (fun y : PySem.Str => if y = "x" then x1 else if y = "i" then x2 else if y = "x" then o1 else if y = "i" then o2 else m₀ y) [e, (Dr, listOf (zs.set k (.int v t)).toArray n)] :=
  ⟨zs.set k (.int v t), ks.set k v, n, x1, x2, fun y => by
    dsimp only
    by_cases h1 : y = "x"
    · rw [if_pos h1, if_pos h1]
    · rw [if_neg h1, if_neg h1, if_neg h1]
      by_cases h2 : y = "i"
      · rw [if_pos h2, if_pos h2]
      · rw [if_neg h2, if_neg h2, if_neg h2], rfl, ints_set hz k v t, by rw [List.length_set]; exact h8⟩
theorem ints_one {vs : List Value} {k : Int} {ks : List Int} (h : IntsAre vs (k :: ks)) : ∃ t r, vs = .int k t :: r ∧ IntsAre r ks := by
  cases h with
  | cons _ t h => exact ⟨t, _, rfl, h⟩
theorem ints8 {zs : List Value} {ks : List Int} (h : IntsAre zs ks) (h8 : ks.length = 8) : ∃ (k0 k1 k2 k3 k4 k5 k6 k7 : Int) (t0 t1 t2 t3 t4 t5 t6 t7 : Tok), zs = [.int k0 t0, .int k1 t1, .int k2 t2, .int k3 t3, .int k4 t4, .int k5 t5, .int k6 t6, .int k7 t7] := by
  match ks, h8 with
  | [k0, k1, k2, k3, k4, k5, k6, k7], _ =>
    obtain ⟨t0, r0, e0, g0⟩ := ints_one h
    obtain ⟨t1, r1, e1, g1⟩ := ints_one g0
    obtain ⟨t2, r2, e2, g2⟩ := ints_one g1
    obtain ⟨t3, r3, e3, g3⟩ := ints_one g2
    obtain ⟨t4, r4, e4, g4⟩ := ints_one g3
    obtain ⟨t5, r5, e5, g5⟩ := ints_one g4
    obtain ⟨t6, r6, e6, g6⟩ := ints_one g5
    obtain ⟨t7, r7, e7, g7⟩ := ints_one g6
    cases g7
    subst e7 e6 e5 e4 e3 e2 e1 e0
    exact ⟨_, _, _, _, _, _, _, _, _, _, _, _, _, _, _, _, rfl⟩
theorem restW {prog : Program} {w : World} {A : Around} {s : Shared} {h₀ : Heap} {L : Addr} {m : PySem.Str → Option Value} {env : Env} {elt : PySem.Expr} {x : PySem.Str} {scope : Scope} {cl : List (PySem.Str × Addr)} {S : Led → Prop} {P : Nat → Value → Prop}
    {Fin : List Value → Led → Prop} {news : Led} {k i : Nat} {ys : List Value} (R : Value → Prop) (hS : S news)
    (elem : ∀ v I oI C oC D m₂ hh tk (E' : Value → Shared → Prop), P i v → LCg.NsObj oC m₂ → m₂ x = some v → Fr h₀ L hh m → News h₀ L hh ((I, oI) :: (C, oC) :: (D, LCg.lst ys) :: news) → LCg.Off3 I C D news → ((@Ne Nat I C) ∧ (@Ne Nat I D) ∧ (@Ne Nat C D)) →
      wpAny (model prog w) A (eval elt (compEnvC scope cl C env)) (EltPost h₀ L m { s with heap := hh, toks := tk } ((I, oI) :: (C, oC) :: (D, LCg.lst ys) :: news) R) E' { s with heap := hh, toks := tk })
    (rest : ∀ y, R y → LCg.CompRest prog w A h₀ L m env elt x scope cl s S P Fin k (i + 1) (ys ++ [y]) news) : LCg.CompRest prog w A h₀ L m env elt x scope cl s S P Fin (k + 1) i ys news := by
  refine LCg.CompRest.succ fun v I oI C oC D m₂ hh tk E' hv hC hx F N off ne => ?_
  refine wpAny_mono (elem v I oI C oC D m₂ hh tk E' hv hC hx F N off ne) (fun y s₂ ht => ?_) fun _ _ e => e
  obtain ⟨h', tk', rfl, r, F', N'⟩ := ht
  exact compEnd_at F' N' off hS (rest y r)
theorem ints_all {vs : List Value} {ns : List Int} (h : IntsAre vs ns) : ∀ v ∈ vs, ∃ x t, v = .int x t := by
  intro v hv
  obtain ⟨i, hi⟩ := List.mem_iff_getElem?.mp hv
  obtain ⟨k, t, e, _⟩ := IntsAre.at h i v hi
  exact ⟨k, t, e⟩
theorem lnF4_1 : True := by
  (k_with "m:exec For Tuple Call cons nil" => (k_here; (rename Fr _ _ _ _ => lF'); (with_unfolding_all refine' For_turns lF' ?_; k_whole)))
  exact trivial
noncomputable def Stop4 (P : Prop) : Prop := P
theorem Stop4.out {P : Prop} (h : Stop4 P) : P := h
theorem lnF4_2 : True := by
  (k_with "m:call type:enumerate" => (refine Stop4.out ?_))
  exact trivial
noncomputable def WeightR (y : Value) : Prop := ∃ w t, y = .int w t ∧ w.natAbs < 1000000
noncomputable def SizeR (y : Value) : Prop := ∃ z t, y = .int z t ∧ 1 ≤ z ∧ z ≤ 1000000000000
noncomputable def SizeR2 (y : Value) : Prop := ∃ z t, y = .int z t ∧ 1 ≤ z ∧ z ≤ 1000000000000 ∧ z ≠ 127
theorem weight_a {k : Int} {t : Tok} : WeightR (.int (k.fmod (10 ^ Int.toNat 6)) t) := by
  refine ⟨_, _, rfl, ?_⟩
  have e : (10 : Int) ^ Int.toNat 6 = 1000000 := by decide
  rw [e]
  have a := Int.fmod_nonneg_of_pos k (show (0 : Int) < 1000000 by decide)
  have b := Int.fmod_lt_of_pos k (show (0 : Int) < 1000000 by decide)
  omega
theorem weight_b {k : Int} {t : Tok} : WeightR (.int (-(k.fmod (10 ^ Int.toNat 6))) t) := by
  refine ⟨_, _, rfl, ?_⟩
  have e : (10 : Int) ^ Int.toNat 6 = 1000000 := by decide
  rw [e]
  have a := Int.fmod_nonneg_of_pos k (show (0 : Int) < 1000000 by decide)
  have b := Int.fmod_lt_of_pos k (show (0 : Int) < 1000000 by decide)
  omega
theorem size_a {k : Int} {t : Tok} : SizeR (.int (1 + k.fmod (10 ^ Int.toNat 12)) t) := by
  refine ⟨_, _, rfl, ?_⟩
  have e : (10 : Int) ^ Int.toNat 12 = 1000000000000 := by decide
  rw [e]
  have a := Int.fmod_nonneg_of_pos k (show (0 : Int) < 1000000000000 by decide)
  have b := Int.fmod_lt_of_pos k (show (0 : Int) < 1000000000000 by decide)
  omega
theorem size2_a {z : Int} {t : Tok} (h : 1 ≤ z ∧ z ≤ 1000000000000) : SizeR2 (.int (z + if (z == 127) = true then 1 else 0) t) := by
  obtain ⟨h1, h2⟩ := h
  refine ⟨_, _, rfl, ?_⟩
  by_cases e : z = 127
  · subst e
    exact ⟨by decide, by decide, by decide⟩
  · rw [if_neg (by intro h; exact e (eq_of_beq h))]
    omega
theorem mod4_a (k : Int) : 0 ≤ k.fmod 4 ∧ k.fmod 4 < 4 := ⟨Int.fmod_nonneg_of_pos k (by decide), Int.fmod_lt_of_pos k (by decide)⟩
theorem ten12_ne : (10 : Int) ^ Int.toNat 12 ≠ 0 := by decide
theorem ten12_log : ((10 : Int) ^ Int.toNat 12).natAbs.log2 < 9000 := by decide +kernel
theorem LeaveS.tri {h₀ : Heap} {L : Addr} {m : PySem.Str → Option Value} {g : Heap} {news : Led} {R : Result → Shared → Prop} {D W S : Addr} {nW nS : Nat} {iw is : Array Value} {d : Int} {td : Tok} {s' : Shared} {L' : Addr} {m' : PySem.Str → Option Value} {news' : Led}
    (F : Fr g L' s'.heap m') (N : News g L' s'.heap news') (hD : (D, ({ cls := .type "tuple", data := .seq #[.ref W, .ref S, .int d td] } : Obj)) ∈ news') (hW : (W, listOf iw nW) ∈ news') (hS : (S, listOf is nS) ∈ news')
    (k : Fr h₀ L s'.heap m → News h₀ L s'.heap ([(D, ({ cls := .type "tuple", data := .seq #[.ref W, .ref S, .int d td] } : Obj)), (W, listOf iw nW), (S, listOf is nS)] ++ news) → (∀ p ∈ [(D, ({ cls := .type "tuple", data := .seq #[.ref W, .ref S, .int d td] } : Obj)), (W, listOf iw nW), (S, listOf is nS)], ∀ q ∈ news, q.1 ≠ p.1) → R (.ok (.ret (.ref D))) s') : LeaveS h₀ L m g [] news R (.ref D) s' :=
  LeaveS.intro [(D, _), (W, _), (S, _)] F N (List.forall_mem_nil _) (fun p hp => by
    rcases List.mem_cons.mp hp with e | hp
    · rw [e]; exact hD
    rcases List.mem_cons.mp hp with e | hp
    · rw [e]; exact hW
    rw [List.mem_singleton.mp hp]; exact hS) (fun _ _ => List.forall_mem_nil _) k
noncomputable def StopN (P : Prop) : Prop := P
theorem StopN.out {P : Prop} (h : StopN P) : P := h
theorem lnF4_3 : True := by
  (k_with "m:exec Assign cons ListComp" => (k_here; k_dflt (refine LCg.Assign_ListComp_U (F₀ := by k_asm) (by rfl) (by with_unfolding_all rfl) (by with_unfolding_all rfl) (by decide) (by rfl) (by decide) (by rfl) (by rfl) (by rfl) ?_)))
  (k_with "m:CompSrc" => (k_here; k_dflt (refine LCg.CompSrc.ledger (by rfl) (by k_asm) (by k_asm) (by k_mem) (by exact Nat.le_of_ble_eq_true rfl) ?_); intro g'; k_dflt lcg_lit))
  (k_with "m:CompRest" => ((try dsimp only); (first
  | ((with_reducible show LCg.CompRest _ _ _ _ _ _ _ (PySem.Expr.IfExp _ _ _ _) _ _ _ _ _ _ _ _ _ _ _); k_dflt (refine' restW WeightR ?hSq ?_ ?_; (case hSq => lcg_src)))
  | ((with_reducible show LCg.CompRest _ _ _ _ _ _ _ (PySem.Expr.BinOp (PySem.Expr.Constant _ _ _) _ _ _) _ _ _ _ _ _ _ _ _ _ _); k_dflt (refine' restW SizeR ?hSq ?_ ?_; (case hSq => lcg_src)))
  | (k_dflt (refine' restW SizeR2 ?hSq ?_ ?_; (case hSq => lcg_src)))); rotate_left; (k_dflt (rintro y9 ⟨z9, t9, e9, hz9⟩; subst e9)); (try dsimp only); rotate_left; intro v' I' oI' C' oC' D' m' h' tk' E' hv' hC' hx' F' N' off' ne'; k_dflt (lcg_open hv'); (try dsimp only)))
  (k_with "m:EltPost" => ((try dsimp only); k_dflt (refine' EltPost.intro ?Fq ?Nq ?sq ?_; (case Fq => k_asm); (case Nq => k_asm); (case sq => first | exact fun _ h => h | walk_at "sub"))))
  (k_with "m:SizeR2" => exact size2_a (by assumption))
  (k_with "m:binaryOp FloorDiv int int" => ((try dsimp only); with_reducible refine floordiv_int ten12_ne ?_ (Or.inl (PyProof.noPylong_of_log2 ten12_log))))
  (k_with "m:LeaveS" => ((try dsimp only); k_dflt (refine' LeaveS.tri ?k1q ?k2q ?k4q ?k5q ?k6q ?_; (case k1q => k_asm); (case k2q => k_asm); (case k4q => k_mem); (case k5q => k_mem); (case k6q => k_mem); k_whole); refine StopN.out ?_))
  exact trivial
set_option maxHeartbeats 4000000 in
theorem drawn_tell (w : World) (mean : ExcName → Option Value) (mg mb : PySem.Str → Option Value) (gd : Option (List Code)) (cn : PySem.Str) (cs : Scope) (a : Addr) (ccd : Value) (cl : List (PySem.Str × Addr)) (outer : List Env) (A₀ : Around) (base h₀ : Heap) (L : Addr)
    (m : PySem.Str → Option Value) (news : Led) (s : Shared) (Q E : Value → Shared → Prop) (sc : Addr) (vs : List Value) (ns : List Int) (B : Below A₀ base outer h₀) (F : Fr h₀ L s.heap m) (X : (hd.heap_1 w.params).In h₀) (N : News h₀ L s.heap news) (T : TopF mean mg mb h₀) (hk : cs.kind = .function)
    (hsc : h₀.IsList sc vs.toArray) (hin : IntsAre vs ns) (hlen : vs.length ≤ 63)
    (hret : ∀ h' tk' (D W S : Addr) (nW nS : Nat) (w0 w1 w2 w3 w4 z0 z1 z2 z3 d : Int) (t0 t1 t2 t3 t4 u0 u1 u2 u3 td : Tok), DrawnOk w0 w1 w2 w3 w4 z0 z1 z2 z3 d → Fr h₀ L h' m →
      News h₀ L h' ([(D, ({ cls := .type "tuple", data := .seq #[.ref W, .ref S, .int d td] } : Obj)), (W, listOf #[.int w0 t0, .int w1 t1, .int w2 t2, .int w3 t3, .int w4 t4] nW), (S, listOf #[.int z0 u0, .int z1 u1, .int z2 u2, .int z3 u3] nS)] ++ news) →
      (∀ p ∈ [(D, ({ cls := .type "tuple", data := .seq #[.ref W, .ref S, .int d td] } : Obj)), (W, listOf #[.int w0 t0, .int w1 t1, .int w2 t2, .int w3 t3, .int w4 t4] nW), (S, listOf #[.int z0 u0, .int z1 u1, .int z2 u2, .int z3 u3] nS)], ∀ q ∈ news, q.1 ≠ p.1) → Q (.ref D) { s with heap := h', toks := tk' }) :
    wpAny (model PySem.Challenge.rw_xr0005_01.prog w) (ktrTop 310 310 gd cn cs L a ccd cl outer) (call (.ref 82) [.ref sc]) Q E s := by
  revert X
  k_fill
  intro X
  refine wpAny_call ?_
  k_dflt (refine' enterS (sub := []) ?k1q ?k2q ?k3q ?k4q ?k5q (List.forall_mem_nil _) ?kAq ?kFq ?kKq ?k6q ?k7q ?k8q ?k9q ?kBq ?_ ?c5q ?c2q ?c3q ?c4q; (case kAq => exact rfl); (case kFq => exact rfl); (case kKq => assumption); (case k1q => k_asm); (case k2q => k_asm); (case k3q => k_asm); (case k4q => k_asm); (case k5q => k_asm); (case k6q => k_is); (case k7q => k_is); (case k8q => k_room); (case k9q => exact BindsTo.of_eq rfl); (case c5q => decide); (case kBq => exact locs rfl); (case c2q => exact rfl); (case c3q => exact rfl); (case c4q => exact rfl); k_whole)
  intro g' L' h' FG' F' N' B' X' T'
  have hsc' : g'.IsList sc vs.toArray := hsc.at fun o e => FG'.keep _ _ e
  (try dsimp only)
  (simp only [zipS, List.reverse_cons, List.reverse_nil, List.nil_append, List.cons_append] at F')
  clear B F X N T FG' hsc
  (try k_fold)
  k_steps
  unfold Stop4
  (with_reducible rename Fr _ _ _ _ => lF'); (with_reducible rename News _ _ _ _ => lN')
  (with_unfolding_all refine ktu_enum (xs := enumItems 0 _) (by rfl) lF' lN' (.head _) (by rfl) (by rfl) (by rfl) ?_)
  intro I l1
  (k_lt l1)
  have hw : IntsAre ([Value.int 3 0] : List Value) [3] := .cons _ _ .nil
  clear hw
  refine items_ind (DrJ _ _ _) ?_ ?_ _ 0 _ _ (ints_all (by assumption)) (DrJ.start (ks := [3, 3, 2, 1, -4, 2, 1, 1]) ?_ (by rfl))
  rotate_left
  rotate_left
  · exact .cons _ _ (.cons _ _ (.cons _ _ (.cons _ _ (.cons _ _ (.cons _ _ (.cons _ _ (.cons _ _ .nil)))))))
  · intro i x t T tI h tk m9 news9 ht hj F9
    obtain ⟨zs, ks, n, o1, o2, hm, rfl, hz, hk8⟩ := hj
    obtain rfl : m9 = _ := funext hm
    refine AllObj.cons fun oE hE => AllObj.cons fun oI hI => AllObj.nil fun N9 => ?_
    (simp only [List.cons_append, List.nil_append] at N9)
    k_steps
    all_goals exact DrJ.step hz hk8
  · intro m9 news9 h9 tk9 hj F9 N9
    obtain ⟨zs, ks, n, o1, o2, hm, rfl, hz, hk8⟩ := hj
    obtain rfl : m9 = _ := funext hm
    obtain ⟨k0, k1, k2, k3, k4, k5, k6, k7, t0, t1, t2, t3, t4, t5, t6, t7, rfl⟩ := ints8 hz hk8
    clear hz hk8 hm
    dsimp only
    k_steps
    any_goals ((with_reducible show WeightR _); (with_reducible first | exact weight_a | exact weight_b))
    any_goals ((with_reducible show SizeR _); (with_reducible exact size_a))
    unfold StopN
    intro kF kN kA
    refine hret _ _ _ _ _ _ _ _ _ _ _ _ _ _ _ _ _ _ _ _ _ _ _ _ _ _ _ ?_ kF kN kA
    refine ⟨⟨?_, ?_, ?_, ?_, ?_⟩, ⟨?_, ?_, ?_, ?_⟩, ?_⟩
    all_goals first | assumption | exact mod4_a _
end
section
theorem lnG4_0 : True := by k_with_none; exact trivial
theorem lnG4p_1 : True := by
  (k_with "m:tell" => (
  unfold Tell
  k_fill
  intro mean9 mg9 mb9 gd9 cn9 cs9 a9 ccd9 cl9 outer9 A9 base9 h9 L9 m9 news9 s9 Q9 E9 B F X N T hk hsub hret
  refine wpAny_call ?_
  k_dflt (refine' enterS ?k1q ?k2q ?k3q ?k4q ?k5q hsub ?kAq ?kFq ?kKq ?k6q ?k7q ?k8q ?k9q ?kBq ?_ ?c5q ?c2q ?c3q ?c4q; (case kAq => exact rfl); (case kFq => exact rfl); (case kKq => assumption); (case k1q => k_asm); (case k2q => k_asm); (case k3q => k_asm); (case k4q => k_asm); (case k5q => k_asm); (case k6q => k_is); (case k7q => k_is); (case k8q => k_room); (case k9q => exact BindsTo.of_eq rfl); (case c5q => decide); (case kBq => exact locs rfl); (case c2q => exact rfl); (case c3q => exact rfl); (case c4q => exact rfl); k_whole)
  intro g' L' h' FG' F' N' B' X' T'
  (try dsimp only)
  (simp only [zipS, List.reverse_cons, List.reverse_nil, List.nil_append, List.cons_append] at F')
  clear B F X N T FG'
  k_fold))
  (k_with "m:sub" => first | exact List.forall_mem_nil _ | (refine List.forall_mem_cons.mpr ⟨by k_mem, ?_⟩; walk_at "sub"))
  (k_with "m:apart" => first | exact List.forall_mem_nil _ | (refine List.forall_mem_cons.mpr ⟨by k_ne, ?_⟩; walk_at "apart"))
  (k_with "m:leave0" => (k_dflt (refine' LeaveS.intro [] ?k1q ?k2q ?k3q (List.forall_mem_nil _) (List.forall_mem_nil _) ?_; (case k1q => k_asm); (case k2q => k_asm); (case k3q => walk_at "sub"); k_whole); intro kF kN kA; (with_reducible rename (∀ (_ : Value) (_ : List (Addr × Obj)) (_ : Heap) (_ : Nat), Fr _ _ _ _ → _) => hret); refine hret _ [] _ _ kF kN kA ⟨rfl, Done.intro ?_⟩; clear kF kN kA hret))
  (k_with "m:leave1" => (k_dflt (refine' LeaveS.intro1 ?k1q ?k2q ?k3q ?k4q ?k5q ?_; (case k1q => k_asm); (case k2q => k_asm); (case k3q => walk_at "sub"); (case k4q => k_mem); (case k5q => walk_at "apart"); k_whole); intro kF kN kA; (with_reducible rename (∀ (_ : Value) (_ : List (Addr × Obj)) (_ : Heap) (_ : Nat), Fr _ _ _ _ → _) => hret); refine hret _ [_] _ _ kF kN kA (Done.intro ?_); clear kF kN kA hret))
  (k_with "m:leave" => walk_at "leave0")
  (k_with "m:LeaveS" => ((try dsimp only); walk_at "leave"))
  (k_with "m:use0" => ((case k1q => k_asm); (case k2q => k_asm); (case k3q => k_asm); (case k4q => k_asm); (case k5q => k_asm); (case kKq => first | exact rfl | assumption); (case ksq => walk_at "sub"); (case kdq => k_room); (case kuq => k_room); k_whole))
  (k_with "m:gotInt" => (intro r9 h9 tk9 F9 N9 hR9; obtain ⟨v9, t9, hv9, e9⟩ := hR9; subst e9; (try k_sweep); (try dsimp only)))
  (k_with "m:gotBool" => (intro r9 h9 tk9 F9 N9 hR9; obtain ⟨v9, hv9, e9⟩ := hR9; subst e9; (try k_sweep); (try dsimp only)))
  (k_with "m:item" => (k_here; k_dflt (refine' item_fast ?Nq ?mq ?aq ?bq ?xq ?_ ?yq; (case Nq => k_asm); (case mq => k_mem); (case aq => decide); (case bq => decide); (case xq => exact rfl); (case yq => with_unfolding_all rfl); k_whole)))
  (k_with "m:subscriptTail Name BinOp ref int" => walk_at "item")
  (k_with "m:subscriptTail Name Name ref int" => walk_at "item")
  (k_with "m:subscriptTail Name Constant ref int" => walk_at "item")
  (k_with "m:eval Name" => (k_here; k_dflt (refine' nameX_L ?Fq ?vq ?_ ?aq ?bq; (case bq => rfl); (case Fq => k_asm); (case aq => rfl); (case vq => rfl); k_whole)))
  (k_with "m:subscriptTail Name Slice str ref" => (k_here; (with_reducible rename Fr _ _ _ _ => F'); (with_reducible rename News _ _ _ _ => N'); (first | ((with_reducible show wpAny _ _ (subscriptTail _ (PySem.Expr.Slice none none none _) _ _) _ _ _); refine slice_strN_nn (hsz := ?hszq) (s := ⟨_, _, _, _, _⟩) F' N' ?_) | ((with_reducible show wpAny _ _ (subscriptTail _ (PySem.Expr.Slice none (some _) none _) _ _) _ _ _); refine slice_strN_ns (hsz := ?hszq) (s := ⟨_, _, _, _, _⟩) F' N' ?_) | ((with_reducible show wpAny _ _ (subscriptTail _ (PySem.Expr.Slice (some _) none none _) _ _) _ _ _); refine slice_strN_sn (hsz := ?hszq) (s := ⟨_, _, _, _, _⟩) F' N' ?_) | ((with_reducible show wpAny _ _ (subscriptTail _ (PySem.Expr.Slice (some _) (some _) none _) _ _) _ _ _); refine slice_strN_ss (hsz := ?hszq) (s := ⟨_, _, _, _, _⟩) F' N' ?_)); (case hszq => exact Short.fits (by assumption)); intro _ _ _ _ _))
  (k_with "m:execs cons" => (dsimp only; walk_at "execs cons"))
  exact trivial
theorem lnG4F1a_1 : True := by
  (k_with "m:call ref" => (k_here; (with_reducible show wpAny _ _ (call (Value.ref 21) [Value.int _ _, Value.int _ _]) _ _ _); k_dflt (refine' TellUse0 (mul_tell _ _ _ _ _ ?okq) ?k1q ?k2q ?k3q ?k4q ?k5q ?kKq ?ksq ?kdq ?kuq ?_; (case okq => exact IntMulOk.of_left (by assumption)); walk_at "use0"); walk_at "gotInt"))
  (k_with "m:call ref" => (k_here; (with_reducible show wpAny _ _ (call (Value.ref 28) [Value.int _ _, Value.int _ _]) _ _ _); k_dflt (refine' TellUse0 (sub_tell _ _ _ _ _) ?k1q ?k2q ?k3q ?k4q ?k5q ?kKq ?ksq ?kdq ?kuq ?_; walk_at "use0"); walk_at "gotInt"))
  exact trivial
theorem mG_start {ax : Addr} : (fun y : PySem.Str => if y = "last_interval" then some Value.none else ([("grouping", Value.ref ax)] : List (PySem.Str × Value)).lookup y) = mG ax .none none := by
  funext y
  unfold mG
  by_cases h1 : y = "interval"
  · subst h1; rfl
  · rw [if_neg h1]
    by_cases h2 : y = "last_interval"
    · rw [if_pos h2, if_pos h2]
    · rw [if_neg h2, if_neg h2]
      by_cases h3 : y = "grouping"
      · subst h3; rfl
      · rw [if_neg h3]
        simp [List.lookup, beq_eq_false_iff_ne.mpr h3]
theorem grp_call {w : World} {mean : ExcName → Option Value} {mg mb : PySem.Str → Option Value} {A : Around} {s : Shared} {h₀ : Heap} {L : Addr} {m : PySem.Str → Option Value} {news : Led} {Q E : Value → Shared → Prop} {ax : Addr} {vs : List (Int × Tok)} {k n : Nat} {Out : Nat → Value → Prop} {Stop : Nat → Prop}
    (F : Fr h₀ L s.heap m) (X : (hd.heap_1 w.params).In h₀) (N : News h₀ L s.heap news) (T : TopF mean mg mb h₀) (hroom : A.depth < recursionLimit) (hm : (ax, listOf (vs.map intV).toArray k) ∈ news) (htold : ToldG Out Stop n .none vs) (hb : AllBare s.gens)
    (h : ∀ (D L' : Nat) h' tk gn oL oD, D = L' + 1 → h'.objs.size = D + 1 → GenO oD s.gens.size → Fr h₀ L h' m → News h₀ L h' ((D, oD) :: (L', oL) :: news) → (∀ p ∈ news, p.1 < L') → L < L' → AllBare gn →
      (∀ A' : Around, A'.handled = none → GenAtS w A' h₀ L' (D + 1) ax Out Stop n s.gens.size { s with heap := h', toks := tk, gens := gn }) → Q (.ref D) { s with heap := h', toks := tk, gens := gn }) :
    wpAny (model PySem.Challenge.rw_xr0005_01.prog w) A (call (.ref 70) [.ref ax]) Q E s := by
  revert X
  k_fill
  intro X
  k_dflt (refine' callG F X N T ?k6q ?k7q hroom ?k9q ?kBq ?c5q ?c2q ?c3q ?c4q ?_; (case k6q => k_is); (case k7q => k_is); (case k9q => exact BindsTo.of_eq rfl); (case c5q => decide); (case kBq => exact locs rfl); (case c2q => exact rfl); (case c3q => exact rfl); (case c4q => exact rfl); k_whole)
  intro D L' g h' tk oL oD hDL hsz hg hO F' N' l1 FG hLL _ _
  subst hg
  refine h D L' h' tk _ oL oD hDL hsz hO F' N' l1 hLL (hb.push rfl) fun A' hA' => ⟨_, by exact Array.getElem?_push_size, ?_⟩
  have haL : ax < L' := l1 _ hm
  have hI₀ : h₀.get? (D + 1) = none := by
    cases e : h₀.get? (D + 1) with
    | none => rfl
    | some o' => exact absurd (Heap.lt_size (F'.keep _ o' e)) (by rw [hsz]; exact Nat.lt_irrefl _)
  have hl : h'.IsList ax (vs.map intV).toArray := ⟨_, (N' _ (List.mem_cons_of_mem _ (List.mem_cons_of_mem _ hm))).1, rfl, _, rfl⟩
  have hlt9 : L' < D + 1 := by rw [hDL]; exact Nat.lt_succ_of_lt (Nat.lt_succ_self _)
  clear F N F' N' hm h hb
  k_dflt (refine' gen_start (m₀ := fun y => ([("grouping", Value.ref ax)] : List (PySem.Str × Value)).lookup y) ?lvq ?zeroq ?itq ?hitq ?e1q ?e2q ?e3q ?e4q ?e5q ?e6q ?e7q ?e8q hI₀ FG.above ?e9q ?q1q ?q2q ?q3q htold ?fgq ?hlq ?szq; (case hitq => intro _; rfl); (case e1q => exact rfl); (case e2q => exact rfl); (case e3q => exact rfl); (case e4q => exact rfl); (case e5q => exact rfl); (case e6q => exact Nat.ne_of_lt hlt9); (case e7q => exact Nat.ne_of_lt haL); (case e8q => exact Nat.ne_of_lt (Nat.lt_trans haL hlt9)); (case e9q => exact hA'); (case q1q => exact rfl); (case q2q => exact rfl); (case q3q => exact rfl); (case fgq => exact FG); (case hlq => exact hl); (case szq => exact hsz))
  · constructor
    · intro A s E Q last x t F hx hq
      k_steps
      all_goals first | exact absurd (by assumption) hx | exact hq _
    · intro A s E Q last x t F hx hq
      k_steps
      all_goals first | exact hq _ | exact absurd hx (by assumption)
    · intro A s E Q last x t F hq
      k_steps
      all_goals first | exact hq _
    · intro A s E Q y u x t F hq
      k_steps
      all_goals first | exact hq _
    · intro A s E Q hq
      k_steps
      all_goals first | exact hq _
    · intro A s E Q last iv F hq
      k_steps
      all_goals first | exact hq _
    · intro A s E Q last x t F hq
      k_steps
      all_goals first | exact hq _
    · intro A s E Q last x t F hq
      refine wpAny_Assign_Name ?_ (by rfl)
      walk1
      refine wpAny_storeName_local rfl F.ns (fun h₁ hn hs => ?_) rfl
      have F₁ := F.set hn hs
      have hn' := F₁.ns
      rw [mG_last] at hn'
      exact hq _ _ ⟨hn', F₁.keep, F₁.above⟩ hs
  · intro A s E Q F hq
    refine wpAny_Assign_Name ?_ (by rfl)
    walk1
    refine wpAny_storeName_local rfl F.ns (fun h₁ hn hs => ?_) rfl
    have F₁ := F.set hn hs
    have hn' := F₁.ns
    rw [mG_start] at hn'
    exact hq _ _ ⟨hn', F₁.keep, F₁.above⟩ hs
  · intro A s E Q F hq
    k_steps
    all_goals exact hq _
end
section
theorem lnF5_0 : True := by k_with_none; exact trivial
theorem lnF5p_1 : True := by
  (k_with "m:tell" => (
  unfold Tell
  k_fill
  intro mean9 mg9 mb9 gd9 cn9 cs9 a9 ccd9 cl9 outer9 A9 base9 h9 L9 m9 news9 s9 Q9 E9 B F X N T hk hsub hret
  refine wpAny_call ?_
  k_dflt (refine' enterS ?k1q ?k2q ?k3q ?k4q ?k5q hsub ?kAq ?kFq ?kKq ?k6q ?k7q ?k8q ?k9q ?kBq ?_ ?c5q ?c2q ?c3q ?c4q; (case kAq => exact rfl); (case kFq => exact rfl); (case kKq => assumption); (case k1q => k_asm); (case k2q => k_asm); (case k3q => k_asm); (case k4q => k_asm); (case k5q => k_asm); (case k6q => k_is); (case k7q => k_is); (case k8q => k_room); (case k9q => exact BindsTo.of_eq rfl); (case c5q => decide); (case kBq => exact locs rfl); (case c2q => exact rfl); (case c3q => exact rfl); (case c4q => exact rfl); k_whole)
  intro g' L' h' FG' F' N' B' X' T'
  (try dsimp only)
  (simp only [zipS, List.reverse_cons, List.reverse_nil, List.nil_append, List.cons_append] at F')
  clear B F X N T FG'
  k_fold))
  (k_with "m:sub" => first | exact List.forall_mem_nil _ | (refine List.forall_mem_cons.mpr ⟨by k_mem, ?_⟩; walk_at "sub"))
  (k_with "m:apart" => first | exact List.forall_mem_nil _ | (refine List.forall_mem_cons.mpr ⟨by k_ne, ?_⟩; walk_at "apart"))
  (k_with "m:leave0" => (k_dflt (refine' LeaveS.intro [] ?k1q ?k2q ?k3q (List.forall_mem_nil _) (List.forall_mem_nil _) ?_; (case k1q => k_asm); (case k2q => k_asm); (case k3q => walk_at "sub"); k_whole); intro kF kN kA; (with_reducible rename (∀ (_ : Value) (_ : List (Addr × Obj)) (_ : Heap) (_ : Nat), Fr _ _ _ _ → _) => hret); refine hret _ [] _ _ kF kN kA ⟨rfl, Done.intro ?_⟩; clear kF kN kA hret))
  (k_with "m:leave1" => (k_dflt (refine' LeaveS.intro1 ?k1q ?k2q ?k3q ?k4q ?k5q ?_; (case k1q => k_asm); (case k2q => k_asm); (case k3q => walk_at "sub"); (case k4q => k_mem); (case k5q => walk_at "apart"); k_whole); intro kF kN kA; (with_reducible rename (∀ (_ : Value) (_ : List (Addr × Obj)) (_ : Heap) (_ : Nat), Fr _ _ _ _ → _) => hret); refine hret _ [_] _ _ kF kN kA (Done.intro ?_); clear kF kN kA hret))
  (k_with "m:leave" => walk_at "leave0")
  (k_with "m:LeaveS" => ((try dsimp only); walk_at "leave"))
  (k_with "m:use0" => ((case k1q => k_asm); (case k2q => k_asm); (case k3q => k_asm); (case k4q => k_asm); (case k5q => k_asm); (case kKq => first | exact rfl | assumption); (case ksq => walk_at "sub"); (case kdq => k_room); (case kuq => k_room); k_whole))
  (k_with "m:gotInt" => (intro r9 h9 tk9 F9 N9 hR9; obtain ⟨v9, t9, hv9, e9⟩ := hR9; subst e9; (try k_sweep); (try dsimp only)))
  (k_with "m:gotBool" => (intro r9 h9 tk9 F9 N9 hR9; obtain ⟨v9, hv9, e9⟩ := hR9; subst e9; (try k_sweep); (try dsimp only)))
  (k_with "m:item" => (k_here; k_dflt (refine' item_fast ?Nq ?mq ?aq ?bq ?xq ?_ ?yq; (case Nq => k_asm); (case mq => k_mem); (case aq => decide); (case bq => decide); (case xq => exact rfl); (case yq => with_unfolding_all rfl); k_whole)))
  (k_with "m:subscriptTail Name BinOp ref int" => walk_at "item")
  (k_with "m:subscriptTail Name Name ref int" => walk_at "item")
  (k_with "m:subscriptTail Name Constant ref int" => walk_at "item")
  (k_with "m:eval Name" => (k_here; k_dflt (refine' nameX_L ?Fq ?vq ?_ ?aq ?bq; (case bq => rfl); (case Fq => k_asm); (case aq => rfl); (case vq => rfl); k_whole)))
  (k_with "m:subscriptTail Name Slice str ref" => (k_here; (with_reducible rename Fr _ _ _ _ => F'); (with_reducible rename News _ _ _ _ => N'); (first | ((with_reducible show wpAny _ _ (subscriptTail _ (PySem.Expr.Slice none none none _) _ _) _ _ _); refine slice_strN_nn (hsz := ?hszq) (s := ⟨_, _, _, _, _⟩) F' N' ?_) | ((with_reducible show wpAny _ _ (subscriptTail _ (PySem.Expr.Slice none (some _) none _) _ _) _ _ _); refine slice_strN_ns (hsz := ?hszq) (s := ⟨_, _, _, _, _⟩) F' N' ?_) | ((with_reducible show wpAny _ _ (subscriptTail _ (PySem.Expr.Slice (some _) none none _) _ _) _ _ _); refine slice_strN_sn (hsz := ?hszq) (s := ⟨_, _, _, _, _⟩) F' N' ?_) | ((with_reducible show wpAny _ _ (subscriptTail _ (PySem.Expr.Slice (some _) (some _) none _) _ _) _ _ _); refine slice_strN_ss (hsz := ?hszq) (s := ⟨_, _, _, _, _⟩) F' N' ?_)); (case hszq => exact Short.fits (by assumption)); intro _ _ _ _ _))
  (k_with "m:execs cons" => (dsimp only; walk_at "execs cons"))
  exact trivial
theorem lnF5F1a_1 : True := by
  (k_with "m:call ref" => (k_here; (with_reducible show wpAny _ _ (call (Value.ref 21) [Value.int _ _, Value.int _ _]) _ _ _); k_dflt (refine' TellUse0 (mul_tell _ _ _ _ _ ?okq) ?k1q ?k2q ?k3q ?k4q ?k5q ?kKq ?ksq ?kdq ?kuq ?_; (case okq => exact IntMulOk.of_left (by assumption)); walk_at "use0"); walk_at "gotInt"))
  (k_with "m:call ref" => (k_here; (with_reducible show wpAny _ _ (call (Value.ref 28) [Value.int _ _, Value.int _ _]) _ _ _); k_dflt (refine' TellUse0 (sub_tell _ _ _ _ _) ?k1q ?k2q ?k3q ?k4q ?k5q ?kKq ?ksq ?kdq ?kuq ?_; walk_at "use0"); walk_at "gotInt"))
  exact trivial
noncomputable def TellG (lv : Nat) (w : World) (f : Addr) (vs : List Value) (sub : Led) (Ret : Led → Value → Prop) : Prop :=
  ∀ (mean : ExcName → Option Value) (mg mb : PySem.Str → Option Value) (gd : Option (List Code)) (cn : PySem.Str) (cs : Scope) (a : Addr) (ccd : Value) (cl : List (PySem.Str × Addr)) (outer : List Env) (A₀ : Around) (base h₀ : Heap) (L : Addr)
    (m : PySem.Str → Option Value) (news : Led) (s : Shared) (Q E : Value → Shared → Prop),
    Below A₀ base outer h₀ → Fr h₀ L s.heap m → (hd.heap_1 w.params).In h₀ → News h₀ L s.heap news → TopF mean mg mb h₀ → cs.kind = .function → (∀ p ∈ sub, p ∈ news) → AllBare s.gens →
    (∀ r tl h' tk' gn, AllBare gn → Fr h₀ L h' m → News h₀ L h' (tl ++ news) → (∀ p ∈ tl, ∀ q ∈ news, q.1 ≠ p.1) → Ret tl r → Q r { s with heap := h', toks := tk', gens := gn }) →
    wpAny (model PySem.Challenge.rw_xr0005_01.prog w) (ktrTop lv lv gd cn cs L a ccd cl outer) (call (.ref f) vs) Q E s
theorem TellGUse {lv : Nat} {w : World} {f : Addr} {vs : List Value} {sub : Led} {Ret : Led → Value → Prop} (C : TellG lv w f vs sub Ret)
    {mean : ExcName → Option Value} {mg mb : PySem.Str → Option Value} {dp un : Nat} {gd : Option (List Code)} {cn : PySem.Str} {cs : Scope} {a : Addr} {ccd : Value} {cl : List (PySem.Str × Addr)} {outer : List Env} {A₀ : Around} {base h₀ : Heap} {L : Addr}
    {m : PySem.Str → Option Value} {news : Led} {s : Shared} {Q E : Value → Shared → Prop}
    (B : Below A₀ base outer h₀) (F : Fr h₀ L s.heap m) (X : (hd.heap_1 w.params).In h₀) (N : News h₀ L s.heap news) (T : TopF mean mg mb h₀) (hk : cs.kind = .function) (hsub : ∀ p ∈ sub, p ∈ news) (hd : dp ≤ lv) (hu : un ≤ lv) (hb : AllBare s.gens)
    (ret : ∀ r tl h' tk' gn, AllBare gn → Fr h₀ L h' m → News h₀ L h' (tl ++ news) → (∀ p ∈ tl, ∀ q ∈ news, q.1 ≠ p.1) → Ret tl r → Q r { s with heap := h', toks := tk', gens := gn }) :
    wpAny (model PySem.Challenge.rw_xr0005_01.prog w) (ktrTop dp un gd cn cs L a ccd cl outer) (call (.ref f) vs) Q E s :=
  wpAny_le (A := ktrTop lv lv gd cn cs L a ccd cl outer) (C mean mg mb gd cn cs a ccd cl outer A₀ base h₀ L m news s Q E B F X N T hk hsub hb ret) hd hu
noncomputable def GoodSize (x : Int) : Prop := x ≠ 0 ∧ x ≠ 127
section
variable {w : World} {mean : ExcName → Option Value} {mg mb : PySem.Str → Option Value} {A : Around} {s : Shared} {h₀ : Heap} {L : Addr} {m : PySem.Str → Option Value} {news : Led} {Q E : Value → Shared → Prop} {ax : Addr} {k : Nat} {a b c d : Int} {ta tb tc td t0 t1 t2 : Tok}
/-- what the caller is told of the generator that it has made -/
noncomputable def GenNew (w : World) (h₀ : Heap) (L : Addr) (m : PySem.Str → Option Value) (news : Led) (ax : Addr) (ys : List Value) (fin : Bool) (s : Shared) (Q : Value → Shared → Prop) : Prop :=
  ∀ (D L' g : Nat) h' tk gn oL oD, D = L' + 1 → h'.objs.size = D + 1 → GenO oD g → Fr h₀ L h' m → News h₀ L h' ((D, oD) :: (L', oL) :: news) → (∀ p ∈ news, p.1 < L') → AllBare gn →
    (∀ A' : Around, A'.handled = none → GenAtS w A' h₀ L' (D + 1) ax (outY ys (ys.length + (if fin = true then 1 else 0))) (stopY ys (ys.length + (if fin = true then 1 else 0)) fin) (ys.length + (if fin = true then 1 else 0)) g { s with heap := h', toks := tk, gens := gn }) → Q (.ref D) { s with heap := h', toks := tk, gens := gn }
theorem grp_new (F : Fr h₀ L s.heap m) (X : (hd.heap_1 w.params).In h₀) (N : News h₀ L s.heap news) (T : TopF mean mg mb h₀) (hroom : A.depth < recursionLimit) {vs : List (Int × Tok)} (hm : (ax, listOf (vs.map intV).toArray k) ∈ news) (hb : AllBare s.gens) {ys : List Value} {fin : Bool}
    (htold : ToldG (outY ys (ys.length + (if fin = true then 1 else 0))) (stopY ys (ys.length + (if fin = true then 1 else 0)) fin) (ys.length + (if fin = true then 1 else 0)) .none vs)
    (h : GenNew w h₀ L m news ax ys fin s Q) : wpAny (model PySem.Challenge.rw_xr0005_01.prog w) A (call (.ref 70) [.ref ax]) Q E s :=
  grp_call F X N T hroom hm htold hb fun D L' h' tk gn oL oD h1 h2 h3 h4 h5 h6 _ h8 h9 => h D L' _ h' tk gn oL oD h1 h2 h3 h4 h5 h6 h8 h9
theorem toldA (ha : GoodSize a) (hb : GoodSize b) (hc : GoodSize c) (hd : GoodSize d) : ToldG (outY [.int a ta, .int b tb, .int c tc, .int d td] 5) (stopY [.int a ta, .int b tb, .int c tc, .int d td] 5 true) 5 .none [(a, ta), (b, tb), (c, tc), (d, td)] := by
  simp [ToldG, ha.1, ha.2, hb.1, hb.2, hc.1, hc.2, hd.1, hd.2, outY, stopY]
theorem toldC (ha : GoodSize a) (hb : GoodSize b) (hc : GoodSize c) (hd : GoodSize d) : ToldG (outY [.int a ta, .int b tb, .int c tc, .int d td] 5) (stopY [.int a ta, .int b tb, .int c tc, .int d td] 5 true) 5 .none [(a, ta), (b, tb), (c, tc), (d, td), (127, t0), (a, t1)] := by
  simp [ToldG, ha.1, ha.2, hb.1, hb.2, hc.1, hc.2, hd.1, hd.2, outY, stopY]
theorem toldB (ha : GoodSize a) (hb : GoodSize b) : ToldG (outY [.int a ta, .int b tb, .int b tb, .int b tb, .int b tb, .int b tb] 6) (stopY [.int a ta, .int b tb, .int b tb, .int b tb, .int b tb, .int b tb] 6 false) 6 .none [(a, ta), (b, tb), (0, t0), (c, tc)] := by
  simp [ToldG, ha.1, ha.2, hb.1, hb.2, outY, stopY]
  intro j hj
  have : j = 0 ∨ j = 1 ∨ j = 2 ∨ j = 3 := by omega
  rcases this with rfl | rfl | rfl | rfl <;> rfl
theorem toldD (ha : GoodSize a) : ToldG (outY [.int a ta, .int a ta, .int a ta, .int a ta, .int a ta, .int a ta] 6) (stopY [.int a ta, .int a ta, .int a ta, .int a ta, .int a ta, .int a ta] 6 false) 6 .none [(a, ta), (0, t0), (127, t1)] := by
  simp [ToldG, ha.1, ha.2, outY, stopY]
  intro j hj
  have : j = 0 ∨ j = 1 ∨ j = 2 ∨ j = 3 ∨ j = 4 := by omega
  rcases this with rfl | rfl | rfl | rfl | rfl <;> rfl
end
end
section
theorem lnF5a_0 : True := by k_with_none; exact trivial
theorem lnF5ap_1 : True := by
  (k_with "m:tell" => (
  unfold Tell
  k_fill
  intro mean9 mg9 mb9 gd9 cn9 cs9 a9 ccd9 cl9 outer9 A9 base9 h9 L9 m9 news9 s9 Q9 E9 B F X N T hk hsub hret
  refine wpAny_call ?_
  k_dflt (refine' enterS ?k1q ?k2q ?k3q ?k4q ?k5q hsub ?kAq ?kFq ?kKq ?k6q ?k7q ?k8q ?k9q ?kBq ?_ ?c5q ?c2q ?c3q ?c4q; (case kAq => exact rfl); (case kFq => exact rfl); (case kKq => assumption); (case k1q => k_asm); (case k2q => k_asm); (case k3q => k_asm); (case k4q => k_asm); (case k5q => k_asm); (case k6q => k_is); (case k7q => k_is); (case k8q => k_room); (case k9q => exact BindsTo.of_eq rfl); (case c5q => decide); (case kBq => exact locs rfl); (case c2q => exact rfl); (case c3q => exact rfl); (case c4q => exact rfl); k_whole)
  intro g' L' h' FG' F' N' B' X' T'
  (try dsimp only)
  (simp only [zipS, List.reverse_cons, List.reverse_nil, List.nil_append, List.cons_append] at F')
  clear B F X N T FG'
  k_fold))
  (k_with "m:sub" => first | exact List.forall_mem_nil _ | (refine List.forall_mem_cons.mpr ⟨by k_mem, ?_⟩; walk_at "sub"))
  (k_with "m:apart" => first | exact List.forall_mem_nil _ | (refine List.forall_mem_cons.mpr ⟨by k_ne, ?_⟩; walk_at "apart"))
  (k_with "m:leave0" => (k_dflt (refine' LeaveS.intro [] ?k1q ?k2q ?k3q (List.forall_mem_nil _) (List.forall_mem_nil _) ?_; (case k1q => k_asm); (case k2q => k_asm); (case k3q => walk_at "sub"); k_whole); intro kF kN kA; (with_reducible rename (∀ (_ : Value) (_ : List (Addr × Obj)) (_ : Heap) (_ : Nat), Fr _ _ _ _ → _) => hret); refine hret _ [] _ _ kF kN kA ⟨rfl, Done.intro ?_⟩; clear kF kN kA hret))
  (k_with "m:leave1" => (k_dflt (refine' LeaveS.intro1 ?k1q ?k2q ?k3q ?k4q ?k5q ?_; (case k1q => k_asm); (case k2q => k_asm); (case k3q => walk_at "sub"); (case k4q => k_mem); (case k5q => walk_at "apart"); k_whole); intro kF kN kA; (with_reducible rename (∀ (_ : Value) (_ : List (Addr × Obj)) (_ : Heap) (_ : Nat), Fr _ _ _ _ → _) => hret); refine hret _ [_] _ _ kF kN kA (Done.intro ?_); clear kF kN kA hret))
  (k_with "m:leave" => walk_at "leave0")
  (k_with "m:LeaveS" => ((try dsimp only); walk_at "leave"))
  (k_with "m:use0" => ((case k1q => k_asm); (case k2q => k_asm); (case k3q => k_asm); (case k4q => k_asm); (case k5q => k_asm); (case kKq => first | exact rfl | assumption); (case ksq => walk_at "sub"); (case kdq => k_room); (case kuq => k_room); k_whole))
  (k_with "m:gotInt" => (intro r9 h9 tk9 F9 N9 hR9; obtain ⟨v9, t9, hv9, e9⟩ := hR9; subst e9; (try k_sweep); (try dsimp only)))
  (k_with "m:gotBool" => (intro r9 h9 tk9 F9 N9 hR9; obtain ⟨v9, hv9, e9⟩ := hR9; subst e9; (try k_sweep); (try dsimp only)))
  (k_with "m:item" => (k_here; k_dflt (refine' item_fast ?Nq ?mq ?aq ?bq ?xq ?_ ?yq; (case Nq => k_asm); (case mq => k_mem); (case aq => decide); (case bq => decide); (case xq => exact rfl); (case yq => with_unfolding_all rfl); k_whole)))
  (k_with "m:subscriptTail Name BinOp ref int" => walk_at "item")
  (k_with "m:subscriptTail Name Name ref int" => walk_at "item")
  (k_with "m:subscriptTail Name Constant ref int" => walk_at "item")
  (k_with "m:eval Name" => (k_here; k_dflt (refine' nameX_L ?Fq ?vq ?_ ?aq ?bq; (case bq => rfl); (case Fq => k_asm); (case aq => rfl); (case vq => rfl); k_whole)))
  (k_with "m:subscriptTail Name Slice str ref" => (k_here; (with_reducible rename Fr _ _ _ _ => F'); (with_reducible rename News _ _ _ _ => N'); (first | ((with_reducible show wpAny _ _ (subscriptTail _ (PySem.Expr.Slice none none none _) _ _) _ _ _); refine slice_strN_nn (hsz := ?hszq) (s := ⟨_, _, _, _, _⟩) F' N' ?_) | ((with_reducible show wpAny _ _ (subscriptTail _ (PySem.Expr.Slice none (some _) none _) _ _) _ _ _); refine slice_strN_ns (hsz := ?hszq) (s := ⟨_, _, _, _, _⟩) F' N' ?_) | ((with_reducible show wpAny _ _ (subscriptTail _ (PySem.Expr.Slice (some _) none none _) _ _) _ _ _); refine slice_strN_sn (hsz := ?hszq) (s := ⟨_, _, _, _, _⟩) F' N' ?_) | ((with_reducible show wpAny _ _ (subscriptTail _ (PySem.Expr.Slice (some _) (some _) none _) _ _) _ _ _); refine slice_strN_ss (hsz := ?hszq) (s := ⟨_, _, _, _, _⟩) F' N' ?_)); (case hszq => exact Short.fits (by assumption)); intro _ _ _ _ _))
  (k_with "m:execs cons" => (dsimp only; walk_at "execs cons"))
  exact trivial
theorem lnF5aF1a_1 : True := by
  (k_with "m:call ref" => (k_here; (with_reducible show wpAny _ _ (call (Value.ref 21) [Value.int _ _, Value.int _ _]) _ _ _); k_dflt (refine' TellUse0 (mul_tell _ _ _ _ _ ?okq) ?k1q ?k2q ?k3q ?k4q ?k5q ?kKq ?ksq ?kdq ?kuq ?_; (case okq => exact IntMulOk.of_left (by assumption)); walk_at "use0"); walk_at "gotInt"))
  (k_with "m:call ref" => (k_here; (with_reducible show wpAny _ _ (call (Value.ref 28) [Value.int _ _, Value.int _ _]) _ _ _); k_dflt (refine' TellUse0 (sub_tell _ _ _ _ _) ?k1q ?k2q ?k3q ?k4q ?k5q ?kKq ?ksq ?kdq ?kuq ?_; walk_at "use0"); walk_at "gotInt"))
  exact trivial
theorem news_swap {h₀ h : Heap} {L : Addr} {a b : Addr × Obj} {n : Led} (N : News h₀ L h (a :: b :: n)) : News h₀ L h (b :: a :: n) := fun p hp => by
  rcases List.mem_cons.mp hp with rfl | hp
  · exact N _ (List.mem_cons_of_mem _ (.head _))
  rcases List.mem_cons.mp hp with rfl | hp
  · exact N _ (.head _)
  · exact N _ (List.mem_cons_of_mem _ (List.mem_cons_of_mem _ hp))
theorem GT.cons {w : World} {A : Around} {h₀ : Heap} {L L' It D ax : Addr} {oD oA : Obj} {env : Env} {x : PySem.Str} {body : List Stmt} {Q : Flow → Shared → Prop} {E : Value → Shared → Prop} {s : Shared} {fin : Bool} {as : List Addr} {v : Value} {r : List Value} {m : PySem.Str → Option Value} {news : Led}
    (h : ∀ h tk gn oL oI, AllBare gn → Fr h₀ L h (fun y => if y = x then some v else m y) → News h₀ L h ((It, oI) :: (L', oL) :: news) →
      wpAny (model GProg w) A (execs body env) (TurnG h₀ L L' It oL oI { s with heap := h, toks := tk, gens := gn } Q (fun m' news' => news'.map (·.1) = as ∧ (D, oD) ∈ news' ∧ (ax, oA) ∈ news' ∧ GT w A h₀ L L' It D ax oD oA env x body Q E s fin as r m' news')) E
        { s with heap := h, toks := tk, gens := gn }) : GT w A h₀ L L' It D ax oD oA env x body Q E s fin as (v :: r) m news := h
theorem GT.done {w : World} {A : Around} {h₀ : Heap} {L L' It D ax : Addr} {oD oA : Obj} {env : Env} {x : PySem.Str} {body : List Stmt} {Q : Flow → Shared → Prop} {E : Value → Shared → Prop} {s : Shared} {fin : Bool} {as : List Addr} {m : PySem.Str → Option Value} {news : Led}
    (hf : fin = true) (h : ∀ h tk gn, AllBare gn → Fr h₀ L h m → News h₀ L h news → Q .next { s with heap := h, toks := tk, gens := gn }) : GT w A h₀ L L' It D ax oD oA env x body Q E s fin as [] m news := ⟨hf, h⟩
theorem TurnG.go {h₀ : Heap} {L L' It : Addr} {oL oI : Obj} {s₁ : Shared} {Q : Flow → Shared → Prop} {as : List Addr} {D ax : Addr} {oD oA : Obj} {G : (PySem.Str → Option Value) → Led → Prop} {h' : Heap} {tk : Nat} {m' : PySem.Str → Option Value} {news' : Led}
    (F : Fr h₀ L h' m') (N : News h₀ L h' ((It, oI) :: (L', oL) :: news')) (e : news'.map (·.1) = as) (h1 : (D, oD) ∈ news') (h2 : (ax, oA) ∈ news') (h : G m' news') :
    TurnG h₀ L L' It oL oI s₁ Q (fun m' news' => news'.map (·.1) = as ∧ (D, oD) ∈ news' ∧ (ax, oA) ∈ news' ∧ G m' news') .next { s₁ with heap := h', toks := tk } := ⟨h', tk, m', news', rfl, F, N, e, h1, h2, h⟩
theorem for_new {w : World} {mean : ExcName → Option Value} {mg mb : PySem.Str → Option Value} {A : Around} {h₀ : Heap} {L L' D ax : Addr} {oD oA oL : Obj} {env : Env} {x : PySem.Str} {px : Pos} {body : List Stmt} {Q : Flow → Shared → Prop} {E : Value → Shared → Prop} {s : Shared}
    {m : PySem.Str → Option Value} {news : Led} {g : Nat} {ys : List Value} {fin : Bool}
    (hh : A.handled = none) (hroom : A.depth < recursionLimit) (T : TopF mean mg mb h₀) (henv : env.locals = L) (F : Fr h₀ L s.heap m) (N : News h₀ L s.heap ((D, oD) :: (L', oL) :: news)) (hDL : D = L' + 1) (hO : GenO oD g) (hAx : (ax, oA) ∈ news) (hIt : s.heap.objs.size = D + 1) (hL' : ∀ p ∈ news, p.1 < L')
    (G : ∀ A' : Around, A'.handled = none → GenAtS w A' h₀ L' (D + 1) ax (outY ys (ys.length + (if fin = true then 1 else 0))) (stopY ys (ys.length + (if fin = true then 1 else 0)) fin) (ys.length + (if fin = true then 1 else 0)) g s) (hb : AllBare s.gens) (hx : env.kindOf x = some .local) (hp : (env.scope.kind == .class || (env.scope.kind == .module && env.locals != env.globals)) = false)
    (turns : GT w A h₀ L L' (D + 1) D ax oD oA env x body Q E s fin (D :: news.map (·.1)) ys m ((D, oD) :: news)) : LoopT GProg w A env x px body Q E (.ref D) s := fun hE =>
  for_gen hh hroom hE T (fun _ _ h => h) (fun _ h => h) rfl henv F (news_swap N) (.head _) hO (List.mem_cons_of_mem _ hAx) hIt (fun p hp => by
    rcases List.mem_cons.mp hp with rfl | hp
    · show D ≠ L'; rw [hDL]; exact Nat.succ_ne_self _
    · exact Nat.ne_of_lt (hL' p hp)) (G A hh) hb hx hp turns
theorem LeaveS.two {h₀ : Heap} {L : Addr} {m : PySem.Str → Option Value} {g : Heap} {sub news : Led} {R : Result → Shared → Prop} {D T U : Addr} {nT : Nat} {its : Array Value} {s' : Shared} {L' : Addr} {m' : PySem.Str → Option Value} {news' : Led}
    (F : Fr g L' s'.heap m') (N : News g L' s'.heap news') (h1 : ∀ p ∈ sub, p ∈ news') (m1 : (D, ({ cls := .type "tuple", data := .seq #[.ref T, .ref U] } : Obj)) ∈ news') (m2 : (T, listOf its nT) ∈ news') (a1 : ∀ q ∈ sub, (@Ne Nat q.1 D)) (a2 : ∀ q ∈ sub, (@Ne Nat q.1 T))
    (k : Fr h₀ L s'.heap m → News h₀ L s'.heap ([(D, ({ cls := .type "tuple", data := .seq #[.ref T, .ref U] } : Obj)), (T, listOf its nT)] ++ news) → (∀ p ∈ [(D, ({ cls := .type "tuple", data := .seq #[.ref T, .ref U] } : Obj)), (T, listOf its nT)], ∀ q ∈ news, q.1 ≠ p.1) → R (.ok (.ret (.ref D))) s') : LeaveS h₀ L m g sub news R (.ref D) s' :=
  LeaveS.intro [(D, _), (T, _)] F N h1 (fun p hp => by
    rcases List.mem_cons.mp hp with rfl | hp
    · exact m1
    · rw [List.mem_singleton.mp hp]; exact m2) (fun p hp q hq => by
    rcases List.mem_cons.mp hp with rfl | hp
    · exact a1 q hq
    · rw [List.mem_singleton.mp hp]; exact a2 q hq) k
theorem LeaveS.three {h₀ : Heap} {L : Addr} {m : PySem.Str → Option Value} {g : Heap} {sub news : Led} {R : Result → Shared → Prop} {D T U : Addr} {nT nU : Nat} {its itu : Array Value} {s' : Shared} {L' : Addr} {m' : PySem.Str → Option Value} {news' : Led}
    (F : Fr g L' s'.heap m') (N : News g L' s'.heap news') (h1 : ∀ p ∈ sub, p ∈ news') (m1 : (D, ({ cls := .type "tuple", data := .seq #[.ref T, .ref U] } : Obj)) ∈ news') (m2 : (T, listOf its nT) ∈ news') (m3 : (U, listOf itu nU) ∈ news') (a1 : ∀ q ∈ sub, (@Ne Nat q.1 D)) (a2 : ∀ q ∈ sub, (@Ne Nat q.1 T)) (a3 : ∀ q ∈ sub, (@Ne Nat q.1 U))
    (k : Fr h₀ L s'.heap m → News h₀ L s'.heap ([(D, ({ cls := .type "tuple", data := .seq #[.ref T, .ref U] } : Obj)), (T, listOf its nT), (U, listOf itu nU)] ++ news) → (∀ p ∈ [(D, ({ cls := .type "tuple", data := .seq #[.ref T, .ref U] } : Obj)), (T, listOf its nT), (U, listOf itu nU)], ∀ q ∈ news, q.1 ≠ p.1) → R (.ok (.ret (.ref D))) s') : LeaveS h₀ L m g sub news R (.ref D) s' :=
  LeaveS.intro [(D, _), (T, _), (U, _)] F N h1 (fun p hp => by
    rcases List.mem_cons.mp hp with rfl | hp
    · exact m1
    rcases List.mem_cons.mp hp with rfl | hp
    · exact m2
    · rw [List.mem_singleton.mp hp]; exact m3) (fun p hp q hq => by
    rcases List.mem_cons.mp hp with rfl | hp
    · exact a1 q hq
    rcases List.mem_cons.mp hp with rfl | hp
    · exact a2 q hq
    · rw [List.mem_singleton.mp hp]; exact a3 q hq) k
theorem lnF5a_1 : True := by
  (k_with "m:tellG" => (
  unfold TellG
  k_fill
  intro mean mg mb gd cn cs a ccd cl outer A₀ base h₀ L m news s Q E B F X N T hk hsub hbare hret
  refine wpAny_call ?_
  k_dflt (refine' enterS ?k1q ?k2q ?k3q ?k4q ?k5q hsub ?kAq ?kFq ?kKq ?k6q ?k7q ?k8q ?k9q ?kBq ?_ ?c5q ?c2q ?c3q ?c4q; (case kAq => exact rfl); (case kFq => exact rfl); (case kKq => assumption); (case k1q => k_asm); (case k2q => k_asm); (case k3q => k_asm); (case k4q => k_asm); (case k5q => k_asm); (case k6q => k_is); (case k7q => k_is); (case k8q => k_room); (case k9q => exact BindsTo.of_eq rfl); (case c5q => decide); (case kBq => exact locs rfl); (case c2q => exact rfl); (case c3q => exact rfl); (case c4q => exact rfl); k_whole)
  intro g' L' h' FG' F' N' B' X' T'
  (try dsimp only)
  (simp only [zipS, List.reverse_cons, List.reverse_nil, List.nil_append, List.cons_append] at F')
  clear B F X N T FG'
  k_fold))
  (k_with "m:exec For Name Call cons nil" => (k_here; k_dflt (refine' For_T ?_ ?hsq ?hEq; (case hsq => intro _; rfl); (case hEq => passes_own); k_whole)))
  (k_with "m:call ref" => (k_here; (with_reducible show wpAny _ _ (call (Value.ref 70) [Value.ref _]) _ _ _); k_dflt (first
  | (refine' grp_new (fin := false) (ys := [_, _, _, _, _, _]) (vs := [(_, _), (_, _), (0, _), (_, _)]) ?Fq ?Xq ?Nq ?Tq ?rq ?mq ?bq (toldB ?g1q ?g2q) ?_; (case Fq => k_asm); (case Xq => k_asm); (case Nq => k_asm); (case Tq => k_asm); (case rq => k_room); (case mq => k_mem); (case bq => assumption); (case g1q => assumption); (case g2q => assumption))
  | (refine' grp_new (fin := true) (ys := [_, _, _, _]) (vs := [(_, _), (_, _), (_, _), (_, _)]) ?Fq ?Xq ?Nq ?Tq ?rq ?mq ?bq (toldA ?g1q ?g2q ?g3q ?g4q) ?_; (case Fq => k_asm); (case Xq => k_asm); (case Nq => k_asm); (case Tq => k_asm); (case rq => k_room); (case mq => k_mem); (case bq => assumption); (case g1q => assumption); (case g2q => assumption); (case g3q => assumption); (case g4q => assumption))
  | (refine' grp_new (fin := true) (ys := [_, _, _, _]) (vs := [(_, _), (_, _), (_, _), (_, _), (127, _), (_, _)]) ?Fq ?Xq ?Nq ?Tq ?rq ?mq ?bq (toldC ?g1q ?g2q ?g3q ?g4q) ?_; (case Fq => k_asm); (case Xq => k_asm); (case Nq => k_asm); (case Tq => k_asm); (case rq => k_room); (case mq => k_mem); (case bq => assumption); (case g1q => assumption); (case g2q => assumption); (case g3q => assumption); (case g4q => assumption))
  | (refine' grp_new (fin := false) (ys := [_, _, _, _, _, _]) (vs := [(_, _), (0, _), (127, _)]) ?Fq ?Xq ?Nq ?Tq ?rq ?mq ?bq (toldD ?g1q) ?_; (case Fq => k_asm); (case Xq => k_asm); (case Nq => k_asm); (case Tq => k_asm); (case rq => k_room); (case mq => k_mem); (case bq => assumption); (case g1q => assumption)))))
  (k_with "m:GenNew" => ((unfold GenNew); intro D' L' g' h' tk' gn' oL' oD' hDL' hsz' hO' F' N' l1 hb' hG'; (have l2 := allLt_of l1); (simp only [AllLt, and_true] at l2); (try dsimp only)))
  (k_with "m:pyIter ref" => (k_here; (with_reducible rename GenO _ _ => hO'); (with_reducible rename News _ _ _ _ => N'); k_dflt (refine wpAny_pyIter_gen (GenO.is hO' (N' _ (by k_mem)).1) ?_)))
  (k_with "m:LoopT" => (k_here; k_dflt (refine' for_new ?hhq ?hrq ?Tq ?heq ?Fq ?Nq ?hDLq ?hOq ?hAq ?hIq ?hLq ?Gq ?hbq ?hxq ?hpq ?_; (case hhq => exact rfl); (case hrq => k_room); (case Tq => k_asm); (case heq => exact rfl); (case Fq => k_asm); (case Nq => k_asm); (case hDLq => assumption); (case hOq => assumption); (case Gq => assumption); (case hAq => k_mem); (case hIq => assumption); (case hLq => assumption); (case hbq => assumption); (case hxq => exact rfl); (case hpq => exact rfl))))
  (k_with "m:GT" => (first
  | (refine GT.cons ?_; intro h' tk' gn' oL' oI' hb' F' N'; (try dsimp only))
  | (refine GT.done (by exact rfl) ?_; intro h' tk' gn' hb' F' N'; (try dsimp only))))
  (k_with "m:TurnG" => (first
  | (k_dflt (refine' TurnG.go ?Fq ?Nq ?eq ?h1q ?h2q ?_; (case Fq => k_asm); (case Nq => k_asm); (case eq => exact rfl); (case h1q => k_mem); (case h2q => k_mem)))
  | ((try dsimp only [TurnG]); (try dsimp only))))
  (k_with "m:leave" => (k_dflt (refine' LeaveS.two ?k1q ?k2q ?k3q ?k4q ?k5q ?k6q ?k7q ?_; (case k1q => k_asm); (case k2q => k_asm); (case k3q => walk_at "sub"); (case k4q => k_mem); (case k5q => k_mem); (case k6q => walk_at "apart"); (case k7q => walk_at "apart"); k_whole); intro kF kN kA; (with_reducible rename (∀ (_ : Value) (_ : List (Addr × Obj)) (_ : Heap) (_ : Nat) (_ : Array GenState), AllBare _ → _) => hret); refine hret _ _ _ _ _ (by assumption) kF kN kA (Done.intro ?_); clear kF kN kA hret))
  exact trivial
set_option maxHeartbeats 2000000 in
theorem links0_tell (w : World) (ls : Addr) (k : Nat) (a b c d : Int) (ta tb tc td u : Tok) (ha : GoodSize a) (hb : GoodSize b) (hc : GoodSize c) (hd : GoodSize d) :
    TellG 310 w 89 [.ref ls, .int 0 u] [(ls, listOf #[.int a ta, .int b tb, .int c tc, .int d td] k)] (fun tl v => ∃ (D T : Addr) (nT : Nat), tl = [(D, ({ cls := .type "tuple", data := .seq #[.ref T, .ref ls] } : Obj)), (T, listOf #[.int a ta, .int b tb, .int c tc, .int d td] nT)] ∧ v = .ref D) := by
  walk_at "tellG"
  k_steps
  all_goals exact ⟨_, _, _, rfl, rfl⟩
set_option maxHeartbeats 2000000 in
theorem links2_tell (w : World) (ls : Addr) (k : Nat) (a b c d : Int) (ta tb tc td u : Tok) (ha : GoodSize a) (hb : GoodSize b) (hc : GoodSize c) (hd : GoodSize d) :
    TellG 310 w 89 [.ref ls, .int 2 u] [(ls, listOf #[.int a ta, .int b tb, .int c tc, .int d td] k)] (fun tl v => ∃ (D T : Addr) (nT : Nat), tl = [(D, ({ cls := .type "tuple", data := .seq #[.ref T, .ref ls] } : Obj)), (T, listOf #[.int a ta, .int b tb, .int c tc, .int d td] nT)] ∧ v = .ref D) := by
  walk_at "tellG"
  k_steps
  all_goals exact ⟨_, _, _, rfl, rfl⟩
section
theorem lnF5a_2 : True := by
  (k_with "m:leave" => (k_dflt (refine' LeaveS.three ?k1q ?k2q ?k3q ?k4q ?k5q ?k6q ?k7q ?k8q ?k9q ?_; (case k1q => k_asm); (case k2q => k_asm); (case k3q => walk_at "sub"); (case k4q => k_mem); (case k5q => k_mem); (case k6q => k_mem); (case k7q => walk_at "apart"); (case k8q => walk_at "apart"); (case k9q => walk_at "apart"); k_whole); intro kF kN kA; (with_reducible rename (∀ (_ : Value) (_ : List (Addr × Obj)) (_ : Heap) (_ : Nat) (_ : Array GenState), AllBare _ → _) => hret); refine hret _ _ _ _ _ (by assumption) kF kN kA (Done.intro ?_); clear kF kN kA hret))
  exact trivial
set_option maxHeartbeats 2000000 in
theorem links1_tell (w : World) (ls : Addr) (k : Nat) (a b c d : Int) (ta tb tc td u : Tok) (ha : GoodSize a) (hb : GoodSize b) (hc : GoodSize c) (hd : GoodSize d) :
    TellG 310 w 89 [.ref ls, .int 1 u] [(ls, listOf #[.int a ta, .int b tb, .int c tc, .int d td] k)] (fun tl v => ∃ (D T U : Addr) (nT nU : Nat), tl = [(D, ({ cls := .type "tuple", data := .seq #[.ref T, .ref U] } : Obj)), (T, listOf #[.int a ta, .int b tb, .int b tb, .int b tb, .int b tb, .int b tb] nT), (U, listOf #[.int a ta, .int b tb, .int b tb, .int b tb, .int b tb, .int b tb] nU)] ∧ v = .ref D) := by
  walk_at "tellG"
  k_steps
  all_goals exact ⟨_, _, _, _, _, rfl, rfl⟩
set_option maxHeartbeats 2000000 in
theorem links3_tell (w : World) (ls : Addr) (k : Nat) (a b c d : Int) (ta tb tc td u : Tok) (ha : GoodSize a) (hb : GoodSize b) (hc : GoodSize c) (hd : GoodSize d) :
    TellG 310 w 89 [.ref ls, .int 3 u] [(ls, listOf #[.int a ta, .int b tb, .int c tc, .int d td] k)] (fun tl v => ∃ (D T U : Addr) (nT nU : Nat), tl = [(D, ({ cls := .type "tuple", data := .seq #[.ref T, .ref U] } : Obj)), (T, listOf #[.int a ta, .int a ta, .int a ta, .int a ta, .int a ta, .int a ta] nT), (U, listOf #[.int a ta, .int a ta, .int a ta, .int a ta, .int a ta, .int a ta] nU)] ∧ v = .ref D) := by
  walk_at "tellG"
  k_steps
  all_goals exact ⟨_, _, _, _, _, rfl, rfl⟩
end
end
section
theorem lnG5_0 : True := by k_with_none; exact trivial
theorem lnG5p_1 : True := by
  (k_with "m:tell" => (
  unfold Tell
  k_fill
  intro mean9 mg9 mb9 gd9 cn9 cs9 a9 ccd9 cl9 outer9 A9 base9 h9 L9 m9 news9 s9 Q9 E9 B F X N T hk hsub hret
  refine wpAny_call ?_
  k_dflt (refine' enterS ?k1q ?k2q ?k3q ?k4q ?k5q hsub ?kAq ?kFq ?kKq ?k6q ?k7q ?k8q ?k9q ?kBq ?_ ?c5q ?c2q ?c3q ?c4q; (case kAq => exact rfl); (case kFq => exact rfl); (case kKq => assumption); (case k1q => k_asm); (case k2q => k_asm); (case k3q => k_asm); (case k4q => k_asm); (case k5q => k_asm); (case k6q => k_is); (case k7q => k_is); (case k8q => k_room); (case k9q => exact BindsTo.of_eq rfl); (case c5q => decide); (case kBq => exact locs rfl); (case c2q => exact rfl); (case c3q => exact rfl); (case c4q => exact rfl); k_whole)
  intro g' L' h' FG' F' N' B' X' T'
  (try dsimp only)
  (simp only [zipS, List.reverse_cons, List.reverse_nil, List.nil_append, List.cons_append] at F')
  clear B F X N T FG'
  k_fold))
  (k_with "m:sub" => first | exact List.forall_mem_nil _ | (refine List.forall_mem_cons.mpr ⟨by k_mem, ?_⟩; walk_at "sub"))
  (k_with "m:apart" => first | exact List.forall_mem_nil _ | (refine List.forall_mem_cons.mpr ⟨by k_ne, ?_⟩; walk_at "apart"))
  (k_with "m:leave0" => (k_dflt (refine' LeaveS.intro [] ?k1q ?k2q ?k3q (List.forall_mem_nil _) (List.forall_mem_nil _) ?_; (case k1q => k_asm); (case k2q => k_asm); (case k3q => walk_at "sub"); k_whole); intro kF kN kA; (with_reducible rename (∀ (_ : Value) (_ : List (Addr × Obj)) (_ : Heap) (_ : Nat), Fr _ _ _ _ → _) => hret); refine hret _ [] _ _ kF kN kA ⟨rfl, Done.intro ?_⟩; clear kF kN kA hret))
  (k_with "m:leave1" => (k_dflt (refine' LeaveS.intro1 ?k1q ?k2q ?k3q ?k4q ?k5q ?_; (case k1q => k_asm); (case k2q => k_asm); (case k3q => walk_at "sub"); (case k4q => k_mem); (case k5q => walk_at "apart"); k_whole); intro kF kN kA; (with_reducible rename (∀ (_ : Value) (_ : List (Addr × Obj)) (_ : Heap) (_ : Nat), Fr _ _ _ _ → _) => hret); refine hret _ [_] _ _ kF kN kA (Done.intro ?_); clear kF kN kA hret))
  (k_with "m:leave" => walk_at "leave0")
  (k_with "m:LeaveS" => ((try dsimp only); walk_at "leave"))
  (k_with "m:use0" => ((case k1q => k_asm); (case k2q => k_asm); (case k3q => k_asm); (case k4q => k_asm); (case k5q => k_asm); (case kKq => first | exact rfl | assumption); (case ksq => walk_at "sub"); (case kdq => k_room); (case kuq => k_room); k_whole))
  (k_with "m:gotInt" => (intro r9 h9 tk9 F9 N9 hR9; obtain ⟨v9, t9, hv9, e9⟩ := hR9; subst e9; (try k_sweep); (try dsimp only)))
  (k_with "m:gotBool" => (intro r9 h9 tk9 F9 N9 hR9; obtain ⟨v9, hv9, e9⟩ := hR9; subst e9; (try k_sweep); (try dsimp only)))
  (k_with "m:item" => (k_here; k_dflt (refine' item_fast ?Nq ?mq ?aq ?bq ?xq ?_ ?yq; (case Nq => k_asm); (case mq => k_mem); (case aq => decide); (case bq => decide); (case xq => exact rfl); (case yq => with_unfolding_all rfl); k_whole)))
  (k_with "m:subscriptTail Name BinOp ref int" => walk_at "item")
  (k_with "m:subscriptTail Name Name ref int" => walk_at "item")
  (k_with "m:subscriptTail Name Constant ref int" => walk_at "item")
  (k_with "m:eval Name" => (k_here; k_dflt (refine' nameX_L ?Fq ?vq ?_ ?aq ?bq; (case bq => rfl); (case Fq => k_asm); (case aq => rfl); (case vq => rfl); k_whole)))
  (k_with "m:subscriptTail Name Slice str ref" => (k_here; (with_reducible rename Fr _ _ _ _ => F'); (with_reducible rename News _ _ _ _ => N'); (first | ((with_reducible show wpAny _ _ (subscriptTail _ (PySem.Expr.Slice none none none _) _ _) _ _ _); refine slice_strN_nn (hsz := ?hszq) (s := ⟨_, _, _, _, _⟩) F' N' ?_) | ((with_reducible show wpAny _ _ (subscriptTail _ (PySem.Expr.Slice none (some _) none _) _ _) _ _ _); refine slice_strN_ns (hsz := ?hszq) (s := ⟨_, _, _, _, _⟩) F' N' ?_) | ((with_reducible show wpAny _ _ (subscriptTail _ (PySem.Expr.Slice (some _) none none _) _ _) _ _ _); refine slice_strN_sn (hsz := ?hszq) (s := ⟨_, _, _, _, _⟩) F' N' ?_) | ((with_reducible show wpAny _ _ (subscriptTail _ (PySem.Expr.Slice (some _) (some _) none _) _ _) _ _ _); refine slice_strN_ss (hsz := ?hszq) (s := ⟨_, _, _, _, _⟩) F' N' ?_)); (case hszq => exact Short.fits (by assumption)); intro _ _ _ _ _))
  (k_with "m:execs cons" => (dsimp only; walk_at "execs cons"))
  exact trivial
theorem lnG5F1a_1 : True := by
  (k_with "m:call ref" => (k_here; (with_reducible show wpAny _ _ (call (Value.ref 21) [Value.int _ _, Value.int _ _]) _ _ _); k_dflt (refine' TellUse0 (mul_tell _ _ _ _ _ ?okq) ?k1q ?k2q ?k3q ?k4q ?k5q ?kKq ?ksq ?kdq ?kuq ?_; (case okq => exact IntMulOk.of_left (by assumption)); walk_at "use0"); walk_at "gotInt"))
  (k_with "m:call ref" => (k_here; (with_reducible show wpAny _ _ (call (Value.ref 28) [Value.int _ _, Value.int _ _]) _ _ _); k_dflt (refine' TellUse0 (sub_tell _ _ _ _ _) ?k1q ?k2q ?k3q ?k4q ?k5q ?kKq ?ksq ?kdq ?kuq ?_; walk_at "use0"); walk_at "gotInt"))
  exact trivial
section
variable {w : World} {A : Around} {R : GenEnd} {Y : Protocol} {n : Nat} {s₀ s : Shared} {env : Env} {body fbody : List Stmt} {target : PySem.Expr} {it : Value} {p : Pos} {Kf : Flow → Sem Fin}
theorem over_for : A.over (.forLoop target it body [] env) [.ret (ownK env Kf (fun e => (leaving env e).wrap (fun _ => .raise e) .raise id id) id id) none false [] (.func fbody env) p []] = A.over (.func fbody env) [] := rfl
/-- a raise within the generator's for goes out of the generator -/
theorem seg_raise_out {e : Value}
    (h : wpAny (model GProg w) (A.over (.func fbody env) []) (leaving env e) (fun _ s₁ => R n s₀ (.error e) s₁) (fun x s₁ => R n s₀ (.error x) s₁) s) :
    Seg (model GProg w) A R Y n s₀ (.forLoop target it body [] env) (noteH env e) [.ret (ownK env Kf (fun e => (leaving env e).wrap (fun _ => .raise e) .raise id id) id id) none false [] (.func fbody env) p []] s := by
  have last : ∀ x s₁, R n s₀ (.error x) s₁ → Seg (model GProg w) A R Y n s₀ (.func fbody env) (Sem.raise x) [] s₁ := fun x s₁ hx => seg_end (.error x) hx
  have z := PassesOwnAt.leavingOf (M := model GProg w) (A' := A.over (.func fbody env) []) (A'' := A.over (.func fbody env) []) (SameStack.refl _) (env := env) (Q₁ := fun e s₁ => R n s₀ (.error e) s₁) (E₁ := fun x s₁ => R n s₀ (.error x) s₁) e s h
  have out : ∀ x s₁, wpAny (model GProg w) (A.over (.func fbody env) []) (leaving env x) (fun _ s₁ => R n s₀ (.error x) s₁) (fun x s₁ => R n s₀ (.error x) s₁) s₁ → Seg (model GProg w) A R Y n s₀ (.func fbody env) ((leaving env x).wrap (fun _ => .raise x) .raise id id) [] s₁ :=
    fun x s₁ hx => seg_wrap (wpAny_mono hx (fun _ s₂ h₂ => last x s₂ h₂) fun y s₂ h₂ => last y s₂ h₂)
  have own : ∀ x s₁, cameBackBy (model GProg w) (A.over (.func fbody env) []) env (fun e s' => wpAny (model GProg w) (A.over (.func fbody env) []) (leaving env e) (fun _ s'' => R n s₀ (.error e) s'') (fun x s₁ => R n s₀ (.error x) s₁) s') x s₁ →
      Seg (model GProg w) A R Y n s₀ (.forLoop target it body [] env) (Sem.raise x) [.ret (ownK env Kf (fun e => (leaving env e).wrap (fun _ => .raise e) .raise id id) id id) none false [] (.func fbody env) p []] s₁ := by
    intro x s₁ hx
    show Seg _ _ _ _ n s₀ _ (leafOf (.error x)) _ s₁
    refine seg_leaf (.error x) ?_
    show Seg _ _ _ _ n s₀ _ (((Sem.raise x : Sem Flow).onRaise _).wrap _ _ id id) [] s₁
    rw [Sem.onRaise_eq_wrap, Sem.wrap_wrap]
    show Seg _ _ _ _ n s₀ _ (((_ : Sem Unit).bind _).wrap _ _ id id) [] s₁
    rw [Sem.bind_eq_wrap, Sem.wrap_wrap]
    exact seg_wrap (wpAny_mono hx (fun _ s₂ h₂ => out x s₂ h₂) fun y s₂ h₂ => out y s₂ h₂)
  refine seg_wrap ?_
  rw [over_for]
  refine wpAny_bind (wpAny_mono z (fun _ s₁ h₁ => wpAny_theTreesLotGoes (own e s₁ h₁)) fun x s₁ h₁ => own x s₁ h₁)
end
end
section
theorem lnG6_0 : True := by k_with_none; exact trivial
theorem lnG6p_1 : True := by
  (k_with "m:tell" => (
  unfold Tell
  k_fill
  intro mean9 mg9 mb9 gd9 cn9 cs9 a9 ccd9 cl9 outer9 A9 base9 h9 L9 m9 news9 s9 Q9 E9 B F X N T hk hsub hret
  refine wpAny_call ?_
  k_dflt (refine' enterS ?k1q ?k2q ?k3q ?k4q ?k5q hsub ?kAq ?kFq ?kKq ?k6q ?k7q ?k8q ?k9q ?kBq ?_ ?c5q ?c2q ?c3q ?c4q; (case kAq => exact rfl); (case kFq => exact rfl); (case kKq => assumption); (case k1q => k_asm); (case k2q => k_asm); (case k3q => k_asm); (case k4q => k_asm); (case k5q => k_asm); (case k6q => k_is); (case k7q => k_is); (case k8q => k_room); (case k9q => exact BindsTo.of_eq rfl); (case c5q => decide); (case kBq => exact locs rfl); (case c2q => exact rfl); (case c3q => exact rfl); (case c4q => exact rfl); k_whole)
  intro g' L' h' FG' F' N' B' X' T'
  (try dsimp only)
  (simp only [zipS, List.reverse_cons, List.reverse_nil, List.nil_append, List.cons_append] at F')
  clear B F X N T FG'
  k_fold))
  (k_with "m:sub" => first | exact List.forall_mem_nil _ | (refine List.forall_mem_cons.mpr ⟨by k_mem, ?_⟩; walk_at "sub"))
  (k_with "m:apart" => first | exact List.forall_mem_nil _ | (refine List.forall_mem_cons.mpr ⟨by k_ne, ?_⟩; walk_at "apart"))
  (k_with "m:leave0" => (k_dflt (refine' LeaveS.intro [] ?k1q ?k2q ?k3q (List.forall_mem_nil _) (List.forall_mem_nil _) ?_; (case k1q => k_asm); (case k2q => k_asm); (case k3q => walk_at "sub"); k_whole); intro kF kN kA; (with_reducible rename (∀ (_ : Value) (_ : List (Addr × Obj)) (_ : Heap) (_ : Nat), Fr _ _ _ _ → _) => hret); refine hret _ [] _ _ kF kN kA ⟨rfl, Done.intro ?_⟩; clear kF kN kA hret))
  (k_with "m:leave1" => (k_dflt (refine' LeaveS.intro1 ?k1q ?k2q ?k3q ?k4q ?k5q ?_; (case k1q => k_asm); (case k2q => k_asm); (case k3q => walk_at "sub"); (case k4q => k_mem); (case k5q => walk_at "apart"); k_whole); intro kF kN kA; (with_reducible rename (∀ (_ : Value) (_ : List (Addr × Obj)) (_ : Heap) (_ : Nat), Fr _ _ _ _ → _) => hret); refine hret _ [_] _ _ kF kN kA (Done.intro ?_); clear kF kN kA hret))
  (k_with "m:leave" => walk_at "leave0")
  (k_with "m:LeaveS" => ((try dsimp only); walk_at "leave"))
  (k_with "m:use0" => ((case k1q => k_asm); (case k2q => k_asm); (case k3q => k_asm); (case k4q => k_asm); (case k5q => k_asm); (case kKq => first | exact rfl | assumption); (case ksq => walk_at "sub"); (case kdq => k_room); (case kuq => k_room); k_whole))
  (k_with "m:gotInt" => (intro r9 h9 tk9 F9 N9 hR9; obtain ⟨v9, t9, hv9, e9⟩ := hR9; subst e9; (try k_sweep); (try dsimp only)))
  (k_with "m:gotBool" => (intro r9 h9 tk9 F9 N9 hR9; obtain ⟨v9, hv9, e9⟩ := hR9; subst e9; (try k_sweep); (try dsimp only)))
  (k_with "m:item" => (k_here; k_dflt (refine' item_fast ?Nq ?mq ?aq ?bq ?xq ?_ ?yq; (case Nq => k_asm); (case mq => k_mem); (case aq => decide); (case bq => decide); (case xq => exact rfl); (case yq => with_unfolding_all rfl); k_whole)))
  (k_with "m:subscriptTail Name BinOp ref int" => walk_at "item")
  (k_with "m:subscriptTail Name Name ref int" => walk_at "item")
  (k_with "m:subscriptTail Name Constant ref int" => walk_at "item")
  (k_with "m:eval Name" => (k_here; k_dflt (refine' nameX_L ?Fq ?vq ?_ ?aq ?bq; (case bq => rfl); (case Fq => k_asm); (case aq => rfl); (case vq => rfl); k_whole)))
  (k_with "m:subscriptTail Name Slice str ref" => (k_here; (with_reducible rename Fr _ _ _ _ => F'); (with_reducible rename News _ _ _ _ => N'); (first | ((with_reducible show wpAny _ _ (subscriptTail _ (PySem.Expr.Slice none none none _) _ _) _ _ _); refine slice_strN_nn (hsz := ?hszq) (s := ⟨_, _, _, _, _⟩) F' N' ?_) | ((with_reducible show wpAny _ _ (subscriptTail _ (PySem.Expr.Slice none (some _) none _) _ _) _ _ _); refine slice_strN_ns (hsz := ?hszq) (s := ⟨_, _, _, _, _⟩) F' N' ?_) | ((with_reducible show wpAny _ _ (subscriptTail _ (PySem.Expr.Slice (some _) none none _) _ _) _ _ _); refine slice_strN_sn (hsz := ?hszq) (s := ⟨_, _, _, _, _⟩) F' N' ?_) | ((with_reducible show wpAny _ _ (subscriptTail _ (PySem.Expr.Slice (some _) (some _) none _) _ _) _ _ _); refine slice_strN_ss (hsz := ?hszq) (s := ⟨_, _, _, _, _⟩) F' N' ?_)); (case hszq => exact Short.fits (by assumption)); intro _ _ _ _ _))
  (k_with "m:execs cons" => (dsimp only; walk_at "execs cons"))
  exact trivial
theorem lnG6F1a_1 : True := by
  (k_with "m:call ref" => (k_here; (with_reducible show wpAny _ _ (call (Value.ref 21) [Value.int _ _, Value.int _ _]) _ _ _); k_dflt (refine' TellUse0 (mul_tell _ _ _ _ _ ?okq) ?k1q ?k2q ?k3q ?k4q ?k5q ?kKq ?ksq ?kdq ?kuq ?_; (case okq => exact IntMulOk.of_left (by assumption)); walk_at "use0"); walk_at "gotInt"))
  (k_with "m:call ref" => (k_here; (with_reducible show wpAny _ _ (call (Value.ref 28) [Value.int _ _, Value.int _ _]) _ _ _); k_dflt (refine' TellUse0 (sub_tell _ _ _ _ _) ?k1q ?k2q ?k3q ?k4q ?k5q ?kKq ?ksq ?kdq ?kuq ?_; walk_at "use0"); walk_at "gotInt"))
  exact trivial
set_option maxHeartbeats 400000
section
variable {w : World} {base G h : Heap} {outer : List Env} {L L' a a' e : Addr} {m mm : PySem.Str → Option Value} {name gname : PySem.Str} {scope gscope : Scope} {cd cd' : Value} {A₀ A : Around} {Q E : Value → Shared → Prop} {s s' : Shared}
theorem leave_gen {vs : List Value} {Q : Unit → Shared → Prop} {E : Value → Shared → Prop} (K : Below A₀ base outer g) (F : Fr g L G m) (hk : scope.kind = .function) (hk' : gscope.kind = .function) (hfr : A.frames = some (envOf gname gscope L' a' cd' :: envOf name scope L a cd :: outer))
    (ns : h.Ns L' mm) (up : ∀ b o, G.get? b = some o → h.get? b = some o) (hG : G.get? L' = none) (hx : Heap.MadeExcOf h s'.heap e (.type "ValueError") vs)
    (hQ : ∀ h' t, RaisedS base G (envOf name scope L a cd :: outer) e (.type "ValueError") t vs [] h' → G.UpToSlots h' → (∀ b o, h.get? b = some o → G.get? b = none → b ≠ L' → h'.get? b = some o) → Q () { s' with heap := h' }) :
    wpAny (model GProg w) A (leaving (envOf gname gscope L' a' cd') (.ref e)) Q E s' := by
  have K' := K.push (name := name) (a := a) (cd := cd) F hk
  have hbase : base.get? L' = none := fresh_of_stays K'.stays hG
  have frames : h.FunFrames base (envOf gname gscope L' a' cd' :: envOf name scope L a cd :: outer) := by
    refine ⟨by show gscope.kind ≠ _; rw [hk']; decide, ?_, K'.frames.of_keeps fun b o hb _ => ⟨o, up b o hb, rfl⟩⟩
    obtain ⟨o, es, ep, e1, e2, _⟩ := ns
    exact ⟨L', o, rfl, hbase, e1, fun vs h => by rw [e2] at h; cases h⟩
  have hin : ∀ env ∈ (envOf gname gscope L' a' cd' :: envOf name scope L a cd :: outer), ∀ b, env.frame = some b → b ∈ (envOf gname gscope L' a' cd' :: envOf name scope L a cd :: outer).filterMap (·.frame) := fun env he b hb => List.mem_filterMap.mpr ⟨env, he, hb⟩
  have hcase : ∀ b, b ∈ (envOf gname gscope L' a' cd' :: envOf name scope L a cd :: outer).filterMap (·.frame) → b = L' ∨ b ∈ (envOf name scope L a cd :: outer).filterMap (·.frame) := fun b hb => kts_mem hb
  have st : base.StaysIn (hideAll h ((envOf gname gscope L' a' cd' :: envOf name scope L a cd :: outer).filterMap (·.frame))) := fun b o q => hideAll_get _ (up b o (K'.stays b o q)) fun hm => by
    rw [(frames.mem hm).1] at q; cases q
  have sg : ∀ b o, G.get? b = some o → b ∉ (envOf name scope L a cd :: outer).filterMap (·.frame) → (hideAll h ((envOf gname gscope L' a' cd' :: envOf name scope L a cd :: outer).filterMap (·.frame))).get? b = some o := fun b o q nm => hideAll_get _ (up b o q) fun hm => by
    rcases hcase b hm with z | z
    · rw [z, hG] at q; cases q
    · exact nm z
  refine wpAny_leaves_madeW hfr rfl (fun b o q => of_hideAll _ q) (funFrames_hide frames hin) hx fun h' t x1 x2 x3 x4 =>
    hQ h' t ⟨⟨_, st, sg, (fun q hq => absurd hq List.not_mem_nil), x1, x3⟩, x2⟩ (((Heap.UpToSlots.of_keeps up).trans (Heap.UpToSlots.of_keeps hx.keeps)).trans x4) (fun b o q hn hb => ?_)
  refine x1.1 b o (hideAll_get _ q fun hm => ?_)
  rcases hcase b hm with z | z
  · exact hb z
  · obtain ⟨o', ho', _⟩ := (K'.frames.mem z).2
    rw [hn] at ho'; cases ho'
/-- what the generator's raise leaves for the caller -/
noncomputable def BadEnd (base G : Heap) (l : List Env) (D g : Nat) (s₀ s₁ : Shared) (e : Addr) : Prop :=
  ∃ h' tk t u, s₁ = { s₀ with heap := h', toks := tk } ∧ RaisedS base G l e (.type "ValueError") t [.str "invalid grouping" u] [] h' ∧ G.UpToSlots h' ∧ h'.IsGen D g
noncomputable def BadR (base G : Heap) (l : List Env) (D g : Nat) : GenEnd := fun _ s₀ r s₁ => ∃ e, r = .error (.ref e) ∧ BadEnd base G l D g s₀ s₁ e
theorem pyNext_bad {D g : Nat} {gs : GenState} {l : List Env} {Q : Option Value → Shared → Prop} {E : Value → Shared → Prop} {Y : Protocol} (hl : s.heap.NoLimit) (hroom : A.depth < recursionLimit) (hg : s.heap.IsGen D g) (hgs : s.gens[g]? = some gs)
    (hY : ∀ j s₀ v s₁ k, ¬ Y j s₀ v s₁ k) (hgo : gs.Goes (model GProg w) A.in1 (BadR base G l D g) Y 0 (.send .none) (s.setGen g .running))
    (hE : ∀ s₁ e, BadEnd base G l D g (s.setGen g .running) s₁ e → E (.ref e) (s₁.setGen g .finished)) : wpAny (model GProg w) A (pyNext (.ref D)) Q E s := by
  unfold pyNext
  refine wpAny_bind (wpAny_attempt (wpAny_callSpecial?_slot (name := PySem.Str.ofString "__next__") hg.typeIs slot_gen_next (wpAny_call_entry slot_gen_next hg.typeIs entry_gen_next ?_ (args_gen_next _))))
  show wpAny _ A.in1 (Builtin.Generator.genWake (.ref D) (.send .none)) _ _ s
  unfold Builtin.Generator.genWake
  refine wpAny_bind (wpAny_holding (wpAny_genNumber hg (wpAny_bind (wpAny_genState hgs ?_))))
  cases gs with
  | running => exact hgo.elim
  | finished => exact hgo.elim
  | _ =>
    refine wpAny_bind (wpAny_roomToWake hl hroom ?_)
    show wpAny _ A.in1 (.resume g (.send .none) [] _) _ _ s
    refine wpAny_resume hgs hgo (fun x s₁ hx => ?_) (fun v s₁ gs' hv => absurd hv (hY _ _ _ _ _))
    obtain ⟨e, rfl, hbad⟩ := hx
    have hthere := hbad
    obtain ⟨h', tk, t, u, rfl, R, U, hgen⟩ := hthere
    obtain ⟨⟨B, _, _, _, fl, _⟩, _⟩ := R
    obtain ⟨ob, hob, hcls⟩ := fl.there
    obtain ⟨oD, nm, qn, hoD, hcD, hdD, _⟩ := hgen
    show wpAny _ A.in1 (Builtin.Generator.genLeft (.ref D) (.ref e)) _ _ _
    unfold Builtin.Generator.genLeft Builtin.Generator.madeByALambda
    have hsub : isSubtype (.type "ValueError") (.type "StopIteration") = pure false := by rw [isSubtype_type]; kernel_rfl
    have hT : ∀ st : Shared, st.heap = h' → st.TypeIs (.ref e) "ValueError" := fun st hst => ⟨ob, by rw [hst]; exact hob, hcls⟩
    refine wpAny_bind (wpAny_bind (wpAny_load hoD (wpAny_pure ?_)))
    refine wpAny_bind (wpAny_isInstance (b := false) (hT _ rfl) hsub ?_)
    rw [Bool.and_false]
    rw [if_neg Bool.false_ne_true]
    unfold Builtin.Generator.genEscaped
    refine wpAny_bind (wpAny_isInstance (b := false) (hT _ rfl) hsub ?_)
    show wpAny _ _ (throw _ >>= _) _ _ _
    refine wpAny_bind (wpAny_throw ?_)
    refine wpAny_bind (wpAny_isInstance (b := false) (hT _ rfl) hsub ?_)
    rw [if_neg Bool.false_ne_true]
    exact wpAny_throw (hE _ e hbad)
end
end
section
theorem lnG7_0 : True := by k_with_none; exact trivial
theorem lnG7p_1 : True := by
  (k_with "m:tell" => (
  unfold Tell
  k_fill
  intro mean9 mg9 mb9 gd9 cn9 cs9 a9 ccd9 cl9 outer9 A9 base9 h9 L9 m9 news9 s9 Q9 E9 B F X N T hk hsub hret
  refine wpAny_call ?_
  k_dflt (refine' enterS ?k1q ?k2q ?k3q ?k4q ?k5q hsub ?kAq ?kFq ?kKq ?k6q ?k7q ?k8q ?k9q ?kBq ?_ ?c5q ?c2q ?c3q ?c4q; (case kAq => exact rfl); (case kFq => exact rfl); (case kKq => assumption); (case k1q => k_asm); (case k2q => k_asm); (case k3q => k_asm); (case k4q => k_asm); (case k5q => k_asm); (case k6q => k_is); (case k7q => k_is); (case k8q => k_room); (case k9q => exact BindsTo.of_eq rfl); (case c5q => decide); (case kBq => exact locs rfl); (case c2q => exact rfl); (case c3q => exact rfl); (case c4q => exact rfl); k_whole)
  intro g' L' h' FG' F' N' B' X' T'
  (try dsimp only)
  (simp only [zipS, List.reverse_cons, List.reverse_nil, List.nil_append, List.cons_append] at F')
  clear B F X N T FG'
  k_fold))
  (k_with "m:sub" => first | exact List.forall_mem_nil _ | (refine List.forall_mem_cons.mpr ⟨by k_mem, ?_⟩; walk_at "sub"))
  (k_with "m:apart" => first | exact List.forall_mem_nil _ | (refine List.forall_mem_cons.mpr ⟨by k_ne, ?_⟩; walk_at "apart"))
  (k_with "m:leave0" => (k_dflt (refine' LeaveS.intro [] ?k1q ?k2q ?k3q (List.forall_mem_nil _) (List.forall_mem_nil _) ?_; (case k1q => k_asm); (case k2q => k_asm); (case k3q => walk_at "sub"); k_whole); intro kF kN kA; (with_reducible rename (∀ (_ : Value) (_ : List (Addr × Obj)) (_ : Heap) (_ : Nat), Fr _ _ _ _ → _) => hret); refine hret _ [] _ _ kF kN kA ⟨rfl, Done.intro ?_⟩; clear kF kN kA hret))
  (k_with "m:leave1" => (k_dflt (refine' LeaveS.intro1 ?k1q ?k2q ?k3q ?k4q ?k5q ?_; (case k1q => k_asm); (case k2q => k_asm); (case k3q => walk_at "sub"); (case k4q => k_mem); (case k5q => walk_at "apart"); k_whole); intro kF kN kA; (with_reducible rename (∀ (_ : Value) (_ : List (Addr × Obj)) (_ : Heap) (_ : Nat), Fr _ _ _ _ → _) => hret); refine hret _ [_] _ _ kF kN kA (Done.intro ?_); clear kF kN kA hret))
  (k_with "m:leave" => walk_at "leave0")
  (k_with "m:LeaveS" => ((try dsimp only); walk_at "leave"))
  (k_with "m:use0" => ((case k1q => k_asm); (case k2q => k_asm); (case k3q => k_asm); (case k4q => k_asm); (case k5q => k_asm); (case kKq => first | exact rfl | assumption); (case ksq => walk_at "sub"); (case kdq => k_room); (case kuq => k_room); k_whole))
  (k_with "m:gotInt" => (intro r9 h9 tk9 F9 N9 hR9; obtain ⟨v9, t9, hv9, e9⟩ := hR9; subst e9; (try k_sweep); (try dsimp only)))
  (k_with "m:gotBool" => (intro r9 h9 tk9 F9 N9 hR9; obtain ⟨v9, hv9, e9⟩ := hR9; subst e9; (try k_sweep); (try dsimp only)))
  (k_with "m:item" => (k_here; k_dflt (refine' item_fast ?Nq ?mq ?aq ?bq ?xq ?_ ?yq; (case Nq => k_asm); (case mq => k_mem); (case aq => decide); (case bq => decide); (case xq => exact rfl); (case yq => with_unfolding_all rfl); k_whole)))
  (k_with "m:subscriptTail Name BinOp ref int" => walk_at "item")
  (k_with "m:subscriptTail Name Name ref int" => walk_at "item")
  (k_with "m:subscriptTail Name Constant ref int" => walk_at "item")
  (k_with "m:eval Name" => (k_here; k_dflt (refine' nameX_L ?Fq ?vq ?_ ?aq ?bq; (case bq => rfl); (case Fq => k_asm); (case aq => rfl); (case vq => rfl); k_whole)))
  (k_with "m:subscriptTail Name Slice str ref" => (k_here; (with_reducible rename Fr _ _ _ _ => F'); (with_reducible rename News _ _ _ _ => N'); (first | ((with_reducible show wpAny _ _ (subscriptTail _ (PySem.Expr.Slice none none none _) _ _) _ _ _); refine slice_strN_nn (hsz := ?hszq) (s := ⟨_, _, _, _, _⟩) F' N' ?_) | ((with_reducible show wpAny _ _ (subscriptTail _ (PySem.Expr.Slice none (some _) none _) _ _) _ _ _); refine slice_strN_ns (hsz := ?hszq) (s := ⟨_, _, _, _, _⟩) F' N' ?_) | ((with_reducible show wpAny _ _ (subscriptTail _ (PySem.Expr.Slice (some _) none none _) _ _) _ _ _); refine slice_strN_sn (hsz := ?hszq) (s := ⟨_, _, _, _, _⟩) F' N' ?_) | ((with_reducible show wpAny _ _ (subscriptTail _ (PySem.Expr.Slice (some _) (some _) none _) _ _) _ _ _); refine slice_strN_ss (hsz := ?hszq) (s := ⟨_, _, _, _, _⟩) F' N' ?_)); (case hszq => exact Short.fits (by assumption)); intro _ _ _ _ _))
  (k_with "m:execs cons" => (dsimp only; walk_at "execs cons"))
  exact trivial
theorem lnG7F1a_1 : True := by
  (k_with "m:call ref" => (k_here; (with_reducible show wpAny _ _ (call (Value.ref 21) [Value.int _ _, Value.int _ _]) _ _ _); k_dflt (refine' TellUse0 (mul_tell _ _ _ _ _ ?okq) ?k1q ?k2q ?k3q ?k4q ?k5q ?kKq ?ksq ?kdq ?kuq ?_; (case okq => exact IntMulOk.of_left (by assumption)); walk_at "use0"); walk_at "gotInt"))
  (k_with "m:call ref" => (k_here; (with_reducible show wpAny _ _ (call (Value.ref 28) [Value.int _ _, Value.int _ _]) _ _ _); k_dflt (refine' TellUse0 (sub_tell _ _ _ _ _) ?k1q ?k2q ?k3q ?k4q ?k5q ?kKq ?ksq ?kdq ?kuq ?_; walk_at "use0"); walk_at "gotInt"))
  exact trivial
set_option maxHeartbeats 1000000
noncomputable def NoY : Protocol := fun _ _ _ _ _ => False
section
variable {w : World} {base G h₀ : Heap} {outer : List Env} {L L' a a' ax It D g : Nat} {m : PySem.Str → Option Value} {name gname : PySem.Str} {scope gscope : Scope} {cd cd' : Value} {A₀ A₁ : Around}
  {test2 eY iter : PySem.Expr} {st0 st1 st3 stW st5 : Stmt} {p2 py1 py2 px pf : Pos}
theorem gen_bad {m₀ : PySem.Str → Option Value} {t0 : Tok} {rest : List Value} {s : Shared}
    (zero : ∀ (A : Around) (s : Shared) (E : Value → Shared → Prop) (Q : Flow → Shared → Prop), Fr h₀ L' s.heap m₀ → (∀ h' tk, Fr h₀ L' h' (mG ax .none none) → Heap.SameBut L' s.heap h' → Q .next { s with heap := h', toks := tk }) → wpAny (model GProg w) A (exec st0 (envOf gname gscope L' a' cd')) Q E s)
    (itl : ∀ (A : Around) (s : Shared) (E : Value → Shared → Prop) (Q : Value → Shared → Prop), Fr h₀ L' s.heap (mG ax .none none) → (∀ tk, Q (.ref ax) { s with toks := tk }) → wpAny (model GProg w) A (eval iter (envOf gname gscope L' a' cd')) Q E s)
    (one : ∀ (A : Around) (s : Shared) (E : Value → Shared → Prop) (Q : Flow → Shared → Prop) last x t, Fr h₀ L' s.heap (mG ax last (some (.int x t))) → x ≠ 127 → (∀ tk, Q .next { s with toks := tk }) → wpAny (model GProg w) A (exec st1 (envOf gname gscope L' a' cd')) Q E s)
    (two : ∀ (A : Around) (s : Shared) (E : Value → Shared → Prop) (Q : Bool → Shared → Prop) last x t, Fr h₀ L' s.heap (mG ax last (some (.int x t))) → (∀ tk, Q (decide (x = 0)) { s with toks := tk }) → wpAny (model GProg w) A (isTrue test2 (envOf gname gscope L' a' cd') (eval test2 (envOf gname gscope L' a' cd'))) Q E s)
    (bad : ∀ (A : Around) (s : Shared) (E : Value → Shared → Prop) (Q : Flow → Shared → Prop) x t, A.handled = none → Fr h₀ L' s.heap (mG ax .none (some (.int x t))) → (∀ e h' tk u, Heap.MadeExcOf s.heap h' e (.type "ValueError") [.str "invalid grouping" u] → E (.ref e) { s with heap := h', toks := tk }) → wpAny (model GProg w) A (exec st3 (envOf gname gscope L' a' cd')) Q E s)
    (hit : ∀ x, foldedSetIterable iter (envOf gname gscope L' a' cd') x = pure x) (hk : scope.kind = .function) (hk' : gscope.kind = .function)
    (hx : (envOf gname gscope L' a' cd').kindOf "interval" = some .local)
    (K : Below A₀ base outer h₀) (FG : Fr h₀ L G m) (hfr : A₁.frames = some (envOf name scope L a cd :: outer)) (hA : A₁.handled = none)
    (hDL : D = L' + 1) (hsz : s.heap.objs.size = D + 1) (hGL : G.get? L' = none) (hGD : G.get? D = none) (hGs : G.objs.size ≤ L') (up : ∀ b o, G.get? b = some o → s.heap.get? b = some o) (hGen : s.heap.IsGen D g) (haL : ax < L')
    (F : Fr h₀ L' s.heap m₀) (hl : s.heap.IsList ax (Value.int 0 t0 :: rest).toArray)
    (hq1 : ∀ it, (Code.forLoop (.Name "interval" px) it [st1, .If test2 [st3, stW] [] p2, .Expr (.Yield (some eY) py1) py2, st5] [] (envOf gname gscope L' a' cd')).quiet = true) (hq2 : (Code.block [] (envOf gname gscope L' a' cd')).quiet = true) :
    GenState.Goes (model GProg w) A₁ (BadR base G (envOf name scope L a cd :: outer) D g) NoY 0 (.fresh (.func [st0, .For (.Name "interval" px) iter [st1, .If test2 [st3, stW] [] p2, .Expr (.Yield (some eY) py1) py2, st5] [] pf] (envOf gname gscope L' a' cd'))) (.send .none) s := by
  have neI : ∀ b : Nat, b < D + 1 → b ≠ D + 1 := fun b hb => Nat.ne_of_lt hb
  refine ⟨rfl, seg_func (seg_leafStmt (zero _ _ _ _ F fun h₁ tk₁ F₁ hs₁ => ?_))⟩
  refine seg_execs_cons (seg_For (itl _ _ _ _ F₁ fun tk₂ => ?_) hit)
  have hl₁ : h₁.IsList ax (Value.int 0 t0 :: rest).toArray := hl.at fun o e => hs₁.extBut ax o (Nat.ne_of_lt haL) e
  refine wpAny_pyIter_list (by exact hl₁) fun p => ?_
  have hsz₁ : h₁.objs.size = D + 1 := by rw [← hsz]; exact hs₁.1
  dsimp only
  rw [hsz₁]
  generalize hH : h₁.push { cls := .type "list_iterator", data := .fields #[.ref ax, .int 0 0] } = H
  have upI : ∀ b o, h₁.get? b = some o → H.get? b = some o := fun b o e => hH ▸ Heap.get?_push_of_some _ e
  have itr : H.IsListIter (D + 1) ax 0 := by
    rw [← hsz₁, ← hH]; exact ⟨_, Heap.get?_push_size _ rfl, rfl, rfl⟩
  refine seg_forLoop (wpAny_pyNext_list_item itr (hl₁.at fun o e => upI _ _ e) (x := .int 0 t0) (by simp) fun h₂ hit₂ hs₂ => ?_) hq2 (by intro _; rfl)
  have hLI : L' ≠ D + 1 := neI _ (by omega)
  refine wpAny_assign_Name (wpAny_storeName_local hx ((F₁.ns.at' fun o e => upI _ _ e).at' fun o e => hs₂.extBut _ o hLI e) (fun h₃ ns₃ hs₃ => ?_) (by simp [envOf, hk']))
  rw [mG_iv] at ns₃
  have ns₃' : h₃.Ns L' (mG ax .none (some (.int 0 t0))) := ns₃
  have all : ∀ b o, b ≠ L' → b ≠ D + 1 → s.heap.get? b = some o → h₃.get? b = some o := fun b o h1 h2 e => hs₃.extBut b o h1 (hs₂.extBut b o h2 (upI b o (hs₁.extBut b o h1 e)))
  have hL₀ : h₀.get? L' = none := Heap.get?_none_of_le F.above
  have hI₀ : h₀.get? (D + 1) = none := by
    cases e : h₀.get? (D + 1) with
    | none => rfl
    | some o' => exact absurd (Heap.lt_size (F.keep _ o' e)) (by rw [hsz]; exact Nat.lt_irrefl _)
  have F₃ : Fr h₀ L' h₃ (mG ax .none (some (.int 0 t0))) := ⟨ns₃', fun b o e => all b o (fun q => by rw [q, hL₀] at e; cases e) (fun q => by rw [q, hI₀] at e; cases e) (F.keep b o e), F.above⟩
  refine seg_leafStmt (one _ _ _ _ .none 0 t0 F₃ (by decide) fun tk => ?_)
  refine seg_execs_cons (seg_If (two _ _ _ _ .none 0 t0 F₃ fun tk' => ?_))
  rw [decide_eq_true rfl, if_pos rfl]
  refine seg_leafStmt (bad _ _ _ _ 0 t0 (by exact hA) F₃ fun e h' tk'' u hx => ?_)
  refine seg_raise_out (leave_gen (h := h₃) K FG hk hk' (by show (A₁.frames).map (_ :: ·) = _; rw [hfr]; rfl) ns₃' (fun b o q => ?_) hGL hx fun h'' t R U kp => ?_)
  · have hb : b < G.objs.size := Heap.lt_size q
    exact all b o (Nat.ne_of_lt (Nat.lt_of_lt_of_le hb hGs)) (neI _ (Nat.lt_of_lt_of_le hb (Nat.le_trans hGs (by omega)))) (up b o q)
  · refine ⟨e, rfl, h'', tk'', t, u, rfl, R, U, ?_⟩
    obtain ⟨oD, nm, qn, eD, cD, dD, sD⟩ := hGen
    have hDL' : D ≠ L' := by omega
    exact ⟨oD, nm, qn, kp D oD (all D oD hDL' (neI _ (Nat.lt_succ_self _)) eD) hGD hDL', cD, dD, sD⟩
end
end
section
theorem lnG8_0 : True := by k_with_none; exact trivial
theorem lnG8p_1 : True := by
  (k_with "m:tell" => (
  unfold Tell
  k_fill
  intro mean9 mg9 mb9 gd9 cn9 cs9 a9 ccd9 cl9 outer9 A9 base9 h9 L9 m9 news9 s9 Q9 E9 B F X N T hk hsub hret
  refine wpAny_call ?_
  k_dflt (refine' enterS ?k1q ?k2q ?k3q ?k4q ?k5q hsub ?kAq ?kFq ?kKq ?k6q ?k7q ?k8q ?k9q ?kBq ?_ ?c5q ?c2q ?c3q ?c4q; (case kAq => exact rfl); (case kFq => exact rfl); (case kKq => assumption); (case k1q => k_asm); (case k2q => k_asm); (case k3q => k_asm); (case k4q => k_asm); (case k5q => k_asm); (case k6q => k_is); (case k7q => k_is); (case k8q => k_room); (case k9q => exact BindsTo.of_eq rfl); (case c5q => decide); (case kBq => exact locs rfl); (case c2q => exact rfl); (case c3q => exact rfl); (case c4q => exact rfl); k_whole)
  intro g' L' h' FG' F' N' B' X' T'
  (try dsimp only)
  (simp only [zipS, List.reverse_cons, List.reverse_nil, List.nil_append, List.cons_append] at F')
  clear B F X N T FG'
  k_fold))
  (k_with "m:sub" => first | exact List.forall_mem_nil _ | (refine List.forall_mem_cons.mpr ⟨by k_mem, ?_⟩; walk_at "sub"))
  (k_with "m:apart" => first | exact List.forall_mem_nil _ | (refine List.forall_mem_cons.mpr ⟨by k_ne, ?_⟩; walk_at "apart"))
  (k_with "m:leave0" => (k_dflt (refine' LeaveS.intro [] ?k1q ?k2q ?k3q (List.forall_mem_nil _) (List.forall_mem_nil _) ?_; (case k1q => k_asm); (case k2q => k_asm); (case k3q => walk_at "sub"); k_whole); intro kF kN kA; (with_reducible rename (∀ (_ : Value) (_ : List (Addr × Obj)) (_ : Heap) (_ : Nat), Fr _ _ _ _ → _) => hret); refine hret _ [] _ _ kF kN kA ⟨rfl, Done.intro ?_⟩; clear kF kN kA hret))
  (k_with "m:leave1" => (k_dflt (refine' LeaveS.intro1 ?k1q ?k2q ?k3q ?k4q ?k5q ?_; (case k1q => k_asm); (case k2q => k_asm); (case k3q => walk_at "sub"); (case k4q => k_mem); (case k5q => walk_at "apart"); k_whole); intro kF kN kA; (with_reducible rename (∀ (_ : Value) (_ : List (Addr × Obj)) (_ : Heap) (_ : Nat), Fr _ _ _ _ → _) => hret); refine hret _ [_] _ _ kF kN kA (Done.intro ?_); clear kF kN kA hret))
  (k_with "m:leave" => walk_at "leave0")
  (k_with "m:LeaveS" => ((try dsimp only); walk_at "leave"))
  (k_with "m:use0" => ((case k1q => k_asm); (case k2q => k_asm); (case k3q => k_asm); (case k4q => k_asm); (case k5q => k_asm); (case kKq => first | exact rfl | assumption); (case ksq => walk_at "sub"); (case kdq => k_room); (case kuq => k_room); k_whole))
  (k_with "m:gotInt" => (intro r9 h9 tk9 F9 N9 hR9; obtain ⟨v9, t9, hv9, e9⟩ := hR9; subst e9; (try k_sweep); (try dsimp only)))
  (k_with "m:gotBool" => (intro r9 h9 tk9 F9 N9 hR9; obtain ⟨v9, hv9, e9⟩ := hR9; subst e9; (try k_sweep); (try dsimp only)))
  (k_with "m:item" => (k_here; k_dflt (refine' item_fast ?Nq ?mq ?aq ?bq ?xq ?_ ?yq; (case Nq => k_asm); (case mq => k_mem); (case aq => decide); (case bq => decide); (case xq => exact rfl); (case yq => with_unfolding_all rfl); k_whole)))
  (k_with "m:subscriptTail Name BinOp ref int" => walk_at "item")
  (k_with "m:subscriptTail Name Name ref int" => walk_at "item")
  (k_with "m:subscriptTail Name Constant ref int" => walk_at "item")
  (k_with "m:eval Name" => (k_here; k_dflt (refine' nameX_L ?Fq ?vq ?_ ?aq ?bq; (case bq => rfl); (case Fq => k_asm); (case aq => rfl); (case vq => rfl); k_whole)))
  (k_with "m:subscriptTail Name Slice str ref" => (k_here; (with_reducible rename Fr _ _ _ _ => F'); (with_reducible rename News _ _ _ _ => N'); (first | ((with_reducible show wpAny _ _ (subscriptTail _ (PySem.Expr.Slice none none none _) _ _) _ _ _); refine slice_strN_nn (hsz := ?hszq) (s := ⟨_, _, _, _, _⟩) F' N' ?_) | ((with_reducible show wpAny _ _ (subscriptTail _ (PySem.Expr.Slice none (some _) none _) _ _) _ _ _); refine slice_strN_ns (hsz := ?hszq) (s := ⟨_, _, _, _, _⟩) F' N' ?_) | ((with_reducible show wpAny _ _ (subscriptTail _ (PySem.Expr.Slice (some _) none none _) _ _) _ _ _); refine slice_strN_sn (hsz := ?hszq) (s := ⟨_, _, _, _, _⟩) F' N' ?_) | ((with_reducible show wpAny _ _ (subscriptTail _ (PySem.Expr.Slice (some _) (some _) none _) _ _) _ _ _); refine slice_strN_ss (hsz := ?hszq) (s := ⟨_, _, _, _, _⟩) F' N' ?_)); (case hszq => exact Short.fits (by assumption)); intro _ _ _ _ _))
  (k_with "m:execs cons" => (dsimp only; walk_at "execs cons"))
  exact trivial
theorem lnG8F1a_1 : True := by
  (k_with "m:call ref" => (k_here; (with_reducible show wpAny _ _ (call (Value.ref 21) [Value.int _ _, Value.int _ _]) _ _ _); k_dflt (refine' TellUse0 (mul_tell _ _ _ _ _ ?okq) ?k1q ?k2q ?k3q ?k4q ?k5q ?kKq ?ksq ?kdq ?kuq ?_; (case okq => exact IntMulOk.of_left (by assumption)); walk_at "use0"); walk_at "gotInt"))
  (k_with "m:call ref" => (k_here; (with_reducible show wpAny _ _ (call (Value.ref 28) [Value.int _ _, Value.int _ _]) _ _ _); k_dflt (refine' TellUse0 (sub_tell _ _ _ _ _) ?k1q ?k2q ?k3q ?k4q ?k5q ?kKq ?ksq ?kdq ?kuq ?_; walk_at "use0"); walk_at "gotInt"))
  exact trivial
set_option maxHeartbeats 1000000
theorem toldE {t0 t1 : Tok} : ToldG (outY [] 1) (stopY [] 1 true) 1 .none [(127, t0), (3, t1)] := by
  simp [ToldG, stopY]
noncomputable def GenNewBad (w : World) (base h₀ : Heap) (L : Addr) (m : PySem.Str → Option Value) (news : Led) (G : Heap) (l : List Env) (s : Shared) (Q : Value → Shared → Prop) : Prop :=
  ∀ (D L' g : Nat) h' tk gn oL oD, GenO oD g → Fr h₀ L h' m → News h₀ L h' ((D, oD) :: (L', oL) :: news) → AllBare gn →
    (∀ A' : Around, A'.handled = none → A'.frames = some l → ∃ gs, gn[g]? = some gs ∧ gs.Goes (model GProg w) A'.in1 (BadR base G l D g) NoY 0 (.send .none) (({ s with heap := h', toks := tk, gens := gn } : Shared).setGen g .running)) → Q (.ref D) { s with heap := h', toks := tk, gens := gn }
theorem grp_bad {w : World} {mean : ExcName → Option Value} {mg mb : PySem.Str → Option Value} {A A₀ : Around} {s : Shared} {base h₀ : Heap} {L a : Addr} {m : PySem.Str → Option Value} {news : Led} {Q E : Value → Shared → Prop} {ax : Addr} {k : Nat} {t0 : Tok} {rest : List Value} {name : PySem.Str} {scope : Scope} {cd : Value} {outer : List Env}
    (F : Fr h₀ L s.heap m) (X : (hd.heap_1 w.params).In h₀) (N : News h₀ L s.heap news) (T : TopF mean mg mb h₀) (hfr : A.frames = some (envOf name scope L a cd :: outer)) (B : Below A₀ base outer h₀) (hk : scope.kind = .function) (hroom : A.depth < recursionLimit) (hm : (ax, listOf (Value.int 0 t0 :: rest).toArray k) ∈ news) (hb : AllBare s.gens)
    (h : GenNewBad w base h₀ L m news s.heap (envOf name scope L a cd :: outer) s Q) :
    wpAny (model PySem.Challenge.rw_xr0005_01.prog w) A (call (.ref 70) [.ref ax]) Q E s := by
  revert X
  k_fill
  intro X
  k_dflt (refine' callG F X N T ?k6q ?k7q hroom ?k9q ?kBq ?c5q ?c2q ?c3q ?c4q ?_; (case k6q => k_is); (case k7q => k_is); (case k9q => exact BindsTo.of_eq rfl); (case c5q => decide); (case kBq => exact locs rfl); (case c2q => exact rfl); (case c3q => exact rfl); (case c4q => exact rfl); k_whole)
  intro D L' g h' tk oL oD hDL hsz hg hO F' N' l1 FG hLL hL'G up
  subst hg
  refine h D L' _ h' tk _ oL oD hO F' N' (hb.push rfl) fun A' hA' hfr' => ⟨_, by exact Array.getElem?_push_size, ?_⟩
  have haL : ax < L' := l1 _ hm
  have hl : h'.IsList ax (Value.int 0 t0 :: rest).toArray := ⟨_, (N' _ (List.mem_cons_of_mem _ (List.mem_cons_of_mem _ hm))).1, rfl, _, rfl⟩
  have hGs : s.heap.objs.size ≤ L' := Nat.le_of_eq hL'G.symm
  have hGL : s.heap.get? L' = none := Heap.get?_none_of_le hGs
  have hGD : s.heap.get? D = none := Heap.get?_none_of_le (Nat.le_trans hGs (by omega))
  have hGen : h'.IsGen D s.gens.size := hO.is (N' _ (.head _)).1
  clear N F' N' hm h hb
  k_dflt (refine' gen_bad (G := s.heap) (m₀ := fun y => ([("grouping", Value.ref ax)] : List (PySem.Str × Value)).lookup y) ?zeroq ?itq ?oneq ?twoq ?badq ?hitq hk ?e2q ?e3q B F ?e4q ?e5q hDL ?szq hGL hGD hGs ?upq ?genq haL ?fgq ?hlq ?q1q ?q2q; (case hitq => intro _; rfl); (case e2q => exact rfl); (case e3q => exact rfl); (case e4q => exact hfr'); (case e5q => exact hA'); (case q1q => intro _; exact rfl); (case q2q => exact rfl); (case fgq => exact FG); (case hlq => exact hl); (case szq => exact hsz); (case upq => exact up); (case genq => exact hGen))
  · intro A s E Q F hq
    refine wpAny_Assign_Name ?_ (by rfl)
    walk1
    refine wpAny_storeName_local rfl F.ns (fun h₁ hn hs => ?_) rfl
    have F₁ := F.set hn hs
    have hn' := F₁.ns
    rw [mG_start] at hn'
    exact hq _ _ ⟨hn', F₁.keep, F₁.above⟩ hs
  · intro A s E Q F hq
    k_steps
    all_goals exact hq _
  · intro A s E Q last x t F hx hq
    k_steps
    all_goals first | exact absurd (by assumption) hx | exact hq _
  · intro A s E Q last x t F hq
    k_steps
    all_goals first | exact hq _
  · intro A s E Q x t hA F hq
    k_steps
    with_unfolding_all refine Raise_madeB PySem.F.excCall_ValueError PySem.F.excRaise_ValueError hA ?_
    walk1
    refine ⟨rfl, ?_⟩
    k_steps
    all_goals exact hq _ _ _ _ (Heap.MadeExc.of (by assumption))
theorem for_bad {w : World} {mean : ExcName → Option Value} {mg mb : PySem.Str → Option Value} {A : Around} {base h₀ G : Heap} {L D : Addr} {oD : Obj} {env : Env} {x : PySem.Str} {px : Pos} {body : List Stmt} {Q : Flow → Shared → Prop} {E : Value → Shared → Prop} {s : Shared} {l : List Env}
    {m : PySem.Str → Option Value} {news : Led} {g : Nat} (hh : A.handled = none) (hroom : A.depth < recursionLimit) (T : TopF mean mg mb h₀) (F : Fr h₀ L s.heap m) (N : News h₀ L s.heap ((D, oD) :: news)) (hO : GenO oD g) (hb : AllBare s.gens) (hfr : A.frames = some l)
    (gen : ∀ A' : Around, A'.handled = none → A'.frames = some l → ∃ gs, s.gens[g]? = some gs ∧ gs.Goes (model GProg w) A'.in1 (BadR base G l D g) NoY 0 (.send .none) (s.setGen g .running))
    (hE : ∀ h' tk t u gn e, AllBare gn → RaisedS base G l e (.type "ValueError") t [.str "invalid grouping" u] [] h' → G.UpToSlots h' → E (.ref e) { s with heap := h', toks := tk, gens := gn }) : LoopT GProg w A env x px body Q E (.ref D) s := fun hP => by
  obtain ⟨gs, hgs, hgo⟩ := gen A hh hfr
  refine codeAny_forLoop (fun _ s' => s' = s) (fun k s' hs' => ?_) 0 rfl
  subst hs'
  refine wpAny_passesOwn hP (pyNext_bad (T.nolimit.keeps F.keep) hroom (hO.is (N _ (.head _)).1) hgs (fun _ _ _ _ _ h => h) hgo fun s₁ e hbad => ?_)
  obtain ⟨h', tk, t, u, rfl, R, U, _⟩ := hbad
  refine hE h' tk t u _ e ?_ R U
  exact AllBare.moved hb (GenOnlyQ.of ((GenOnly.setGen _ g .running).trans (GenOnly.setGen _ g .finished)) (setGen_self (gs := .running) (setGen_self hgs)) rfl)
end
section
theorem lnF5r_0 : True := by k_with_none; exact trivial
theorem lnF5rp_1 : True := by
  (k_with "m:tell" => (
  unfold Tell
  k_fill
  intro mean9 mg9 mb9 gd9 cn9 cs9 a9 ccd9 cl9 outer9 A9 base9 h9 L9 m9 news9 s9 Q9 E9 B F X N T hk hsub hret
  refine wpAny_call ?_
  k_dflt (refine' enterS ?k1q ?k2q ?k3q ?k4q ?k5q hsub ?kAq ?kFq ?kKq ?k6q ?k7q ?k8q ?k9q ?kBq ?_ ?c5q ?c2q ?c3q ?c4q; (case kAq => exact rfl); (case kFq => exact rfl); (case kKq => assumption); (case k1q => k_asm); (case k2q => k_asm); (case k3q => k_asm); (case k4q => k_asm); (case k5q => k_asm); (case k6q => k_is); (case k7q => k_is); (case k8q => k_room); (case k9q => exact BindsTo.of_eq rfl); (case c5q => decide); (case kBq => exact locs rfl); (case c2q => exact rfl); (case c3q => exact rfl); (case c4q => exact rfl); k_whole)
  intro g' L' h' FG' F' N' B' X' T'
  (try dsimp only)
  (simp only [zipS, List.reverse_cons, List.reverse_nil, List.nil_append, List.cons_append] at F')
  clear B F X N T FG'
  k_fold))
  (k_with "m:sub" => first | exact List.forall_mem_nil _ | (refine List.forall_mem_cons.mpr ⟨by k_mem, ?_⟩; walk_at "sub"))
  (k_with "m:apart" => first | exact List.forall_mem_nil _ | (refine List.forall_mem_cons.mpr ⟨by k_ne, ?_⟩; walk_at "apart"))
  (k_with "m:leave0" => (k_dflt (refine' LeaveS.intro [] ?k1q ?k2q ?k3q (List.forall_mem_nil _) (List.forall_mem_nil _) ?_; (case k1q => k_asm); (case k2q => k_asm); (case k3q => walk_at "sub"); k_whole); intro kF kN kA; (with_reducible rename (∀ (_ : Value) (_ : List (Addr × Obj)) (_ : Heap) (_ : Nat), Fr _ _ _ _ → _) => hret); refine hret _ [] _ _ kF kN kA ⟨rfl, Done.intro ?_⟩; clear kF kN kA hret))
  (k_with "m:leave1" => (k_dflt (refine' LeaveS.intro1 ?k1q ?k2q ?k3q ?k4q ?k5q ?_; (case k1q => k_asm); (case k2q => k_asm); (case k3q => walk_at "sub"); (case k4q => k_mem); (case k5q => walk_at "apart"); k_whole); intro kF kN kA; (with_reducible rename (∀ (_ : Value) (_ : List (Addr × Obj)) (_ : Heap) (_ : Nat), Fr _ _ _ _ → _) => hret); refine hret _ [_] _ _ kF kN kA (Done.intro ?_); clear kF kN kA hret))
  (k_with "m:leave" => walk_at "leave0")
  (k_with "m:LeaveS" => ((try dsimp only); walk_at "leave"))
  (k_with "m:use0" => ((case k1q => k_asm); (case k2q => k_asm); (case k3q => k_asm); (case k4q => k_asm); (case k5q => k_asm); (case kKq => first | exact rfl | assumption); (case ksq => walk_at "sub"); (case kdq => k_room); (case kuq => k_room); k_whole))
  (k_with "m:gotInt" => (intro r9 h9 tk9 F9 N9 hR9; obtain ⟨v9, t9, hv9, e9⟩ := hR9; subst e9; (try k_sweep); (try dsimp only)))
  (k_with "m:gotBool" => (intro r9 h9 tk9 F9 N9 hR9; obtain ⟨v9, hv9, e9⟩ := hR9; subst e9; (try k_sweep); (try dsimp only)))
  (k_with "m:item" => (k_here; k_dflt (refine' item_fast ?Nq ?mq ?aq ?bq ?xq ?_ ?yq; (case Nq => k_asm); (case mq => k_mem); (case aq => decide); (case bq => decide); (case xq => exact rfl); (case yq => with_unfolding_all rfl); k_whole)))
  (k_with "m:subscriptTail Name BinOp ref int" => walk_at "item")
  (k_with "m:subscriptTail Name Name ref int" => walk_at "item")
  (k_with "m:subscriptTail Name Constant ref int" => walk_at "item")
  (k_with "m:eval Name" => (k_here; k_dflt (refine' nameX_L ?Fq ?vq ?_ ?aq ?bq; (case bq => rfl); (case Fq => k_asm); (case aq => rfl); (case vq => rfl); k_whole)))
  (k_with "m:subscriptTail Name Slice str ref" => (k_here; (with_reducible rename Fr _ _ _ _ => F'); (with_reducible rename News _ _ _ _ => N'); (first | ((with_reducible show wpAny _ _ (subscriptTail _ (PySem.Expr.Slice none none none _) _ _) _ _ _); refine slice_strN_nn (hsz := ?hszq) (s := ⟨_, _, _, _, _⟩) F' N' ?_) | ((with_reducible show wpAny _ _ (subscriptTail _ (PySem.Expr.Slice none (some _) none _) _ _) _ _ _); refine slice_strN_ns (hsz := ?hszq) (s := ⟨_, _, _, _, _⟩) F' N' ?_) | ((with_reducible show wpAny _ _ (subscriptTail _ (PySem.Expr.Slice (some _) none none _) _ _) _ _ _); refine slice_strN_sn (hsz := ?hszq) (s := ⟨_, _, _, _, _⟩) F' N' ?_) | ((with_reducible show wpAny _ _ (subscriptTail _ (PySem.Expr.Slice (some _) (some _) none _) _ _) _ _ _); refine slice_strN_ss (hsz := ?hszq) (s := ⟨_, _, _, _, _⟩) F' N' ?_)); (case hszq => exact Short.fits (by assumption)); intro _ _ _ _ _))
  (k_with "m:execs cons" => (dsimp only; walk_at "execs cons"))
  exact trivial
theorem lnF5rF1a_1 : True := by
  (k_with "m:call ref" => (k_here; (with_reducible show wpAny _ _ (call (Value.ref 21) [Value.int _ _, Value.int _ _]) _ _ _); k_dflt (refine' TellUse0 (mul_tell _ _ _ _ _ ?okq) ?k1q ?k2q ?k3q ?k4q ?k5q ?kKq ?ksq ?kdq ?kuq ?_; (case okq => exact IntMulOk.of_left (by assumption)); walk_at "use0"); walk_at "gotInt"))
  (k_with "m:call ref" => (k_here; (with_reducible show wpAny _ _ (call (Value.ref 28) [Value.int _ _, Value.int _ _]) _ _ _); k_dflt (refine' TellUse0 (sub_tell _ _ _ _ _) ?k1q ?k2q ?k3q ?k4q ?k5q ?kKq ?ksq ?kdq ?kuq ?_; walk_at "use0"); walk_at "gotInt"))
  exact trivial
noncomputable def LeaveR (fs : List Addr) (h₀ : Heap) (L : Addr) (m : PySem.Str → Option Value) (g : Heap) (news : Led) (R : Result → Shared → Prop) (v : Value) (s' : Shared) : Prop :=
  ∃ g' L' m', KtsTurn fs g g' ∧ Fr g' L' s'.heap m' ∧ (Fr h₀ L s'.heap m → News h₀ L s'.heap news → R (.ok (.ret v)) s')
theorem LeaveR.intro {fs : List Addr} {h₀ : Heap} {L : Addr} {m : PySem.Str → Option Value} {g g' : Heap} {news : Led} {R : Result → Shared → Prop} {v : Value} {s' : Shared} {L' : Addr} {m' : PySem.Str → Option Value} (T : KtsTurn fs g g') (F : Fr g' L' s'.heap m') (k : Fr h₀ L s'.heap m → News h₀ L s'.heap news → R (.ok (.ret v)) s') : LeaveR fs h₀ L m g news R v s' := ⟨g', L', m', T, F, k⟩
theorem enterR {w : World} {mean : ExcName → Option Value} {mg mb : PySem.Str → Option Value} {A₀ A : Around} {s : Shared} {h₀ : Heap} {L : Addr} {m : PySem.Str → Option Value} {env : Env} {news : Led} {K : Frag}
    {R : Result → Shared → Prop} {name qual : PySem.Str} {params : Arguments} {body : List Stmt} {scope : Scope} {dV kV doc pm cdv ct oc : Value} {an od : Option Addr} {osl : Array (Option Value)} {f : Addr} {vs : List Value}
    (B : Below A₀ h₀ [] h₀) (F : Fr h₀ L s.heap m) (X₀ : K.In h₀) (N : News h₀ L s.heap news) (T : TopF mean mg mb h₀) (hA : A.frames = some [env]) (hf : env.frame = some L) (hke : env.scope.kind = .function)
    (ho : K.lookup f = some ⟨oc, od, .func (fnOf name qual params body scope dV kV doc pm an cdv ct), osl⟩) (hcd : codeIn K cdv qual = true) (hroom : A.depth < recursionLimit)
    (hbind : BindsTo s (fnOf name qual params body scope dV kV doc pm an cdv ct) ⟨vs, []⟩ (zipS params.args vs)) (hloc : ∀ y ∈ zipS params.args vs, scope.names.lookup y.1 = some .local)
    (h : ∀ L' h₁, Fr s.heap L' h₁ (fun y => (zipS params.args vs).reverse.lookup y) → News s.heap L' h₁ [] → Below A h₀ [env] s.heap → K.In s.heap → TopF mean mg mb s.heap → K.In h₀ → TopF mean mg mb h₀ → KtsDicts [L] s.heap →
      wpAny (model PySem.Challenge.rw_xr0005_01.prog w) (A.deeper (envOf qual scope L' f cdv)) (execs body (envOf qual scope L' f cdv))
        (fun fl s' => LeaveR [L] h₀ L m s.heap news R (match fl with | .ret v => v | _ => .none) s')
        (fun e s' => wpAny (model PySem.Challenge.rw_xr0005_01.prog w) (A.deeper (envOf qual scope L' f cdv)) (leaving (envOf qual scope L' f cdv) e) (fun _ s'' => R (.error e) s'') (fun e' s'' => R (.error e') s'') s')
        { s with heap := h₁, toks := s.toks + (zipS params.args vs).length })
    (hcell : ∀ x ∈ scope.names, x.2 ≠ .cell) (hco : scope.isCoroutine = false) (hgen : scope.isGenerator = false) (hk : scope.kind = .function) :
    codeAny (model PySem.Challenge.rw_xr0005_01.prog w) A (.call (.ref f) ⟨vs, []⟩) R s := by
  have X := X₀.keeps F.keep
  obtain ⟨oL, es, ep, hL, hLd, hLk, hLf⟩ := F.ns
  have B₁ := pushX B F hf hke
  refine codeAny_call_def (fd := fnOf name qual params body scope dV kV doc pm an cdv ct) (body := body) (binds := zipS params.args vs) hroom (X _ _ ho) rfl (T.nolimit.keeps F.keep) (codeRec_of X hcd) rfl hbind hcell hloc (fun h₁ hns hk₁ => ?_) hco hgen hk
  refine wpAny_mono (h s.heap.objs.size h₁ ⟨hns, hk₁, Nat.le_refl _⟩ (fun p hp => absurd hp List.not_mem_nil) ⟨hA, B₁.stays, B₁.frames⟩ X (T.keeps F.keep) X₀ T (fun b hb => ?_)) (fun fl s' hl => ?_) fun _ _ y => y
  · rw [List.mem_singleton.mp hb]; exact ⟨oL, es, ep, hL, hLd⟩
  · obtain ⟨g', L', m', T', F', k⟩ := hl
    have nL₀ : h₀.get? L = none := Heap.get?_none_of_le F.above
    obtain ⟨sl, hs⟩ := T'.up hL
    refine k ⟨⟨_, es, ep, F'.keep _ _ hs, hLd, hLk, hLf⟩, fun b o e => F'.keep b o (T'.other b o (F.keep b o e) fun q => by rw [List.mem_singleton.mp q, nL₀] at e; cases e), F.above⟩
      fun p hp => ⟨F'.keep _ _ (T'.other _ _ (N p hp).1 fun q => (N p hp).2.1 (List.mem_singleton.mp q)), (N p hp).2⟩
theorem lnF5r_1 : True := by
  (k_with "m:exec For Name Call cons nil" => (k_here; k_dflt (refine' For_T ?_ ?hsq ?hEq; (case hsq => intro _; rfl); (case hEq => passes_own); k_whole)))
  (k_with "m:call ref" => (k_here; (with_reducible show wpAny _ _ (call (Value.ref 70) [Value.ref _]) _ _ _); k_dflt (first
  | (refine' grp_new (fin := true) (ys := []) (vs := [(127, _), (3, _)]) ?Fq ?Xq ?Nq ?Tq ?rq ?mq ?bq toldE ?_; (case Fq => k_asm); (case Xq => k_asm); (case Nq => k_asm); (case Tq => k_asm); (case rq => k_room); (case mq => k_mem); (case bq => assumption))
  | (refine' grp_bad ?Fq ?Xq ?Nq ?Tq ?hfq ?Bq ?hkq ?rq ?mq ?bq ?_; (case Fq => k_asm); (case Xq => k_asm); (case Nq => k_asm); (case Tq => k_asm); (case hfq => exact rfl); (case Bq => assumption); (case rq => k_room); (case mq => k_mem); (case bq => assumption); (case hkq => exact rfl)))))
  (k_with "m:GenNewBad" => ((unfold GenNewBad); intro D' L' g' h' tk' gn' oL' oD' hO' F' N' hb' hG'; (try dsimp only)))
  (k_with "m:GenNew" => ((unfold GenNew); intro D' L' g' h' tk' gn' oL' oD' hDL' hsz' hO' F' N' l1 hb' hG'; (have l2 := allLt_of l1); (simp only [AllLt, and_true] at l2); (try dsimp only)))
  (k_with "m:pyIter ref" => (k_here; (with_reducible rename GenO _ _ => hO'); (with_reducible rename News _ _ _ _ => N'); k_dflt (refine wpAny_pyIter_gen (GenO.is hO' (N' _ (by k_mem)).1) ?_)))
  (k_with "m:LoopT" => (k_here; k_dflt (refine' for_bad ?hhq ?hrq ?Tq ?Fq ?Nq ?hOq ?hbq ?hfq ?Gq ?_; (case hhq => exact rfl); (case hrq => k_room); (case Fq => k_asm); (case Nq => k_asm); (case Tq => k_asm); (case hOq => assumption); (case Gq => assumption); (case hbq => assumption); (case hfq => exact rfl))))
  (k_with "m:LoopT" => (k_here; k_dflt (refine' for_new ?hhq ?hrq ?Tq ?heq ?Fq ?Nq ?hDLq ?hOq ?hAq ?hIq ?hLq ?Gq ?hbq ?hxq ?hpq ?_; (case hhq => exact rfl); (case hrq => k_room); (case heq => exact rfl); (case Fq => k_asm); (case Nq => k_asm); (case Tq => k_asm); (case hDLq => assumption); (case hOq => assumption); (case Gq => assumption); (case hAq => k_mem); (case hIq => assumption); (case hLq => assumption); (case hbq => assumption); (case hxq => exact rfl); (case hpq => exact rfl))))
  (k_with "m:GT" => (first
  | (refine GT.cons ?_; intro h' tk' gn' oL' oI' hb' F' N'; (try dsimp only))
  | (refine GT.done (by exact rfl) ?_; intro h' tk' gn' hb' F' N'; (try dsimp only))))
  (k_with "m:TurnG" => (first
  | (k_dflt (refine' TurnG.go ?Fq ?Nq ?eq ?h1q ?h2q ?_; (case Fq => k_asm); (case Nq => k_asm); (case eq => exact rfl); (case h1q => k_mem); (case h2q => k_mem)))
  | ((try dsimp only [TurnG]); (try dsimp only))))
  (k_with "m:LeaveR" => (k_dflt (refine' LeaveR.intro ?Tq ?Fq ?_; (case Tq => first | assumption | exact KtsTurn.refl); (case Fq => k_asm)); intro kF kN; (try dsimp only)))
  exact trivial
set_option maxHeartbeats 1500000 in
theorem refused_tell (w : World) (mean : ExcName → Option Value) (mg mb : PySem.Str → Option Value) (gd : Option (List Code)) (cn : PySem.Str) (cs : Scope) (a : Addr) (ccd : Value) (cl : List (PySem.Str × Addr)) (A₀ : Around) (h₀ : Heap) (L : Addr)
    (m : PySem.Str → Option Value) (news : Led) (s : Shared) (Q E : Value → Shared → Prop) (B : Below A₀ h₀ [] h₀) (F : Fr h₀ L s.heap m) (X : (hd.heap_1 w.params).In h₀) (N : News h₀ L s.heap news) (T : TopF mean mg mb h₀) (hk : cs.kind = .function) (hbare : AllBare s.gens)
    (hret : ∀ h' tk' gn, AllBare gn → Fr h₀ L h' m → News h₀ L h' news → Q (.bool true) { s with heap := h', toks := tk', gens := gn }) :
    wpAny (model PySem.Challenge.rw_xr0005_01.prog w) (ktrTop 310 310 gd cn cs L a ccd cl []) (call (.ref 96) []) Q E s := by
  revert X
  k_fill
  intro X
  refine wpAny_call ?_
  k_dflt (refine' enterR B F X N T ?kAq ?kFq ?kKq ?k6q ?k7q ?k8q ?k9q ?kBq ?_ ?c5q ?c2q ?c3q ?c4q; (case kAq => exact rfl); (case kFq => exact rfl); (case kKq => assumption); (case k6q => k_is); (case k7q => k_is); (case k8q => k_room); (case k9q => exact BindsTo.of_eq rfl); (case c5q => decide); (case kBq => exact locs rfl); (case c2q => exact rfl); (case c3q => exact rfl); (case c4q => exact rfl); k_whole)
  clear B F X N T
  intro L' h' F' N' B' X' T' XB' TB' D'
  (try dsimp only)
  k_steps
  rw [show (PySem.Str.ofString "invalid grouping" == PySem.Str.ofString "invalid grouping") = true by decide]
  exact hret _ _ _ (by assumption) (by assumption) (by assumption)
end
section
theorem lnF6_0 : True := by k_with_none; exact trivial
theorem lnF6p_1 : True := by
  (k_with "m:tell" => (
  unfold Tell
  k_fill
  intro mean9 mg9 mb9 gd9 cn9 cs9 a9 ccd9 cl9 outer9 A9 base9 h9 L9 m9 news9 s9 Q9 E9 B F X N T hk hsub hret
  refine wpAny_call ?_
  k_dflt (refine' enterS ?k1q ?k2q ?k3q ?k4q ?k5q hsub ?kAq ?kFq ?kKq ?k6q ?k7q ?k8q ?k9q ?kBq ?_ ?c5q ?c2q ?c3q ?c4q; (case kAq => exact rfl); (case kFq => exact rfl); (case kKq => assumption); (case k1q => k_asm); (case k2q => k_asm); (case k3q => k_asm); (case k4q => k_asm); (case k5q => k_asm); (case k6q => k_is); (case k7q => k_is); (case k8q => k_room); (case k9q => exact BindsTo.of_eq rfl); (case c5q => decide); (case kBq => exact locs rfl); (case c2q => exact rfl); (case c3q => exact rfl); (case c4q => exact rfl); k_whole)
  intro g' L' h' FG' F' N' B' X' T'
  (try dsimp only)
  (simp only [zipS, List.reverse_cons, List.reverse_nil, List.nil_append, List.cons_append] at F')
  clear B F X N T FG'
  k_fold))
  (k_with "m:sub" => first | exact List.forall_mem_nil _ | (refine List.forall_mem_cons.mpr ⟨by k_mem, ?_⟩; walk_at "sub"))
  (k_with "m:apart" => first | exact List.forall_mem_nil _ | (refine List.forall_mem_cons.mpr ⟨by k_ne, ?_⟩; walk_at "apart"))
  (k_with "m:leave0" => (k_dflt (refine' LeaveS.intro [] ?k1q ?k2q ?k3q (List.forall_mem_nil _) (List.forall_mem_nil _) ?_; (case k1q => k_asm); (case k2q => k_asm); (case k3q => walk_at "sub"); k_whole); intro kF kN kA; (with_reducible rename (∀ (_ : Value) (_ : List (Addr × Obj)) (_ : Heap) (_ : Nat), Fr _ _ _ _ → _) => hret); refine hret _ [] _ _ kF kN kA ⟨rfl, Done.intro ?_⟩; clear kF kN kA hret))
  (k_with "m:leave1" => (k_dflt (refine' LeaveS.intro1 ?k1q ?k2q ?k3q ?k4q ?k5q ?_; (case k1q => k_asm); (case k2q => k_asm); (case k3q => walk_at "sub"); (case k4q => k_mem); (case k5q => walk_at "apart"); k_whole); intro kF kN kA; (with_reducible rename (∀ (_ : Value) (_ : List (Addr × Obj)) (_ : Heap) (_ : Nat), Fr _ _ _ _ → _) => hret); refine hret _ [_] _ _ kF kN kA (Done.intro ?_); clear kF kN kA hret))
  (k_with "m:leave" => walk_at "leave0")
  (k_with "m:LeaveS" => ((try dsimp only); walk_at "leave"))
  (k_with "m:use0" => ((case k1q => k_asm); (case k2q => k_asm); (case k3q => k_asm); (case k4q => k_asm); (case k5q => k_asm); (case kKq => first | exact rfl | assumption); (case ksq => walk_at "sub"); (case kdq => k_room); (case kuq => k_room); k_whole))
  (k_with "m:gotInt" => (intro r9 h9 tk9 F9 N9 hR9; obtain ⟨v9, t9, hv9, e9⟩ := hR9; subst e9; (try k_sweep); (try dsimp only)))
  (k_with "m:gotBool" => (intro r9 h9 tk9 F9 N9 hR9; obtain ⟨v9, hv9, e9⟩ := hR9; subst e9; (try k_sweep); (try dsimp only)))
  (k_with "m:item" => (k_here; k_dflt (refine' item_fast ?Nq ?mq ?aq ?bq ?xq ?_ ?yq; (case Nq => k_asm); (case mq => k_mem); (case aq => decide); (case bq => decide); (case xq => exact rfl); (case yq => with_unfolding_all rfl); k_whole)))
  (k_with "m:subscriptTail Name BinOp ref int" => walk_at "item")
  (k_with "m:subscriptTail Name Name ref int" => walk_at "item")
  (k_with "m:subscriptTail Name Constant ref int" => walk_at "item")
  (k_with "m:eval Name" => (k_here; k_dflt (refine' nameX_L ?Fq ?vq ?_ ?aq ?bq; (case bq => rfl); (case Fq => k_asm); (case aq => rfl); (case vq => rfl); k_whole)))
  (k_with "m:subscriptTail Name Slice str ref" => (k_here; (with_reducible rename Fr _ _ _ _ => F'); (with_reducible rename News _ _ _ _ => N'); (first | ((with_reducible show wpAny _ _ (subscriptTail _ (PySem.Expr.Slice none none none _) _ _) _ _ _); refine slice_strN_nn (hsz := ?hszq) (s := ⟨_, _, _, _, _⟩) F' N' ?_) | ((with_reducible show wpAny _ _ (subscriptTail _ (PySem.Expr.Slice none (some _) none _) _ _) _ _ _); refine slice_strN_ns (hsz := ?hszq) (s := ⟨_, _, _, _, _⟩) F' N' ?_) | ((with_reducible show wpAny _ _ (subscriptTail _ (PySem.Expr.Slice (some _) none none _) _ _) _ _ _); refine slice_strN_sn (hsz := ?hszq) (s := ⟨_, _, _, _, _⟩) F' N' ?_) | ((with_reducible show wpAny _ _ (subscriptTail _ (PySem.Expr.Slice (some _) (some _) none _) _ _) _ _ _); refine slice_strN_ss (hsz := ?hszq) (s := ⟨_, _, _, _, _⟩) F' N' ?_)); (case hszq => exact Short.fits (by assumption)); intro _ _ _ _ _))
  (k_with "m:execs cons" => (dsimp only; walk_at "execs cons"))
  exact trivial
theorem lnF6F1a_1 : True := by
  (k_with "m:call ref" => (k_here; (with_reducible show wpAny _ _ (call (Value.ref 21) [Value.int _ _, Value.int _ _]) _ _ _); k_dflt (refine' TellUse0 (mul_tell _ _ _ _ _ ?okq) ?k1q ?k2q ?k3q ?k4q ?k5q ?kKq ?ksq ?kdq ?kuq ?_; (case okq => exact IntMulOk.of_left (by assumption)); walk_at "use0"); walk_at "gotInt"))
  (k_with "m:call ref" => (k_here; (with_reducible show wpAny _ _ (call (Value.ref 28) [Value.int _ _, Value.int _ _]) _ _ _); k_dflt (refine' TellUse0 (sub_tell _ _ _ _ _) ?k1q ?k2q ?k3q ?k4q ?k5q ?kKq ?ksq ?kdq ?kuq ?_; walk_at "use0"); walk_at "gotInt"))
  exact trivial
noncomputable def LinkOk (x : Int) : Prop := 1 ≤ x ∧ x ≤ 1000000000000
noncomputable def SizeOk (x : Int) : Prop := 1 ≤ x ∧ x ≤ 1000000000000 ∧ x ≠ 127
theorem SizeOk.good {x : Int} (h : SizeOk x) : GoodSize x := ⟨by have := h.1; omega, h.2.2⟩
theorem SizeOk.link {x : Int} (h : SizeOk x) : LinkOk x := ⟨h.1, h.2.1⟩
noncomputable abbrev fiveL (l0 l1 l2 l3 : Int) (b0 b1 b2 b3 : Tok) (more : List Value) : List Value := Value.int l0 b0 :: Value.int l1 b1 :: Value.int l2 b2 :: Value.int l3 b3 :: more
/-- _law_links, whatever the dress: two lists of the same ints, four at least -/
noncomputable def LinksRet (cell : Addr) (h₀ : Heap) (L : Addr) (m : PySem.Str → Option Value) (rest : Led) (s : Shared) (Q : Value → Shared → Prop) : Prop :=
  ∀ (D T U : Addr) (nT nU : Nat) (l0 l1 l2 l3 : Int) (b0 b1 b2 b3 : Tok) (more : List Value) (ms : List Int) (h' : Heap) (tk' : Nat) (gn : Array GenState), AllBare gn → LinkOk l0 → LinkOk l1 → LinkOk l2 → LinkOk l3 → IntsAre more ms → more.length ≤ 2 →
    Fr h₀ L h' m → News h₀ L h' ([(D, ({ cls := .type "tuple", data := .seq #[.ref T, .ref U] } : Obj)), (T, listOf (Value.int l0 b0 :: Value.int l1 b1 :: Value.int l2 b2 :: Value.int l3 b3 :: more).toArray nT), (U, listOf (Value.int l0 b0 :: Value.int l1 b1 :: Value.int l2 b2 :: Value.int l3 b3 :: more).toArray nU)] ++ rest) →
    (∀ p ∈ rest, (@Ne Nat p.1 D)) → (∀ p ∈ rest, (@Ne Nat p.1 T)) → (@Ne Nat cell U) → Q (.ref D) { s with heap := h', toks := tk', gens := gn }
theorem news_sub {h₀ h : Heap} {L : Addr} {n1 n2 : Led} (N : News h₀ L h n1) (sub : ∀ p ∈ n2, p ∈ n1) : News h₀ L h n2 := fun p hp => N p (sub p hp)
theorem links_all {w : World} {mean : ExcName → Option Value} {mg mb : PySem.Str → Option Value} {dp un : Nat} {gd : Option (List Code)} {cn : PySem.Str} {cs : Scope} {aa : Addr} {ccd : Value} {cl : List (PySem.Str × Addr)} {outer : List Env} {A₀ : Around} {base h₀ : Heap} {L : Addr}
    {m : PySem.Str → Option Value} {cell : Addr} {news rest : Led} {s : Shared} {Q E : Value → Shared → Prop} {ls : Addr} {k : Nat} {a b c d dr : Int} {ta tb tc td u : Tok}
    (B : Below A₀ base outer h₀) (F : Fr h₀ L s.heap m) (X : (hd.heap_1 w.params).In h₀) (N : News h₀ L s.heap news) (T : TopF mean mg mb h₀) (hk : cs.kind = .function) (hm : (ls, listOf #[.int a ta, .int b tb, .int c tc, .int d td] k) ∈ news)
    (hrest : ∀ p ∈ rest, p ∈ news) (hls : (@Ne Nat cell ls)) (hcell : ∃ o, (cell, o) ∈ rest) (hd : dp ≤ 310) (hu : un ≤ 310) (hb : AllBare s.gens) (ga : SizeOk a) (gb : SizeOk b) (gc : SizeOk c) (gd' : SizeOk d) (h0 : 0 ≤ dr) (h4 : dr < 4)
    (ret : LinksRet cell h₀ L m rest s Q) : wpAny (model PySem.Challenge.rw_xr0005_01.prog w) (ktrTop dp un gd cn cs L aa ccd cl outer) (call (.ref 89) [.ref ls, .int dr u]) Q E s := by
  have hs : ∀ p ∈ [(ls, listOf #[.int a ta, .int b tb, .int c tc, .int d td] k)], p ∈ news := fun p hp => by rw [List.mem_singleton.mp hp]; exact hm
  have e : dr = 0 ∨ dr = 1 ∨ dr = 2 ∨ dr = 3 := by omega
  rcases e with rfl | rfl | rfl | rfl
  · refine TellGUse (links0_tell w ls k a b c d ta tb tc td u ga.good gb.good gc.good gd'.good) B F X N T hk hs hd hu hb ?_
    rintro r tl h' tk' gn hg F' N' ap ⟨D, T', nT, rfl, rfl⟩
    refine ret D T' ls nT k a b c d ta tb tc td [] [] h' tk' gn hg ga.link gb.link gc.link gd'.link .nil (by decide) F' (news_sub N' fun p hp => ?_) (fun p hp => ap _ (.head _) p (hrest p hp)) (fun p hp => ap _ (.tail _ (.head _)) p (hrest p hp)) hls
    rcases List.mem_append.mp hp with hp | hp
    · rcases List.mem_cons.mp hp with rfl | hp
      · exact .head _
      rcases List.mem_cons.mp hp with rfl | hp
      · exact .tail _ (.head _)
      rw [List.mem_singleton.mp hp]
      exact .tail _ (.tail _ hm)
    · exact .tail _ (.tail _ (hrest p hp))
  · refine TellGUse (links1_tell w ls k a b c d ta tb tc td u ga.good gb.good gc.good gd'.good) B F X N T hk hs hd hu hb ?_
    rintro r tl h' tk' gn hg F' N' ap ⟨D, T', U', nT, nU, rfl, rfl⟩
    refine ret D T' U' nT nU a b b b ta tb tb tb [.int b tb, .int b tb] [b, b] h' tk' gn hg ga.link gb.link gb.link gb.link (.cons _ _ (.cons _ _ .nil)) (Nat.le_refl _) F' (news_sub N' fun p hp => ?_) (fun p hp => ap _ (.head _) p (hrest p hp)) (fun p hp => ap _ (.tail _ (.head _)) p (hrest p hp)) (hcell.elim fun o ho => ap _ (.tail _ (.tail _ (.head _))) (cell, o) (hrest _ ho))
    rcases List.mem_append.mp hp with hp | hp
    · exact List.mem_append_left _ hp
    · exact .tail _ (.tail _ (.tail _ (hrest p hp)))
  · refine TellGUse (links2_tell w ls k a b c d ta tb tc td u ga.good gb.good gc.good gd'.good) B F X N T hk hs hd hu hb ?_
    rintro r tl h' tk' gn hg F' N' ap ⟨D, T', nT, rfl, rfl⟩
    refine ret D T' ls nT k a b c d ta tb tc td [] [] h' tk' gn hg ga.link gb.link gc.link gd'.link .nil (by decide) F' (news_sub N' fun p hp => ?_) (fun p hp => ap _ (.head _) p (hrest p hp)) (fun p hp => ap _ (.tail _ (.head _)) p (hrest p hp)) hls
    rcases List.mem_append.mp hp with hp | hp
    · rcases List.mem_cons.mp hp with rfl | hp
      · exact .head _
      rcases List.mem_cons.mp hp with rfl | hp
      · exact .tail _ (.head _)
      rw [List.mem_singleton.mp hp]
      exact .tail _ (.tail _ hm)
    · exact .tail _ (.tail _ (hrest p hp))
  · refine TellGUse (links3_tell w ls k a b c d ta tb tc td u ga.good gb.good gc.good gd'.good) B F X N T hk hs hd hu hb ?_
    rintro r tl h' tk' gn hg F' N' ap ⟨D, T', U', nT, nU, rfl, rfl⟩
    refine ret D T' U' nT nU a a a a ta ta ta ta [.int a ta, .int a ta] [a, a] h' tk' gn hg ga.link ga.link ga.link ga.link (.cons _ _ (.cons _ _ .nil)) (Nat.le_refl _) F' (news_sub N' fun p hp => ?_) (fun p hp => ap _ (.head _) p (hrest p hp)) (fun p hp => ap _ (.tail _ (.head _)) p (hrest p hp)) (hcell.elim fun o ho => ap _ (.tail _ (.tail _ (.head _))) (cell, o) (hrest _ ho))
    rcases List.mem_append.mp hp with hp | hp
    · exact List.mem_append_left _ hp
    · exact .tail _ (.tail _ (.tail _ (hrest p hp)))
noncomputable def AllNe (d : Nat) : List (Addr × Obj) → Prop
  | [] => True
  | p :: r => @Ne Nat p.1 d ∧ AllNe d r
theorem allNe_of {d : Addr} : ∀ {l : List (Addr × Obj)}, (∀ p ∈ l, (@Ne Nat p.1 d)) → AllNe d l
  | [], _ => trivial
  | p :: _, h => ⟨h p (.head _), allNe_of fun q hq => h q (.tail _ hq)⟩
end
section
theorem lnP0_0 : True := by k_with_none; exact trivial
theorem lnP0p_1 : True := by
  (k_with "m:tell" => (
  unfold Tell
  k_fill
  intro mean9 mg9 mb9 gd9 cn9 cs9 a9 ccd9 cl9 outer9 A9 base9 h9 L9 m9 news9 s9 Q9 E9 B F X N T hk hsub hret
  refine wpAny_call ?_
  k_dflt (refine' enterS ?k1q ?k2q ?k3q ?k4q ?k5q hsub ?kAq ?kFq ?kKq ?k6q ?k7q ?k8q ?k9q ?kBq ?_ ?c5q ?c2q ?c3q ?c4q; (case kAq => exact rfl); (case kFq => exact rfl); (case kKq => assumption); (case k1q => k_asm); (case k2q => k_asm); (case k3q => k_asm); (case k4q => k_asm); (case k5q => k_asm); (case k6q => k_is); (case k7q => k_is); (case k8q => k_room); (case k9q => exact BindsTo.of_eq rfl); (case c5q => decide); (case kBq => exact locs rfl); (case c2q => exact rfl); (case c3q => exact rfl); (case c4q => exact rfl); k_whole)
  intro g' L' h' FG' F' N' B' X' T'
  (try dsimp only)
  (simp only [zipS, List.reverse_cons, List.reverse_nil, List.nil_append, List.cons_append] at F')
  clear B F X N T FG'
  k_fold))
  (k_with "m:sub" => first | exact List.forall_mem_nil _ | (refine List.forall_mem_cons.mpr ⟨by k_mem, ?_⟩; walk_at "sub"))
  (k_with "m:apart" => first | exact List.forall_mem_nil _ | (refine List.forall_mem_cons.mpr ⟨by k_ne, ?_⟩; walk_at "apart"))
  (k_with "m:leave0" => (k_dflt (refine' LeaveS.intro [] ?k1q ?k2q ?k3q (List.forall_mem_nil _) (List.forall_mem_nil _) ?_; (case k1q => k_asm); (case k2q => k_asm); (case k3q => walk_at "sub"); k_whole); intro kF kN kA; (with_reducible rename (∀ (_ : Value) (_ : List (Addr × Obj)) (_ : Heap) (_ : Nat), Fr _ _ _ _ → _) => hret); refine hret _ [] _ _ kF kN kA ⟨rfl, Done.intro ?_⟩; clear kF kN kA hret))
  (k_with "m:leave1" => (k_dflt (refine' LeaveS.intro1 ?k1q ?k2q ?k3q ?k4q ?k5q ?_; (case k1q => k_asm); (case k2q => k_asm); (case k3q => walk_at "sub"); (case k4q => k_mem); (case k5q => walk_at "apart"); k_whole); intro kF kN kA; (with_reducible rename (∀ (_ : Value) (_ : List (Addr × Obj)) (_ : Heap) (_ : Nat), Fr _ _ _ _ → _) => hret); refine hret _ [_] _ _ kF kN kA (Done.intro ?_); clear kF kN kA hret))
  (k_with "m:leave" => walk_at "leave0")
  (k_with "m:LeaveS" => ((try dsimp only); walk_at "leave"))
  (k_with "m:use0" => ((case k1q => k_asm); (case k2q => k_asm); (case k3q => k_asm); (case k4q => k_asm); (case k5q => k_asm); (case kKq => first | exact rfl | assumption); (case ksq => walk_at "sub"); (case kdq => k_room); (case kuq => k_room); k_whole))
  (k_with "m:gotInt" => (intro r9 h9 tk9 F9 N9 hR9; obtain ⟨v9, t9, hv9, e9⟩ := hR9; subst e9; (try k_sweep); (try dsimp only)))
  (k_with "m:gotBool" => (intro r9 h9 tk9 F9 N9 hR9; obtain ⟨v9, hv9, e9⟩ := hR9; subst e9; (try k_sweep); (try dsimp only)))
  (k_with "m:item" => (k_here; k_dflt (refine' item_fast ?Nq ?mq ?aq ?bq ?xq ?_ ?yq; (case Nq => k_asm); (case mq => k_mem); (case aq => decide); (case bq => decide); (case xq => exact rfl); (case yq => with_unfolding_all rfl); k_whole)))
  (k_with "m:subscriptTail Name BinOp ref int" => walk_at "item")
  (k_with "m:subscriptTail Name Name ref int" => walk_at "item")
  (k_with "m:subscriptTail Name Constant ref int" => walk_at "item")
  (k_with "m:eval Name" => (k_here; k_dflt (refine' nameX_L ?Fq ?vq ?_ ?aq ?bq; (case bq => rfl); (case Fq => k_asm); (case aq => rfl); (case vq => rfl); k_whole)))
  (k_with "m:subscriptTail Name Slice str ref" => (k_here; (with_reducible rename Fr _ _ _ _ => F'); (with_reducible rename News _ _ _ _ => N'); (first | ((with_reducible show wpAny _ _ (subscriptTail _ (PySem.Expr.Slice none none none _) _ _) _ _ _); refine slice_strN_nn (hsz := ?hszq) (s := ⟨_, _, _, _, _⟩) F' N' ?_) | ((with_reducible show wpAny _ _ (subscriptTail _ (PySem.Expr.Slice none (some _) none _) _ _) _ _ _); refine slice_strN_ns (hsz := ?hszq) (s := ⟨_, _, _, _, _⟩) F' N' ?_) | ((with_reducible show wpAny _ _ (subscriptTail _ (PySem.Expr.Slice (some _) none none _) _ _) _ _ _); refine slice_strN_sn (hsz := ?hszq) (s := ⟨_, _, _, _, _⟩) F' N' ?_) | ((with_reducible show wpAny _ _ (subscriptTail _ (PySem.Expr.Slice (some _) (some _) none _) _ _) _ _ _); refine slice_strN_ss (hsz := ?hszq) (s := ⟨_, _, _, _, _⟩) F' N' ?_)); (case hszq => exact Short.fits (by assumption)); intro _ _ _ _ _))
  (k_with "m:execs cons" => (dsimp only; walk_at "execs cons"))
  exact trivial
theorem lnP0F1a_1 : True := by
  (k_with "m:call ref" => (k_here; (with_reducible show wpAny _ _ (call (Value.ref 21) [Value.int _ _, Value.int _ _]) _ _ _); k_dflt (refine' TellUse0 (mul_tell _ _ _ _ _ ?okq) ?k1q ?k2q ?k3q ?k4q ?k5q ?kKq ?ksq ?kdq ?kuq ?_; (case okq => exact IntMulOk.of_left (by assumption)); walk_at "use0"); walk_at "gotInt"))
  (k_with "m:call ref" => (k_here; (with_reducible show wpAny _ _ (call (Value.ref 28) [Value.int _ _, Value.int _ _]) _ _ _); k_dflt (refine' TellUse0 (sub_tell _ _ _ _ _) ?k1q ?k2q ?k3q ?k4q ?k5q ?kKq ?ksq ?kdq ?kuq ?_; walk_at "use0"); walk_at "gotInt"))
  exact trivial
theorem lnP0F1b_1 : True := by
  (k_with "m:leave" => walk_at "leave0")
  exact trivial
noncomputable def sg (x : Int) : Int := sgn3 x 0
theorem sg_pos {x : Int} (h : 0 < x) : sg x = 1 := by unfold sg sgn3; rw [if_pos h, if_neg (by omega)]; rfl
theorem sg_neg {x : Int} (h : x < 0) : sg x = -1 := by unfold sg sgn3; rw [if_neg (by omega), if_pos h]; rfl
theorem sg_zero : sg 0 = 0 := by decide
theorem sg_cases (x : Int) : (sg x = 1 ∧ 0 < x) ∨ (sg x = 0 ∧ x = 0) ∨ (sg x = -1 ∧ x < 0) := by
  rcases Int.lt_trichotomy x 0 with h | h | h
  · exact .inr (.inr ⟨sg_neg h, h⟩)
  · exact .inr (.inl ⟨by rw [h]; exact sg_zero, h⟩)
  · exact .inl ⟨sg_pos h, h⟩
theorem sg_mem (x : Int) : sg x ∈ ([1, 0, -1] : List Int) := by
  rcases sg_cases x with h | h | h <;> rw [h.1] <;> decide
theorem sg_mul (a b : Int) : sg (a * b) = sg a * sg b := by
  rcases sg_cases a with ⟨e, h⟩ | ⟨e, h⟩ | ⟨e, h⟩ <;> rcases sg_cases b with ⟨f, k⟩ | ⟨f, k⟩ | ⟨f, k⟩ <;> rw [e, f]
  · exact sg_pos (Int.mul_pos h k)
  · rw [k, Int.mul_zero]; exact sg_zero
  · exact sg_neg (Int.mul_neg_of_pos_of_neg h k)
  · rw [h, Int.zero_mul]; exact sg_zero
  · rw [h, Int.zero_mul]; exact sg_zero
  · rw [h, Int.zero_mul]; exact sg_zero
  · exact sg_neg (Int.mul_neg_of_neg_of_pos h k)
  · rw [k, Int.mul_zero]; exact sg_zero
  · exact sg_pos (Int.mul_pos_of_neg_of_neg h k)
theorem sg_minus (a : Int) : sg (-a) = -sg a := by
  have := sg_mul (-1) a
  rw [show sg (-1) = -1 by decide] at this
  rw [show -a = -1 * a by omega, this]; omega
theorem sg_eq_zero {a : Int} : sg a = 0 ↔ a = 0 := by
  rcases sg_cases a with ⟨e, h⟩ | ⟨e, h⟩ | ⟨e, h⟩ <;> rw [e] <;> constructor <;> intro q <;> omega
noncomputable def chrOf (s : Int) : Nat := if s = 0 then 32 else if 0 < s then 43 else 45
noncomputable def textOf (v : List Int) : PySem.Str := ⟨(v.map chrOf).toArray⟩
noncomputable def okMid : List Int → Bool
  | a :: b :: c :: r => (decide (b ≠ 0) || decide (a * c = -1)) && okMid (b :: c :: r)
  | _ => true
noncomputable def okV (v : List Int) : Bool := decide (v.head? = some 1) && okMid v
noncomputable def allV : Nat → List (List Int)
  | 0 => [[]]
  | n + 1 => (allV n).flatMap fun v => [1 :: v, 0 :: v, (-1) :: v]
noncomputable def goodV : List (List Int) := (allV 6).filter okV
noncomputable def bareV (v : List Int) : List Int := if v.getLast? = some 0 then v.dropLast else v
noncomputable def chgV : Int → List Int → Nat
  | _, [] => 0
  | g, x :: r => if x * g = -1 then chgV x r + 1 else chgV (if x = 0 then g else x) r
noncomputable def changesV (v : List Int) : Int := chgV 1 v
theorem mem_allV : ∀ v : List Int, (∀ s ∈ v, s ∈ ([1, 0, -1] : List Int)) → v ∈ allV v.length
  | [], _ => .head _
  | s :: r, h => by
    have ih := mem_allV r fun x hx => h x (.tail _ hx)
    refine List.mem_flatMap.mpr ⟨r, ih, ?_⟩
    have e := h s (.head _)
    simp only [List.mem_cons, List.not_mem_nil, or_false] at e
    rcases e with rfl | rfl | rfl
    · exact .head _
    · exact .tail _ (.head _)
    · exact .tail _ (.tail _ (.head _))
theorem mem_goodV {s1 s2 s3 s4 s5 : Int} (h1 : s1 ∈ ([1, 0, -1] : List Int)) (h2 : s2 ∈ ([1, 0, -1] : List Int)) (h3 : s3 ∈ ([1, 0, -1] : List Int)) (h4 : s4 ∈ ([1, 0, -1] : List Int)) (h5 : s5 ∈ ([1, 0, -1] : List Int)) (ok : okMid [1, s1, s2, s3, s4, s5] = true) : [1, s1, s2, s3, s4, s5] ∈ goodV := by
  refine List.mem_filter.mpr ⟨mem_allV [1, s1, s2, s3, s4, s5] ?_, ?_⟩
  · intro s hs
    simp only [List.mem_cons, List.not_mem_nil, or_false] at hs
    rcases hs with rfl | rfl | rfl | rfl | rfl | rfl
    · exact .head _
    all_goals assumption
  · unfold okV; rw [ok]; rfl
structure ChainOk (x0 x1 x2 x3 x4 l0 l1 l2 l3 p2 p3 p4 q2 q3 q4 e c : Int) : Prop where
  l0p : 0 < l0
  l1p : 0 < l1
  l2p : 0 < l2
  l3p : 0 < l3
  p2e : p2 = x1 * x0 - l0
  p3e : p3 = x2 * p2 - l1 * x0
  p4e : p4 = x3 * p3 - l2 * p2
  p5e : e = x4 * p4 - l3 * p3
  q2e : q2 = x3 * x4 - l3
  q3e : q3 = x2 * q2 - l2 * x4
  q4e : q4 = x1 * q3 - l1 * q2
  q5e : e = x0 * q4 - l0 * q3
  ce : c = plainC x0 p2 p3 p4 e
noncomputable def RowGood (c e r0 r1 r2 r3 r4 r5 : Int) : Prop := [sg r0, sg r1, sg r2, sg r3, sg r4, sg r5] ∈ goodV ∧ c = changesV [sg r0, sg r1, sg r2, sg r3, sg r4, sg r5] ∧ (r5 = 0 ↔ e = 0)
theorem chain_end {x0 x1 x2 x3 x4 l0 l1 l2 l3 p2 p3 p4 q2 q3 q4 : Int} (p2e : p2 = x1 * x0 - l0) (p3e : p3 = x2 * p2 - l1 * x0) (p4e : p4 = x3 * p3 - l2 * p2) (q2e : q2 = x3 * x4 - l3) (q3e : q3 = x2 * q2 - l2 * x4) (q4e : q4 = x1 * q3 - l1 * q2) :
    x0 * q4 - l0 * q3 = x4 * p4 - l3 * p3 := by
  subst p2e p3e p4e
  subst q2e q3e q4e
  grind
/-- plain reckoning tells the changes of the front row's signs -/
theorem turn_sg {h c g : Int} (hg : g = 1 ∨ g = -1) : turnC h (c, g) = (if sg h * g = -1 then c + 1 else c, if sg h * g = -1 then -g else g) := by
  have e : (h * g < 0) ↔ (sg h * g = -1) := by
    rcases hg with rfl | rfl <;> rcases sg_cases h with ⟨e, k⟩ | ⟨e, k⟩ | ⟨e, k⟩ <;> rw [e] <;> omega
  unfold turnC
  simp only [e]
noncomputable def chC : Int → Int → List Int → Int
  | c, _, [] => c
  | c, g, s :: r => chC (if s * g = -1 then c + 1 else c) (if s * g = -1 then -g else g) r
theorem plain_chC (y1 y2 y3 y4 y5 : Int) : plainC y1 y2 y3 y4 y5 = chC 0 1 [sg y1, sg y2, sg y3, sg y4, sg y5] := by
  have g2 : ∀ {s g : Int}, (g = 1 ∨ g = -1) → ((if s * g = -1 then -g else g) = 1 ∨ (if s * g = -1 then -g else g) = -1) := by
    intro s g hg
    split <;> omega
  unfold plainC
  rw [turn_sg (h := y1) (.inl rfl), turn_sg (h := y2) (g2 (.inl rfl)), turn_sg (h := y3) (g2 (g2 (.inl rfl))), turn_sg (h := y4) (g2 (g2 (g2 (.inl rfl)))), turn_sg (h := y5) (g2 (g2 (g2 (g2 (.inl rfl)))))]
  rfl
noncomputable abbrev tri : List Int := [1, 0, -1]
theorem chC_V : ∀ s1 ∈ tri, ∀ s2 ∈ tri, ∀ s3 ∈ tri, ∀ s4 ∈ tri, ∀ s5 ∈ tri, chC 0 1 [s1, s2, s3, s4, s5] = changesV [1, s1, s2, s3, s4, s5] := by decide +kernel
theorem next_sg {x l a b y : Int} (hl : 0 < l) (e : y = x * b - l * a) : sg b = 0 → sg y = -sg a := by
  intro h
  have hb := sg_eq_zero.mp h
  rw [e, hb, Int.mul_zero, Int.zero_sub, sg_minus, sg_mul, sg_pos hl, Int.one_mul]
/-- the two ways to reckon the end at a cut -/
theorem cut_sg {e l a b x y : Int} (hl : 0 < l) (he : e ≠ 0) (h : e = y * x - l * (a * b)) : sg a * (sg e * sg b) = -1 ∨ (sg e * sg x = sg y ∧ sg y ≠ 0) := by
  rw [← sg_mul, ← sg_mul, ← sg_mul]
  rcases sg_cases (a * (e * b)) with ⟨q, k⟩ | ⟨q, k⟩ | ⟨q, k⟩
  · right
    have h2 : y * (e * x) = e * e + l * (a * (e * b)) := by grind
    have h3 : 0 < e * e := by
      rcases Int.lt_trichotomy e 0 with z | z | z
      · exact Int.mul_pos_of_neg_of_neg z z
      · exact absurd z he
      · exact Int.mul_pos z z
    have h4 : 0 < l * (a * (e * b)) := Int.mul_pos hl k
    have h5 : sg (y * (e * x)) = 1 := sg_pos (by omega)
    rw [sg_mul] at h5
    rcases sg_cases y with ⟨a1, _⟩ | ⟨a1, _⟩ | ⟨a1, _⟩ <;> rcases sg_cases (e * x) with ⟨a2, _⟩ | ⟨a2, _⟩ | ⟨a2, _⟩ <;> rw [a1, a2] at h5 ⊢ <;> revert h5 <;> decide
  · right
    have h2 : y * (e * x) = e * e + l * (a * (e * b)) := by grind
    have h3 : 0 < e * e := by
      rcases Int.lt_trichotomy e 0 with z | z | z
      · exact Int.mul_pos_of_neg_of_neg z z
      · exact absurd z he
      · exact Int.mul_pos z z
    have h4 : l * (a * (e * b)) = 0 := by rw [k, Int.mul_zero]
    have h5 : sg (y * (e * x)) = 1 := sg_pos (by omega)
    rw [sg_mul] at h5
    rcases sg_cases y with ⟨a1, _⟩ | ⟨a1, _⟩ | ⟨a1, _⟩ <;> rcases sg_cases (e * x) with ⟨a2, _⟩ | ⟨a2, _⟩ | ⟨a2, _⟩ <;> rw [a1, a2] at h5 ⊢ <;> revert h5 <;> decide
  · left; exact q
theorem nil_sg {l a b x y : Int} (hl : 0 < l) (h : 0 = y * x - l * (a * b)) : sg y * sg x = sg a * sg b := by
  have e : y * x = l * (a * b) := by omega
  rw [← sg_mul, ← sg_mul, e, sg_mul l, sg_pos hl, Int.one_mul]
noncomputable def okRow (v : List Int) (c : Int) : Bool := okMid v && decide (c = changesV v)
set_option synthInstance.maxSize 4000
set_option synthInstance.maxHeartbeats 400000
/-- all at the level of signs: an end that isn't nought -/
theorem signs_cut : ∀ e ∈ [(1 : Int), -1], ∀ s1 ∈ tri, ∀ s2 ∈ tri, (s1 = 0 → s2 = -1) → ∀ s3 ∈ tri, (s2 = 0 → s3 = -s1) → ∀ s4 ∈ tri, (s3 = 0 → s4 = -s2) → (s4 = 0 → e = -s3) →
    ∀ r1 ∈ tri, (s3 * (e * 1) = -1 ∨ (e * r1 = s4 ∧ s4 ≠ 0)) → ∀ r2 ∈ tri, (r1 = 0 → r2 = -1) → (s2 * (e * r1) = -1 ∨ (e * r2 = s3 ∧ s3 ≠ 0)) → ∀ r3 ∈ tri, (r2 = 0 → r3 = -r1) → (s1 * (e * r2) = -1 ∨ (e * r3 = s2 ∧ s2 ≠ 0)) →
    ∀ r4 ∈ tri, (r3 = 0 → r4 = -r2) → (r4 = 0 → e = -r3) → (1 * (e * r3) = -1 ∨ (e * r4 = s1 ∧ s1 ≠ 0)) →
    ((okMid [1, s1, s2, s3, s4, e] && okRow [1, r1, r2, r3, r4, e] (changesV [1, s1, s2, s3, s4, e])) && ((okRow [1, e * r4, e * r3, e * r2, e * r1, e] (changesV [1, s1, s2, s3, s4, e]) && okRow [1, s1, e * r3, e * r2, e * r1, e] (changesV [1, s1, s2, s3, s4, e])) &&
      (okRow [1, s1, s2, e * r2, e * r1, e] (changesV [1, s1, s2, s3, s4, e]) && okRow [1, s1, s2, s3, e * r1, e] (changesV [1, s1, s2, s3, s4, e])))) = true := by decide +kernel
theorem signs_nil : ∀ s1 ∈ tri, ∀ s2 ∈ tri, (s1 = 0 → s2 = -1) → ∀ s3 ∈ tri, (s2 = 0 → s3 = -s1) → ∀ s4 ∈ tri, (s3 = 0 → s4 = -s2) → (s4 = 0 → 0 = -s3) →
    ∀ r1 ∈ tri, (s4 * r1 = s3 * 1) → ∀ r2 ∈ tri, (r1 = 0 → r2 = -1) → (s3 * r2 = s2 * r1) → ∀ r3 ∈ tri, (r2 = 0 → r3 = -r1) → (s2 * r3 = s1 * r2) →
    ∀ r4 ∈ tri, (r3 = 0 → r4 = -r2) → (r4 = 0 → 0 = -r3) → (s1 * r4 = 1 * r3) →
    (okMid [1, s1, s2, s3, s4, 0] && okRow [1, r1, r2, r3, r4, 0] (changesV [1, s1, s2, s3, s4, 0])) = true := by decide +kernel
end
section
theorem lnP1_0 : True := by k_with_none; exact trivial
theorem lnP1p_1 : True := by
  (k_with "m:tell" => (
  unfold Tell
  k_fill
  intro mean9 mg9 mb9 gd9 cn9 cs9 a9 ccd9 cl9 outer9 A9 base9 h9 L9 m9 news9 s9 Q9 E9 B F X N T hk hsub hret
  refine wpAny_call ?_
  k_dflt (refine' enterS ?k1q ?k2q ?k3q ?k4q ?k5q hsub ?kAq ?kFq ?kKq ?k6q ?k7q ?k8q ?k9q ?kBq ?_ ?c5q ?c2q ?c3q ?c4q; (case kAq => exact rfl); (case kFq => exact rfl); (case kKq => assumption); (case k1q => k_asm); (case k2q => k_asm); (case k3q => k_asm); (case k4q => k_asm); (case k5q => k_asm); (case k6q => k_is); (case k7q => k_is); (case k8q => k_room); (case k9q => exact BindsTo.of_eq rfl); (case c5q => decide); (case kBq => exact locs rfl); (case c2q => exact rfl); (case c3q => exact rfl); (case c4q => exact rfl); k_whole)
  intro g' L' h' FG' F' N' B' X' T'
  (try dsimp only)
  (simp only [zipS, List.reverse_cons, List.reverse_nil, List.nil_append, List.cons_append] at F')
  clear B F X N T FG'
  k_fold))
  (k_with "m:sub" => first | exact List.forall_mem_nil _ | (refine List.forall_mem_cons.mpr ⟨by k_mem, ?_⟩; walk_at "sub"))
  (k_with "m:apart" => first | exact List.forall_mem_nil _ | (refine List.forall_mem_cons.mpr ⟨by k_ne, ?_⟩; walk_at "apart"))
  (k_with "m:leave0" => (k_dflt (refine' LeaveS.intro [] ?k1q ?k2q ?k3q (List.forall_mem_nil _) (List.forall_mem_nil _) ?_; (case k1q => k_asm); (case k2q => k_asm); (case k3q => walk_at "sub"); k_whole); intro kF kN kA; (with_reducible rename (∀ (_ : Value) (_ : List (Addr × Obj)) (_ : Heap) (_ : Nat), Fr _ _ _ _ → _) => hret); refine hret _ [] _ _ kF kN kA ⟨rfl, Done.intro ?_⟩; clear kF kN kA hret))
  (k_with "m:leave1" => (k_dflt (refine' LeaveS.intro1 ?k1q ?k2q ?k3q ?k4q ?k5q ?_; (case k1q => k_asm); (case k2q => k_asm); (case k3q => walk_at "sub"); (case k4q => k_mem); (case k5q => walk_at "apart"); k_whole); intro kF kN kA; (with_reducible rename (∀ (_ : Value) (_ : List (Addr × Obj)) (_ : Heap) (_ : Nat), Fr _ _ _ _ → _) => hret); refine hret _ [_] _ _ kF kN kA (Done.intro ?_); clear kF kN kA hret))
  (k_with "m:leave" => walk_at "leave0")
  (k_with "m:LeaveS" => ((try dsimp only); walk_at "leave"))
  (k_with "m:use0" => ((case k1q => k_asm); (case k2q => k_asm); (case k3q => k_asm); (case k4q => k_asm); (case k5q => k_asm); (case kKq => first | exact rfl | assumption); (case ksq => walk_at "sub"); (case kdq => k_room); (case kuq => k_room); k_whole))
  (k_with "m:gotInt" => (intro r9 h9 tk9 F9 N9 hR9; obtain ⟨v9, t9, hv9, e9⟩ := hR9; subst e9; (try k_sweep); (try dsimp only)))
  (k_with "m:gotBool" => (intro r9 h9 tk9 F9 N9 hR9; obtain ⟨v9, hv9, e9⟩ := hR9; subst e9; (try k_sweep); (try dsimp only)))
  (k_with "m:item" => (k_here; k_dflt (refine' item_fast ?Nq ?mq ?aq ?bq ?xq ?_ ?yq; (case Nq => k_asm); (case mq => k_mem); (case aq => decide); (case bq => decide); (case xq => exact rfl); (case yq => with_unfolding_all rfl); k_whole)))
  (k_with "m:subscriptTail Name BinOp ref int" => walk_at "item")
  (k_with "m:subscriptTail Name Name ref int" => walk_at "item")
  (k_with "m:subscriptTail Name Constant ref int" => walk_at "item")
  (k_with "m:eval Name" => (k_here; k_dflt (refine' nameX_L ?Fq ?vq ?_ ?aq ?bq; (case bq => rfl); (case Fq => k_asm); (case aq => rfl); (case vq => rfl); k_whole)))
  (k_with "m:subscriptTail Name Slice str ref" => (k_here; (with_reducible rename Fr _ _ _ _ => F'); (with_reducible rename News _ _ _ _ => N'); (first | ((with_reducible show wpAny _ _ (subscriptTail _ (PySem.Expr.Slice none none none _) _ _) _ _ _); refine slice_strN_nn (hsz := ?hszq) (s := ⟨_, _, _, _, _⟩) F' N' ?_) | ((with_reducible show wpAny _ _ (subscriptTail _ (PySem.Expr.Slice none (some _) none _) _ _) _ _ _); refine slice_strN_ns (hsz := ?hszq) (s := ⟨_, _, _, _, _⟩) F' N' ?_) | ((with_reducible show wpAny _ _ (subscriptTail _ (PySem.Expr.Slice (some _) none none _) _ _) _ _ _); refine slice_strN_sn (hsz := ?hszq) (s := ⟨_, _, _, _, _⟩) F' N' ?_) | ((with_reducible show wpAny _ _ (subscriptTail _ (PySem.Expr.Slice (some _) (some _) none _) _ _) _ _ _); refine slice_strN_ss (hsz := ?hszq) (s := ⟨_, _, _, _, _⟩) F' N' ?_)); (case hszq => exact Short.fits (by assumption)); intro _ _ _ _ _))
  (k_with "m:execs cons" => (dsimp only; walk_at "execs cons"))
  exact trivial
theorem lnP1F1a_1 : True := by
  (k_with "m:call ref" => (k_here; (with_reducible show wpAny _ _ (call (Value.ref 21) [Value.int _ _, Value.int _ _]) _ _ _); k_dflt (refine' TellUse0 (mul_tell _ _ _ _ _ ?okq) ?k1q ?k2q ?k3q ?k4q ?k5q ?kKq ?ksq ?kdq ?kuq ?_; (case okq => exact IntMulOk.of_left (by assumption)); walk_at "use0"); walk_at "gotInt"))
  (k_with "m:call ref" => (k_here; (with_reducible show wpAny _ _ (call (Value.ref 28) [Value.int _ _, Value.int _ _]) _ _ _); k_dflt (refine' TellUse0 (sub_tell _ _ _ _ _) ?k1q ?k2q ?k3q ?k4q ?k5q ?kKq ?ksq ?kdq ?kuq ?_; walk_at "use0"); walk_at "gotInt"))
  exact trivial
theorem lnP1F1b_1 : True := by
  (k_with "m:leave" => walk_at "leave0")
  exact trivial
theorem okRow.out {s1 s2 s3 s4 s5 c : Int} (h : okRow [1, s1, s2, s3, s4, s5] c = true) : okMid [1, s1, s2, s3, s4, s5] = true ∧ c = changesV [1, s1, s2, s3, s4, s5] := by
  unfold okRow at h
  rw [Bool.and_eq_true, decide_eq_true_eq] at h
  exact h
theorem row_good {c e r1 r2 r3 r4 r5 s1 s2 s3 s4 s5 : Int} (e1 : sg r1 = s1) (e2 : sg r2 = s2) (e3 : sg r3 = s3) (e4 : sg r4 = s4) (e5 : sg r5 = s5) (hm : okMid [1, s1, s2, s3, s4, s5] = true) (hc : c = changesV [1, s1, s2, s3, s4, s5]) (hz : r5 = 0 ↔ e = 0) : RowGood c e 1 r1 r2 r3 r4 r5 := by
  have o : sg 1 = 1 := by decide
  unfold RowGood
  rw [o, e1, e2, e3, e4, e5]
  refine ⟨mem_goodV ?_ ?_ ?_ ?_ ?_ hm, hc, hz⟩
  · rw [← e1]; exact sg_mem _
  · rw [← e2]; exact sg_mem _
  · rw [← e3]; exact sg_mem _
  · rw [← e4]; exact sg_mem _
  · rw [← e5]; exact sg_mem _
section
variable {x0 x1 x2 x3 x4 l0 l1 l2 l3 p2 p3 p4 q2 q3 q4 e c : Int}
theorem chain_c (h : ChainOk x0 x1 x2 x3 x4 l0 l1 l2 l3 p2 p3 p4 q2 q3 q4 e c) : c = changesV [1, sg x0, sg p2, sg p3, sg p4, sg e] := by
  rw [h.ce, plain_chC, chC_V _ (sg_mem _) _ (sg_mem _) _ (sg_mem _) _ (sg_mem _) _ (sg_mem _)]
theorem cut4 (h : ChainOk x0 x1 x2 x3 x4 l0 l1 l2 l3 p2 p3 p4 q2 q3 q4 e c) : e = p4 * x4 - l3 * (p3 * 1) := by
  have a := h.p5e; grind
theorem cut1 (h : ChainOk x0 x1 x2 x3 x4 l0 l1 l2 l3 p2 p3 p4 q2 q3 q4 e c) : e = x0 * q4 - l0 * (1 * q3) := by
  have a := h.q5e; grind
theorem cut3 (h : ChainOk x0 x1 x2 x3 x4 l0 l1 l2 l3 p2 p3 p4 q2 q3 q4 e c) : e = p3 * q2 - l2 * (p2 * x4) := by
  have a := h.p5e; have b := h.p4e; have d := h.q2e; grind
theorem cut2 (h : ChainOk x0 x1 x2 x3 x4 l0 l1 l2 l3 p2 p3 p4 q2 q3 q4 e c) : e = p2 * q3 - l1 * (x0 * q2) := by
  have a := h.q5e; have b := h.q4e; have d := h.p2e; grind
theorem rows_cut (h : ChainOk x0 x1 x2 x3 x4 l0 l1 l2 l3 p2 p3 p4 q2 q3 q4 e c) (he : e ≠ 0) :
    RowGood c e 1 x0 p2 p3 p4 e ∧ RowGood c e 1 x4 q2 q3 q4 e ∧ RowGood c e 1 (e * q4) (e * q3) (e * q2) (e * x4) (e * 1) ∧ RowGood c e 1 x0 (e * q3) (e * q2) (e * x4) (e * 1) ∧ RowGood c e 1 x0 p2 (e * q2) (e * x4) (e * 1) ∧ RowGood c e 1 x0 p2 p3 (e * x4) (e * 1) := by
  have o : sg 1 = 1 := by decide
  have hc := chain_c h
  have ee : sg e ∈ [(1 : Int), -1] := by
    rcases sg_cases e with ⟨q, k⟩ | ⟨q, k⟩ | ⟨q, k⟩
    · rw [q]; decide
    · exact absurd k he
    · rw [q]; decide
  have f1 : sg x0 = 0 → sg p2 = -1 := fun z => by have := next_sg (x := x1) (a := 1) (l := l0) (b := x0) (y := p2) h.l0p (by have := h.p2e; omega) z; rw [o] at this; exact this
  have f2 := next_sg h.l1p h.p3e
  have f3 := next_sg h.l2p h.p4e
  have f4 := next_sg h.l3p h.p5e
  have g1 : sg x4 = 0 → sg q2 = -1 := fun z => by have := next_sg (x := x3) (a := 1) (l := l3) (b := x4) (y := q2) h.l3p (by have := h.q2e; omega) z; rw [o] at this; exact this
  have g2 := next_sg h.l2p h.q3e
  have g3 := next_sg h.l1p h.q4e
  have g4 := next_sg h.l0p h.q5e
  have c4 := cut_sg h.l3p he (cut4 h)
  have c3 := cut_sg h.l2p he (cut3 h)
  have c2 := cut_sg h.l1p he (cut2 h)
  have c1 := cut_sg h.l0p he (cut1 h)
  rw [o] at c4 c1
  have all := signs_cut _ ee _ (sg_mem x0) _ (sg_mem p2) f1 _ (sg_mem p3) f2 _ (sg_mem p4) f3 f4 _ (sg_mem x4) c4 _ (sg_mem q2) g1 c3 _ (sg_mem q3) g2 c2 _ (sg_mem q4) g3 g4 c1
  simp only [Bool.and_eq_true] at all
  obtain ⟨⟨a1, a2⟩, ⟨a3, a4⟩, a5, a6⟩ := all
  rw [← hc] at a2 a3 a4 a5 a6
  have b2 := okRow.out a2
  have b3 := okRow.out a3
  have b4 := okRow.out a4
  have b5 := okRow.out a5
  have b6 := okRow.out a6
  have z : e * 1 = 0 ↔ e = 0 := by omega
  have se : sg (e * 1) = sg e := by rw [Int.mul_one]
  exact ⟨row_good rfl rfl rfl rfl rfl a1 hc Iff.rfl, row_good rfl rfl rfl rfl rfl b2.1 b2.2 Iff.rfl, row_good (sg_mul _ _) (sg_mul _ _) (sg_mul _ _) (sg_mul _ _) se b3.1 b3.2 z, row_good rfl (sg_mul _ _) (sg_mul _ _) (sg_mul _ _) se b4.1 b4.2 z,
    row_good rfl rfl (sg_mul _ _) (sg_mul _ _) se b5.1 b5.2 z, row_good rfl rfl rfl (sg_mul _ _) se b6.1 b6.2 z⟩
theorem rows_nil (h : ChainOk x0 x1 x2 x3 x4 l0 l1 l2 l3 p2 p3 p4 q2 q3 q4 e c) (he : e = 0) : RowGood c e 1 x0 p2 p3 p4 e ∧ RowGood c e 1 x4 q2 q3 q4 e := by
  have o : sg 1 = 1 := by decide
  have hc := chain_c h
  have se : sg e = 0 := sg_eq_zero.mpr he
  have f1 : sg x0 = 0 → sg p2 = -1 := fun z => by have := next_sg (x := x1) (a := 1) (l := l0) (b := x0) (y := p2) h.l0p (by have := h.p2e; omega) z; rw [o] at this; exact this
  have f2 := next_sg h.l1p h.p3e
  have f3 := next_sg h.l2p h.p4e
  have f4 := next_sg h.l3p h.p5e
  have g1 : sg x4 = 0 → sg q2 = -1 := fun z => by have := next_sg (x := x3) (a := 1) (l := l3) (b := x4) (y := q2) h.l3p (by have := h.q2e; omega) z; rw [o] at this; exact this
  have g2 := next_sg h.l2p h.q3e
  have g3 := next_sg h.l1p h.q4e
  have g4 := next_sg h.l0p h.q5e
  have c4 := nil_sg h.l3p (he ▸ cut4 h)
  have c3 := nil_sg h.l2p (he ▸ cut3 h)
  have c2 := nil_sg h.l1p (he ▸ cut2 h)
  have c1 := nil_sg h.l0p (he ▸ cut1 h)
  rw [o] at c4 c1
  rw [se] at f4 g4 hc
  have all := signs_nil _ (sg_mem x0) _ (sg_mem p2) f1 _ (sg_mem p3) f2 _ (sg_mem p4) f3 f4 _ (sg_mem x4) c4 _ (sg_mem q2) g1 c3 _ (sg_mem q3) g2 c2 _ (sg_mem q4) g3 g4 c1
  simp only [Bool.and_eq_true] at all
  obtain ⟨a1, a2⟩ := all
  rw [← hc] at a2
  have b2 := okRow.out a2
  exact ⟨row_good rfl rfl rfl rfl se a1 hc Iff.rfl, row_good rfl rfl rfl rfl se b2.1 b2.2 Iff.rfl⟩
end
end
section
theorem lnPe_0 : True := by k_with_none; exact trivial
theorem lnPep_1 : True := by
  (k_with "m:tell" => (
  unfold Tell
  k_fill
  intro mean9 mg9 mb9 gd9 cn9 cs9 a9 ccd9 cl9 outer9 A9 base9 h9 L9 m9 news9 s9 Q9 E9 B F X N T hk hsub hret
  refine wpAny_call ?_
  k_dflt (refine' enterS ?k1q ?k2q ?k3q ?k4q ?k5q hsub ?kAq ?kFq ?kKq ?k6q ?k7q ?k8q ?k9q ?kBq ?_ ?c5q ?c2q ?c3q ?c4q; (case kAq => exact rfl); (case kFq => exact rfl); (case kKq => assumption); (case k1q => k_asm); (case k2q => k_asm); (case k3q => k_asm); (case k4q => k_asm); (case k5q => k_asm); (case k6q => k_is); (case k7q => k_is); (case k8q => k_room); (case k9q => exact BindsTo.of_eq rfl); (case c5q => decide); (case kBq => exact locs rfl); (case c2q => exact rfl); (case c3q => exact rfl); (case c4q => exact rfl); k_whole)
  intro g' L' h' FG' F' N' B' X' T'
  (try dsimp only)
  (simp only [zipS, List.reverse_cons, List.reverse_nil, List.nil_append, List.cons_append] at F')
  clear B F X N T FG'
  k_fold))
  (k_with "m:sub" => first | exact List.forall_mem_nil _ | (refine List.forall_mem_cons.mpr ⟨by k_mem, ?_⟩; walk_at "sub"))
  (k_with "m:apart" => first | exact List.forall_mem_nil _ | (refine List.forall_mem_cons.mpr ⟨by k_ne, ?_⟩; walk_at "apart"))
  (k_with "m:leave0" => (k_dflt (refine' LeaveS.intro [] ?k1q ?k2q ?k3q (List.forall_mem_nil _) (List.forall_mem_nil _) ?_; (case k1q => k_asm); (case k2q => k_asm); (case k3q => walk_at "sub"); k_whole); intro kF kN kA; (with_reducible rename (∀ (_ : Value) (_ : List (Addr × Obj)) (_ : Heap) (_ : Nat), Fr _ _ _ _ → _) => hret); refine hret _ [] _ _ kF kN kA ⟨rfl, Done.intro ?_⟩; clear kF kN kA hret))
  (k_with "m:leave1" => (k_dflt (refine' LeaveS.intro1 ?k1q ?k2q ?k3q ?k4q ?k5q ?_; (case k1q => k_asm); (case k2q => k_asm); (case k3q => walk_at "sub"); (case k4q => k_mem); (case k5q => walk_at "apart"); k_whole); intro kF kN kA; (with_reducible rename (∀ (_ : Value) (_ : List (Addr × Obj)) (_ : Heap) (_ : Nat), Fr _ _ _ _ → _) => hret); refine hret _ [_] _ _ kF kN kA (Done.intro ?_); clear kF kN kA hret))
  (k_with "m:leave" => walk_at "leave0")
  (k_with "m:LeaveS" => ((try dsimp only); walk_at "leave"))
  (k_with "m:use0" => ((case k1q => k_asm); (case k2q => k_asm); (case k3q => k_asm); (case k4q => k_asm); (case k5q => k_asm); (case kKq => first | exact rfl | assumption); (case ksq => walk_at "sub"); (case kdq => k_room); (case kuq => k_room); k_whole))
  (k_with "m:gotInt" => (intro r9 h9 tk9 F9 N9 hR9; obtain ⟨v9, t9, hv9, e9⟩ := hR9; subst e9; (try k_sweep); (try dsimp only)))
  (k_with "m:gotBool" => (intro r9 h9 tk9 F9 N9 hR9; obtain ⟨v9, hv9, e9⟩ := hR9; subst e9; (try k_sweep); (try dsimp only)))
  (k_with "m:item" => (k_here; k_dflt (refine' item_fast ?Nq ?mq ?aq ?bq ?xq ?_ ?yq; (case Nq => k_asm); (case mq => k_mem); (case aq => decide); (case bq => decide); (case xq => exact rfl); (case yq => with_unfolding_all rfl); k_whole)))
  (k_with "m:subscriptTail Name BinOp ref int" => walk_at "item")
  (k_with "m:subscriptTail Name Name ref int" => walk_at "item")
  (k_with "m:subscriptTail Name Constant ref int" => walk_at "item")
  (k_with "m:eval Name" => (k_here; k_dflt (refine' nameX_L ?Fq ?vq ?_ ?aq ?bq; (case bq => rfl); (case Fq => k_asm); (case aq => rfl); (case vq => rfl); k_whole)))
  (k_with "m:subscriptTail Name Slice str ref" => (k_here; (with_reducible rename Fr _ _ _ _ => F'); (with_reducible rename News _ _ _ _ => N'); (first | ((with_reducible show wpAny _ _ (subscriptTail _ (PySem.Expr.Slice none none none _) _ _) _ _ _); refine slice_strN_nn (hsz := ?hszq) (s := ⟨_, _, _, _, _⟩) F' N' ?_) | ((with_reducible show wpAny _ _ (subscriptTail _ (PySem.Expr.Slice none (some _) none _) _ _) _ _ _); refine slice_strN_ns (hsz := ?hszq) (s := ⟨_, _, _, _, _⟩) F' N' ?_) | ((with_reducible show wpAny _ _ (subscriptTail _ (PySem.Expr.Slice (some _) none none _) _ _) _ _ _); refine slice_strN_sn (hsz := ?hszq) (s := ⟨_, _, _, _, _⟩) F' N' ?_) | ((with_reducible show wpAny _ _ (subscriptTail _ (PySem.Expr.Slice (some _) (some _) none _) _ _) _ _ _); refine slice_strN_ss (hsz := ?hszq) (s := ⟨_, _, _, _, _⟩) F' N' ?_)); (case hszq => exact Short.fits (by assumption)); intro _ _ _ _ _))
  (k_with "m:execs cons" => (dsimp only; walk_at "execs cons"))
  exact trivial
theorem lnPeF1a_1 : True := by
  (k_with "m:call ref" => (k_here; (with_reducible show wpAny _ _ (call (Value.ref 21) [Value.int _ _, Value.int _ _]) _ _ _); k_dflt (refine' TellUse0 (mul_tell _ _ _ _ _ ?okq) ?k1q ?k2q ?k3q ?k4q ?k5q ?kKq ?ksq ?kdq ?kuq ?_; (case okq => exact IntMulOk.of_left (by assumption)); walk_at "use0"); walk_at "gotInt"))
  (k_with "m:call ref" => (k_here; (with_reducible show wpAny _ _ (call (Value.ref 28) [Value.int _ _, Value.int _ _]) _ _ _); k_dflt (refine' TellUse0 (sub_tell _ _ _ _ _) ?k1q ?k2q ?k3q ?k4q ?k5q ?kKq ?ksq ?kdq ?kuq ?_; walk_at "use0"); walk_at "gotInt"))
  exact trivial
theorem lnPeF1b_1 : True := by
  (k_with "m:leave" => walk_at "leave0")
  exact trivial
theorem lnPeF2_1 : True := by
  (k_with "m:short" => first | assumption | exact Short.of (by decide +kernel))
  (k_with "m:splitok" => first | assumption | exact SplitOk.of (by decide +kernel))
  (k_with "m:call ref" => (k_here; (with_reducible show wpAny _ _ (call (Value.ref 56) [Value.str _ _, Value.str _ _]) _ _ _); k_dflt (refine' TellUse0 (em_tell _ _ _ _ _ ?swq ?sgq ?soq) ?k1q ?k2q ?k3q ?k4q ?k5q ?kKq ?ksq ?kdq ?kuq ?_; (case swq => walk_at "short"); (case sgq => walk_at "short"); (case soq => walk_at "splitok"); walk_at "use0"); walk_at "gotBool"))
  exact trivial
open PySem.Builtin PySem.Builtin.Str
/-- a quicker way to reckon where a text stands in another: over lists -/
noncomputable def subF (s b : List Nat) (i : Nat) : Bool := ((s.drop i).take b.length) == b
theorem subAt_F (s b : PySem.Str) (i : Nat) : subAt s b i = subF s.cps.toList b.cps.toList i := by
  unfold subAt subF
  rw [Bool.eq_iff_iff, beq_iff_eq, beq_iff_eq, ← Array.toList_inj, Array.toList_extract, List.extract_eq_take_drop]
  have e : i + b.length - i = b.cps.toList.length := by
    show i + b.cps.size - i = _
    rw [Array.length_toList]; omega
  rw [e]
noncomputable def occF (s b : List Nat) (hi limit : Nat) : Nat → Nat → Nat → Nat → List Nat
  | 0, _, _, _ => []
  | k + 1, i, cnt, free => if (((Nat.blt cnt limit && Nat.ble free i) && Nat.ble (i + b.length) hi) && subF s b i) = true then i :: occF s b hi limit k (i + 1) (cnt + 1) (i + b.length) else occF s b hi limit k (i + 1) cnt free
theorem occF_go (s b : PySem.Str) (hi limit : Nat) : ∀ (k i : Nat) (found : Array Nat) (free : Nat),
    (forIn (List.range' i k) (found, free) (PySem.StrLaws.occBody s b hi limit)).run.fst.toList = found.toList ++ occF s.cps.toList b.cps.toList hi limit k i found.size free
  | 0, i, found, free => by simp [occF]
  | k + 1, i, found, free => by
    have hb : b.cps.toList.length = b.length := Array.length_toList ..
    have hc : ((((Nat.blt found.size limit && Nat.ble free i) && Nat.ble (i + b.cps.toList.length) hi) && subF s.cps.toList b.cps.toList i) = true) ↔ (((found.size < limit ∧ free ≤ i) ∧ i + b.length ≤ hi) ∧ subAt s b i = true) := by
      rw [hb, ← subAt_F]
      simp only [Bool.and_eq_true, Nat.ble_eq, Nat.blt_eq]
    rw [List.range'_succ, List.forIn_cons]
    unfold PySem.StrLaws.occBody occF
    by_cases h : ((found.size < limit ∧ free ≤ i) ∧ i + b.length ≤ hi) ∧ subAt s b i = true
    · rw [if_pos h, if_pos (hc.mpr h)]
      have ih := occF_go s b hi limit k (i + 1) (found.push i) (i + b.length)
      show (forIn (List.range' (i + 1) k) (found.push i, i + b.length) (PySem.StrLaws.occBody s b hi limit)).run.fst.toList = _
      rw [ih, Array.toList_push, Array.size_push, List.append_assoc, hb]
      rfl
    · rw [if_neg h, if_neg fun q => h (hc.mp q)]
      exact occF_go s b hi limit k (i + 1) found free
theorem occ_F (s b : PySem.Str) (lo hi limit : Nat) : occurrences s b lo hi limit = occF s.cps.toList b.cps.toList hi limit (hi + 1 - lo) lo 0 lo := by
  rw [PySem.StrLaws.occ_eq, occF_go]; rfl
noncomputable def find4F (x y : PySem.Str) (i j : Int) : Int := match occF x.cps.toList y.cps.toList (min (fromIndex x.length j) x.length) 1 ((min (fromIndex x.length j) x.length) + 1 - (fromIndex x.length i)) (fromIndex x.length i) 0 (fromIndex x.length i) with | k :: _ => (k : Int) | [] => -1
theorem find4_F (x y : PySem.Str) (i j : Int) : find4 x y i j = find4F x y i j := by
  unfold find4 find4F
  rw [occ_F]
  all_goals (generalize occF _ _ _ _ _ _ _ _ = l; cases l <;> rfl)
noncomputable def startsF (x y : PySem.Str) : Bool := Nat.ble y.length x.length && subF x.cps.toList y.cps.toList 0
theorem starts_F (x y : PySem.Str) : Txt.startswith x y = startsF x y := by
  unfold Txt.startswith startsF
  rw [subAt_F, Nat.zero_add]
  congr 1
  rw [Bool.eq_iff_iff, decide_eq_true_eq, Nat.ble_eq]
noncomputable def endsF (x y : PySem.Str) : Bool := Nat.ble y.length x.length && subF x.cps.toList y.cps.toList (x.length - y.length)
theorem ends_F (x y : PySem.Str) : Txt.endswith x y = endsF x y := by
  unfold Txt.endswith endsF
  rw [subAt_F, Nat.zero_add]
  congr 1
  rw [Bool.eq_iff_iff, decide_eq_true_eq, Nat.ble_eq]
noncomputable def emLoopF (got : PySem.Str) : List PySem.Str → Int → Int → Bool
  | [], _, _ => true
  | w :: ws, st, e => match find4F got w st e with | .negSucc _ => false | .ofNat k => emLoopF got ws (Int.ofNat (k + w.length)) e
theorem emLoop_F (got : PySem.Str) : ∀ (ws : List PySem.Str) (st e : Int), emLoop got ws st e = emLoopF got ws st e
  | [], _, _ => rfl
  | w :: ws, st, e => by
    unfold emLoop emLoopF
    rw [find4_F]
    cases h : find4F got w st e with
    | ofNat k =>
      rw [if_neg (by show ¬ ((k : Int) < 0); omega), emLoop_F got ws]
      rfl
    | negSucc k => rw [if_pos (by omega)]
noncomputable def emEndF (got : PySem.Str) (ws : List PySem.Str) (st e : Int) : Bool := if st > e then false else emLoopF got ws st e
noncomputable def emTailF (got w0 : PySem.Str) (vm : List PySem.Str) (wl : PySem.Str) (keep : Bool) (st : Int) : Bool :=
  if wl.length = 0 then emEndF got (if keep then w0 :: (vm ++ [wl]) else vm ++ [wl]) st got.length else (if endsF got wl = true then emEndF got (if keep then w0 :: vm else vm) st (got.length - wl.length) else false)
noncomputable def emWF (got w0 : PySem.Str) (vm : List PySem.Str) (wl : PySem.Str) : Bool :=
  if w0.length = 0 then emTailF got w0 vm wl true 0 else (if startsF got w0 = true then emTailF got w0 vm wl false w0.length else false)
noncomputable def emAtF (got : PySem.Str) : List PySem.Str → Bool
  | [] => true
  | w0 :: r => emWF got w0 r.dropLast (r.getLastD "")
theorem len_ne (x : PySem.Str) : (((x.length : Int) != 0) = true) ↔ ¬ x.length = 0 := by rw [bne_iff_ne]; exact ⟨fun h q => h (by rw [q]; rfl), fun h q => h (by omega)⟩
theorem emTail_F (got w0 : PySem.Str) (vm : List PySem.Str) (wl : PySem.Str) (keep : Bool) (st : Int) : emTail got w0 vm wl keep st = emTailF got w0 vm wl keep st := by
  unfold emTail emTailF emEnd emEndF
  simp only [emLoop_F, ends_F]
  by_cases h : wl.length = 0
  · rw [if_pos h, if_neg (by rw [len_ne]; exact fun q => q h)]
  · rw [if_neg h, if_pos ((len_ne wl).mpr h)]
theorem emAt_F (got : PySem.Str) (l : List PySem.Str) : emAt got l = emAtF got l := by
  cases l with
  | nil => rfl
  | cons w0 r =>
    unfold emAt emAtF emW emWF
    simp only [emTail_F, starts_F]
    by_cases h : w0.length = 0
    · rw [if_pos h, if_neg (by rw [len_ne]; exact fun q => q h)]
    · rw [if_neg h, if_pos ((len_ne w0).mpr h)]
theorem kind_pos (x : PySem.Str) : 1 ≤ PySem.Builtin.Str.strKind x := by unfold PySem.Builtin.Str.strKind; split <;> (try split) <;> omega
noncomputable def splitF (x : PySem.Str) : List PySem.Str :=
  match occF x.cps.toList [46, 46, 46] x.length (x.length + 1) (x.length + 1) 0 0 0 with
  | [] => [x]
  | o :: r => partsBetween x (o :: r) 3
theorem dots3 : ("..." : PySem.Str).cps.toList = [46, 46, 46] := by decide
theorem kind3 : PySem.Builtin.Str.strKind ("..." : PySem.Str) = 1 := by decide +kernel
theorem len3 : ("..." : PySem.Str).length = 3 := by decide
theorem occF_short (s b : List Nat) (hi limit : Nat) : ∀ (k i cnt free : Nat), hi < b.length → occF s b hi limit k i cnt free = []
  | 0, _, _, _, _ => rfl
  | k + 1, i, cnt, free, h => by
    unfold occF
    rw [if_neg]
    · exact occF_short s b hi limit k (i + 1) cnt free h
    · simp only [Bool.and_eq_true, Nat.ble_eq, Nat.blt_eq]
      omega
theorem split_F (x : PySem.Str) : Txt.split x "..." = splitF x := by
  unfold Txt.split splitF
  rw [occ_F, dots3, kind3, len3, Nat.sub_zero]
  have k := kind_pos x
  have hk : decide (PySem.Builtin.Str.strKind x < 1) = false := decide_eq_false (by omega)
  rw [hk, Bool.or_false]
  by_cases h : x.length < 3
  · rw [if_pos (decide_eq_true h), occF_short _ _ _ _ _ _ _ _ (by simpa using h)]
  · rw [if_neg (by simpa using h)]
    cases occF x.cps.toList [46, 46, 46] x.length (x.length + 1) (x.length + 1) 0 0 0 with
    | nil => rfl
    | cons o r => rfl
noncomputable def dotsF (x : PySem.Str) : Bool := (occF x.cps.toList [46, 46, 46] x.length 1 (x.length + 1) 0 0 0).isEmpty
theorem dots_F (x : PySem.Str) : (occurrences x "..." 0 x.length 1).isEmpty = dotsF x := by
  unfold dotsF
  rw [occ_F, dots3, Nat.sub_zero]
noncomputable def emF (want got : PySem.Str) : Bool := if dotsF want = true then decide (want.cps.toList = got.cps.toList) else emAtF got (splitF want)
theorem em_F (want got : PySem.Str) : em want got = emF want got := by
  unfold em emF
  rw [dots_F]
  split
  · rw [Bool.eq_iff_iff, beq_iff_eq, decide_eq_true_eq, Array.toList_inj]
    exact ⟨fun h => by rw [h], fun h => by cases want; cases got; simp only at h; rw [h]⟩
  · rw [split_F, emAt_F]
noncomputable def wOkF (w : PySem.Str) (d : Bool) (bare : PySem.Str) : Bool :=
  decide (w.length ≤ 200) && (if dotsF w = true then (decide (w.cps.toList = bare.cps.toList) == d) else (let p := splitF w; (decide (2 ≤ p.length) && decide (p.length ≤ 200)) && (emAtF bare p == d)))
theorem wOk_F {w : PySem.Str} {d : Bool} {bare : PySem.Str} (h : wOkF w d bare = true) : wOk w d bare = true := by
  unfold wOkF at h
  unfold wOk splitOkB
  rw [dots_F, split_F, em_F]
  unfold emF
  by_cases z : dotsF w = true
  · rw [if_pos z] at h ⊢
    rw [z]
    simp only [Bool.and_eq_true, beq_iff_eq] at h
    rw [h.1, h.2]
    simp
  · have z' : dotsF w = false := by simpa using z
    rw [if_neg z] at h ⊢
    rw [z']
    simp only [Bool.and_eq_true, beq_iff_eq] at h
    rw [h.1, h.2.1.1, h.2.1.2, h.2.2]
    simp
end
section
theorem lnP2_0 : True := by k_with_none; exact trivial
theorem lnP2p_1 : True := by
  (k_with "m:tell" => (
  unfold Tell
  k_fill
  intro mean9 mg9 mb9 gd9 cn9 cs9 a9 ccd9 cl9 outer9 A9 base9 h9 L9 m9 news9 s9 Q9 E9 B F X N T hk hsub hret
  refine wpAny_call ?_
  k_dflt (refine' enterS ?k1q ?k2q ?k3q ?k4q ?k5q hsub ?kAq ?kFq ?kKq ?k6q ?k7q ?k8q ?k9q ?kBq ?_ ?c5q ?c2q ?c3q ?c4q; (case kAq => exact rfl); (case kFq => exact rfl); (case kKq => assumption); (case k1q => k_asm); (case k2q => k_asm); (case k3q => k_asm); (case k4q => k_asm); (case k5q => k_asm); (case k6q => k_is); (case k7q => k_is); (case k8q => k_room); (case k9q => exact BindsTo.of_eq rfl); (case c5q => decide); (case kBq => exact locs rfl); (case c2q => exact rfl); (case c3q => exact rfl); (case c4q => exact rfl); k_whole)
  intro g' L' h' FG' F' N' B' X' T'
  (try dsimp only)
  (simp only [zipS, List.reverse_cons, List.reverse_nil, List.nil_append, List.cons_append] at F')
  clear B F X N T FG'
  k_fold))
  (k_with "m:sub" => first | exact List.forall_mem_nil _ | (refine List.forall_mem_cons.mpr ⟨by k_mem, ?_⟩; walk_at "sub"))
  (k_with "m:apart" => first | exact List.forall_mem_nil _ | (refine List.forall_mem_cons.mpr ⟨by k_ne, ?_⟩; walk_at "apart"))
  (k_with "m:leave0" => (k_dflt (refine' LeaveS.intro [] ?k1q ?k2q ?k3q (List.forall_mem_nil _) (List.forall_mem_nil _) ?_; (case k1q => k_asm); (case k2q => k_asm); (case k3q => walk_at "sub"); k_whole); intro kF kN kA; (with_reducible rename (∀ (_ : Value) (_ : List (Addr × Obj)) (_ : Heap) (_ : Nat), Fr _ _ _ _ → _) => hret); refine hret _ [] _ _ kF kN kA ⟨rfl, Done.intro ?_⟩; clear kF kN kA hret))
  (k_with "m:leave1" => (k_dflt (refine' LeaveS.intro1 ?k1q ?k2q ?k3q ?k4q ?k5q ?_; (case k1q => k_asm); (case k2q => k_asm); (case k3q => walk_at "sub"); (case k4q => k_mem); (case k5q => walk_at "apart"); k_whole); intro kF kN kA; (with_reducible rename (∀ (_ : Value) (_ : List (Addr × Obj)) (_ : Heap) (_ : Nat), Fr _ _ _ _ → _) => hret); refine hret _ [_] _ _ kF kN kA (Done.intro ?_); clear kF kN kA hret))
  (k_with "m:leave" => walk_at "leave0")
  (k_with "m:LeaveS" => ((try dsimp only); walk_at "leave"))
  (k_with "m:use0" => ((case k1q => k_asm); (case k2q => k_asm); (case k3q => k_asm); (case k4q => k_asm); (case k5q => k_asm); (case kKq => first | exact rfl | assumption); (case ksq => walk_at "sub"); (case kdq => k_room); (case kuq => k_room); k_whole))
  (k_with "m:gotInt" => (intro r9 h9 tk9 F9 N9 hR9; obtain ⟨v9, t9, hv9, e9⟩ := hR9; subst e9; (try k_sweep); (try dsimp only)))
  (k_with "m:gotBool" => (intro r9 h9 tk9 F9 N9 hR9; obtain ⟨v9, hv9, e9⟩ := hR9; subst e9; (try k_sweep); (try dsimp only)))
  (k_with "m:item" => (k_here; k_dflt (refine' item_fast ?Nq ?mq ?aq ?bq ?xq ?_ ?yq; (case Nq => k_asm); (case mq => k_mem); (case aq => decide); (case bq => decide); (case xq => exact rfl); (case yq => with_unfolding_all rfl); k_whole)))
  (k_with "m:subscriptTail Name BinOp ref int" => walk_at "item")
  (k_with "m:subscriptTail Name Name ref int" => walk_at "item")
  (k_with "m:subscriptTail Name Constant ref int" => walk_at "item")
  (k_with "m:eval Name" => (k_here; k_dflt (refine' nameX_L ?Fq ?vq ?_ ?aq ?bq; (case bq => rfl); (case Fq => k_asm); (case aq => rfl); (case vq => rfl); k_whole)))
  (k_with "m:subscriptTail Name Slice str ref" => (k_here; (with_reducible rename Fr _ _ _ _ => F'); (with_reducible rename News _ _ _ _ => N'); (first | ((with_reducible show wpAny _ _ (subscriptTail _ (PySem.Expr.Slice none none none _) _ _) _ _ _); refine slice_strN_nn (hsz := ?hszq) (s := ⟨_, _, _, _, _⟩) F' N' ?_) | ((with_reducible show wpAny _ _ (subscriptTail _ (PySem.Expr.Slice none (some _) none _) _ _) _ _ _); refine slice_strN_ns (hsz := ?hszq) (s := ⟨_, _, _, _, _⟩) F' N' ?_) | ((with_reducible show wpAny _ _ (subscriptTail _ (PySem.Expr.Slice (some _) none none _) _ _) _ _ _); refine slice_strN_sn (hsz := ?hszq) (s := ⟨_, _, _, _, _⟩) F' N' ?_) | ((with_reducible show wpAny _ _ (subscriptTail _ (PySem.Expr.Slice (some _) (some _) none _) _ _) _ _ _); refine slice_strN_ss (hsz := ?hszq) (s := ⟨_, _, _, _, _⟩) F' N' ?_)); (case hszq => exact Short.fits (by assumption)); intro _ _ _ _ _))
  (k_with "m:execs cons" => (dsimp only; walk_at "execs cons"))
  exact trivial
theorem lnP2F1a_1 : True := by
  (k_with "m:call ref" => (k_here; (with_reducible show wpAny _ _ (call (Value.ref 21) [Value.int _ _, Value.int _ _]) _ _ _); k_dflt (refine' TellUse0 (mul_tell _ _ _ _ _ ?okq) ?k1q ?k2q ?k3q ?k4q ?k5q ?kKq ?ksq ?kdq ?kuq ?_; (case okq => exact IntMulOk.of_left (by assumption)); walk_at "use0"); walk_at "gotInt"))
  (k_with "m:call ref" => (k_here; (with_reducible show wpAny _ _ (call (Value.ref 28) [Value.int _ _, Value.int _ _]) _ _ _); k_dflt (refine' TellUse0 (sub_tell _ _ _ _ _) ?k1q ?k2q ?k3q ?k4q ?k5q ?kKq ?ksq ?kdq ?kuq ?_; walk_at "use0"); walk_at "gotInt"))
  exact trivial
theorem lnP2F1b_1 : True := by
  (k_with "m:leave" => walk_at "leave0")
  exact trivial
theorem lnP2F2_1 : True := by
  (k_with "m:short" => first | assumption | exact Short.of (by decide +kernel))
  (k_with "m:splitok" => first | assumption | exact SplitOk.of (by decide +kernel))
  (k_with "m:call ref" => (k_here; (with_reducible show wpAny _ _ (call (Value.ref 56) [Value.str _ _, Value.str _ _]) _ _ _); k_dflt (refine' TellUse0 (em_tell _ _ _ _ _ ?swq ?sgq ?soq) ?k1q ?k2q ?k3q ?k4q ?k5q ?kKq ?ksq ?kdq ?kuq ?_; (case swq => walk_at "short"); (case sgq => walk_at "short"); (case soq => walk_at "splitok"); walk_at "use0"); walk_at "gotBool"))
  exact trivial
noncomputable def chS (s : Int) : PySem.Str := Txt.item " +-" s
/-- what is asked of a row's text -/
structure TextOk (X b : PySem.Str) (c e : Int) : Prop where
  short : Short X
  bshort : Short b
  len : (5 : Nat) < X.length
  strip : stripF X 5 = b
  cut : Txt.slice X none (some (6 - if (e == 0) = true then 1 else 0)) = b
  pz1 : (szOk "  " X) = true
  pz2 : szOk (("  " : PySem.Str) ++ X) "  " = true
  pz3 : szOk X " " = true
  pshort : Short (("  " : PySem.Str) ++ X ++ ("  " : PySem.Str))
  plen : (3 : Nat) < (("  " : PySem.Str) ++ X ++ ("  " : PySem.Str)).length
  pad : stripF (("  " : PySem.Str) ++ X ++ ("  " : PySem.Str)) 3 = X ++ (" " : PySem.Str)
  facts : Facts X b c
noncomputable def goodL : List (List Int) := [[1, 1, 1, 1, 1, 1], [1, 1, 1, 1, 1, 0], [1, 1, 1, 1, 1, -1], [1, 1, 1, 1, 0, -1], [1, 1, 1, 1, -1, 1], [1, 1, 1, 1, -1, 0], [1, 1, 1, 1, -1, -1], [1, 1, 1, 0, -1, 1], [1, 1, 1, 0, -1, 0], [1, 1, 1, 0, -1, -1], [1, 1, 1, -1, 1, 1], [1, 1, 1, -1, 1, 0], [1, 1, 1, -1, 1, -1], [1, 1, 1, -1, 0, 1], [1, 1, 1, -1, -1, 1], [1, 1, 1, -1, -1, 0], [1, 1, 1, -1, -1, -1], [1, 1, 0, -1, 1, 1], [1, 1, 0, -1, 1, 0], [1, 1, 0, -1, 1, -1], [1, 1, 0, -1, 0, 1], [1, 1, 0, -1, -1, 1], [1, 1, 0, -1, -1, 0], [1, 1, 0, -1, -1, -1], [1, 1, -1, 1, 1, 1], [1, 1, -1, 1, 1, 0], [1, 1, -1, 1, 1, -1], [1, 1, -1, 1, 0, -1], [1, 1, -1, 1, -1, 1], [1, 1, -1, 1, -1, 0], [1, 1, -1, 1, -1, -1], [1, 1, -1, 0, 1, 1], [1, 1, -1, 0, 1, 0], [1, 1, -1, 0, 1, -1], [1, 1, -1, -1, 1, 1], [1, 1, -1, -1, 1, 0], [1, 1, -1, -1, 1, -1], [1, 1, -1, -1, 0, 1], [1, 1, -1, -1, -1, 1], [1, 1, -1, -1, -1, 0], [1, 1, -1, -1, -1, -1], [1, 0, -1, 1, 1, 1], [1, 0, -1, 1, 1, 0], [1, 0, -1, 1, 1, -1], [1, 0, -1, 1, 0, -1], [1, 0, -1, 1, -1, 1], [1, 0, -1, 1, -1, 0], [1, 0, -1, 1, -1, -1], [1, 0, -1, 0, 1, 1], [1, 0, -1, 0, 1, 0], [1, 0, -1, 0, 1, -1], [1, 0, -1, -1, 1, 1], [1, 0, -1, -1, 1, 0], [1, 0, -1, -1, 1, -1], [1, 0, -1, -1, 0, 1], [1, 0, -1, -1, -1, 1], [1, 0, -1, -1, -1, 0], [1, 0, -1, -1, -1, -1], [1, -1, 1, 1, 1, 1], [1, -1, 1, 1, 1, 0], [1, -1, 1, 1, 1, -1], [1, -1, 1, 1, 0, -1], [1, -1, 1, 1, -1, 1], [1, -1, 1, 1, -1, 0], [1, -1, 1, 1, -1, -1], [1, -1, 1, 0, -1, 1], [1, -1, 1, 0, -1, 0], [1, -1, 1, 0, -1, -1], [1, -1, 1, -1, 1, 1], [1, -1, 1, -1, 1, 0], [1, -1, 1, -1, 1, -1], [1, -1, 1, -1, 0, 1], [1, -1, 1, -1, -1, 1], [1, -1, 1, -1, -1, 0], [1, -1, 1, -1, -1, -1], [1, -1, 0, 1, 1, 1], [1, -1, 0, 1, 1, 0], [1, -1, 0, 1, 1, -1], [1, -1, 0, 1, 0, -1], [1, -1, 0, 1, -1, 1], [1, -1, 0, 1, -1, 0], [1, -1, 0, 1, -1, -1], [1, -1, -1, 1, 1, 1], [1, -1, -1, 1, 1, 0], [1, -1, -1, 1, 1, -1], [1, -1, -1, 1, 0, -1], [1, -1, -1, 1, -1, 1], [1, -1, -1, 1, -1, 0], [1, -1, -1, 1, -1, -1], [1, -1, -1, 0, 1, 1], [1, -1, -1, 0, 1, 0], [1, -1, -1, 0, 1, -1], [1, -1, -1, -1, 1, 1], [1, -1, -1, -1, 1, 0], [1, -1, -1, -1, 1, -1], [1, -1, -1, -1, 0, 1], [1, -1, -1, -1, -1, 1], [1, -1, -1, -1, -1, 0], [1, -1, -1, -1, -1, -1]]
theorem good_L : ∀ v ∈ goodV, v ∈ goodL := by decide +kernel
noncomputable def pL1 : List PySem.Str := ["+", ""]
noncomputable def pL2 : List PySem.Str := ["+", "-", ""]
noncomputable def pL3 : List PySem.Str := ["+", "-", "+", ""]
noncomputable def pL4 : List PySem.Str := ["+", "-", "+", "-", ""]
noncomputable def pL5 : List PySem.Str := ["+", "-", "+", "-", "+", ""]
noncomputable def pL6 : List PySem.Str := ["+", "-", "+", "-", "+", "-", ""]
noncomputable def pL7 : List PySem.Str := ["+", "-", "+", "-", "+", "-", "+", ""]
noncomputable def qL2 : List PySem.Str := ["+", "-"]
noncomputable def qL3 : List PySem.Str := ["+", "-", "+"]
noncomputable def qL4 : List PySem.Str := ["+", "-", "+", "-"]
noncomputable def qL5 : List PySem.Str := ["+", "-", "+", "-", "+"]
noncomputable def qL6 : List PySem.Str := ["+", "-", "+", "-", "+", "-"]
noncomputable def qL7 : List PySem.Str := ["+", "-", "+", "-", "+", "-", "+"]
theorem em_at {w got : PySem.Str} {p : List PySem.Str} (h1 : dotsF w = false) (h2 : splitF w = p) : em w got = emAtF got p := by
  rw [em_F]; unfold emF; rw [if_neg (by rw [h1]; decide), h2]
theorem row1 (got : PySem.Str) : emRow got 1 = emAtF got pL1 := em_at (by decide +kernel) (by decide +kernel)
theorem row2 (got : PySem.Str) : emRow got 2 = emAtF got pL2 := em_at (by decide +kernel) (by decide +kernel)
theorem row3 (got : PySem.Str) : emRow got 3 = emAtF got pL3 := em_at (by decide +kernel) (by decide +kernel)
theorem row4 (got : PySem.Str) : emRow got 4 = emAtF got pL4 := em_at (by decide +kernel) (by decide +kernel)
theorem row5 (got : PySem.Str) : emRow got 5 = emAtF got pL5 := em_at (by decide +kernel) (by decide +kernel)
theorem row6 (got : PySem.Str) : emRow got 6 = emAtF got pL6 := em_at (by decide +kernel) (by decide +kernel)
theorem row7 (got : PySem.Str) : emRow got 7 = emAtF got pL7 := em_at (by decide +kernel) (by decide +kernel)
theorem bar2 (got : PySem.Str) : emBare got 2 = emAtF got qL2 := em_at (by decide +kernel) (by decide +kernel)
theorem bar3 (got : PySem.Str) : emBare got 3 = emAtF got qL3 := em_at (by decide +kernel) (by decide +kernel)
theorem bar4 (got : PySem.Str) : emBare got 4 = emAtF got qL4 := em_at (by decide +kernel) (by decide +kernel)
theorem bar5 (got : PySem.Str) : emBare got 5 = emAtF got qL5 := em_at (by decide +kernel) (by decide +kernel)
theorem bar6 (got : PySem.Str) : emBare got 6 = emAtF got qL6 := em_at (by decide +kernel) (by decide +kernel)
theorem bar7 (got : PySem.Str) : emBare got 7 = emAtF got qL7 := em_at (by decide +kernel) (by decide +kernel)
noncomputable def rowsF (got : PySem.Str) : List Bool := [emAtF got pL1, emAtF got pL2, emAtF got pL3, emAtF got pL4, emAtF got pL5, emAtF got pL6, emAtF got pL7]
theorem rows_F (got : PySem.Str) : [emRow got 1, emRow got 2, emRow got 3, emRow got 4, emRow got 5, emRow got 6, emRow got 7] = rowsF got := by rw [row1, row2, row3, row4, row5, row6, row7]; rfl
theorem bar1 (got : PySem.Str) (h : 5 ≤ got.length) : emBare got 1 = false := by
  unfold emBare
  rw [em_F]
  unfold emF
  rw [if_pos (by decide +kernel)]
  refine decide_eq_false fun q => ?_
  have e := congrArg List.length q
  have e1 : got.cps.toList.length = got.length := Array.length_toList ..
  have e3 : (nthJ 1).cps.toList.length = 1 := by decide +kernel
  rw [e1, e3] at e
  omega
noncomputable abbrev tX (v : List Int) : PySem.Str := textOf v
noncomputable abbrev tB (v : List Int) : PySem.Str := textOf (bareV v)
noncomputable def zeroV (v : List Int) : Bool := v.getLast? == some 0
theorem fj : ∀ v ∈ goodL, Txt.join "" (v.map chS) = tX v := by decide +kernel
theorem fl : ∀ v ∈ goodL, (tX v).length ≤ 200 ∧ (tB v).length ≤ 200 ∧ 5 < (tX v).length ∧ 5 ≤ (tB v).length ∧ 0 ≤ changesV v ∧ changesV v ≤ 5 := by decide +kernel
theorem fs : ∀ v ∈ goodL, stripF (tX v) 5 = tB v := by decide +kernel
theorem fc : ∀ v ∈ goodL, Txt.slice (tX v) none (some (6 - if zeroV v = true then 1 else 0)) = tB v := by decide +kernel
theorem fp : ∀ v ∈ goodL, stripF (("  " : PySem.Str) ++ tX v ++ ("  " : PySem.Str)) 3 = tX v ++ (" " : PySem.Str) := by decide +kernel
theorem fpl : ∀ v ∈ goodL, (("  " : PySem.Str) ++ tX v ++ ("  " : PySem.Str)).length ≤ 200 ∧ 3 < (("  " : PySem.Str) ++ tX v ++ ("  " : PySem.Str)).length ∧ szOk "  " (tX v) = true ∧ szOk (("  " : PySem.Str) ++ tX v) "  " = true ∧ szOk (tX v) " " = true := by decide +kernel
theorem fix : ∀ v ∈ goodL, idxB false (rowsF (tX v)) = some (changesV v + 1).toNat := by decide +kernel
theorem fct : ∀ v ∈ goodL, cntB true (rowsF (tX v)) = changesV v + 1 := by decide +kernel
theorem fd2 : ∀ v ∈ goodL, emAtF (tB v) qL2 = dueB 2 (changesV v) := by decide +kernel
theorem fd3 : ∀ v ∈ goodL, emAtF (tB v) qL3 = dueB 3 (changesV v) := by decide +kernel
theorem fd4 : ∀ v ∈ goodL, emAtF (tB v) qL4 = dueB 4 (changesV v) := by decide +kernel
theorem fd5 : ∀ v ∈ goodL, emAtF (tB v) qL5 = dueB 5 (changesV v) := by decide +kernel
theorem fd6 : ∀ v ∈ goodL, emAtF (tB v) qL6 = dueB 6 (changesV v) := by decide +kernel
theorem fd7 : ∀ v ∈ goodL, emAtF (tB v) qL7 = dueB 7 (changesV v) := by decide +kernel
theorem fso : ∀ v ∈ goodL, (oftenS (tB v)).length ≤ 200 := by decide +kernel
theorem fml : ∀ v ∈ goodL, mulB (Txt.item (tB v) (-1) ++ ("..." : PySem.Str)) (cntS (Txt.item (tB v) (-1)) (tB v).cps.toList) = true := by decide +kernel
theorem fne : ∀ v ∈ goodL, (Txt.item (tB v) (-1) == ("" : PySem.Str)) = false := by decide +kernel
theorem fa0 : ∀ v ∈ goodL, szOk (Txt.item (tB v) (-1)) "..." = true := by decide +kernel
theorem fa1 : ∀ v ∈ goodL, szOk "..." (Txt.mul (Txt.item (tB v) (-1) ++ ("..." : PySem.Str)) (cntS (Txt.item (tB v) (-1)) (tB v).cps.toList)) = true := by decide +kernel
theorem fa2 : ∀ v ∈ goodL, szOk (Txt.slice (tB v) none (some 3)) "..." = true := by decide +kernel
theorem fa3 : ∀ v ∈ goodL, szOk (Txt.slice (tB v) none (some 3) ++ ("..." : PySem.Str)) (Txt.slice (tB v) (some 3) none) = true := by decide +kernel
theorem fa4 : ∀ v ∈ goodL, szOk (tB v) "..." = true := by decide +kernel
theorem fa5 : ∀ v ∈ goodL, szOk ((tB v) ++ ("..." : PySem.Str)) (Txt.item (tB v) (-1)) = true := by decide +kernel
theorem fa6 : ∀ v ∈ goodL, szOk "+..." (tB v) = true := by decide +kernel
theorem fa7 : ∀ v ∈ goodL, szOk "-..." (Txt.slice (tB v) (some 1) none) = true := by decide +kernel
theorem fa8 : ∀ v ∈ goodL, szOk "..." (tB v) = true := by decide +kernel
theorem fa9 : ∀ v ∈ goodL, szOk (("..." : PySem.Str) ++ (tB v)) "..." = true := by decide +kernel
theorem fa10 : ∀ v ∈ goodL, szOk "..." (Txt.slice (tB v) none (some (-1))) = true := by decide +kernel
theorem fa11 : ∀ v ∈ goodL, szOk (("..." : PySem.Str) ++ Txt.slice (tB v) none (some (-1))) (Txt.replace "+-" (Txt.item (tB v) (-1)) "") = true := by decide +kernel
theorem fa12 : ∀ v ∈ goodL, szOk (("..." : PySem.Str) ++ Txt.slice (tB v) none (some (-1)) ++ Txt.replace "+-" (Txt.item (tB v) (-1)) "") "..." = true := by decide +kernel
theorem fa13 : ∀ v ∈ goodL, szOk "...+" (Txt.item (tB v) (-1)) = true := by decide +kernel
theorem fa14 : ∀ v ∈ goodL, szOk (("...+" : PySem.Str) ++ Txt.item (tB v) (-1)) "..." = true := by decide +kernel
theorem fa15 : ∀ v ∈ goodL, szOk "+" (Txt.item (tB v) (-1)) = true := by decide +kernel
theorem fa16 : ∀ v ∈ goodL, szOk (oftenS (tB v)) (Txt.item (tB v) (-1)) = true := by decide +kernel
theorem fw0 : ∀ v ∈ goodL, wOkF (tB v) true (tB v) = true := by decide +kernel
theorem fw1 : ∀ v ∈ goodL, wOkF (Txt.slice (tB v) (some 1) none) false (tB v) = true := by decide +kernel
theorem fw2 : ∀ v ∈ goodL, wOkF (Txt.slice (tB v) none (some (-1))) false (tB v) = true := by decide +kernel
theorem fw3 : ∀ v ∈ goodL, wOkF (Txt.slice (tB v) none (some 3) ++ ("..." : PySem.Str) ++ Txt.slice (tB v) (some 3) none) true (tB v) = true := by decide +kernel
theorem fw4 : ∀ v ∈ goodL, wOkF ((tB v) ++ ("..." : PySem.Str) ++ Txt.item (tB v) (-1)) false (tB v) = true := by decide +kernel
theorem fw5 : ∀ v ∈ goodL, wOkF (("+..." : PySem.Str) ++ (tB v)) false (tB v) = true := by decide +kernel
theorem fw6 : ∀ v ∈ goodL, wOkF "-..." false (tB v) = true := by decide +kernel
theorem fw7 : ∀ v ∈ goodL, wOkF (("-..." : PySem.Str) ++ Txt.slice (tB v) (some 1) none) false (tB v) = true := by decide +kernel
theorem fw8 : ∀ v ∈ goodL, wOkF (("..." : PySem.Str) ++ (tB v) ++ ("..." : PySem.Str)) true (tB v) = true := by decide +kernel
theorem fw9 : ∀ v ∈ goodL, wOkF (("..." : PySem.Str) ++ Txt.slice (tB v) none (some (-1)) ++ Txt.replace "+-" (Txt.item (tB v) (-1)) "" ++ ("..." : PySem.Str)) false (tB v) = true := by decide +kernel
theorem fw10 : ∀ v ∈ goodL, wOkF (("...+" : PySem.Str) ++ Txt.item (tB v) (-1) ++ ("..." : PySem.Str)) (!(PySem.Builtin.Str.occurrences (tB v) (("+" : PySem.Str) ++ Txt.item (tB v) (-1)) 0 (tB v).length 1).isEmpty) (tB v) = true := by decide +kernel
theorem fw11 : ∀ v ∈ goodL, wOkF (oftenS (tB v) ++ Txt.item (tB v) (-1)) false (tB v) = true := by decide +kernel
theorem fw12 : ∀ v ∈ goodL, wOkF (Txt.slice (oftenS (tB v)) none (some (-3))) true (tB v) = true := by decide +kernel
theorem facts_V (v : List Int) (hv : v ∈ goodL) : Facts (tX v) (tB v) (changesV v) where
  sr := (fl v hv).1
  sb := (fl v hv).2.1
  lb := (fl v hv).2.2.2.1
  cr := (fl v hv).2.2.2.2
  so := fso v hv
  ml := fml v hv
  ne := fne v hv
  a0 := fa0 v hv
  a1 := fa1 v hv
  a2 := fa2 v hv
  a3 := fa3 v hv
  a4 := fa4 v hv
  a5 := fa5 v hv
  a6 := fa6 v hv
  a7 := fa7 v hv
  a8 := fa8 v hv
  a9 := fa9 v hv
  a10 := fa10 v hv
  a11 := fa11 v hv
  a12 := fa12 v hv
  a13 := fa13 v hv
  a14 := fa14 v hv
  a15 := fa15 v hv
  a16 := fa16 v hv
  w0 := wOk_F (fw0 v hv)
  w1 := wOk_F (fw1 v hv)
  w2 := wOk_F (fw2 v hv)
  w3 := wOk_F (fw3 v hv)
  w4 := wOk_F (fw4 v hv)
  w5 := wOk_F (fw5 v hv)
  w6 := wOk_F (fw6 v hv)
  w7 := wOk_F (fw7 v hv)
  w8 := wOk_F (fw8 v hv)
  w9 := wOk_F (fw9 v hv)
  w10 := wOk_F (fw10 v hv)
  w11 := wOk_F (fw11 v hv)
  w12 := wOk_F (fw12 v hv)
  ix := by rw [rows_F]; exact fix v hv
  ct := by rw [rows_F]; exact fct v hv
  d1 := bar1 _ (fl v hv).2.2.2.1
  d2 := by rw [bar2]; exact fd2 v hv
  d3 := by rw [bar3]; exact fd3 v hv
  d4 := by rw [bar4]; exact fd4 v hv
  d5 := by rw [bar5]; exact fd5 v hv
  d6 := by rw [bar6]; exact fd6 v hv
  d7 := by rw [bar7]; exact fd7 v hv
theorem text_V (v : List Int) (e : Int) (hv : v ∈ goodL) (hz : zeroV v = (e == 0)) : TextOk (tX v) (tB v) (changesV v) e where
  short := (fl v hv).1
  bshort := (fl v hv).2.1
  len := (fl v hv).2.2.1
  strip := fs v hv
  cut := by rw [← hz]; exact fc v hv
  pz1 := (fpl v hv).2.2.1
  pz2 := (fpl v hv).2.2.2.1
  pz3 := (fpl v hv).2.2.2.2
  pshort := (fpl v hv).1
  plen := (fpl v hv).2.1
  pad := fp v hv
  facts := facts_V v hv
theorem text_ok {c e x1 x2 x3 x4 x5 : Int} (h : RowGood c e 1 x1 x2 x3 x4 x5) : ∃ B, TextOk (Txt.join "" [chS (sg 1), chS (sg x1), chS (sg x2), chS (sg x3), chS (sg x4), chS (sg x5)]) B c e := by
  obtain ⟨hv, hc, hz⟩ := h
  replace hv := good_L _ hv
  have j := fj _ hv
  simp only [List.map_cons, List.map_nil] at j
  rw [j, hc]
  refine ⟨_, text_V _ e hv ?_⟩
  unfold zeroV
  rw [Bool.eq_iff_iff, beq_iff_eq, beq_iff_eq]
  simp only [List.getLast?_cons_cons, List.getLast?_singleton, Option.some.injEq]
  rw [sg_eq_zero]; exact hz
end
section
theorem lnL0_0 : True := by k_with_none; exact trivial
theorem lnL0p_1 : True := by
  (k_with "m:tell" => (
  unfold Tell
  k_fill
  intro mean9 mg9 mb9 gd9 cn9 cs9 a9 ccd9 cl9 outer9 A9 base9 h9 L9 m9 news9 s9 Q9 E9 B F X N T hk hsub hret
  refine wpAny_call ?_
  k_dflt (refine' enterS ?k1q ?k2q ?k3q ?k4q ?k5q hsub ?kAq ?kFq ?kKq ?k6q ?k7q ?k8q ?k9q ?kBq ?_ ?c5q ?c2q ?c3q ?c4q; (case kAq => exact rfl); (case kFq => exact rfl); (case kKq => assumption); (case k1q => k_asm); (case k2q => k_asm); (case k3q => k_asm); (case k4q => k_asm); (case k5q => k_asm); (case k6q => k_is); (case k7q => k_is); (case k8q => k_room); (case k9q => exact BindsTo.of_eq rfl); (case c5q => decide); (case kBq => exact locs rfl); (case c2q => exact rfl); (case c3q => exact rfl); (case c4q => exact rfl); k_whole)
  intro g' L' h' FG' F' N' B' X' T'
  (try dsimp only)
  (simp only [zipS, List.reverse_cons, List.reverse_nil, List.nil_append, List.cons_append] at F')
  clear B F X N T FG'
  k_fold))
  (k_with "m:sub" => first | exact List.forall_mem_nil _ | (refine List.forall_mem_cons.mpr ⟨by k_mem, ?_⟩; walk_at "sub"))
  (k_with "m:apart" => first | exact List.forall_mem_nil _ | (refine List.forall_mem_cons.mpr ⟨by k_ne, ?_⟩; walk_at "apart"))
  (k_with "m:leave0" => (k_dflt (refine' LeaveS.intro [] ?k1q ?k2q ?k3q (List.forall_mem_nil _) (List.forall_mem_nil _) ?_; (case k1q => k_asm); (case k2q => k_asm); (case k3q => walk_at "sub"); k_whole); intro kF kN kA; (with_reducible rename (∀ (_ : Value) (_ : List (Addr × Obj)) (_ : Heap) (_ : Nat), Fr _ _ _ _ → _) => hret); refine hret _ [] _ _ kF kN kA ⟨rfl, Done.intro ?_⟩; clear kF kN kA hret))
  (k_with "m:leave1" => (k_dflt (refine' LeaveS.intro1 ?k1q ?k2q ?k3q ?k4q ?k5q ?_; (case k1q => k_asm); (case k2q => k_asm); (case k3q => walk_at "sub"); (case k4q => k_mem); (case k5q => walk_at "apart"); k_whole); intro kF kN kA; (with_reducible rename (∀ (_ : Value) (_ : List (Addr × Obj)) (_ : Heap) (_ : Nat), Fr _ _ _ _ → _) => hret); refine hret _ [_] _ _ kF kN kA (Done.intro ?_); clear kF kN kA hret))
  (k_with "m:leave" => walk_at "leave0")
  (k_with "m:LeaveS" => ((try dsimp only); walk_at "leave"))
  (k_with "m:use0" => ((case k1q => k_asm); (case k2q => k_asm); (case k3q => k_asm); (case k4q => k_asm); (case k5q => k_asm); (case kKq => first | exact rfl | assumption); (case ksq => walk_at "sub"); (case kdq => k_room); (case kuq => k_room); k_whole))
  (k_with "m:gotInt" => (intro r9 h9 tk9 F9 N9 hR9; obtain ⟨v9, t9, hv9, e9⟩ := hR9; subst e9; (try k_sweep); (try dsimp only)))
  (k_with "m:gotBool" => (intro r9 h9 tk9 F9 N9 hR9; obtain ⟨v9, hv9, e9⟩ := hR9; subst e9; (try k_sweep); (try dsimp only)))
  (k_with "m:item" => (k_here; k_dflt (refine' item_fast ?Nq ?mq ?aq ?bq ?xq ?_ ?yq; (case Nq => k_asm); (case mq => k_mem); (case aq => decide); (case bq => decide); (case xq => exact rfl); (case yq => with_unfolding_all rfl); k_whole)))
  (k_with "m:subscriptTail Name BinOp ref int" => walk_at "item")
  (k_with "m:subscriptTail Name Name ref int" => walk_at "item")
  (k_with "m:subscriptTail Name Constant ref int" => walk_at "item")
  (k_with "m:eval Name" => (k_here; k_dflt (refine' nameX_L ?Fq ?vq ?_ ?aq ?bq; (case bq => rfl); (case Fq => k_asm); (case aq => rfl); (case vq => rfl); k_whole)))
  (k_with "m:subscriptTail Name Slice str ref" => (k_here; (with_reducible rename Fr _ _ _ _ => F'); (with_reducible rename News _ _ _ _ => N'); (first | ((with_reducible show wpAny _ _ (subscriptTail _ (PySem.Expr.Slice none none none _) _ _) _ _ _); refine slice_strN_nn (hsz := ?hszq) (s := ⟨_, _, _, _, _⟩) F' N' ?_) | ((with_reducible show wpAny _ _ (subscriptTail _ (PySem.Expr.Slice none (some _) none _) _ _) _ _ _); refine slice_strN_ns (hsz := ?hszq) (s := ⟨_, _, _, _, _⟩) F' N' ?_) | ((with_reducible show wpAny _ _ (subscriptTail _ (PySem.Expr.Slice (some _) none none _) _ _) _ _ _); refine slice_strN_sn (hsz := ?hszq) (s := ⟨_, _, _, _, _⟩) F' N' ?_) | ((with_reducible show wpAny _ _ (subscriptTail _ (PySem.Expr.Slice (some _) (some _) none _) _ _) _ _ _); refine slice_strN_ss (hsz := ?hszq) (s := ⟨_, _, _, _, _⟩) F' N' ?_)); (case hszq => exact Short.fits (by assumption)); intro _ _ _ _ _))
  (k_with "m:execs cons" => (dsimp only; walk_at "execs cons"))
  exact trivial
theorem lnL0F1a_1 : True := by
  (k_with "m:call ref" => (k_here; (with_reducible show wpAny _ _ (call (Value.ref 21) [Value.int _ _, Value.int _ _]) _ _ _); k_dflt (refine' TellUse0 (mul_tell _ _ _ _ _ ?okq) ?k1q ?k2q ?k3q ?k4q ?k5q ?kKq ?ksq ?kdq ?kuq ?_; (case okq => exact IntMulOk.of_left (by assumption)); walk_at "use0"); walk_at "gotInt"))
  (k_with "m:call ref" => (k_here; (with_reducible show wpAny _ _ (call (Value.ref 28) [Value.int _ _, Value.int _ _]) _ _ _); k_dflt (refine' TellUse0 (sub_tell _ _ _ _ _) ?k1q ?k2q ?k3q ?k4q ?k5q ?kKq ?ksq ?kdq ?kuq ?_; walk_at "use0"); walk_at "gotInt"))
  exact trivial
theorem lnL0F1b_1 : True := by
  (k_with "m:leave" => walk_at "leave0")
  exact trivial
theorem lnL0F2_1 : True := by
  (k_with "m:short" => first | assumption | exact Short.of (by decide +kernel))
  (k_with "m:splitok" => first | assumption | exact SplitOk.of (by decide +kernel))
  (k_with "m:call ref" => (k_here; (with_reducible show wpAny _ _ (call (Value.ref 56) [Value.str _ _, Value.str _ _]) _ _ _); k_dflt (refine' TellUse0 (em_tell _ _ _ _ _ ?swq ?sgq ?soq) ?k1q ?k2q ?k3q ?k4q ?k5q ?kKq ?ksq ?kdq ?kuq ?_; (case swq => walk_at "short"); (case sgq => walk_at "short"); (case soq => walk_at "splitok"); walk_at "use0"); walk_at "gotBool"))
  exact trivial
noncomputable def lawDef : List Stmt × Scope := match (PySem.Challenge.rw_xr0005_01.prog.main.body).getLast? with | some (.FunctionDef _ _ b _ _ _ sc _ _ _) => (b, sc) | _ => ([], default)
noncomputable def rowBody : List Stmt := match (lawDef.1[8]? : Option Stmt) with | some (PySem.Stmt.For _ _ b _ _) => b | _ => []
noncomputable def cutBody : List Stmt := match (lawDef.1[7]? : Option Stmt) with | some (PySem.Stmt.If _ b _ _) => b | _ => []
noncomputable abbrev lawEnv (L fa : Addr) (cd : Value) : Env := envOfC "law" lawDef.2 L fa cd
noncomputable def RowsIn (tl : Led) (vs : List Value) (c e : Int) : Prop := ∀ v ∈ vs, ∃ (r : Addr) (x1 x2 x3 x4 x5 : Int) (t0 t1 t2 t3 t4 t5 : Tok) (n : Nat), v = .ref r ∧ (r, listOf #[.int 1 t0, .int x1 t1, .int x2 t2, .int x3 t3, .int x4 t4, .int x5 t5] n) ∈ tl ∧ RowGood c e 1 x1 x2 x3 x4 x5
theorem RowsIn.nil {tl : Led} {c e : Int} : RowsIn tl [] c e := List.forall_mem_nil _
theorem RowsIn.cons {tl : Led} {vs : List Value} {c e : Int} {r : Addr} {x1 x2 x3 x4 x5 : Int} {t0 t1 t2 t3 t4 t5 : Tok} {n : Nat} (hm : (r, listOf #[.int 1 t0, .int x1 t1, .int x2 t2, .int x3 t3, .int x4 t4, .int x5 t5] n) ∈ tl) (g : RowGood c e 1 x1 x2 x3 x4 x5) (h : RowsIn tl vs c e) : RowsIn tl (.ref r :: vs) c e :=
  List.forall_mem_cons.mpr ⟨⟨r, x1, x2, x3, x4, x5, t0, t1, t2, t3, t4, t5, n, rfl, hm, g⟩, h⟩
noncomputable def JoinRows (h₀ : Heap) (L ce : Addr) (s : Shared) (c e : Int) (f : Flow) (s' : Shared) : Prop :=
  f = .next ∧ ∃ (h' : Heap) (tk' : Nat) (rows : Addr) (k : Nat) (vs : List Value) (oc : Obj) (mX : PySem.Str → Option Value) (tl : Led) (tc te : Tok), s' = { s with heap := h', toks := tk' } ∧
    Fr h₀ L h' (fun y => if y = "rows" then some (.ref rows) else if y = "changes" then some (.int c tc) else mX y) ∧ News h₀ L h' ((rows, listOf vs.toArray k) :: (ce, oc) :: tl) ∧ oc.data = .cell (some (.int e te)) ∧ RowsIn tl vs c e ∧ vs.length ≤ 6
theorem fr_two {h₀ h' : Heap} {L : Addr} {m' : PySem.Str → Option Value} {a b : PySem.Str} {u v : Value} (F : Fr h₀ L h' m') (m1 : m' a = some u) (m2 : m' b = some v) : Fr h₀ L h' (fun y => if y = a then some u else if y = b then some v else m' y) := by
  have e : (fun y => if y = a then some u else if y = b then some v else m' y) = m' := by
    funext y
    by_cases h1 : y = a
    · rw [if_pos h1, h1, m1]
    · rw [if_neg h1]
      by_cases h2 : y = b
      · rw [if_pos h2, h2, m2]
      · rw [if_neg h2]
  rw [e]; exact F
theorem JoinRows.intro {h₀ h' : Heap} {L ce rows : Addr} {s : Shared} {c e : Int} {m' : PySem.Str → Option Value} {news' : Led} {vs : List Value} {k tk' : Nat} {oc : Obj} {tc te : Tok} (F : Fr h₀ L h' m') (m1 : m' "rows" = some (.ref rows)) (m2 : m' "changes" = some (.int c tc)) (N : News h₀ L h' news')
    (hr : (rows, listOf vs.toArray k) ∈ news') (hc : (ce, oc) ∈ news') (d : oc.data = .cell (some (.int e te))) (R : RowsIn news' vs c e) (len : vs.length ≤ 6) : JoinRows h₀ L ce s c e .next { s with heap := h', toks := tk' } :=
  ⟨rfl, h', tk', rows, k, vs, oc, m', news', tc, te, rfl, fr_two F m1 m2, fun p hp => by
    rcases List.mem_cons.mp hp with rfl | hp
    · exact N _ hr
    rcases List.mem_cons.mp hp with rfl | hp
    · exact N _ hc
    exact N _ hp, d, R, len⟩
theorem join_rows {w : World} {A : Around} {E : Value → Shared → Prop} {s : Shared} {h₀ : Heap} {L ce : Addr} {env : Env} {Q : Flow → Shared → Prop} {test : PySem.Expr} {body orelse : List Stmt} {pos : Pos} {m : PySem.Str → Option Value} {fr : Addr} (_F : Fr h₀ L s.heap m) (_a : (@Ne Nat fr ce)) (c e : Int)
    (h1 : wpAny (model PySem.Challenge.rw_xr0005_01.prog w) A (isTrue test env (eval test env)) (fun b s₂ => if b then wpAny (model PySem.Challenge.rw_xr0005_01.prog w) A (execs body env) (JoinRows h₀ L ce s c e) E s₂ else wpAny (model PySem.Challenge.rw_xr0005_01.prog w) A (execs orelse env) (JoinRows h₀ L ce s c e) E s₂) E s)
    (ret : ∀ (h' : Heap) (tk' : Nat) (rows : Addr) (k : Nat) (vs : List Value) (oc : Obj) (mX : PySem.Str → Option Value) (tl : Led) (tc te : Tok), Fr h₀ L h' (fun y => if y = "rows" then some (.ref rows) else if y = "changes" then some (.int c tc) else mX y) → News h₀ L h' ((rows, listOf vs.toArray k) :: (ce, oc) :: tl) →
      oc.data = .cell (some (.int e te)) → RowsIn tl vs c e → vs.length ≤ 6 → Q .next { s with heap := h', toks := tk' }) :
    wpAny (model PySem.Challenge.rw_xr0005_01.prog w) A (exec (.If test body orelse pos) env) Q E s := by
  refine wpAny_mono (wpAny_If h1) (fun f s' hj => ?_) fun _ _ e => e
  obtain ⟨rfl, h', tk', rows, k, vs, oc, mX, tl, tc, te, rfl, F', N', d, R, len⟩ := hj
  exact ret h' tk' rows k vs oc mX tl tc te F' N' d R len
theorem restS {prog : Program} {w : World} {A : Around} {s : Shared} {h₀ : Heap} {L : Addr} {m : PySem.Str → Option Value} {env : Env} {elt : PySem.Expr} {x : PySem.Str} {scope : Scope} {cl : List (PySem.Str × Addr)} {S : Led → Prop} {its : Array Value}
    {Fin : List Value → Led → Prop} {news : Led} {k i : Nat} {ys : List Value} (f : Int → Value → Prop) {r : Int} {u : Tok} (hr : its[i]? = some (.int r u)) (hS : S news)
    (elem : ∀ I oI C oC D m₂ hh tk (E' : Value → Shared → Prop), LCg.NsObj oC m₂ → m₂ x = some (.int r u) → Fr h₀ L hh m → News h₀ L hh ((I, oI) :: (C, oC) :: (D, LCg.lst ys) :: news) → LCg.Off3 I C D news → ((@Ne Nat I C) ∧ (@Ne Nat I D) ∧ (@Ne Nat C D)) →
      wpAny (model prog w) A (eval elt (compEnvC scope cl C env)) (EltPost h₀ L m { s with heap := hh, toks := tk } ((I, oI) :: (C, oC) :: (D, LCg.lst ys) :: news) (f r)) E' { s with heap := hh, toks := tk })
    (rest : ∀ y, f r y → LCg.CompRest prog w A h₀ L m env elt x scope cl s S (fun i v => its[i]? = some v) Fin k (i + 1) (ys ++ [y]) news) : LCg.CompRest prog w A h₀ L m env elt x scope cl s S (fun i v => its[i]? = some v) Fin (k + 1) i ys news :=
  restW (f r) hS (fun v I oI C oC D m₂ hh tk E' hv hC hx F N off ne => elem I oI C oC D m₂ hh tk E' hC (by rw [hx, ← hv, hr]) F N off ne) rest
noncomputable def RowJ (m₀ : PySem.Str → Option Value) (m : PySem.Str → Option Value) : Prop :=
  ∃ o1 o2 o3 o4 : Option Value, ∀ z, m z = if z = "row" then o1 else if z = "tells" then o2 else if z = "text" then o3 else if z = "bare" then o4 else m₀ z
theorem RowJ.of {m₀ m : PySem.Str → Option Value} (h : ∀ z : PySem.Str, z ≠ "row" → z ≠ "tells" → z ≠ "text" → z ≠ "bare" → m z = m₀ z) : RowJ m₀ m :=
  ⟨m "row", m "tells", m "text", m "bare", fun z => by
    by_cases h1 : z = "row"
    · rw [if_pos h1, h1]
    rw [if_neg h1]
    by_cases h2 : z = "tells"
    · rw [if_pos h2, h2]
    rw [if_neg h2]
    by_cases h3 : z = "text"
    · rw [if_pos h3, h3]
    rw [if_neg h3]
    by_cases h4 : z = "bare"
    · rw [if_pos h4, h4]
    rw [if_neg h4]
    exact h z h1 h2 h3 h4⟩
theorem iter_rows {prog : Program} {w : World} {A : Around} {E : Value → Shared → Prop} {s : Shared} {env : Env} {h₀ : Heap} {body : List Stmt} {Q : Flow → Shared → Prop}
    {l ce : Addr} {oc : Obj} {vs : List Value} {k : Nat} {m₀ : PySem.Str → Option Value} {tl : Led} {c e : Int}
    (hh : A.handled = none) (F : Fr h₀ env.locals s.heap m₀) (N : News h₀ env.locals s.heap ((l, listOf vs.toArray k) :: (ce, oc) :: tl)) (R : RowsIn tl vs c e)
    (turn : ∀ (r : Addr) (x1 x2 x3 x4 x5 : Int) (t0 t1 t2 t3 t4 t5 : Tok) (n : Nat) (o2 o3 o4 : Option Value) (h : Heap) (tk : Nat) (rest : Led), RowGood c e 1 x1 x2 x3 x4 x5 →
      Fr h₀ env.locals h (fun y => if y = "row" then some (.ref r) else if y = "tells" then o2 else if y = "text" then o3 else if y = "bare" then o4 else m₀ y) →
      News h₀ env.locals h ((r, listOf #[.int 1 t0, .int x1 t1, .int x2 t2, .int x3 t3, .int x4 t4, .int x5 t5] n) :: (ce, oc) :: rest) →
      wpAny (model prog w) A (execs body env) (TurnPost h₀ env.locals (RowJ m₀) rest { s with heap := h, toks := tk } Q) E { s with heap := h, toks := tk })
    (done : ∀ m₁ h tk, Fr h₀ env.locals h m₁ → Q .next { s with heap := h, toks := tk }) :
    wpAny (model prog w) A (pyIter (.ref l)) (fun it s₂ => LoopAtV prog w A h₀ env "row" body Q E it s₂) E s := by
  refine iter_led (vs := vs) (fun _ => RowJ m₀) hh F N (.head _) (RowJ.of fun _ _ _ _ _ => rfl) ?_ (fun m₁ h tk _ F₁ _ => done m₁ h tk F₁)
  rintro i v m₁ h tk I oI hI hi hv ⟨o1, o2, o3, o4, em⟩ F₁ N₁
  obtain ⟨r, x1, x2, x3, x4, x5, t0, t1, t2, t3, t4, t5, n, rfl, hmr, hg⟩ := R v (List.mem_of_getElem? hv)
  refine turn r x1 x2 x3 x4 x5 t0 t1 t2 t3 t4 t5 n o2 o3 o4 h tk _ hg ?_ (fun p hp => ?_)
  · have : (fun (y : PySem.Str) => if y = "row" then some (Value.ref r) else if y = "tells" then o2 else if y = "text" then o3 else if y = "bare" then o4 else m₀ y) = (fun (y : PySem.Str) => if y = "row" then some (.ref r) else m₁ y) := by
      funext y
      by_cases z1 : y = "row"
      · rw [if_pos z1, if_pos z1]
      · rw [if_neg z1, if_neg z1, em, if_neg z1]
    rw [this]; exact F₁
  · rcases List.mem_cons.mp hp with rfl | hp
    · exact N₁ _ (.tail _ (.tail _ (.tail _ hmr)))
    rcases List.mem_cons.mp hp with rfl | hp
    · exact N₁ _ (.tail _ (.tail _ (.head _)))
    exact N₁ _ hp
noncomputable def SgR (r : Int) (y : Value) : Prop := ∃ t, y = .int (sg r) t
noncomputable def ChR (s : Int) (y : Value) : Prop := ∃ t, y = .str (chS s) t
theorem sgR_a {r : Int} {t : Tok} : SgR r (.int (sgn3 r 0) t) := ⟨t, rfl⟩
theorem sgR_b {r : Int} {t : Tok} : SgR r (.int (-sgn3 0 r) t) := ⟨t, by
  have e : -sgn3 0 r = sg r := by unfold sg sgn3; rcases Int.lt_trichotomy r 0 with h | h | h <;> (simp [h]; try omega)
  rw [e]⟩
theorem chR_a {s : Int} {t : Tok} : ChR s (.str (Txt.item " +-" s) t) := ⟨t, rfl⟩
noncomputable def intIs (v : Value) : Prop := ∃ k t, v = .int k t
noncomputable def intB : Value → Bool | .int _ _ => true | _ => false
theorem allI {its : Array Value} (h : its.toList.all intB = true) : ∀ (i : Nat) (v : Value), its[i]? = some v → intIs v := by
  intro i v hv
  have hv' : its.toList[i]? = some v := by rw [Array.getElem?_toList]; exact hv
  have hm : v ∈ its.toList := List.mem_of_getElem? hv'
  have hb := List.all_eq_true.mp h v hm
  match v, hb with
  | .int k t, _ => exact ⟨k, t, rfl⟩
theorem sgR_c {r : Int} {t : Tok} : SgR r (.int (if (if 1 < r then 1 else r) > -1 then if 1 < r then 1 else r else -1) t) := ⟨t, by
  have e : (if (if 1 < r then 1 else r) > -1 then if 1 < r then 1 else r else -1) = sg r := by
    rcases sg_cases r with ⟨q, h⟩ | ⟨q, h⟩ | ⟨q, h⟩ <;> rw [q] <;> repeat (split <;> try omega)
  rw [e]⟩
theorem strip5 {w : World} {X B : PySem.Str} {c e : Int} (t u : Tok) (hT : TextOk X B c e) : Tell 350 w 77 [.str X t, .int 5 u] [] (fun tl v => tl = [] ∧ ∃ b tb, b = B ∧ v = .str b tb) := by
  have h := strip_tell w X 5 t u hT.short hT.len
  rw [hT.strip] at h
  exact h
theorem strip3 {w : World} {X B : PySem.Str} {c e : Int} (t u : Tok) (hT : TextOk X B c e) : Tell 350 w 77 [.str (("  " : PySem.Str) ++ X ++ ("  " : PySem.Str)) t, .int 3 u] [] (fun tl v => tl = [] ∧ ∃ b tb, b = X ++ (" " : PySem.Str) ∧ v = .str b tb) := by
  have h := strip_tell w (("  " : PySem.Str) ++ X ++ ("  " : PySem.Str)) 3 t u hT.pshort hT.plen
  rw [hT.pad] at h
  exact h
theorem cmpNe_same {prog : Program} {w : World} {A : Around} {E : Value → Shared → Prop} {s : Shared} {x y : PySem.Str} {t u : Tok} {Q : Value → Shared → Prop} (e : x = y) (h : Q (.bool false) s) : wpAny (model prog w) A (compareOp .NotEq (.str x t) (.str y u)) Q E s := by
  subst e
  refine PyProof.Rows.ne_str ?_
  rw [bne_self_eq_false]; exact h
theorem join_use {prog : Program} {w : World} {A : Around} {E : Value → Shared → Prop} {s : Shared} {h₀ : Heap} {L D : Addr} {news : Led} {c e x1 x2 x3 x4 x5 : Int} {t t0 t1 t2 t3 t4 t5 : Tok} {n : Nat} {Q : Value → Shared → Prop} (hg : RowGood c e 1 x1 x2 x3 x4 x5) (N : News h₀ L s.heap news)
    (hm : (D, listOf #[.str (chS (sg 1)) t0, .str (chS (sg x1)) t1, .str (chS (sg x2)) t2, .str (chS (sg x3)) t3, .str (chS (sg x4)) t4, .str (chS (sg x5)) t5] n) ∈ news)
    (h : ∀ X B t' k, TextOk X B c e → Q (.str X t') { s with toks := k }) : wpAny (model prog w) A (call (.builtin "str.join") [.str "" t, .ref D]) Q E s := by
  obtain ⟨B, hT⟩ := text_ok hg
  exact join_listW (News.isList N hm) (.cons _ _ (.cons _ _ (.cons _ _ (.cons _ _ (.cons _ _ (.cons _ _ .nil)))))) (by decide) (by exact Nat.le_of_ble_eq_true rfl) fun t' k => h _ B t' k hT
theorem sg_lo {r : Int} : -((" +-" : PySem.Str).length : Int) ≤ sg r := by
  have e : ((" +-" : PySem.Str).length : Int) = 3 := by decide
  rw [e]; rcases sg_cases r with ⟨q, _⟩ | ⟨q, _⟩ | ⟨q, _⟩ <;> rw [q] <;> decide
theorem sg_hi {r : Int} : sg r < ((" +-" : PySem.Str).length : Int) := by
  have e : ((" +-" : PySem.Str).length : Int) = 3 := by decide
  rw [e]; rcases sg_cases r with ⟨q, _⟩ | ⟨q, _⟩ | ⟨q, _⟩ <;> rw [q] <;> decide
/-- item by item: what a comprehension makes of a list of ints -/
inductive RelI (R : Int → Value → Prop) : List Value → List Value → Prop
  | nil : RelI R [] []
  | cons {r : Int} {u : Tok} {y : Value} {vs ys : List Value} : R r y → RelI R vs ys → RelI R (.int r u :: vs) (y :: ys)
theorem RelI.snoc {R : Int → Value → Prop} {r : Int} {u : Tok} {y : Value} (h : R r y) : ∀ {vs ys : List Value}, RelI R vs ys → RelI R (vs ++ [.int r u]) (ys ++ [y])
  | _, _, .nil => .cons h .nil
  | _, _, .cons a b => .cons a (b.snoc h)
/-- a comprehension over a list of ints, its element walked once -/
theorem restAll {prog : Program} {w : World} {A : Around} {s : Shared} {h₀ : Heap} {L : Addr} {m : PySem.Str → Option Value} {env : Env} {elt : PySem.Expr} {x : PySem.Str} {scope : Scope} {cl : List (PySem.Str × Addr)} {S : Led → Prop} {its : Array Value}
    {Fin : List Value → Led → Prop} {news : Led} (P : Int → Prop) (R : Int → Value → Prop) (hi : ∀ v ∈ its.toList, ∃ r u, v = .int r u ∧ P r) (hS : S news)
    (elem : ∀ r u ys I oI C oC D m₂ hh tk (E' : Value → Shared → Prop), P r → LCg.NsObj oC m₂ → m₂ x = some (.int r u) → Fr h₀ L hh m → News h₀ L hh ((I, oI) :: (C, oC) :: (D, LCg.lst ys) :: news) → LCg.Off3 I C D news → ((@Ne Nat I C) ∧ (@Ne Nat I D) ∧ (@Ne Nat C D)) →
      wpAny (model prog w) A (eval elt (compEnvC scope cl C env)) (EltPost h₀ L m { s with heap := hh, toks := tk } ((I, oI) :: (C, oC) :: (D, LCg.lst ys) :: news) (R r)) E' { s with heap := hh, toks := tk })
    (fin : ∀ ys, RelI R its.toList ys → Fin ys news) : ∀ (k i : Nat) (ys : List Value), i + k = its.toList.length → RelI R (its.toList.take i) ys → LCg.CompRest prog w A h₀ L m env elt x scope cl s S (fun i v => its[i]? = some v) Fin k i ys news
  | 0, i, ys, e, h => LCg.CompRest.zero (fin ys (by rw [List.take_of_length_le (by omega)] at h; exact h))
  | k + 1, i, ys, e, h => by
    refine LCg.CompRest.succ fun v I oI C oC D m₂ hh tk E' hv hC hx F N off ne => ?_
    have hv' : its.toList[i]? = some v := by rw [Array.getElem?_toList]; exact hv
    obtain ⟨r, u, rfl, hp⟩ := hi v (List.mem_of_getElem? hv')
    refine wpAny_mono (elem r u ys I oI C oC D m₂ hh tk E' hp hC hx F N off ne) (fun y s₂ ht => ?_) fun _ _ e => e
    obtain ⟨h', tk', rfl, hr, F', N'⟩ := ht
    refine compEnd_at F' N' off hS (restAll P R hi hS elem fin k (i + 1) (ys ++ [y]) (by omega) ?_)
    rw [List.take_add_one, hv']
    exact h.snoc hr
theorem relS {a b c d e f : Int} {t0 t1 t2 t3 t4 t5 : Tok} {ys : List Value} (h : RelI SgR [.int a t0, .int b t1, .int c t2, .int d t3, .int e t4, .int f t5] ys) : ∃ u0 u1 u2 u3 u4 u5, ys = [.int (sg a) u0, .int (sg b) u1, .int (sg c) u2, .int (sg d) u3, .int (sg e) u4, .int (sg f) u5] := by
  cases h with | cons h0 h => cases h with | cons h1 h => cases h with | cons h2 h => cases h with | cons h3 h => cases h with | cons h4 h => cases h with | cons h5 h =>
    cases h
    obtain ⟨u0, rfl⟩ := h0
    obtain ⟨u1, rfl⟩ := h1
    obtain ⟨u2, rfl⟩ := h2
    obtain ⟨u3, rfl⟩ := h3
    obtain ⟨u4, rfl⟩ := h4
    obtain ⟨u5, rfl⟩ := h5
    exact ⟨_, _, _, _, _, _, rfl⟩
theorem relC {a b c d e f : Int} {t0 t1 t2 t3 t4 t5 : Tok} {ys : List Value} (h : RelI ChR [.int a t0, .int b t1, .int c t2, .int d t3, .int e t4, .int f t5] ys) : ∃ u0 u1 u2 u3 u4 u5, ys = [.str (chS a) u0, .str (chS b) u1, .str (chS c) u2, .str (chS d) u3, .str (chS e) u4, .str (chS f) u5] := by
  cases h with | cons h0 h => cases h with | cons h1 h => cases h with | cons h2 h => cases h with | cons h3 h => cases h with | cons h4 h => cases h with | cons h5 h =>
    cases h
    obtain ⟨u0, rfl⟩ := h0
    obtain ⟨u1, rfl⟩ := h1
    obtain ⟨u2, rfl⟩ := h2
    obtain ⟨u3, rfl⟩ := h3
    obtain ⟨u4, rfl⟩ := h4
    obtain ⟨u5, rfl⟩ := h5
    exact ⟨_, _, _, _, _, _, rfl⟩
noncomputable def IsSg (r : Int) : Prop := -((" +-" : PySem.Str).length : Int) ≤ r ∧ r < ((" +-" : PySem.Str).length : Int)
noncomputable def AnyI (_ : Int) : Prop := True
end
section
theorem lnL7_0 : True := by k_with_none; exact trivial
theorem lnL7p_1 : True := by
  (k_with "m:tell" => (
  unfold Tell
  k_fill
  intro mean9 mg9 mb9 gd9 cn9 cs9 a9 ccd9 cl9 outer9 A9 base9 h9 L9 m9 news9 s9 Q9 E9 B F X N T hk hsub hret
  refine wpAny_call ?_
  k_dflt (refine' enterS ?k1q ?k2q ?k3q ?k4q ?k5q hsub ?kAq ?kFq ?kKq ?k6q ?k7q ?k8q ?k9q ?kBq ?_ ?c5q ?c2q ?c3q ?c4q; (case kAq => exact rfl); (case kFq => exact rfl); (case kKq => assumption); (case k1q => k_asm); (case k2q => k_asm); (case k3q => k_asm); (case k4q => k_asm); (case k5q => k_asm); (case k6q => k_is); (case k7q => k_is); (case k8q => k_room); (case k9q => exact BindsTo.of_eq rfl); (case c5q => decide); (case kBq => exact locs rfl); (case c2q => exact rfl); (case c3q => exact rfl); (case c4q => exact rfl); k_whole)
  intro g' L' h' FG' F' N' B' X' T'
  (try dsimp only)
  (simp only [zipS, List.reverse_cons, List.reverse_nil, List.nil_append, List.cons_append] at F')
  clear B F X N T FG'
  k_fold))
  (k_with "m:sub" => first | exact List.forall_mem_nil _ | (refine List.forall_mem_cons.mpr ⟨by k_mem, ?_⟩; walk_at "sub"))
  (k_with "m:apart" => first | exact List.forall_mem_nil _ | (refine List.forall_mem_cons.mpr ⟨by k_ne, ?_⟩; walk_at "apart"))
  (k_with "m:leave0" => (k_dflt (refine' LeaveS.intro [] ?k1q ?k2q ?k3q (List.forall_mem_nil _) (List.forall_mem_nil _) ?_; (case k1q => k_asm); (case k2q => k_asm); (case k3q => walk_at "sub"); k_whole); intro kF kN kA; (with_reducible rename (∀ (_ : Value) (_ : List (Addr × Obj)) (_ : Heap) (_ : Nat), Fr _ _ _ _ → _) => hret); refine hret _ [] _ _ kF kN kA ⟨rfl, Done.intro ?_⟩; clear kF kN kA hret))
  (k_with "m:leave1" => (k_dflt (refine' LeaveS.intro1 ?k1q ?k2q ?k3q ?k4q ?k5q ?_; (case k1q => k_asm); (case k2q => k_asm); (case k3q => walk_at "sub"); (case k4q => k_mem); (case k5q => walk_at "apart"); k_whole); intro kF kN kA; (with_reducible rename (∀ (_ : Value) (_ : List (Addr × Obj)) (_ : Heap) (_ : Nat), Fr _ _ _ _ → _) => hret); refine hret _ [_] _ _ kF kN kA (Done.intro ?_); clear kF kN kA hret))
  (k_with "m:leave" => walk_at "leave0")
  (k_with "m:LeaveS" => ((try dsimp only); walk_at "leave"))
  (k_with "m:use0" => ((case k1q => k_asm); (case k2q => k_asm); (case k3q => k_asm); (case k4q => k_asm); (case k5q => k_asm); (case kKq => first | exact rfl | assumption); (case ksq => walk_at "sub"); (case kdq => k_room); (case kuq => k_room); k_whole))
  (k_with "m:gotInt" => (intro r9 h9 tk9 F9 N9 hR9; obtain ⟨v9, t9, hv9, e9⟩ := hR9; subst e9; (try k_sweep); (try dsimp only)))
  (k_with "m:gotBool" => (intro r9 h9 tk9 F9 N9 hR9; obtain ⟨v9, hv9, e9⟩ := hR9; subst e9; (try k_sweep); (try dsimp only)))
  (k_with "m:item" => (k_here; k_dflt (refine' item_fast ?Nq ?mq ?aq ?bq ?xq ?_ ?yq; (case Nq => k_asm); (case mq => k_mem); (case aq => decide); (case bq => decide); (case xq => exact rfl); (case yq => with_unfolding_all rfl); k_whole)))
  (k_with "m:subscriptTail Name BinOp ref int" => walk_at "item")
  (k_with "m:subscriptTail Name Name ref int" => walk_at "item")
  (k_with "m:subscriptTail Name Constant ref int" => walk_at "item")
  (k_with "m:eval Name" => (k_here; k_dflt (refine' nameX_L ?Fq ?vq ?_ ?aq ?bq; (case bq => rfl); (case Fq => k_asm); (case aq => rfl); (case vq => rfl); k_whole)))
  (k_with "m:subscriptTail Name Slice str ref" => (k_here; (with_reducible rename Fr _ _ _ _ => F'); (with_reducible rename News _ _ _ _ => N'); (first | ((with_reducible show wpAny _ _ (subscriptTail _ (PySem.Expr.Slice none none none _) _ _) _ _ _); refine slice_strN_nn (hsz := ?hszq) (s := ⟨_, _, _, _, _⟩) F' N' ?_) | ((with_reducible show wpAny _ _ (subscriptTail _ (PySem.Expr.Slice none (some _) none _) _ _) _ _ _); refine slice_strN_ns (hsz := ?hszq) (s := ⟨_, _, _, _, _⟩) F' N' ?_) | ((with_reducible show wpAny _ _ (subscriptTail _ (PySem.Expr.Slice (some _) none none _) _ _) _ _ _); refine slice_strN_sn (hsz := ?hszq) (s := ⟨_, _, _, _, _⟩) F' N' ?_) | ((with_reducible show wpAny _ _ (subscriptTail _ (PySem.Expr.Slice (some _) (some _) none _) _ _) _ _ _); refine slice_strN_ss (hsz := ?hszq) (s := ⟨_, _, _, _, _⟩) F' N' ?_)); (case hszq => exact Short.fits (by assumption)); intro _ _ _ _ _))
  (k_with "m:execs cons" => (dsimp only; walk_at "execs cons"))
  exact trivial
theorem lnL7F1a_1 : True := by
  (k_with "m:call ref" => (k_here; (with_reducible show wpAny _ _ (call (Value.ref 21) [Value.int _ _, Value.int _ _]) _ _ _); k_dflt (refine' TellUse0 (mul_tell _ _ _ _ _ ?okq) ?k1q ?k2q ?k3q ?k4q ?k5q ?kKq ?ksq ?kdq ?kuq ?_; (case okq => exact IntMulOk.of_left (by assumption)); walk_at "use0"); walk_at "gotInt"))
  (k_with "m:call ref" => (k_here; (with_reducible show wpAny _ _ (call (Value.ref 28) [Value.int _ _, Value.int _ _]) _ _ _); k_dflt (refine' TellUse0 (sub_tell _ _ _ _ _) ?k1q ?k2q ?k3q ?k4q ?k5q ?kKq ?ksq ?kdq ?kuq ?_; walk_at "use0"); walk_at "gotInt"))
  exact trivial
theorem lnL7F1b_1 : True := by
  (k_with "m:leave" => walk_at "leave0")
  exact trivial
theorem lnL7F2_1 : True := by
  (k_with "m:short" => first | assumption | exact Short.of (by decide +kernel))
  (k_with "m:splitok" => first | assumption | exact SplitOk.of (by decide +kernel))
  (k_with "m:call ref" => (k_here; (with_reducible show wpAny _ _ (call (Value.ref 56) [Value.str _ _, Value.str _ _]) _ _ _); k_dflt (refine' TellUse0 (em_tell _ _ _ _ _ ?swq ?sgq ?soq) ?k1q ?k2q ?k3q ?k4q ?k5q ?kKq ?ksq ?kdq ?kuq ?_; (case swq => walk_at "short"); (case sgq => walk_at "short"); (case soq => walk_at "splitok"); walk_at "use0"); walk_at "gotBool"))
  exact trivial
noncomputable def StopL7 (P : Prop) : Prop := P
theorem StopL7.out {P : Prop} (h : StopL7 P) : P := h
theorem lnL7_1 : True := by
  (k_with "m:eval ListComp" => (k_here; (with_reducible show wpAny _ _ (eval (PySem.Expr.ListComp _ [⟨PySem.Expr.Name _ _, _, [], 0⟩] _ _) _) _ _ _); k_dflt (refine LCg.ListComp_U (F₀ := by k_asm) (by rfl) (by decide) (by rfl) (by decide) (by rfl) ?_)))
  (k_with "m:eval ListComp" => (k_here; (with_reducible show wpAny _ _ (eval (PySem.Expr.ListComp _ [⟨PySem.Expr.Name _ _, _, [_], 0⟩] _ _) _) _ _ _); k_dflt (refine LCt.ListComp_T (F₀ := by k_asm) (by with_unfolding_all rfl) (by decide) (by rfl) (by decide) (by rfl) ?_)))
  (k_with "m:CompSrcT" => (k_here; k_dflt (refine LCt.CompSrcT.ledger (by rfl) (by k_asm) (by k_asm) (by k_mem) (by exact Nat.le_of_ble_eq_true rfl) ?_); intro g'; k_dflt (refine restT_none intIs (allI (by rfl)) ?Sq ?_ ?_ _ _; (case Sq => lcg_src)); rotate_left; intro v' I' oI' C' oC' D' m' h' tk' E' hv' hC' hx' F' N' off' ne'; (k_dflt (obtain ⟨z9, t9, hb9⟩ := hv'; subst hb9))))
  (k_with "m:TestPost" => ((try dsimp only); k_dflt (refine' TestPost.intro ?kq ?Fq ?Nq ?sq; (case kq => first | rfl | with_reducible assumption); (case Fq => k_asm); (case Nq => k_asm); (case sq => exact fun _ h => h))))
  (k_with "m:gotInt7" => (intro r9 h9 tk9 F9 N9 hR9; obtain ⟨v9, t9, hv9, e9⟩ := hR9; subst hv9; subst e9; (try dsimp only)))
  (k_with "m:call ref" => (k_here; (with_reducible show wpAny _ _ (call (Value.ref 63) [Value.int _ _, Value.int _ _]) _ _ _); k_dflt (refine' TellUse0 (strcoll_tell _ _ _ _ _) ?k1q ?k2q ?k3q ?k4q ?k5q ?kKq ?ksq ?kdq ?kuq ?_; walk_at "use0"); walk_at "gotInt7"))
  (k_with "m:call ref" => (k_here; (with_reducible show wpAny _ _ (call (Value.ref 42) [Value.str _ _, Value.int _ _]) _ _ _); k_dflt (refine' TellUse0 (getitem_tell _ _ _ _ _ ?hsq ?h1q ?h2q) ?k1q ?k2q ?k3q ?k4q ?k5q ?kKq ?ksq ?kdq ?kuq ?_; (case hsq => exact Short.of (by decide +kernel)); (case h1q => exact (by assumption : IsSg _).1); (case h2q => exact (by assumption : IsSg _).2); walk_at "use0"); walk_at "gotInt7"))
  (k_with "m:exec Assign cons ListComp" => (k_here; k_dflt (refine LCg.Assign_ListComp_U (F₀ := by k_asm) (by rfl) (by with_unfolding_all rfl) (by with_unfolding_all rfl) (by decide) (by rfl) (by decide) (by rfl) (by rfl) (by rfl) ?_)))
  (k_with "m:CompSrc" => (k_here; k_dflt (refine LCg.CompSrc.ledger (by rfl) (by k_asm) (by k_asm) (by k_mem) (by exact Nat.le_of_ble_eq_true rfl) ?_); intro g'; k_dflt lcg_lit))
  (k_with "m:allP" => first | exact List.forall_mem_nil _ | (refine List.forall_mem_cons.mpr ⟨⟨_, _, rfl, ?_⟩, ?_⟩; (first | exact True.intro | exact ⟨sg_lo, sg_hi⟩); walk_at "allP"))
  (k_with "m:CompRest" => ((try dsimp only); (first
  | ((with_reducible show LCg.CompRest _ _ _ _ _ _ _ (PySem.Expr.Call (PySem.Expr.Name "getitem" _) _ _ _) _ _ _ _ _ _ _ _ _ _ _); k_dflt (refine' restAll IsSg ChR ?hiq ?hSq ?_ ?_ _ _ _ ?eq ?hq; (case hiq => walk_at "allP"); (case hSq => lcg_src); (case eq => exact rfl); (case hq => exact RelI.nil)))
  | (k_dflt (refine' restAll AnyI SgR ?hiq ?hSq ?_ ?_ _ _ _ ?eq ?hq; (case hiq => walk_at "allP"); (case hSq => lcg_src); (case eq => exact rfl); (case hq => exact RelI.nil)))); rotate_left; (k_dflt (intro ys9 hr9; (first | (obtain ⟨s0, s1, s2, s3, s4, s5, e9⟩ := relS hr9; subst e9) | (obtain ⟨s0, s1, s2, s3, s4, s5, e9⟩ := relC hr9; subst e9)))); (try dsimp only); rotate_left; intro r' u' ys' I' oI' C' oC' D' m' h' tk' E' hp' hC' hx' F' N' off' ne'; (try dsimp only)))
  (k_with "m:EltPost" => ((try dsimp only); k_dflt (refine' EltPost.intro ?Fq ?Nq ?sq ?_; (case Fq => k_asm); (case Nq => k_asm); (case sq => exact fun _ h => h))))
  (k_with "m:SgR" => with_reducible first | exact sgR_a | exact sgR_b | exact sgR_c | refine StopL7.out ?_)
  (k_with "m:ChR" => with_reducible exact chR_a)
  (k_with "m:TurnPost" => ((try dsimp only [TurnPost]); (try dsimp only); k_dflt (refine' TurnEnd.intro ?Fq ?Nq ?sq ?jq; (case Fq => k_asm); (case Nq => k_asm); (case sq => (intro p hp; repeat (first | exact hp | refine List.Mem.tail _ ?_))); (case jq => (refine RowJ.of ?_; intro z z1 z2 z3 z4; simp only [if_neg z1, if_neg z2, if_neg z3, if_neg z4])))))
  (k_with "m:call builtin:str.join" => (k_here; k_dflt (refine' join_use ?gq ?Nq ?mq ?_; (case gq => assumption); (case Nq => k_asm); (case mq => k_mem)); intro X9 B9 t9 k9 hT9; (have hS9 := TextOk.short hT9); (have hB9 := TextOk.bshort hT9); (try dsimp only)))
  (k_with "m:call ref" => (k_here; (with_reducible show wpAny _ _ (call (Value.ref 77) [Value.str _ _, Value.int _ _]) _ _ _); k_dflt ((first | refine' TellUse0 (strip5 _ _ ?hTq) ?k1q ?k2q ?k3q ?k4q ?k5q ?kKq ?ksq ?kdq ?kuq ?_ | refine' TellUse0 (strip3 _ _ ?hTq) ?k1q ?k2q ?k3q ?k4q ?k5q ?kKq ?ksq ?kdq ?kuq ?_); (case hTq => assumption); walk_at "use0"); walk_at "gotInt7"))
  (k_with "m:call ref" => (k_here; (with_reducible show wpAny _ _ (call (Value.ref 115) [Value.str _ _, Value.str _ _, Value.int _ _]) _ _ _); k_dflt (refine' TellUse0 (changes_tell _ _ _ _ _ _ _ ?hTq) ?k1q ?k2q ?k3q ?k4q ?k5q ?kKq ?ksq ?kdq ?kuq ?_; (case hTq => exact TextOk.facts (by assumption)); walk_at "use0"); (intro r9 h9 tk9 F9 N9 hR9; subst hR9; (try dsimp only))))
  (k_with "m:compareOp NotEq str str" => (k_here; k_dflt (refine' cmpNe_same ?hq ?_; (case hq => first | exact (TextOk.cut (by assumption)).symm | exact rfl))))
  (k_with "m:compareOp NotEq str" => walk_at "compareOp NotEq str str")
  (k_with "m:binaryOp Add str str" => (k_here; (refine' add_strS ?zq ?_; (case zq => first | exact TextOk.pz1 (by assumption) | exact TextOk.pz2 (by assumption) | exact TextOk.pz3 (by assumption)); k_whole); intro t9 tk9; (try dsimp only)))
  exact trivial
set_option maxHeartbeats 4000000 in
theorem turn_ok {w : World} {mean : ExcName → Option Value} {mg mb : PySem.Str → Option Value} {fa : Addr} {cd : Value} {L : Addr} {h₀ : Heap} (K0 : Below callerA h₀ [] h₀) (T : TopF mean mg mb h₀) (X : (hd.heap_1 w.params).In h₀) {oc : Obj} {c e : Int} {tc te : Tok} {mX : PySem.Str → Option Value} {rows r : Addr} {x1 x2 x3 x4 x5 : Int} {t0 t1 t2 t3 t4 t5 : Tok} {n : Nat} {o2 o3 o4 : Option Value}
    {h : Heap} {tk : Nat} {rest : Led} {s : Shared} {Q : Flow → Shared → Prop} {E : Value → Shared → Prop} (hg : RowGood c e 1 x1 x2 x3 x4 x5) (hcl : oc.data = .cell (some (.int e te)))
    (F : Fr h₀ L h (fun y : PySem.Str => if y = "row" then some (.ref r) else if y = "tells" then o2 else if y = "text" then o3 else if y = "bare" then o4 else (fun y : PySem.Str => if y = "rows" then some (.ref rows) else if y = "changes" then some (.int c tc) else mX y) y))
    (N : News h₀ L h ((r, listOf #[.int 1 t0, .int x1 t1, .int x2 t2, .int x3 t3, .int x4 t4, .int x5 t5] n) :: (L + 1, oc) :: rest)) :
    wpAny (model PySem.Challenge.rw_xr0005_01.prog w) (callerA.deeper (lawEnv L fa cd)) (execs rowBody (lawEnv L fa cd)) (TurnPost h₀ L (RowJ (fun y : PySem.Str => if y = "rows" then some (.ref rows) else if y = "changes" then some (.int c tc) else mX y)) rest { s with heap := h, toks := tk } Q) E { s with heap := h, toks := tk } := by
  revert X
  k_fill
  intro X
  (show wpAny _ (Around.deeper _ (envOfC _ ⟨_, _, _, _, _⟩ _ _ _)) (execs (PySem.Stmt.Assign _ _ _ :: _) (envOfC _ ⟨_, _, _, _, _⟩ _ _ _)) _ _ _)
  (try dsimp only)
  (try k_fold)
  k_steps
end
section
theorem lnL5_0 : True := by k_with_none; exact trivial
theorem lnL5p_1 : True := by
  (k_with "m:tell" => (
  unfold Tell
  k_fill
  intro mean9 mg9 mb9 gd9 cn9 cs9 a9 ccd9 cl9 outer9 A9 base9 h9 L9 m9 news9 s9 Q9 E9 B F X N T hk hsub hret
  refine wpAny_call ?_
  k_dflt (refine' enterS ?k1q ?k2q ?k3q ?k4q ?k5q hsub ?kAq ?kFq ?kKq ?k6q ?k7q ?k8q ?k9q ?kBq ?_ ?c5q ?c2q ?c3q ?c4q; (case kAq => exact rfl); (case kFq => exact rfl); (case kKq => assumption); (case k1q => k_asm); (case k2q => k_asm); (case k3q => k_asm); (case k4q => k_asm); (case k5q => k_asm); (case k6q => k_is); (case k7q => k_is); (case k8q => k_room); (case k9q => exact BindsTo.of_eq rfl); (case c5q => decide); (case kBq => exact locs rfl); (case c2q => exact rfl); (case c3q => exact rfl); (case c4q => exact rfl); k_whole)
  intro g' L' h' FG' F' N' B' X' T'
  (try dsimp only)
  (simp only [zipS, List.reverse_cons, List.reverse_nil, List.nil_append, List.cons_append] at F')
  clear B F X N T FG'
  k_fold))
  (k_with "m:sub" => first | exact List.forall_mem_nil _ | (refine List.forall_mem_cons.mpr ⟨by k_mem, ?_⟩; walk_at "sub"))
  (k_with "m:apart" => first | exact List.forall_mem_nil _ | (refine List.forall_mem_cons.mpr ⟨by k_ne, ?_⟩; walk_at "apart"))
  (k_with "m:leave0" => (k_dflt (refine' LeaveS.intro [] ?k1q ?k2q ?k3q (List.forall_mem_nil _) (List.forall_mem_nil _) ?_; (case k1q => k_asm); (case k2q => k_asm); (case k3q => walk_at "sub"); k_whole); intro kF kN kA; (with_reducible rename (∀ (_ : Value) (_ : List (Addr × Obj)) (_ : Heap) (_ : Nat), Fr _ _ _ _ → _) => hret); refine hret _ [] _ _ kF kN kA ⟨rfl, Done.intro ?_⟩; clear kF kN kA hret))
  (k_with "m:leave1" => (k_dflt (refine' LeaveS.intro1 ?k1q ?k2q ?k3q ?k4q ?k5q ?_; (case k1q => k_asm); (case k2q => k_asm); (case k3q => walk_at "sub"); (case k4q => k_mem); (case k5q => walk_at "apart"); k_whole); intro kF kN kA; (with_reducible rename (∀ (_ : Value) (_ : List (Addr × Obj)) (_ : Heap) (_ : Nat), Fr _ _ _ _ → _) => hret); refine hret _ [_] _ _ kF kN kA (Done.intro ?_); clear kF kN kA hret))
  (k_with "m:leave" => walk_at "leave0")
  (k_with "m:LeaveS" => ((try dsimp only); walk_at "leave"))
  (k_with "m:use0" => ((case k1q => k_asm); (case k2q => k_asm); (case k3q => k_asm); (case k4q => k_asm); (case k5q => k_asm); (case kKq => first | exact rfl | assumption); (case ksq => walk_at "sub"); (case kdq => k_room); (case kuq => k_room); k_whole))
  (k_with "m:gotInt" => (intro r9 h9 tk9 F9 N9 hR9; obtain ⟨v9, t9, hv9, e9⟩ := hR9; subst e9; (try k_sweep); (try dsimp only)))
  (k_with "m:gotBool" => (intro r9 h9 tk9 F9 N9 hR9; obtain ⟨v9, hv9, e9⟩ := hR9; subst e9; (try k_sweep); (try dsimp only)))
  (k_with "m:item" => (k_here; k_dflt (refine' item_fast ?Nq ?mq ?aq ?bq ?xq ?_ ?yq; (case Nq => k_asm); (case mq => k_mem); (case aq => decide); (case bq => decide); (case xq => exact rfl); (case yq => with_unfolding_all rfl); k_whole)))
  (k_with "m:subscriptTail Name BinOp ref int" => walk_at "item")
  (k_with "m:subscriptTail Name Name ref int" => walk_at "item")
  (k_with "m:subscriptTail Name Constant ref int" => walk_at "item")
  (k_with "m:eval Name" => (k_here; k_dflt (refine' nameX_L ?Fq ?vq ?_ ?aq ?bq; (case bq => rfl); (case Fq => k_asm); (case aq => rfl); (case vq => rfl); k_whole)))
  (k_with "m:subscriptTail Name Slice str ref" => (k_here; (with_reducible rename Fr _ _ _ _ => F'); (with_reducible rename News _ _ _ _ => N'); (first | ((with_reducible show wpAny _ _ (subscriptTail _ (PySem.Expr.Slice none none none _) _ _) _ _ _); refine slice_strN_nn (hsz := ?hszq) (s := ⟨_, _, _, _, _⟩) F' N' ?_) | ((with_reducible show wpAny _ _ (subscriptTail _ (PySem.Expr.Slice none (some _) none _) _ _) _ _ _); refine slice_strN_ns (hsz := ?hszq) (s := ⟨_, _, _, _, _⟩) F' N' ?_) | ((with_reducible show wpAny _ _ (subscriptTail _ (PySem.Expr.Slice (some _) none none _) _ _) _ _ _); refine slice_strN_sn (hsz := ?hszq) (s := ⟨_, _, _, _, _⟩) F' N' ?_) | ((with_reducible show wpAny _ _ (subscriptTail _ (PySem.Expr.Slice (some _) (some _) none _) _ _) _ _ _); refine slice_strN_ss (hsz := ?hszq) (s := ⟨_, _, _, _, _⟩) F' N' ?_)); (case hszq => exact Short.fits (by assumption)); intro _ _ _ _ _))
  (k_with "m:execs cons" => (dsimp only; walk_at "execs cons"))
  exact trivial
theorem lnL5F1a_1 : True := by
  (k_with "m:call ref" => (k_here; (with_reducible show wpAny _ _ (call (Value.ref 21) [Value.int _ _, Value.int _ _]) _ _ _); k_dflt (refine' TellUse0 (mul_tell _ _ _ _ _ ?okq) ?k1q ?k2q ?k3q ?k4q ?k5q ?kKq ?ksq ?kdq ?kuq ?_; (case okq => exact IntMulOk.of_left (by assumption)); walk_at "use0"); walk_at "gotInt"))
  (k_with "m:call ref" => (k_here; (with_reducible show wpAny _ _ (call (Value.ref 28) [Value.int _ _, Value.int _ _]) _ _ _); k_dflt (refine' TellUse0 (sub_tell _ _ _ _ _) ?k1q ?k2q ?k3q ?k4q ?k5q ?kKq ?ksq ?kdq ?kuq ?_; walk_at "use0"); walk_at "gotInt"))
  exact trivial
theorem lnL5F1b_1 : True := by
  (k_with "m:leave" => walk_at "leave0")
  exact trivial
theorem lnL5F2_1 : True := by
  (k_with "m:short" => first | assumption | exact Short.of (by decide +kernel))
  (k_with "m:splitok" => first | assumption | exact SplitOk.of (by decide +kernel))
  (k_with "m:call ref" => (k_here; (with_reducible show wpAny _ _ (call (Value.ref 56) [Value.str _ _, Value.str _ _]) _ _ _); k_dflt (refine' TellUse0 (em_tell _ _ _ _ _ ?swq ?sgq ?soq) ?k1q ?k2q ?k3q ?k4q ?k5q ?kKq ?ksq ?kdq ?kuq ?_; (case swq => walk_at "short"); (case sgq => walk_at "short"); (case soq => walk_at "splitok"); walk_at "use0"); walk_at "gotBool"))
  exact trivial
noncomputable def MulR (c : Int) (r : Int) (y : Value) : Prop := ∃ t, y = .int (c * r) t
theorem rel5 {q a b c d e : Int} {t0 t1 t2 t3 t4 : Tok} {ys : List Value} (h : RelI (MulR q) [.int a t0, .int b t1, .int c t2, .int d t3, .int e t4] ys) : ∃ u0 u1 u2 u3 u4, ys = [.int (q * a) u0, .int (q * b) u1, .int (q * c) u2, .int (q * d) u3, .int (q * e) u4] := by
  cases h with | cons h0 h => cases h with | cons h1 h => cases h with | cons h2 h => cases h with | cons h3 h => cases h with | cons h4 h =>
    cases h
    obtain ⟨u0, rfl⟩ := h0
    obtain ⟨u1, rfl⟩ := h1
    obtain ⟨u2, rfl⟩ := h2
    obtain ⟨u3, rfl⟩ := h3
    obtain ⟨u4, rfl⟩ := h4
    exact ⟨_, _, _, _, _, rfl⟩
theorem rel4 {q a b c d : Int} {t0 t1 t2 t3 : Tok} {ys : List Value} (h : RelI (MulR q) [.int a t0, .int b t1, .int c t2, .int d t3] ys) : ∃ u0 u1 u2 u3, ys = [.int (q * a) u0, .int (q * b) u1, .int (q * c) u2, .int (q * d) u3] := by
  cases h with | cons h0 h => cases h with | cons h1 h => cases h with | cons h2 h => cases h with | cons h3 h =>
    cases h
    obtain ⟨u0, rfl⟩ := h0
    obtain ⟨u1, rfl⟩ := h1
    obtain ⟨u2, rfl⟩ := h2
    obtain ⟨u3, rfl⟩ := h3
    exact ⟨_, _, _, _, rfl⟩
theorem rel3 {q a b c : Int} {t0 t1 t2 : Tok} {ys : List Value} (h : RelI (MulR q) [.int a t0, .int b t1, .int c t2] ys) : ∃ u0 u1 u2, ys = [.int (q * a) u0, .int (q * b) u1, .int (q * c) u2] := by
  cases h with | cons h0 h => cases h with | cons h1 h => cases h with | cons h2 h =>
    cases h
    obtain ⟨u0, rfl⟩ := h0
    obtain ⟨u1, rfl⟩ := h1
    obtain ⟨u2, rfl⟩ := h2
    exact ⟨_, _, _, rfl⟩
theorem rel2 {q a b : Int} {t0 t1 : Tok} {ys : List Value} (h : RelI (MulR q) [.int a t0, .int b t1] ys) : ∃ u0 u1, ys = [.int (q * a) u0, .int (q * b) u1] := by
  cases h with | cons h0 h => cases h with | cons h1 h =>
    cases h
    obtain ⟨u0, rfl⟩ := h0
    obtain ⟨u1, rfl⟩ := h1
    exact ⟨_, _, rfl⟩
open Builtin.Int in
noncomputable def Low (r : Int) : Prop := intBits r ≤ 1000
theorem restMulA {prog : Program} {w : World} {A : Around} {s : Shared} {h₀ : Heap} {L : Addr} {m : PySem.Str → Option Value} {env : Env} {elt : PySem.Expr} {x : PySem.Str} {scope : Scope} {cl : List (PySem.Str × Addr)} {S : Led → Prop} {its : Array Value} {oc : Obj} {c : Int} {te : Tok}
    {Fin : List Value → Led → Prop} {news : Led} (_hd : oc.data = .cell (some (.int c te))) (hi : ∀ v ∈ its.toList, ∃ r u, v = .int r u ∧ Low r) (hS : S news)
    (elem : ∀ r u ys I oI C oC D m₂ hh tk (E' : Value → Shared → Prop), Low r → LCg.NsObj oC m₂ → m₂ x = some (.int r u) → Fr h₀ L hh m → News h₀ L hh ((I, oI) :: (C, oC) :: (D, LCg.lst ys) :: news) → LCg.Off3 I C D news → ((@Ne Nat I C) ∧ (@Ne Nat I D) ∧ (@Ne Nat C D)) →
      wpAny (model prog w) A (eval elt (compEnvC scope cl C env)) (EltPost h₀ L m { s with heap := hh, toks := tk } ((I, oI) :: (C, oC) :: (D, LCg.lst ys) :: news) (MulR c r)) E' { s with heap := hh, toks := tk })
    (fin : ∀ ys, RelI (MulR c) its.toList ys → Fin ys news) : ∀ (k i : Nat) (ys : List Value), i + k = its.toList.length → RelI (MulR c) (its.toList.take i) ys → LCg.CompRest prog w A h₀ L m env elt x scope cl s S (fun i v => its[i]? = some v) Fin k i ys news :=
  restAll Low (MulR c) hi hS elem fin
theorem mulR {c r : Int} {t : Tok} : MulR c r (.int (c * r) t) := ⟨t, rfl⟩
theorem append_thin {prog : Program} {w : World} {A : Around} {E : Value → Shared → Prop} {s : Shared} {h₀ : Heap} {L d l a1 a2 a3 a4 I : Addr} {od o1 o2 o3 o4 it : Obj} {m : PySem.Str → Option Value} {kept kept' : Led} {its : Array Value} {n : Nat} {Q : Value → Shared → Prop} (F : Fr h₀ L s.heap m)
    (N : News h₀ L s.heap ((d, od) :: (a1, o1) :: (a2, o2) :: (a3, o3) :: (a4, o4) :: (I, it) :: kept)) (U : Upd l (listOf its n) (listOf (its.push (.ref d)) (n + 1)) kept kept') (h1 : (@Ne Nat d l)) (h2 : (@Ne Nat I l)) (hsz : its.size ≤ sizeLine)
    (h : ∀ h', Fr h₀ L h' m → News h₀ L h' ((d, od) :: (I, it) :: kept') → Q .none { s with heap := h' }) : wpAny (model prog w) A (call (.builtin "list.append") [.ref l, .ref d]) Q E s :=
  append_K F (fun p hp => N p (by
    rcases List.mem_cons.mp hp with rfl | hp
    · exact .head _
    · exact .tail _ (.tail _ (.tail _ (.tail _ (.tail _ hp)))))) (Upd.tail h1 (Upd.tail h2 U)) h hsz
noncomputable def StopL5 (P : Prop) : Prop := P
theorem StopL5.out {P : Prop} (h : StopL5 P) : P := h
theorem lnL5_1 : True := by
  (k_with "m:JoinRows" => (refine StopL5.out ?_))
  (k_with "m:call builtin:list.append" => (k_here; k_dflt (refine' append_thin ?Fq ?Nq ?Uq ?aq ?bq ?zq ?_; (case Fq => k_asm); (case Nq => k_asm); (case Uq => k_upd); (case aq => k_ne); (case bq => k_ne); (case zq => size_fits)); intro h' F' N'))
  (k_with "m:eval ListComp" => (k_here; k_dflt (refine LCg.ListComp_U (F₀ := by k_asm) (by rfl) (by decide) (by rfl) (by decide) (by rfl) ?_)))
  (k_with "m:CompSrc" => (k_here; k_dflt (refine LCg.CompSrc.ledger (by rfl) (by k_asm) (by k_asm) (by k_mem) (by exact Nat.le_of_ble_eq_true rfl) ?_); intro g'; k_dflt lcg_lit))
  (k_with "m:allP" => first | exact List.forall_mem_nil _ | (refine List.forall_mem_cons.mpr ⟨⟨_, _, rfl, ?_⟩, ?_⟩; (show Low _; unfold Low; assumption); walk_at "allP"))
  (k_with "m:CompRest" => ((try dsimp only); (k_dflt (refine' restMulA ?hdq ?hiq ?hSq ?_ ?_ _ _ _ ?eq ?hq; (case hdq => assumption); (case hiq => walk_at "allP"); (case hSq => lcg_src); (case eq => exact rfl); (case hq => exact RelI.nil))); rotate_left; (k_dflt (intro ys9 hr9; (first | (obtain ⟨s0, s1, s2, s3, s4, e9⟩ := rel5 hr9; subst e9) | (obtain ⟨s0, s1, s2, s3, e9⟩ := rel4 hr9; subst e9) | (obtain ⟨s0, s1, s2, e9⟩ := rel3 hr9; subst e9) | (obtain ⟨s0, s1, e9⟩ := rel2 hr9; subst e9)))); (try dsimp only); rotate_left; intro r' u' ys' I' oI' C' oC' D' m' h' tk' E' hp' hC' hx' F' N' off' ne'; (try dsimp only); unfold Low at hp'))
  (k_with "m:EltPost" => ((try dsimp only); k_dflt (refine' EltPost.intro ?Fq ?Nq ?sq ?_; (case Fq => k_asm); (case Nq => k_asm); (case sq => exact fun _ h => h))))
  (k_with "m:MulR" => exact mulR)
  (k_with "m:call ref" => (k_here; (with_reducible show wpAny _ _ (call (Value.ref 21) [Value.int _ _, Value.int _ _]) _ _ _); k_dflt (refine' TellUse0 (mul_tell _ _ _ _ _ ?okq) ?k1q ?k2q ?k3q ?k4q ?k5q ?kKq ?ksq ?kdq ?kuq ?_; (case okq => exact PySem.IntMulOk.of_le (m := 1000) (n := 1000) (by assumption) (by assumption) (by decide)); walk_at "use0"); (intro r9 h9 tk9 F9 N9 hR9; obtain ⟨v9, t9, hv9, e9⟩ := hR9; subst hv9; subst e9; (try k_sweep); (try dsimp only))))
  exact trivial
open Builtin.Int in
set_option maxHeartbeats 4000000 in
theorem cut_ok {w : World} {mean : ExcName → Option Value} {mg mb : PySem.Str → Option Value} {fa : Addr} {cd : Value} {L : Addr} {h₀ : Heap} (K0 : Below callerA h₀ [] h₀) (T : TopF mean mg mb h₀) (X : (hd.heap_1 w.params).In h₀) {oc : Obj} {c e : Int} {tc te : Tok} {mX : PySem.Str → Option Value} {rows fr bk : Addr}
    {x0 p2 p3 p4 x4 q2 q3 q4 : Int} {f0 f1 f2 f3 f4 f5 g0 g1 g2 g3 g4 g5 : Tok} {nr nf nb : Nat} {h : Heap} {tk : Nat} {s : Shared} (hcl : oc.data = .cell (some (.int e te)))
    (r1 : RowGood c e 1 x0 p2 p3 p4 e) (r2 : RowGood c e 1 x4 q2 q3 q4 e) (r3 : RowGood c e 1 (e * q4) (e * q3) (e * q2) (e * x4) (e * 1)) (r4 : RowGood c e 1 x0 (e * q3) (e * q2) (e * x4) (e * 1)) (r5 : RowGood c e 1 x0 p2 (e * q2) (e * x4) (e * 1)) (r6 : RowGood c e 1 x0 p2 p3 (e * x4) (e * 1))
    (b1 : intBits 1 ≤ 1000) (b2 : intBits x4 ≤ 1000) (b3 : intBits q2 ≤ 1000) (b4 : intBits q3 ≤ 1000) (b5 : intBits q4 ≤ 1000) (b6 : intBits e ≤ 1000) (n1 : (@Ne Nat bk rows)) (n2 : (@Ne Nat fr rows)) (n3 : (@Ne Nat (L + 1) rows))
    (F : Fr h₀ L h (fun y : PySem.Str => if y = "rows" then some (.ref rows) else if y = "changes" then some (.int c tc) else if y = "front" then some (.ref fr) else if y = "back" then some (.ref bk) else mX y))
    (N : News h₀ L h [(rows, listOf #[.ref fr, .ref bk] nr), (bk, listOf #[.int 1 g0, .int x4 g1, .int q2 g2, .int q3 g3, .int q4 g4, .int e g5] nb), (fr, listOf #[.int 1 f0, .int x0 f1, .int p2 f2, .int p3 f3, .int p4 f4, .int e f5] nf), (L + 1, oc)]) :
    wpAny (model PySem.Challenge.rw_xr0005_01.prog w) (callerA.deeper (lawEnv L fa cd)) (execs cutBody (lawEnv L fa cd)) (JoinRows h₀ L (L + 1) s c e) (fun _ _ => False) { s with heap := h, toks := tk } := by
  revert X
  k_fill
  intro X
  (show wpAny _ (Around.deeper _ (envOfC _ ⟨_, _, _, _, _⟩ _ _ _)) (execs (PySem.Stmt.For _ _ _ _ _ :: _) (envOfC _ ⟨_, _, _, _, _⟩ _ _ _)) _ _ _)
  (try dsimp only)
  (try k_fold)
  k_steps
  unfold StopL5
  (try dsimp only)
  k_dflt (refine' JoinRows.intro ?Fq ?m1q ?m2q ?Nq ?hrq ?hcq ?dq ?Rq ?lenq; (case Fq => k_asm); (case m1q => rfl); (case m2q => rfl); (case Nq => k_asm); (case hrq => k_mem); (case hcq => k_mem); (case dq => assumption); (case Rq => exact RowsIn.cons (by k_mem) r1 (RowsIn.cons (by k_mem) r2 (RowsIn.cons (by k_mem) r3 (RowsIn.cons (by k_mem) r4 (RowsIn.cons (by k_mem) r5 (RowsIn.cons (by k_mem) r6 RowsIn.nil)))))); (case lenq => exact Nat.le_of_ble_eq_true rfl))
end
section
theorem lnLM_0 : True := by k_with_none; exact trivial
theorem lnLMp_1 : True := by
  (k_with "m:tell" => (
  unfold Tell
  k_fill
  intro mean9 mg9 mb9 gd9 cn9 cs9 a9 ccd9 cl9 outer9 A9 base9 h9 L9 m9 news9 s9 Q9 E9 B F X N T hk hsub hret
  refine wpAny_call ?_
  k_dflt (refine' enterS ?k1q ?k2q ?k3q ?k4q ?k5q hsub ?kAq ?kFq ?kKq ?k6q ?k7q ?k8q ?k9q ?kBq ?_ ?c5q ?c2q ?c3q ?c4q; (case kAq => exact rfl); (case kFq => exact rfl); (case kKq => assumption); (case k1q => k_asm); (case k2q => k_asm); (case k3q => k_asm); (case k4q => k_asm); (case k5q => k_asm); (case k6q => k_is); (case k7q => k_is); (case k8q => k_room); (case k9q => exact BindsTo.of_eq rfl); (case c5q => decide); (case kBq => exact locs rfl); (case c2q => exact rfl); (case c3q => exact rfl); (case c4q => exact rfl); k_whole)
  intro g' L' h' FG' F' N' B' X' T'
  (try dsimp only)
  (simp only [zipS, List.reverse_cons, List.reverse_nil, List.nil_append, List.cons_append] at F')
  clear B F X N T FG'
  k_fold))
  (k_with "m:sub" => first | exact List.forall_mem_nil _ | (refine List.forall_mem_cons.mpr ⟨by k_mem, ?_⟩; walk_at "sub"))
  (k_with "m:apart" => first | exact List.forall_mem_nil _ | (refine List.forall_mem_cons.mpr ⟨by k_ne, ?_⟩; walk_at "apart"))
  (k_with "m:leave0" => (k_dflt (refine' LeaveS.intro [] ?k1q ?k2q ?k3q (List.forall_mem_nil _) (List.forall_mem_nil _) ?_; (case k1q => k_asm); (case k2q => k_asm); (case k3q => walk_at "sub"); k_whole); intro kF kN kA; (with_reducible rename (∀ (_ : Value) (_ : List (Addr × Obj)) (_ : Heap) (_ : Nat), Fr _ _ _ _ → _) => hret); refine hret _ [] _ _ kF kN kA ⟨rfl, Done.intro ?_⟩; clear kF kN kA hret))
  (k_with "m:leave1" => (k_dflt (refine' LeaveS.intro1 ?k1q ?k2q ?k3q ?k4q ?k5q ?_; (case k1q => k_asm); (case k2q => k_asm); (case k3q => walk_at "sub"); (case k4q => k_mem); (case k5q => walk_at "apart"); k_whole); intro kF kN kA; (with_reducible rename (∀ (_ : Value) (_ : List (Addr × Obj)) (_ : Heap) (_ : Nat), Fr _ _ _ _ → _) => hret); refine hret _ [_] _ _ kF kN kA (Done.intro ?_); clear kF kN kA hret))
  (k_with "m:leave" => walk_at "leave0")
  (k_with "m:LeaveS" => ((try dsimp only); walk_at "leave"))
  (k_with "m:use0" => ((case k1q => k_asm); (case k2q => k_asm); (case k3q => k_asm); (case k4q => k_asm); (case k5q => k_asm); (case kKq => first | exact rfl | assumption); (case ksq => walk_at "sub"); (case kdq => k_room); (case kuq => k_room); k_whole))
  (k_with "m:gotInt" => (intro r9 h9 tk9 F9 N9 hR9; obtain ⟨v9, t9, hv9, e9⟩ := hR9; subst e9; (try k_sweep); (try dsimp only)))
  (k_with "m:gotBool" => (intro r9 h9 tk9 F9 N9 hR9; obtain ⟨v9, hv9, e9⟩ := hR9; subst e9; (try k_sweep); (try dsimp only)))
  (k_with "m:item" => (k_here; k_dflt (refine' item_fast ?Nq ?mq ?aq ?bq ?xq ?_ ?yq; (case Nq => k_asm); (case mq => k_mem); (case aq => decide); (case bq => decide); (case xq => exact rfl); (case yq => with_unfolding_all rfl); k_whole)))
  (k_with "m:subscriptTail Name BinOp ref int" => walk_at "item")
  (k_with "m:subscriptTail Name Name ref int" => walk_at "item")
  (k_with "m:subscriptTail Name Constant ref int" => walk_at "item")
  (k_with "m:eval Name" => (k_here; k_dflt (refine' nameX_L ?Fq ?vq ?_ ?aq ?bq; (case bq => rfl); (case Fq => k_asm); (case aq => rfl); (case vq => rfl); k_whole)))
  (k_with "m:subscriptTail Name Slice str ref" => (k_here; (with_reducible rename Fr _ _ _ _ => F'); (with_reducible rename News _ _ _ _ => N'); (first | ((with_reducible show wpAny _ _ (subscriptTail _ (PySem.Expr.Slice none none none _) _ _) _ _ _); refine slice_strN_nn (hsz := ?hszq) (s := ⟨_, _, _, _, _⟩) F' N' ?_) | ((with_reducible show wpAny _ _ (subscriptTail _ (PySem.Expr.Slice none (some _) none _) _ _) _ _ _); refine slice_strN_ns (hsz := ?hszq) (s := ⟨_, _, _, _, _⟩) F' N' ?_) | ((with_reducible show wpAny _ _ (subscriptTail _ (PySem.Expr.Slice (some _) none none _) _ _) _ _ _); refine slice_strN_sn (hsz := ?hszq) (s := ⟨_, _, _, _, _⟩) F' N' ?_) | ((with_reducible show wpAny _ _ (subscriptTail _ (PySem.Expr.Slice (some _) (some _) none _) _ _) _ _ _); refine slice_strN_ss (hsz := ?hszq) (s := ⟨_, _, _, _, _⟩) F' N' ?_)); (case hszq => exact Short.fits (by assumption)); intro _ _ _ _ _))
  (k_with "m:execs cons" => (dsimp only; walk_at "execs cons"))
  exact trivial
theorem lnLMF1a_1 : True := by
  (k_with "m:call ref" => (k_here; (with_reducible show wpAny _ _ (call (Value.ref 21) [Value.int _ _, Value.int _ _]) _ _ _); k_dflt (refine' TellUse0 (mul_tell _ _ _ _ _ ?okq) ?k1q ?k2q ?k3q ?k4q ?k5q ?kKq ?ksq ?kdq ?kuq ?_; (case okq => exact IntMulOk.of_left (by assumption)); walk_at "use0"); walk_at "gotInt"))
  (k_with "m:call ref" => (k_here; (with_reducible show wpAny _ _ (call (Value.ref 28) [Value.int _ _, Value.int _ _]) _ _ _); k_dflt (refine' TellUse0 (sub_tell _ _ _ _ _) ?k1q ?k2q ?k3q ?k4q ?k5q ?kKq ?ksq ?kdq ?kuq ?_; walk_at "use0"); walk_at "gotInt"))
  exact trivial
theorem lnLMF1b_1 : True := by
  (k_with "m:leave" => walk_at "leave0")
  exact trivial
theorem lnLMF2_1 : True := by
  (k_with "m:short" => first | assumption | exact Short.of (by decide +kernel))
  (k_with "m:splitok" => first | assumption | exact SplitOk.of (by decide +kernel))
  (k_with "m:call ref" => (k_here; (with_reducible show wpAny _ _ (call (Value.ref 56) [Value.str _ _, Value.str _ _]) _ _ _); k_dflt (refine' TellUse0 (em_tell _ _ _ _ _ ?swq ?sgq ?soq) ?k1q ?k2q ?k3q ?k4q ?k5q ?kKq ?ksq ?kdq ?kuq ?_; (case swq => walk_at "short"); (case sgq => walk_at "short"); (case soq => walk_at "splitok"); walk_at "use0"); walk_at "gotBool"))
  exact trivial
theorem fr_four {h₀ h' : Heap} {L : Addr} {m' : PySem.Str → Option Value} {a b c d : PySem.Str} {u v x z : Value} (F : Fr h₀ L h' m') (m1 : m' a = some u) (m2 : m' b = some v) (m3 : m' c = some x) (m4 : m' d = some z) : Fr h₀ L h' (fun y => if y = a then some u else if y = b then some v else if y = c then some x else if y = d then some z else m' y) := by
  have F1 := fr_two F m3 m4
  have e : (fun y => if y = c then some x else if y = d then some z else m' y) = m' := by
    funext y
    by_cases h1 : y = c
    · rw [if_pos h1, h1, m3]
    · rw [if_neg h1]
      by_cases h2 : y = d
      · rw [if_pos h2, h2, m4]
      · rw [if_neg h2]
  have e2 := fr_two F m1 m2
  have e3 : (fun y => if y = a then some u else if y = b then some v else if y = c then some x else if y = d then some z else m' y) = (fun y => if y = a then some u else if y = b then some v else m' y) := by
    funext y
    have q := congrFun e y
    rw [q]
  rw [e3]; exact e2
noncomputable def StopM (P : Prop) : Prop := P
theorem StopM.out {P : Prop} (h : StopM P) : P := h
theorem lnLM_1 : True := by
  (k_with "m:call ref" => (k_here; (with_reducible show wpAny _ _ (call (Value.ref 82) _ _) _ _ _); refine StopM.out ?_))
  exact trivial
theorem drawn_use {w : World} {mean : ExcName → Option Value} {mg mb : PySem.Str → Option Value} {dp un : Nat} {gd : Option (List Code)} {cn : PySem.Str} {cs : Scope} {a : Addr} {ccd : Value} {cl : List (PySem.Str × Addr)} {outer : List Env} {A₀ : Around} {base h₀ : Heap} {L : Addr}
    {m : PySem.Str → Option Value} {news : Led} {s : Shared} {Q E : Value → Shared → Prop} {sc : Addr} {vs : List Value} {ns : List Int} (B : Below A₀ base outer h₀) (F : Fr h₀ L s.heap m) (X : (hd.heap_1 w.params).In h₀) (N : News h₀ L s.heap news) (T : TopF mean mg mb h₀) (hk : cs.kind = .function)
    (hsc : h₀.IsList sc vs.toArray) (hin : IntsAre vs ns) (hlen : vs.length ≤ 63) (hd : dp ≤ 310) (hu : un ≤ 310)
    (hret : ∀ h' tk' (D W S : Addr) (nW nS : Nat) (w0 w1 w2 w3 w4 z0 z1 z2 z3 d : Int) (t0 t1 t2 t3 t4 u0 u1 u2 u3 td : Tok), DrawnOk w0 w1 w2 w3 w4 z0 z1 z2 z3 d → Fr h₀ L h' m →
      News h₀ L h' ([(D, ({ cls := .type "tuple", data := .seq #[.ref W, .ref S, .int d td] } : Obj)), (W, listOf #[.int w0 t0, .int w1 t1, .int w2 t2, .int w3 t3, .int w4 t4] nW), (S, listOf #[.int z0 u0, .int z1 u1, .int z2 u2, .int z3 u3] nS)] ++ news) →
      AllNe D news → AllNe W news → AllNe S news → Q (.ref D) { s with heap := h', toks := tk' }) :
    wpAny (model PySem.Challenge.rw_xr0005_01.prog w) (ktrTop dp un gd cn cs L a ccd cl outer) (call (.ref 82) [.ref sc]) Q E s :=
  wpAny_le (A := ktrTop 310 310 gd cn cs L a ccd cl outer) (drawn_tell w mean mg mb gd cn cs a ccd cl outer A₀ base h₀ L m news s Q E sc vs ns B F X N T hk hsc hin hlen
    fun h' tk' D W S nW nS w0 w1 w2 w3 w4 z0 z1 z2 z3 d t0 t1 t2 t3 t4 u0 u1 u2 u3 td ok F' N' ap => hret h' tk' D W S nW nS w0 w1 w2 w3 w4 z0 z1 z2 z3 d t0 t1 t2 t3 t4 u0 u1 u2 u3 td ok F' N' (allNe_of (ap _ (.head _))) (allNe_of (ap _ (.tail _ (.head _)))) (allNe_of (ap _ (.tail _ (.tail _ (.head _)))))) hd hu
theorem links_use {w : World} {mean : ExcName → Option Value} {mg mb : PySem.Str → Option Value} {dp un : Nat} {gd : Option (List Code)} {cn : PySem.Str} {cs : Scope} {aa : Addr} {ccd : Value} {cl : List (PySem.Str × Addr)} {outer : List Env} {A₀ : Around} {base h₀ : Heap} {L : Addr}
    {m : PySem.Str → Option Value} {D W ls ce : Addr} {oD oW oc : Obj} {s : Shared} {Q E : Value → Shared → Prop} {k : Nat} {a b c d dr : Int} {ta tb tc td u : Tok}
    (N : News h₀ L s.heap [(D, oD), (W, oW), (ls, listOf #[.int a ta, .int b tb, .int c tc, .int d td] k), (ce, oc)])
    (B : Below A₀ base outer h₀) (F : Fr h₀ L s.heap m) (X : (hd.heap_1 w.params).In h₀) (T : TopF mean mg mb h₀) (hk : cs.kind = .function)
    (hls : (@Ne Nat ce ls)) (hd : dp ≤ 310) (hu : un ≤ 310) (hb : AllBare s.gens) (ga : SizeOk a) (gb : SizeOk b) (gc : SizeOk c) (gd' : SizeOk d) (h0 : 0 ≤ dr) (h4 : dr < 4)
    (ret : LinksRet ce h₀ L m [(W, oW), (ce, oc)] s Q) : wpAny (model PySem.Challenge.rw_xr0005_01.prog w) (ktrTop dp un gd cn cs L aa ccd cl outer) (call (.ref 89) [.ref ls, .int dr u]) Q E s :=
  links_all B F X N T hk (.tail _ (.tail _ (.head _))) (List.forall_mem_cons.mpr ⟨.tail _ (.head _), List.forall_mem_cons.mpr ⟨.tail _ (.tail _ (.tail _ (.head _))), List.forall_mem_nil _⟩⟩) hls ⟨_, .tail _ (.head _)⟩ hd hu hb ga gb gc gd' h0 h4 ret
theorem lnLM_2 : True := by
  (k_with "m:call ref" => (k_here; (with_reducible show wpAny _ _ (call (Value.ref 89) _ _) _ _ _); refine StopM.out ?_))
  exact trivial
theorem bits_w {x : Int} (h : x.natAbs < 1000000) : PySem.Builtin.Int.intBits x ≤ 64 := PySem.intBits_le_64 (by omega) (by omega)
theorem bits_l {x : Int} (h : LinkOk x) : PySem.Builtin.Int.intBits x ≤ 64 := PySem.intBits_le_64 (by have := h.1; omega) (by have := h.2; omega)
theorem refused_use {w : World} {mean : ExcName → Option Value} {mg mb : PySem.Str → Option Value} {dp un : Nat} {gd : Option (List Code)} {cn : PySem.Str} {cs : Scope} {a : Addr} {ccd : Value} {cl : List (PySem.Str × Addr)} {A₀ : Around} {h₀ : Heap} {L : Addr}
    {m : PySem.Str → Option Value} {news : Led} {s : Shared} {Q E : Value → Shared → Prop} (B : Below A₀ h₀ [] h₀) (F : Fr h₀ L s.heap m) (X : (hd.heap_1 w.params).In h₀) (N : News h₀ L s.heap news) (T : TopF mean mg mb h₀) (hk : cs.kind = .function) (hbare : AllBare s.gens) (hd : dp ≤ 310) (hu : un ≤ 310)
    (hret : ∀ h' tk' gn, AllBare gn → Fr h₀ L h' m → News h₀ L h' news → Q (.bool true) { s with heap := h', toks := tk', gens := gn }) :
    wpAny (model PySem.Challenge.rw_xr0005_01.prog w) (ktrTop dp un gd cn cs L a ccd cl []) (call (.ref 96) []) Q E s :=
  wpAny_le (A := ktrTop 310 310 gd cn cs L a ccd cl []) (refused_tell w mean mg mb gd cn cs a ccd cl A₀ h₀ L m news s Q E B F X N T hk hbare hret) hd hu
theorem ap1 {l : Addr} {o : Obj} {news : Led} (h : ∀ p ∈ [(l, o)], ∀ q ∈ news, q.1 ≠ p.1) : AllNe l news := allNe_of (h _ (.head _))
theorem lnLM_3 : True := by
  (k_with "m:call ref" => (k_here; (with_reducible show wpAny _ _ (call (Value.ref 110) _ _) _ _ _); refine StopM.out ?_))
  (k_with "m:call ref" => (k_here; (with_reducible show wpAny _ _ (call (Value.ref 96) _ _) _ _ _); k_dflt (refine' refused_use ?Bq ?Fq ?Xq ?Nq ?Tq ?hkq ?hbq ?hdq ?huq ?_; (case Bq => assumption); (case Fq => k_asm); (case Xq => k_asm); (case Nq => k_asm); (case Tq => k_asm); (case hkq => exact rfl); (case hbq => assumption); (case hdq => k_room); (case huq => k_room); k_whole); intro hR8 tkR8 gnR8 hgR8 FR8 NR8; (try dsimp only)))
  (k_with "m:subscriptTail Subscript Name Slice Slice ref ref" => (k_here; k_dflt (refine kba_turn (value' := PySem.Expr.Name (PySem.Str.ofString "_") ⟨0, 0, 0, 0⟩) (fun _ => rfl) ?_)))
  (k_with "m:use" => ((case k1q => k_asm); (case k2q => k_asm); (case k3q => k_asm); (case k4q => k_asm); (case k5q => k_asm); (case kKq => exact rfl); (case ksq => walk_at "sub"); (case kdq => k_room); (case kuq => k_room); k_whole))
  (k_with "m:fits" => first | exact bits_w (by assumption) | exact bits_l (by assumption))
  (k_with "m:call ref" => (k_here; (with_reducible show wpAny _ _ (call (Value.ref 103) _ _) _ _ _); k_dflt (refine' TellUse (row_tell _ _ _ _ _ _ _ _ _ _ _ _ _ _ _ _ _ _ _ _ _ _ _ _ ?h0q ?h1q ?h2q ?h3q ?h4q ?l0q ?l1q ?l2q ?l3q) ?k1q ?k2q ?k3q ?k4q ?k5q ?kKq ?ksq ?kdq ?kuq ?_; (case k1q => k_asm); (case k2q => k_asm); (case k3q => k_asm); (case k4q => k_asm); (case k5q => k_asm); (case kKq => exact rfl); (case ksq => walk_at "sub"); (case kdq => k_room); (case kuq => k_room); (case h0q => walk_at "fits"); (case h1q => walk_at "fits"); (case h2q => walk_at "fits"); (case h3q => walk_at "fits"); (case h4q => walk_at "fits"); (case l0q => walk_at "fits"); (case l1q => walk_at "fits"); (case l2q => walk_at "fits"); (case l3q => walk_at "fits"); k_whole); intro r9 tl9 h9 tk9 F9 N9 a9 hR9; obtain ⟨l9, n9, p2', p3', p4', p5', t0', t1', t2', t3', t4', t5', e2', e3', e4', e5', e6', e7'⟩ := hR9; subst e6'; subst e7'; (replace a9 := ap1 a9); (simp only [AllNe, and_true] at a9); (simp only [List.cons_append, List.nil_append] at N9); (try dsimp only)))
  exact trivial
theorem LinkOk.pos {x : Int} (h : LinkOk x) : 0 < x := by have := h.1; omega
open Builtin.Int in
theorem plain_use {w : World} {mean : ExcName → Option Value} {mg mb : PySem.Str → Option Value} {dp un : Nat} {gd : Option (List Code)} {cn : PySem.Str} {cs : Scope} {aa : Addr} {ccd : Value} {cl : List (PySem.Str × Addr)} {outer : List Env} {A₀ : Around} {base h₀ : Heap} {L : Addr}
    {m : PySem.Str → Option Value} {d1 d2 bk d4 d5 d6 fr d8 d9 d10 W ce : Addr} {o2 o4 o5 o6 o8 o9 o10 oc : Obj} {s : Shared} {Q E : Value → Shared → Prop} {nd nb nf nw : Nat}
    {x0 x1 x2 x3 x4 l0 l1 l2 l3 : Int} {p2 p3 p4 p5 q2 q3 q4 q5 : Int} {a0 a1 a2 a3 a4 b0 b1 b2 b3 f0 f1 f2 f3 f4 f5 g0 g1 g2 g3 g4 g5 : Tok}
    (N : News h₀ L s.heap [(d1, listOf #[.int l0 b0, .int l1 b1, .int l2 b2, .int l3 b3] nd), (d2, o2), (bk, listOf #[.int 1 g0, .int x4 g1, .int q2 g2, .int q3 g3, .int q4 g4, .int q5 g5] nb), (d4, o4), (d5, o5), (d6, o6), (fr, listOf #[.int 1 f0, .int x0 f1, .int p2 f2, .int p3 f3, .int p4 f4, .int p5 f5] nf), (d8, o8), (d9, o9), (d10, o10), (W, listOf #[.int x0 a0, .int x1 a1, .int x2 a2, .int x3 a3, .int x4 a4] nw), (ce, oc)])
    (B : Below A₀ base outer h₀) (F : Fr h₀ L s.heap m) (X : (hd.heap_1 w.params).In h₀) (T : TopF mean mg mb h₀) (hk : cs.kind = .function) (hd : dp ≤ 310) (hu : un ≤ 310) (c1 : (@Ne Nat fr ce)) (c2 : (@Ne Nat bk ce))
    (h0 : intBits x0 ≤ 64) (h1 : intBits x1 ≤ 64) (h2 : intBits x2 ≤ 64) (h3 : intBits x3 ≤ 64) (h4 : intBits x4 ≤ 64) (k0 : intBits l0 ≤ 64) (k1 : intBits l1 ≤ 64) (k2 : intBits l2 ≤ 64) (k3 : intBits l3 ≤ 64)
    (l0p : 0 < l0) (l1p : 0 < l1) (l2p : 0 < l2) (l3p : 0 < l3)
    (p2e : p2 = x1 * x0 - l0 * 1) (p3e : p3 = x2 * p2 - l1 * x0) (p4e : p4 = x3 * p3 - l2 * p2) (p5e : p5 = x4 * p4 - l3 * p3) (q2e : q2 = x3 * x4 - l3 * 1) (q3e : q3 = x2 * q2 - l2 * x4) (q4e : q4 = x1 * q3 - l1 * q2) (q5e : q5 = x0 * q4 - l0 * q3)
    (ret : ∀ (D : Addr) (e c : Int) (tc te : Tok) (h' : Heap) (tk' : Nat), ChainOk x0 x1 x2 x3 x4 l0 l1 l2 l3 p2 p3 p4 q2 q3 q4 e c →
      Fr h₀ L h' m → News h₀ L h' [(D, tupOf #[.int c tc, .int e te]), (bk, listOf #[.int 1 g0, .int x4 g1, .int q2 g2, .int q3 g3, .int q4 g4, .int e g5] nb), (fr, listOf #[.int 1 f0, .int x0 f1, .int p2 f2, .int p3 f3, .int p4 f4, .int e f5] nf), (ce, oc)] →
      (@Ne Nat D ce) → (@Ne Nat fr ce) → (@Ne Nat bk ce) → Q (.ref D) { s with heap := h', toks := tk' }) :
    wpAny (model PySem.Challenge.rw_xr0005_01.prog w) (ktrTop dp un gd cn cs L aa ccd cl outer) (call (.ref 110) [.ref W, .ref d1]) Q E s := by
  refine TellUse (plain_tell w W d1 nw nd x0 x1 x2 x3 x4 l0 l1 l2 l3 a0 a1 a2 a3 a4 b0 b1 b2 b3 h0 h1 h2 h3 h4 k0 k1 k2 k3) B F X N T hk ?_ hd hu ?_
  · intro p hp
    rcases List.mem_cons.mp hp with rfl | hp
    · exact .tail _ (.tail _ (.tail _ (.tail _ (.tail _ (.tail _ (.tail _ (.tail _ (.tail _ (.tail _ (.head _))))))))))
    · rw [List.mem_singleton.mp hp]; exact .head _
  · rintro r tl h' tk' F' N' ap ⟨D, y1, y2, y3, y4, y5, c, tc, te, e1, e2, e3, e4, e5, e6, rfl, rfl⟩
    have z1 : y1 = x0 := by rw [e1]; omega
    subst z1
    have z2 : y2 = p2 := e2.trans p2e.symm
    subst z2
    have z3 : y3 = p3 := e3.trans p3e.symm
    subst z3
    have z4 : y4 = p4 := e4.trans p4e.symm
    subst z4
    have z5 : y5 = p5 := e5.trans p5e.symm
    subst z5
    have w2 : y2 = x1 * y1 - l0 := by rw [e2]; omega
    have w2' : q2 = x3 * x4 - l3 := by rw [q2e]; omega
    have z6 : q5 = y5 := by rw [q5e, chain_end w2 e3 e4 w2' q3e q4e, e5]
    subst z6
    refine ret D q5 c tc te h' tk' ⟨l0p, l1p, l2p, l3p, w2, e3, e4, e5, w2', q3e, q4e, q5e, e6⟩ F' (news_sub N' fun p hp => ?_) (Ne.symm (ap _ (.head _) (ce, oc) (.tail _ (.tail _ (.tail _ (.tail _ (.tail _ (.tail _ (.tail _ (.tail _ (.tail _ (.tail _ (.tail _ (.head _)))))))))))))) c1 c2
    rcases List.mem_cons.mp hp with rfl | hp
    · exact .head _
    rcases List.mem_cons.mp hp with rfl | hp
    · exact .tail _ (.tail _ (.tail _ (.head _)))
    rcases List.mem_cons.mp hp with rfl | hp
    · exact .tail _ (.tail _ (.tail _ (.tail _ (.tail _ (.tail _ (.tail _ (.head _)))))))
    rw [List.mem_singleton.mp hp]; exact .tail _ (.tail _ (.tail _ (.tail _ (.tail _ (.tail _ (.tail _ (.tail _ (.tail _ (.tail _ (.tail _ (.tail _ (.head _))))))))))))
theorem lnLM_4 : True := by
  (k_with "m:storeName" => (k_here; (with_reducible show wpAny _ _ (storeName _ "end" _) _ _ _); (try dsimp only); refine StopM.out ?_))
  exact trivial
open Builtin.Int in
theorem chain_bits {x0 x1 x2 x3 x4 l0 l1 l2 l3 p2 p3 p4 q2 q3 q4 e c : Int} (h : ChainOk x0 x1 x2 x3 x4 l0 l1 l2 l3 p2 p3 p4 q2 q3 q4 e c) (h0 : intBits x0 ≤ 64) (h1 : intBits x1 ≤ 64) (h2 : intBits x2 ≤ 64) (h3 : intBits x3 ≤ 64) (h4 : intBits x4 ≤ 64) (k0 : intBits l0 ≤ 64) (k1 : intBits l1 ≤ 64) (k2 : intBits l2 ≤ 64) (k3 : intBits l3 ≤ 64) :
    intBits 1 ≤ 1000 ∧ intBits x4 ≤ 1000 ∧ intBits q2 ≤ 1000 ∧ intBits q3 ≤ 1000 ∧ intBits q4 ≤ 1000 ∧ intBits e ≤ 1000 := by
  have a2 : intBits q2 ≤ 129 := by rw [h.q2e]; exact PySem.intBits_sub_le (m := 128) (n := 64) (PySem.intBits_mul_le h3 h4) k3
  have a3 : intBits q3 ≤ 194 := by rw [h.q3e]; exact PySem.intBits_sub_le (m := 193) (n := 128) (PySem.intBits_mul_le h2 a2) (PySem.intBits_mul_le k2 h4)
  have a4 : intBits q4 ≤ 259 := by rw [h.q4e]; exact PySem.intBits_sub_le (m := 258) (n := 193) (PySem.intBits_mul_le h1 a3) (PySem.intBits_mul_le k1 a2)
  have a5 : intBits e ≤ 324 := by rw [h.q5e]; exact PySem.intBits_sub_le (m := 323) (n := 258) (PySem.intBits_mul_le h0 a4) (PySem.intBits_mul_le k0 a3)
  exact ⟨by decide, by omega, by omega, by omega, by omega, by omega⟩
theorem lnLM_5 : True := by
  (k_with "m:exec If" => (k_here; (with_reducible show wpAny _ _ (exec (PySem.Stmt.If (PySem.Expr.Compare (PySem.Expr.Name _ _) _ _ _) _ _ _) _) _ _ _); (try dsimp only); refine StopM.out ?_))
  (k_with "m:JoinRows" => (refine StopM.out ?_))
  (k_with "m:execs cons" => ((with_reducible show wpAny _ _ (execs (_ :: _) _) (JoinRows _ _ _ _ _ _) _ _); refine StopM.out ?_))
  (k_with "m:exec For Name Name cons nil" => (k_here; (rename Fr _ _ _ _ => lF'); (with_unfolding_all refine' For_invVF lF' ?k1q ?k2q ?_; (case k1q => exact rfl); (case k2q => exact rfl); k_whole)))
  (k_with "m:pyIter ref" => (refine StopM.out ?_))
  exact trivial
set_option maxHeartbeats 8000000 in
theorem law_holds : PySem.Challenge.rw_xr0005_01.Holds := by
  w_on
  refine holds_law wsA fun said => ?_
  refine PySem.W.holds_open (q := hd.view_1) (loose := []) (Xt := fun s => xlAt hd.view_1 [] s && recOk (RowW.records PySem.Challenge.rw_xr0005_01.row.toRowW) s) (XP := XL hd.view_1 []) (Yf := Hook.obs (kHook hd.heap_1 asK asK_ok)) (Ya := Hook.val (kHook hd.heap_1 asK asK_ok)) (YP := Hook.says (kHook hd.heap_1 asK asK_ok)) (N := 1224) hd_left (Hook.of (kHook hd.heap_1 asK asK_ok)) (Hook.keeps (kHook hd.heap_1 asK asK_ok)) (fun s e => xl_of s (Bool.and_eq_true_iff.mp e).1) XL.keeps (by rfl) (by rfl) (by rfl) (fun s e => recFacts_of (Bool.and_eq_true_iff.mp e).2) (by rfl) (by first | assumption | decide +kernel) (by decide +kernel) ⟨rfl, rfl, rfl, rfl, rfl, by decide +kernel⟩ ?hwq ?_
  case hwq => w_witness2
  clear said
  k_fill
  intro w s₀ s₁ mg mb G Y fa o pm cd doc dV kV ho hd' hcd hD hmg hg args vals as hpre hlay hrd hwl hlo
  have KX := kIn_of Y
  have V := (Ground.X G).2
  have GL := glob_more (Ground.glob G (by decide +kernel) (by decide +kernel)) V
  refine Ground.open G ?_
  intro T B D TE TW
  obtain ⟨_, _, M⟩ := bmod_of_top T
  wrow_args hpre hlay hrd hwl hlo
  refine enter_call ?_
  w_top on
  have K0 := below_caller (Top.heap T)
  w_call any ho hd' hcd hD T F
  clear hd'
  k_drop
  (all_goals try k_fold)
  k_steps
  unfold StopM
  have hbare := AllBare.of_eq (by assumption : Shared.gens _ = #[])
  k_dflt (refine' drawn_use ?Bq ?Fq ?Xq ?Nq ?Tq ?hkq ?hscq ?hinq ?hlenq ?hdq ?huq ?_; (case Bq => k_asm); (case Fq => k_asm); (case Xq => k_asm); (case Nq => k_asm); (case Tq => k_asm); (case hkq => exact rfl); (case hscq => assumption); (case hinq => assumption); (case hdq => k_room); (case huq => k_room); k_whole)
  · have e := IntsAre.length (by assumption : IntsAre _ _)
    exact e ▸ Nat.le_of_not_lt (fun h => (by assumption : ¬ (63 : Int) < _) (Int.ofNat_lt.mpr h))
  intro h9 tk9 D9 W9 S9 nW nS w0 w1 w2 w3 w4 z0 z1 z2 z3 d9 t0 t1 t2 t3 t4 u0 u1 u2 u3 td hok F9 N9 a1 a2 a3
  simp only [AllNe, and_true] at a1 a2 a3
  obtain ⟨m0z, F9⟩ : ∃ m0z, Fr _ _ _ m0z := ⟨_, F9⟩
  obtain ⟨⟨hw0, hw1, hw2, hw3, hw4⟩, ⟨hz0, hz1, hz2, hz3⟩, hd0, hd4⟩ := hok
  (simp only [List.cons_append, List.nil_append] at N9)
  (try dsimp only)
  k_steps
  unfold StopM
  k_dflt (refine' links_use ?Nq ?Bq ?Fq ?Xq ?Tq ?hkq ?hlsq ?hdq ?huq ?hbq ?gaq ?gbq ?gcq ?gdq ?h0q ?h4q ?_; (case Nq => k_asm); (case Bq => k_asm); (case Fq => k_asm); (case Xq => k_asm); (case Tq => k_asm); (case hkq => exact rfl); (case hlsq => exact a3); (case hdq => k_room); (case huq => k_room); (case hbq => assumption); (case gaq => assumption); (case gbq => assumption); (case gcq => assumption); (case gdq => assumption); (case h0q => assumption); (case h4q => assumption); k_whole)
  intro D8 T8 U8 nT nU l0 l1' l2' l3' b0 b1 b2 b3 more ms h8 tk8 gn8 hg8 k0 k1 k2 k3 hmore hmlen F8 N8 a4 a5 a6
  replace a4 := allNe_of a4
  replace a5 := allNe_of a5
  simp only [AllNe, and_true] at a4 a5
  (simp only [List.cons_append, List.nil_append] at N8)
  (try dsimp only)
  k_steps
  unfold StopM
  k_dflt (refine' plain_use ?Nq ?Bq ?Fq ?Xq ?Tq ?hkq ?hdq ?huq ?c1q ?c2q ?h0q ?h1q ?h2q ?h3q ?h4q ?k0q ?k1q ?k2q ?k3q ?l0q ?l1q ?l2q ?l3q ?p2q ?p3q ?p4q ?p5q ?q2q ?q3q ?q4q ?q5q ?_; (case Nq => k_asm); (case Bq => k_asm); (case Fq => k_asm); (case Xq => k_asm); (case Tq => k_asm); (case hkq => exact rfl); (case hdq => k_room); (case huq => k_room); (case c1q => k_ne); (case c2q => k_ne); (case h0q => exact bits_w (by assumption)); (case h1q => exact bits_w (by assumption)); (case h2q => exact bits_w (by assumption)); (case h3q => exact bits_w (by assumption)); (case h4q => exact bits_w (by assumption)); (case k0q => exact bits_l (by assumption)); (case k1q => exact bits_l (by assumption)); (case k2q => exact bits_l (by assumption)); (case k3q => exact bits_l (by assumption)); (case l0q => exact LinkOk.pos (by assumption)); (case l1q => exact LinkOk.pos (by assumption)); (case l2q => exact LinkOk.pos (by assumption)); (case l3q => exact LinkOk.pos (by assumption)); (case p2q => assumption); (case p3q => assumption); (case p4q => assumption); (case p5q => assumption); (case q2q => assumption); (case q3q => assumption); (case q4q => assumption); (case q5q => assumption); k_whole)
  intro D7 e7 c7 tc7 te7 h7 tk7 hchain F7 N7 a7 a8 a9'
  (try dsimp only)
  k_steps
  unfold StopM
  k_dflt (refine' storeX_C ?Fq ?Nq ?cq ?Uq ?dq ?_ ?sa9q ?sb9q; (case sa9q => rfl); (case sb9q => rfl); (case Fq => k_asm); (case Nq => k_asm); (case cq => rfl); (case Uq => exact .tail a7 (.tail a9' (.tail a8 (.head (List.forall_mem_nil _))))); (case dq => assumption); k_whole)
  intro h6 o6 F6 N6 d6
  (try dsimp only)
  (try dsimp only at N6)
  k_steps
  unfold StopM
  have hrc := rows_cut hchain
  have hrn := rows_nil hchain
  obtain ⟨hb1, hb2, hb3, hb4, hb5, hb6⟩ := chain_bits hchain (bits_w (by assumption)) (bits_w (by assumption)) (bits_w (by assumption)) (bits_w (by assumption)) (bits_w (by assumption)) (bits_l (by assumption)) (bits_l (by assumption)) (bits_l (by assumption)) (bits_l (by assumption))
  clear hchain
  clear a1 a2 a3 a4 a5 a6 hz0 hz1 hz2 hz3 hd0 hd4 hmore hmlen hbare hg8
  (with_reducible rename Fr _ _ _ _ => lF)
  k_dflt (refine' join_rows lF a8 c7 e7 ?_ ?_; k_whole)
  rotate_left
  · intro h5 tk5 rows5 k5 vs5 oc5 mX tl5 tc5 te5 F5 N5 d5 R5 len5
    (try dsimp only)
    k_steps
    unfold StopM
    k_dflt (refine' iter_rows ?hhq ?Fq ?Nq ?Rq ?_ ?_; (case hhq => rfl); (case Fq => k_asm); (case Nq => k_asm); (case Rq => assumption); k_whole)
    · intro r x1 x2 x3 x4 x5 t0 t1 t2 t3 t4 t5 n o2 o3 o4 h tk rest hg9 F9 N9
      exact turn_ok (by k_asm) (by k_asm) (by k_asm) hg9 d5 F9 N9
    · intro m1 h tk F9
      (try dsimp only)
      k_steps
      (try dsimp only)
      unfold qk
      (try dsimp only)
      refine ⟨.inl ⟨.bool true, .bool true, [], rfl, fun _ => rfl, .bool _, ?_, fun _ => ⟨.nil, fun _ h => nomatch h⟩⟩, .of_keep (Fr.keep (by assumption)), rfl, by assumption⟩
      wrow_post
  k_steps
  rotate_left
  · unfold StopM
    obtain ⟨g1, g2⟩ := hrn (by assumption)
    (try dsimp only)
    k_dflt (refine' JoinRows.intro ?Fq ?m1q ?m2q ?Nq ?hrq ?hcq ?dq ?Rq ?lenq; (case Fq => k_asm); (case m1q => rfl); (case m2q => rfl); (case Nq => k_asm); (case hrq => k_mem); (case hcq => k_mem); (case dq => assumption); (case Rq => exact RowsIn.cons (by k_mem) g1 (RowsIn.cons (by k_mem) g2 RowsIn.nil)); (case lenq => exact Nat.le_of_ble_eq_true rfl))
  unfold StopM
  obtain ⟨g1, g2, g3, g4, g5, g6⟩ := hrc (by assumption)
  (try dsimp only)
  (with_reducible rename News _ _ _ _ => lN)
  (with_reducible rename Fr _ _ _ _ => lF2)
  refine wpAny_mono (cut_ok (by k_asm) (by k_asm) (by k_asm) d6 g1 g2 g3 g4 g5 g6 hb1 hb2 hb3 hb4 hb5 hb6 ?n1q ?n2q ?n3q (fr_four lF2 rfl rfl rfl rfl) (news_sub lN (List.forall_mem_cons.mpr ⟨by k_mem, List.forall_mem_cons.mpr ⟨by k_mem, List.forall_mem_cons.mpr ⟨by k_mem, List.forall_mem_cons.mpr ⟨by k_mem, List.forall_mem_nil _⟩⟩⟩⟩))) (fun _ _ x => x) (fun _ _ x => x.elim)
  all_goals k_ne
end
end Mine
theorem PySem.Challenge.cw_xr0005_01_holds : PySem.Challenge.rw_xr0005_01.Holds :=
  Mine.law_holds
