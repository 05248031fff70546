import PyProof.Rows.All
import Wide.All
import OpenK.AllK
import Wide.FinOn
import PySem.Challenge.RW_rw0007_01
open PySem PySem.W PyProof.Rows
set_option Elab.async false
namespace Mine
set_option maxRecDepth 100000 in
set_option maxHeartbeats 8000000 in
open_top hd for PySem.Challenge.rw_rw0007_01
section
open PySem.Calls PySem.Spec
set_option maxRecDepth 100000
theorem ha_kind : builtinKind "hasattr" = none := by decide +kernel
theorem ha_plain : plainId "hasattr" = true := by decide +kernel
theorem ha_entry : entryFor table "hasattr" = some Builtin.«hasattr» := entryFor_of_tree (by kernel_rfl)
theorem ha_args (a b : Value) : argsOk "hasattr" ⟨[a, b], []⟩ := by unfold argsOk; kernel_rfl
theorem lk_list_getitem : typeLookup (.type "list") "__getitem__" = pure (some (.builtin "list.__getitem__")) := by rw [typeLookup_type, builtinLookup_eq_fast]; kernel_rfl
theorem ty_list_getitem : typeOf (.builtin "list.__getitem__") = pure (.type "method_descriptor") := by show builtinType _ = _; rw [builtinType_eq_fast]; kernel_rfl
theorem slot_md_get : Slot "method_descriptor" "__get__" "method_descriptor.__get__" :=
  .of (owner := "method_descriptor") (n := "__get__") (by rw [typeLookup_type, builtinLookup_eq_fast]; kernel_rfl) (by decide +kernel) (by decide +kernel) (by decide +kernel)
    (by first | exact .inl (by decide +kernel) | exact .inr (by decide +kernel)) (by rw [isSubtype_type]; kernel_rfl)
theorem md_entry : entryFor table "method_descriptor.__get__" = some Builtin.«method_descriptor.__get__» := entryFor_of_tree (by kernel_rfl)
theorem md_args (a b c : Value) : argsOk "method_descriptor.__get__" ⟨[a, b, c], []⟩ := by unfold argsOk; kernel_rfl
theorem md_owner : (kfb_private% "ownerAndName") "list.__getitem__" = ("list", "__getitem__") := by first | decide +kernel | kernel_rfl
theorem md_told : Manifest.toldItsClass.contains "list.__getitem__" = false := by decide +kernel
theorem md_noset : typeLookup (.type "method_descriptor") "__set__" = pure none := by rw [typeLookup_type, builtinLookup_eq_fast]; kernel_rfl
theorem md_nodel : typeLookup (.type "method_descriptor") "__delete__" = pure none := by rw [typeLookup_type, builtinLookup_eq_fast]; kernel_rfl
theorem list_no_module : isSubtype (.type "list") (.type "module") = pure false := by rw [isSubtype_type]; kernel_rfl
theorem gi_owner : ".".intercalate ("list.__getitem__".cutAt '.').dropLast = "list" := by decide +kernel
theorem gi_sub : isSubtype (.type "list") (.type (".".intercalate ("list.__getitem__".cutAt '.').dropLast)) = pure true := by rw [gi_owner, isSubtype_type]; kernel_rfl
theorem list_is_list : isSubtype (.type "list") (.type "list") = pure true := by rw [isSubtype_type]; kernel_rfl
theorem gi_data : withoutEnding? "list.__getitem__" "#data" = none := by decide +kernel

section
variable {prog : Program} {w : World} {A : Around} {E : Value → Shared → Prop} {h : Heap} {g : Array GenState} {d : Drawn} {t : Nat} {os : OsState} {a : Addr} {its : Array Value} {n : Nat}
theorem md_get {Q : Fin → Shared → Prop} (hx : h.get? a = some (listOf its n)) (hq : Q (.done (.ret (.ref h.objs.size))) ⟨h.push { cls := .type "builtin_function_or_method", data := .fields #[.builtin "list.__getitem__", .ref a] }, g, d, t, os⟩) :
    wpAny (model prog w) A (Builtin.«method_descriptor.__get__» ⟨[.builtin "list.__getitem__", .ref a, .type "list"], []⟩) Q E ⟨h, g, d, t, os⟩ := by
  have hT : (⟨h, g, d, t, os⟩ : Shared).TypeIs (.ref a) "list" := ⟨_, hx, rfl⟩
  have f1 := gi_sub
  unfold Builtin.«method_descriptor.__get__»
  refine wpAny_bind (wpAny_of_eq (a := (.builtin "list.__getitem__", some (.ref a), some (.type "list"))) (by first | rfl | kernel_rfl) ?_)
  simp only [md_told]
  repeat (any_goals (first | assumption | wp_step))

theorem ga_list {R : Result → Shared → Prop} {tk : Tok} (hx : h.get? a = some (listOf its n)) (hq : R (.ok (.ret (.ref h.objs.size))) ⟨h.push { cls := .type "builtin_function_or_method", data := .fields #[.builtin "list.__getitem__", .ref a] }, g, d, t, os⟩) :
    codeAny (model prog w) A (.call (.builtin "list.__getattribute__") ⟨[.ref a, .str "__getitem__" tk], []⟩) R ⟨h, g, d, t, os⟩ := by
  have hT : (⟨h, g, d, t, os⟩ : Shared).TypeIs (.ref a) "list" := ⟨_, hx, rfl⟩
  refine codeAny_call_builtin F.slot_list_getattribute.plain F.entry_list_ga (F.slot_list_getattribute.check _ _ _ _ _ _ _ _ hT (F.args_list_getattribute_2 _ _) ?_)
  have hT5 : (⟨h, g, d, t, os⟩ : Shared).TypeIs (.builtin "list.__getitem__") "method_descriptor" := ty_list_getitem
  have f4 := lk_list_getitem
  have f5 := ty_list_getitem
  have f6 := slot_md_get.lookup
  have f7 := md_noset
  have f8 := md_nodel
  repeat (any_goals (first | assumption | wp_step))
  refine codeAny_call_builtin slot_md_get.plain md_entry (slot_md_get.check _ _ _ _ _ _ _ _ hT5 (md_args _ _ _) (md_get hx ?_))
  exact wpAny_pure hq

theorem hasattr_list {tk : Tok} {s : Shared} {Q : Value → Shared → Prop} (hx : s.heap.get? a = some (listOf its n)) (hq : ∀ o, Q (.bool true) { s with heap := s.heap.push o }) :
    wpAny (model prog w) A (call (.builtin "hasattr") [.ref a, .str "__getitem__" tk]) Q E s := by
  obtain ⟨h, g, d, t, os⟩ := s
  have hT : (⟨h, g, d, t, os⟩ : Shared).TypeIs (.ref a) "list" := ⟨_, hx, rfl⟩
  refine call_function_entry ha_kind ha_plain ha_entry (ha_args _ _) ?_
  have f2 := F.slot_list_getattribute.lookup
  have f3 := F.slot_list_getattribute.bind (.ref a)
  have f4 := lk_list_getitem
  have f5 := list_no_module
  have f6 := gi_data
  unfold Builtin.«hasattr»
  repeat (any_goals (first | assumption | wp_step))
  refine ga_list hx ?_
  show wpAny _ _ (handedOut (.ref _)) _ _ _
  refine wpAny_pure (wpAny_pure ?_)
  show wpAny _ _ (ret (.bool true)) _ _ _
  exact wpAny_pure ⟨_, rfl, hq _⟩
end
end
section
open PySem.Calls PySem.Spec
/-- nothing that stood is lost -/
def Grow (h h' : Heap) : Prop := ∀ b o, h.get? b = some o → h'.get? b = some o
theorem Grow.refl (h : Heap) : Grow h h := fun _ _ e => e
theorem Grow.trans {h h' h'' : Heap} (a : Grow h h') (b : Grow h' h'') : Grow h h'' := fun x o e => b x o (a x o e)
theorem Grow.push (h : Heap) (o : Obj) : Grow h (h.push o) := fun _ _ e => Heap.get?_push_of_some _ e
/-- a list of these values stands there -/
def LAt (h : Heap) (a : Addr) (vs : List Value) : Prop := ∃ n, h.get? a = some (listOf vs.toArray n)
theorem LAt.grow {h h' : Heap} {a : Addr} {vs : List Value} (x : LAt h a vs) (g : Grow h h') : LAt h' a vs := let ⟨n, e⟩ := x; ⟨n, g _ _ e⟩
theorem LAt.isList {h : Heap} {a : Addr} {vs : List Value} (x : LAt h a vs) : h.IsList a vs.toArray := let ⟨n, e⟩ := x; ⟨_, e, rfl, n, rfl⟩
/-- what a def of the text finds below it -/
structure Cx (w : World) (h : Heap) : Prop where
  X : (hd.heap_39 w.params).In h
  T : ∃ mean mg mb, Top hd.view_39 (looseW hd.view_39 []) mean mg mb h
theorem Cx.grow {w : World} {h h' : Heap} (c : Cx w h) (g : Grow h h') : Cx w h' := ⟨c.X.keeps g, let ⟨a, b, d, t⟩ := c.T; ⟨a, b, d, t.keeps g⟩⟩
abbrev Ar (dp un : Nat) (fr : Option (List Env)) (gd : Option (List Code)) : Around := { handled := none, depth := dp, frames := fr, guards := gd, units := un }
abbrev PP : Program := Challenge.rw_rw0007_01.row.prog
section
variable {prog : Program} {w : World} {A : Around} {s : Shared}
/-- a def of the written part is entered: the heap of the call stands below the new frame whole -/
theorem enter {K : Frag} {p : Program} {loose : List Str} {mean : ExcName → Option Value} {mg mb : Str → Option Value} {R : Result → Shared → Prop} {name qual : Str} {params : Arguments} {body : List Stmt} {scope : Scope} {dV kV doc pm cdv ct oc : Value} {an od : Option Addr} {osl : Array (Option Value)} {f : Addr} {args : Args} (binds : List (Str × Value))
    (X : K.In s.heap) (T : Top p loose mean mg mb s.heap)
    (ho : K.lookup f = some ⟨oc, od, .func (fnOf name qual params body scope dV kV doc pm an cdv ct), osl⟩) (hcd : codeIn K cdv qual = true) (hroom : A.depth < recursionLimit)
    (hbind : BindsTo s (fnOf name qual params body scope dV kV doc pm an cdv ct) args binds) (hloc : ∀ y ∈ binds, scope.names.lookup y.1 = some .local)
    (hco : scope.isCoroutine = false) (hgen : scope.isGenerator = false) (hk : scope.kind = .function)
    (hcell : ∀ x ∈ scope.names, x.2 ≠ .cell)
    (h : ∀ L h₁, Fr s.heap L h₁ (fun y => binds.reverse.lookup y) → News s.heap L h₁ [] →
      wpAny (model prog w) (A.deeper (envOf qual scope L f cdv)) (execs body (envOf qual scope L f cdv))
        (fun fl s' => R (.ok (.ret (match fl with | .ret v => v | _ => .none))) s')
        (fun e s' => wpAny (model prog w) (A.deeper (envOf qual scope L f cdv)) (leaving (envOf qual scope L f cdv) e) (fun _ s'' => R (.error e) s'') (fun e' s'' => R (.error e') s'') s')
        { s with heap := h₁, toks := s.toks + binds.length }) : codeAny (model prog w) A (.call (.ref f) args) R s :=
  codeAny_call_def (fd := fnOf name qual params body scope dV kV doc pm an cdv ct) (body := body) (binds := binds) hroom (X _ _ ho) rfl T.nolimit (codeRec_of X hcd) rfl hbind hcell hloc
    (fun h₁ hns hk₁ => h _ h₁ ⟨hns, hk₁, Nat.le_refl _⟩ News.nil) hco hgen hk

theorem hasattr_N {E : Value → Shared → Prop} {h₀ : Heap} {L a : Addr} {m : Str → Option Value} {news : List (Addr × Obj)} {vs : List Value} {tk : Tok} {Q : Value → Shared → Prop}
    (F : Fr h₀ L s.heap m) (N : News h₀ L s.heap news) (hx : LAt h₀ a vs) (h : ∀ h', Fr h₀ L h' m → News h₀ L h' news → Q (.bool true) { s with heap := h' }) :
    wpAny (model prog w) A (call (.builtin "hasattr") [.ref a, .str "__getitem__" tk]) Q E s :=
  let ⟨_, e⟩ := hx
  hasattr_list (F.keep _ _ e) fun o => h _ (F.push o) fun p hp => ⟨Heap.get?_push_of_some _ (N p hp).1, (N p hp).2⟩
end
end
section
open PySem.Calls PySem.Spec
def Stop (P : Prop) : Prop := P
theorem Stop.of {P : Prop} (h : Stop P) : P := h
theorem Stop.mk {P : Prop} (h : P) : Stop P := h
theorem fr_known {h₀ h : Heap} {L : Addr} {m : Str → Option Value} {x : Str} {v : Value} (F : Fr h₀ L h m) (e : m x = some v) : Fr h₀ L h (fun y => if y = x then some v else m y) := by
  have : (fun y => if y = x then some v else m y) = m := by
    funext y
    by_cases hy : y = x
    · simp [hy, e]
    · simp [hy]
  rw [this]; exact F
theorem fr_grow {h₀ h h' : Heap} {L : Addr} {m : Str → Option Value} (F : Fr h₀ L h m) (g : Grow h h') : Fr h₀ L h' m := F.keeps g
theorem news_grow {h₀ h h' : Heap} {L : Addr} {news : List (Addr × Obj)} (N : News h₀ L h news) (g : Grow h h') : News h₀ L h' news := fun p hp => ⟨g _ _ (N p hp).1, (N p hp).2⟩
theorem news_add {h₀ h h' : Heap} {L a : Addr} {o : Obj} {m : Str → Option Value} {news : List (Addr × Obj)} (F : Fr h₀ L h m) (N : News h₀ L h news) (g : Grow h h') (hn : h.get? a = none) (ho : h'.get? a = some o) : News h₀ L h' ((a, o) :: news) := fun p hp => by
  rcases List.mem_cons.mp hp with rfl | hp
  · refine ⟨ho, ?_, ?_⟩
    · rintro rfl
      obtain ⟨oL, _, _, hL, _⟩ := F.ns
      rw [hn] at hL; cases hL
    · cases q : h₀.get? a with
      | none => rfl
      | some o' => rw [F.keep _ _ q] at hn; cases hn
  · exact news_grow N g p hp
theorem news_sub {h₀ h : Heap} {L : Addr} {news news' : List (Addr × Obj)} (N : News h₀ L h news) (hs : ∀ p ∈ news', p ∈ news) : News h₀ L h news' := fun q hq => N q (hs q hq)
theorem news_head {h₀ h : Heap} {L : Addr} {p : Addr × Obj} {news : List (Addr × Obj)} (N : News h₀ L h (p :: news)) : News h₀ L h [p] := fun q hq => N q (by rw [List.mem_singleton.mp hq]; exact .head _)
/-- a turn's end -/
def TurnP (h₀ : Heap) (L I : Addr) (oI : Obj) (J : (Str → Option Value) → List (Addr × Obj) → Prop) (s : Shared) (Q : Flow → Shared → Prop) (f : Flow) (s' : Shared) : Prop :=
  match f with
  | .ret v => Q (.ret v) s'
  | .brk => Q .next s'
  | _ => ∃ h' tk' m' news', s' = { s with heap := h', toks := tk' } ∧ Fr h₀ L h' m' ∧ News h₀ L h' ((I, oI) :: news') ∧ (∀ p ∈ news', p.1 ≠ I) ∧ J m' news'
theorem TurnP.next {h₀ : Heap} {L I : Addr} {oI : Obj} {J : (Str → Option Value) → List (Addr × Obj) → Prop} {s : Shared} {Q : Flow → Shared → Prop} {h' : Heap} {tk' : Nat} {m' : Str → Option Value} {news' : List (Addr × Obj)}
    (F : Fr h₀ L h' m') (N : News h₀ L h' ((I, oI) :: news')) (hn : ∀ p ∈ news', p.1 ≠ I) (hj : J m' news') : TurnP h₀ L I oI J s Q .next { s with heap := h', toks := tk' } := ⟨h', tk', m', news', rfl, F, N, hn, hj⟩
section
variable {prog : Program} {w : World} {A : Around} {E : Value → Shared → Prop} {s : Shared} {env : Env} {h₀ : Heap} {x : Str} {px : Pos} {body orelse : List Stmt} {Q : Flow → Shared → Prop}
abbrev BackTo (prog : Program) (w : World) (A : Around) (env : Env) (Q : Flow → Shared → Prop) (E : Value → Shared → Prop) : Result → Shared → Prop :=
  fun r s' => match r with | .ok f => Q f s' | .error e => cameBackBy (model prog w) A env E e s'
theorem for_walk {I : Addr} {fp : List Addr} {n : Nat} {P : Nat → Value → Prop} {St : Nat → Heap → Prop} {m : Str → Option Value} {news : List (Addr × Obj)} (W : Walks prog w A I fp [I] n P St)
    (J : Nat → (Str → Option Value) → List (Addr × Obj) → Prop)
    (hx : env.kindOf x = some .local) (hp : (env.scope.kind == .class || (env.scope.kind == .module && env.locals != env.globals)) = false) (hE : PassesOwn (model prog w) A env E)
    (hfp : ∀ b ∈ fp, b ≠ I → ∃ o, h₀.get? b = some o) (hIfp : I ∈ fp) (hI : ∀ i h, St i h → ∃ o, h.get? I = some o) (hLf : env.locals ∉ fp) (hIn : h₀.get? I = none) (hst : St 0 s.heap)
    (F : Fr h₀ env.locals s.heap m) (N : News h₀ env.locals s.heap news) (hnw : ∀ p ∈ news, p.1 ≠ I) (h0 : J 0 m news)
    (turn : ∀ i v m₁ news₁ h tk oI, i < n → P i v → J i m₁ news₁ → (∀ p ∈ news₁, p.1 ≠ I) → s.toks ≤ tk → Fr h₀ env.locals h (fun y => if y = x then some v else m₁ y) → News h₀ env.locals h ((I, oI) :: news₁) →
      wpAny (model prog w) A (execs body env) (TurnP h₀ env.locals I oI (J (i + 1)) s Q) E { s with heap := h, toks := tk })
    (done : ∀ m₁ news₁ h tk, J n m₁ news₁ → s.toks ≤ tk → Fr h₀ env.locals h m₁ → News h₀ env.locals h news₁ → wpAny (model prog w) A (execs orelse env) Q E { s with heap := h, toks := tk }) :
    codeAny (model prog w) A (.forLoop (.Name x px) (.ref I) body orelse env) (BackTo prog w A env Q E) s := by
  have hLI : env.locals ≠ I := fun e => hLf (e ▸ hIfp)
  refine codeAny_forLoop
    (fun k s' => ∃ h' tk m' news' i, s' = { s with heap := h', toks := tk } ∧ St i h' ∧ Fr h₀ env.locals h' m' ∧ News h₀ env.locals h' news' ∧ (∀ p ∈ news', p.1 ≠ I) ∧ J i m' news' ∧ i ≤ n ∧ k = n + 1 - i ∧ s.toks ≤ tk) ?_ (n + 1)
    ⟨s.heap, s.toks, m, news, 0, rfl, hst, F, N, hnw, h0, Nat.zero_le _, rfl, Nat.le_refl _⟩
  rintro k s' ⟨h', tk, m', news', i, rfl, hst', F', N', hnw', hJ, hi, rfl, htk⟩
  have next : ∀ h₁ : Heap, (∀ b o, b ∉ [I] → h'.get? b = some o → h₁.get? b = some o) → Fr h₀ env.locals h₁ m' ∧ News h₀ env.locals h₁ news' := fun h₁ hk₁ =>
    ⟨⟨F'.ns.at' fun o e => hk₁ _ o (fun q => hLI (List.mem_singleton.mp q)) e, fun b o e => hk₁ b o (fun q => by rw [List.mem_singleton.mp q, hIn] at e; cases e) (F'.keep b o e), F'.above⟩,
      fun p hp => ⟨hk₁ _ _ (fun q => hnw' p hp (List.mem_singleton.mp q)) (N' p hp).1, (N' p hp).2⟩⟩
  by_cases hlt : i < n
  · refine wpAny_with_toks (n := s.toks) htk (W.item i _ _ _ hlt hst' fun v h₁ tk₁ hP hst₁ hk₁ htk₁ => ?_)
    obtain ⟨F₁, N₁⟩ := next h₁ hk₁
    refine wpAny_assign_Name (wpAny_storeName_local hx F₁.ns (fun h₂ hn₂ hs₂ => ?_) hp)
    have F₂ := F₁.set hn₂ hs₂
    have N₂ := N₁.set hs₂
    have hst₂ : St (i + 1) h₂ := W.frame _ _ _ hst₁ fun b hb o e => (hs₂.2 b fun q => hLf (q ▸ hb)).trans e
    obtain ⟨oI, hoI⟩ := hI _ _ hst₂
    have N₃ : News h₀ env.locals h₂ ((I, oI) :: news') := fun p hp => by
      rcases List.mem_cons.mp hp with rfl | hp
      · exact ⟨hoI, Ne.symm hLI, hIn⟩
      · exact N₂ p hp
    have htk₂ : s.toks ≤ tk₁ + 1 := Nat.le_succ_of_le htk₁
    refine wpAny_mono (wpAny_toks_of (n := s.toks) htk₂ (wpAny_passesOwn hE (turn i v m' news' h₂ (tk₁ + 1) oI hlt hP hJ hnw' htk₂ F₂ N₃))) (fun f s₃ h₃ => ?_) fun _ _ e => e.2
    obtain ⟨htk₃, h₃⟩ := h₃
    have fin : (∃ h' tk' m' news', s₃ = { s with heap := h', toks := tk' } ∧ Fr h₀ env.locals h' m' ∧ News h₀ env.locals h' ((I, oI) :: news') ∧ (∀ p ∈ news', p.1 ≠ I) ∧ J (i + 1) m' news') →
        ∃ k', k' < n + 1 - i ∧ ∃ h' tk m' news' i, s₃ = { s with heap := h', toks := tk } ∧ St i h' ∧ Fr h₀ env.locals h' m' ∧ News h₀ env.locals h' news' ∧ (∀ p ∈ news', p.1 ≠ I) ∧ J i m' news' ∧ i ≤ n ∧ k' = n + 1 - i ∧ s.toks ≤ tk := by
      rintro ⟨h₄, tk₄, m₄, news₄, rfl, F₄, N₄, hn₄, hJ₄⟩
      refine ⟨n + 1 - (i + 1), by omega, h₄, tk₄, m₄, news₄, i + 1, rfl, ?_, F₄, fun p hp => N₄ p (.tail _ hp), hn₄, hJ₄, hlt, rfl, htk₃⟩
      refine W.frame _ _ _ hst₂ fun b hb o e => ?_
      by_cases hbI : b = I
      · subst hbI
        rw [hoI] at e
        rw [← Option.some.inj e]
        exact (N₄ _ (.head _)).1
      · obtain ⟨o₀, ho₀⟩ := hfp b hb hbI
        have : o₀ = o := by have := F₂.keep b o₀ ho₀; rw [e] at this; exact (Option.some.inj this).symm
        exact this ▸ F₄.keep b o₀ ho₀
    cases f with
    | ret v => exact h₃
    | brk => exact h₃
    | cont => exact fin h₃
    | next => exact fin h₃
  · have hin : i = n := by omega
    subst hin
    refine wpAny_with_toks (n := s.toks) htk (W.done _ _ _ hst' fun h₁ tk₁ hk₁ htk₁ => ?_)
    obtain ⟨F₁, N₁⟩ := next h₁ hk₁
    exact wpAny_mono (wpAny_passesOwn hE (done m' news' h₁ tk₁ hJ htk₁ F₁ N₁)) (fun _ _ h => h) fun _ _ e => e

theorem while_own {test : Expr} (I : Nat → Shared → Prop) (hE : PassesOwn (model prog w) A env E)
    (turn : ∀ n s, I n s → wpAny (model prog w) A (isTrue test env (eval test env)) (fun b s₂ =>
      if b then wpAny (model prog w) A (execs body env) (fun f s₃ => match f with
          | .next | .cont => Stop (∃ m, m < n ∧ I m s₃)
          | .brk => Q .next s₃
          | .ret v => Q (.ret v) s₃) E s₂
      else wpAny (model prog w) A (execs orelse env) Q E s₂) E s)
    (n : Nat) (h : I n s) : codeAny (model prog w) A (.whileLoop test body orelse env) (BackTo prog w A env Q E) s := by
  refine codeAny_whileLoop I (fun n s hI => wpAny_mono (wpAny_passesOwn hE (turn n s hI)) (fun b s₂ h₂ => ?_) fun _ _ e => e) n h
  cases b
  · exact wpAny_mono (wpAny_passesOwn hE h₂) (fun f _ x => x) fun _ _ e => e
  · exact wpAny_mono (wpAny_passesOwn hE h₂) (fun f _ x => by cases f <;> exact x) fun _ _ e => e

theorem for_range {r : Addr} {a b : Int} {t u v : Tok} {n : Nat} {m : Str → Option Value} {news : List (Addr × Obj)} (J : Nat → (Str → Option Value) → List (Addr × Obj) → Prop)
    (hh : A.handled = none) (hr : IsRange s.heap r a b 1 t u v) (ha : -(2 ^ 62) ≤ a ∧ a < 2 ^ 62) (hb : -(2 ^ 62) ≤ b ∧ b < 2 ^ 62) (hn : n = (b - a).toNat)
    (hx : env.kindOf x = some .local) (hp : (env.scope.kind == .class || (env.scope.kind == .module && env.locals != env.globals)) = false) (hE : PassesOwn (model prog w) A env E)
    (F : Fr h₀ env.locals s.heap m) (N : News h₀ env.locals s.heap news) (h0 : J 0 m news)
    (turn : ∀ i tv I m₁ news₁ h tk oI, i < n → J i m₁ news₁ → (∀ p ∈ news₁, p.1 ≠ I) → s.toks ≤ tk → Fr h₀ env.locals h (fun y => if y = x then some (.int (a + (i : Nat)) tv) else m₁ y) → News h₀ env.locals h ((I, oI) :: news₁) →
      wpAny (model prog w) A (execs body env) (TurnP h₀ env.locals I oI (J (i + 1)) s Q) E { s with heap := h, toks := tk })
    (done : ∀ m₁ news₁ h tk, J n m₁ news₁ → s.toks ≤ tk → Fr h₀ env.locals h m₁ → News h₀ env.locals h news₁ → wpAny (model prog w) A (execs orelse env) Q E { s with heap := h, toks := tk }) :
    wpAny (model prog w) A (pyIter (.ref r)) (fun it s₂ => codeAny (model prog w) A (.forLoop (.Name x px) it body orelse env) (BackTo prog w A env Q E) s₂) E s := by
  refine wpAny_pyIter_range hr (small_one ha.1 ha.2 hb.1 hb.2) ?_
  have hsz : Builtin.Range.rangeSize a b 1 = (n : Int) := by rw [rangeSize_one]; split <;> omega
  have hnone : h₀.get? s.heap.objs.size = none := by
    cases hq : h₀.get? s.heap.objs.size with
    | none => rfl
    | some o => exact absurd (Heap.lt_size (F.keep _ _ hq)) (Nat.lt_irrefl _)
  refine for_walk (s := { s with heap := s.heap.push _ }) (Walks.range hh s.heap.objs.size a 1 n) J hx hp hE ?_ (.head _) (fun _ _ st => ⟨_, st⟩) ?_ hnone ?_ (F.push _) (fun p hp => ⟨Heap.get?_push_of_some _ (N p hp).1, (N p hp).2⟩) ?_ h0 ?_ ?_
  · intro b hb hne; exact absurd (List.mem_singleton.mp hb) hne
  · intro hm; exact absurd F.ns.lt ((List.mem_singleton.mp hm) ▸ Nat.lt_irrefl _)
  · show IsRangeIter _ _ _ _ _
    rw [hsz]; simpa using Heap.get?_push_size _ rfl
  · intro p hp e; exact absurd (Heap.lt_size (N p hp).1) (e ▸ Nat.lt_irrefl _)
  · rintro i v m₁ news₁ h tk oI hi ⟨tv, rfl⟩ hJ hoff htk F₁ N₁
    rw [Int.mul_one] at F₁
    exact turn i tv _ m₁ news₁ h tk oI hi hJ hoff htk F₁ N₁
  · intro m₁ news₁ h tk hJ htk F₁ N₁
    exact done m₁ news₁ h tk hJ htk F₁ N₁

/-- over a list that stood ahead of the call -/
theorem for_list {l : Addr} {vs : List Value} {m : Str → Option Value} {news : List (Addr × Obj)} (J : Nat → (Str → Option Value) → List (Addr × Obj) → Prop)
    (hh : A.handled = none) (hl : h₀.IsList l vs.toArray)
    (hx : env.kindOf x = some .local) (hp : (env.scope.kind == .class || (env.scope.kind == .module && env.locals != env.globals)) = false) (hE : PassesOwn (model prog w) A env E)
    (F : Fr h₀ env.locals s.heap m) (N : News h₀ env.locals s.heap news) (h0 : J 0 m news)
    (turn : ∀ i v I m₁ news₁ h tk oI, vs[i]? = some v → J i m₁ news₁ → (∀ p ∈ news₁, p.1 ≠ I) → s.toks ≤ tk → Fr h₀ env.locals h (fun y => if y = x then some v else m₁ y) → News h₀ env.locals h ((I, oI) :: news₁) →
      wpAny (model prog w) A (execs body env) (TurnP h₀ env.locals I oI (J (i + 1)) s Q) E { s with heap := h, toks := tk })
    (done : ∀ m₁ news₁ h tk, J vs.length m₁ news₁ → s.toks ≤ tk → Fr h₀ env.locals h m₁ → News h₀ env.locals h news₁ → wpAny (model prog w) A (execs orelse env) Q E { s with heap := h, toks := tk }) :
    wpAny (model prog w) A (pyIter (.ref l)) (fun it s₂ => codeAny (model prog w) A (.forLoop (.Name x px) it body orelse env) (BackTo prog w A env Q E) s₂) E s := by
  have hls : s.heap.IsList l vs.toArray := hl.at fun o e => F.keep l o e
  obtain ⟨ol, hol, _⟩ := id hl
  have hlt : l < h₀.objs.size := Heap.lt_size hol
  have hne : l ≠ s.heap.objs.size := Nat.ne_of_lt (Nat.lt_trans (Nat.lt_of_lt_of_le hlt F.above) F.ns.lt)
  refine wpAny_pyIter_list hls ?_
  have hnone : h₀.get? s.heap.objs.size = none := by
    cases hq : h₀.get? s.heap.objs.size with
    | none => rfl
    | some o => exact absurd (Heap.lt_size (F.keep _ _ hq)) (Nat.lt_irrefl _)
  refine for_walk (s := { s with heap := s.heap.push _ }) (Walks.list hh s.heap.objs.size l hne vs.toArray) J hx hp hE ?_ (.head _) (fun _ _ st => ⟨_, st.1.choose_spec.1⟩) ?_ hnone ?_ (F.push _) (fun p hp => ⟨Heap.get?_push_of_some _ (N p hp).1, (N p hp).2⟩) ?_ h0 ?_ ?_
  · intro b hb hne
    rcases List.mem_cons.mp hb with h | h
    · exact absurd h hne
    · rw [List.mem_singleton.mp h]; exact ⟨_, hol⟩
  · intro hm
    rcases List.mem_cons.mp hm with e | hm
    · exact absurd F.ns.lt (e ▸ Nat.lt_irrefl _)
    · exact absurd (Nat.lt_of_lt_of_le hlt F.above) ((List.mem_singleton.mp hm) ▸ Nat.lt_irrefl _)
  · exact ⟨⟨_, Heap.get?_push_size _ rfl, rfl, rfl⟩, hls.at fun o e => Heap.get?_push_of_some _ e⟩
  · intro p hp e; exact absurd (Heap.lt_size (N p hp).1) (e ▸ Nat.lt_irrefl _)
  · rintro i v m₁ news₁ h tk oI hi hv hJ hoff htk F₁ N₁
    exact turn i v _ m₁ news₁ h tk oI (by simpa using hv) hJ hoff htk F₁ N₁
  · intro m₁ news₁ h tk hJ htk F₁ N₁
    exact done m₁ news₁ h tk (by simpa using hJ) htk F₁ N₁
end
end
section
open PySem.Calls PySem.Spec
theorem fill_cat : ∀ w : World, hd.heap_39 w.params = hd.heap_39 w.params ∧ Challenge.rw_rw0007_01 = Challenge.rw_rw0007_01 := by k_fill; exact fun _ => ⟨rfl, rfl⟩
local macro_rules | `(tactic| walk_at "call builtin:hasattr") => `(tactic| (k_here; refine hasattr_N (by k_asm) (by k_asm) (by k_asm) ?_; intro h' F' N'; (try k_sweep)))
set_option maxRecDepth 100000 in
set_option maxHeartbeats 8000000 in
theorem concat_call {w : World} {dp un : Nat} {fr : Option (List Env)} {gd : Option (List Code)} {s : Shared} {Q E : Value → Shared → Prop} {a b : Addr} {xs ys : List Value}
    (C : Cx w s.heap) (hdp : dp + 5 < recursionLimit) (hun : un + 100 < cLine)
    (ha : LAt s.heap a xs) (hb : LAt s.heap b ys) (hsz : xs.length + ys.length < 1000)
    (ret : ∀ r h' tk', Grow s.heap h' → s.heap.get? r = none → LAt h' r (xs ++ ys) → Q (.ref r) { s with heap := h', toks := tk' }) :
    wpAny (model PP w) (Ar dp un fr gd) (call (.ref 28) [.ref a, .ref b]) Q E s := by
  obtain ⟨X, mean, mg, mb, T⟩ := C
  have hla := ha.isList
  have hlb := hb.isList
  refine wpAny_call ?_
  k_dflt (refine' enter [(Str.ofString "a", .ref a), (Str.ofString "b", .ref b)] X T ?k6 ?k7 ?k8 ?k9 ?kB ?c2 ?c3 ?c4 ?c5 ?_; (case k6 => k_is); (case k7 => k_is); (case k8 => ktr_room); (case k9 => exact BindsTo.of_eq rfl); (case c5 => decide); (case kB => exact locs rfl); (case c2 => exact rfl); (case c3 => exact rfl); (case c4 => exact rfl))
  intro L h₁ F N
  dsimp only
  k_steps
  rename_i F' N'
  exact ret _ _ _ F'.keep (N' _ (.head _)).2.2 ⟨_, (N' _ (.head _)).1⟩
end
section
open PySem.Calls PySem.Spec
theorem fill_cnt : ∀ w : World, hd.heap_39 w.params = hd.heap_39 w.params ∧ Challenge.rw_rw0007_01 = Challenge.rw_rw0007_01 := by k_fill; exact fun _ => ⟨rfl, rfl⟩
theorem booked {w : World} {h : Heap} (X : (hd.heap_39 w.params).In h) : NoneBooked h := ⟨fun _ => none, ⟨_, _, _, X 2 _ rfl, rfl, fun i hi => absurd hi (by simp), fun _ => rfl⟩, rfl⟩
section
variable {prog : Program} {w : World} {A : Around} {E : Value → Shared → Prop} {s : Shared}
theorem is_int {p q : Int} {t u : Tok} {Q : Value → Shared → Prop} (hb : NoneBooked s.heap) (ht : t ≠ 0) (hu : u ≠ 0) (htu : t = u → p = q) (hq : ∀ b : Bool, (b = true → p = q) → Q (.bool b) s) :
    wpAny (model prog w) A (compareOp .Is (.int p t) (.int q u)) Q E s := by
  have h0 : (t == 0 || u == 0) = false := by simp [ht, hu]
  show wpAny _ A (do return .bool (← isSame (.int p t) (.int q u))) Q E s
  refine wpAny_bind ?_
  show wpAny _ A (if (p == q && smallInt p) = true then isSame.cachedInt t u else isSame.created (p == q) t u) _ E s
  cases hpq : (p == q) with
  | true =>
    have e : p = q := by simpa using hpq
    have fin : wpAny (model prog w) A (isSame.created true t u) (fun b s' => wpAny (model prog w) A (pure (.bool b)) Q E s') E s := by
      unfold isSame.created
      rw [h0]
      simp only [Bool.false_eq_true, if_false, Bool.not_true]
      refine wpAny_ite ?_
      split
      · exact wpAny_pure (wpAny_pure (hq _ fun _ => e))
      · refine wpAny_bind (wpAny_sharingNotTold_none hb ?_)
        simp only [Bool.false_eq_true, if_false]
        refine wpAny_bind (wpAny_sharingNotTold_none hb ?_)
        simp only [Bool.false_eq_true, if_false]
        exact wpAny_bind (wpAny_rule (wpAny_bind (wpAny_askSetting (wpAny_pure (wpAny_pure (hq _ fun _ => e))))))
    by_cases hs : smallInt p = true
    · simp only [hs, Bool.and_self, if_true]
      unfold isSame.cachedInt
      rw [h0]
      simp only [Bool.false_eq_true, if_false]
      exact wpAny_bind (wpAny_rule (wpAny_pure (wpAny_pure (hq _ fun _ => e))))
    · simp only [Bool.true_and, hs]
      exact fin
  | false =>
    have e : p ≠ q := by simpa using hpq
    simp only [Bool.false_and, Bool.false_eq_true, if_false]
    unfold isSame.created
    rw [h0]
    have htu' : (t == u) = false := by simp; exact fun x => e (htu x)
    simp only [Bool.false_eq_true, if_false, htu', Bool.not_false, if_true]
    exact wpAny_pure (wpAny_pure (hq _ fun h => nomatch h))
end
/-- the tokens of these values part them from this one -/
def TokOk (q : Int) (u : Tok) (xs : List Value) : Prop := ∀ p t, Value.int p t ∈ xs → t ≠ 0 ∧ (t = u → p = q)
theorem ints_at {xs : List Value} {ns : List Int} (hi : IntsAre xs ns) {i : Nat} {v : Value} (hv : xs[i]? = some v) : ∃ n t, v = .int n t ∧ ns[i]? = some n := by
  induction hi generalizing i with
  | nil => cases hv
  | cons n t _ ih =>
    cases i with
    | zero => exact ⟨n, t, (Option.some.inj hv).symm, rfl⟩
    | succ i => exact ih hv
theorem ints_len {xs : List Value} {ns : List Int} (hi : IntsAre xs ns) : xs.length = ns.length := by
  induction hi with
  | nil => rfl
  | cons _ _ _ ih => simp [ih]
theorem take_succ_count {ns : List Int} {i : Nat} {n b : Int} (h : ns[i]? = some n) : (ns.take (i + 1)).count b = (ns.take i).count b + if n = b then 1 else 0 := by
  rw [List.take_add_one, h, List.count_append]
  simp [List.count_cons]
local macro_rules | `(tactic| walk_at "compareOp Is int int") => `(tactic| (k_here; (refine is_int (by assumption) (And.left (by assumption)) (by assumption) (And.right (by assumption)) ?_); intro b' hb'))
local macro_rules | `(tactic| walk_at "exec For Name Name cons nil") => `(tactic| (k_here; refine wpAny_For ?_))
local macro_rules | `(tactic| walk_at "pyIter ref") => `(tactic| (k_here; refine Stop.of ?_))
set_option maxRecDepth 100000 in
set_option maxHeartbeats 8000000 in
theorem count_call {w : World} {dp un : Nat} {fr : Option (List Env)} {gd : Option (List Code)} {s : Shared} {Q E : Value → Shared → Prop} {a : Addr} {xs : List Value} {ns : List Int} {b : Int} {tb : Tok}
    (C : Cx w s.heap) (hdp : dp + 5 < recursionLimit) (hun : un + 100 < cLine)
    (ha : LAt s.heap a xs) (hi : IntsAre xs ns) (hsz : xs.length < 1000) (hb : tb ≠ 0) (hk : TokOk b tb xs)
    (ret : ∀ h' tk' t, Grow s.heap h' → Q (.int (ns.count b : Nat) t) { s with heap := h', toks := tk' }) :
    wpAny (model PP w) (Ar dp un fr gd) (call (.ref 35) [.ref a, .int b tb]) Q E s := by
  obtain ⟨X, mean, mg, mb, T⟩ := C
  have hla := ha.isList
  refine wpAny_call ?_
  k_dflt (refine' enter [(Str.ofString "a", .ref a), (Str.ofString "b", .int b tb)] X T ?k6 ?k7 ?k8 ?k9 ?kB ?c2 ?c3 ?c4 ?c5 ?_; (case k6 => k_is); (case k7 => k_is); (case k8 => ktr_room); (case k9 => exact BindsTo.of_eq rfl); (case c5 => decide); (case kB => exact locs rfl); (case c2 => exact rfl); (case c3 => exact rfl); (case c4 => exact rfl))
  intro L h₁ F N
  dsimp only
  k_steps
  rename_i F' N'
  refine Stop.mk ?_
  refine for_list (h₀ := s.heap) (fun i m _ => m (Str.ofString "b") = some (.int b tb) ∧ ∃ t, m (Str.ofString "count") = some (.int ((ns.take i).count b : Nat) t)) rfl hla rfl rfl (by passes_own) F' N' ⟨by rfl, _, rfl⟩ ?_ ?_
  · rintro i v I m₁ news₁ h tk oI hv ⟨hmb, t, hmc⟩ hoff htk F₁ N₁
    obtain ⟨n, tn, rfl, hn⟩ := ints_at hi hv
    have hkk := hk _ _ (List.mem_of_getElem? hv)
    have F₂ := fr_known (fr_known F₁ (x := Str.ofString "b") (v := .int b tb) (by exact hmb)) (x := Str.ofString "count") (by exact hmc)
    clear F₁
    have hbk := booked (X.keeps F₂.keep)
    have hp : n = b → (((ns.take i).count b : Nat) : Int) + 1 = ((ns.take (i + 1)).count b : Nat) := fun e => by rw [take_succ_count hn, if_pos e]; omega
    have hz : n ≠ b → (((ns.take i).count b : Nat) : Int) = ((ns.take (i + 1)).count b : Nat) := fun e => by rw [take_succ_count hn, if_neg e]; omega
    k_steps
    · exact TurnP.next (by assumption) (by assumption) hoff ⟨by rfl, _, congrArg (fun z => some (Value.int z _)) (hp (by simp_all))⟩
    · exact TurnP.next (by assumption) (by assumption) hoff ⟨by rfl, _, congrArg (fun z => some (Value.int z _)) (hp (by simp_all))⟩
    · exact TurnP.next (by assumption) (by assumption) hoff ⟨by rfl, _, congrArg (fun z => some (Value.int z _)) (hz (by simp_all))⟩
  · rintro m₁ news₁ h tk ⟨hmb, t, hmc⟩ htk F₁ N₁
    have F₂ := fr_known F₁ (x := Str.ofString "count") hmc
    clear F₁
    rw [ints_len hi, List.take_length] at F₂
    k_steps
    exact ret _ _ _ F₂.keep
end
section
open PySem.Calls PySem.Spec
theorem fill_ovl : ∀ w : World, hd.heap_39 w.params = hd.heap_39 w.params ∧ Challenge.rw_rw0007_01 = Challenge.rw_rw0007_01 := by k_fill; exact fun _ => ⟨rfl, rfl⟩
def ovStep {α : Type} [DecidableEq α] (p : List α) (T : List Nat) (i : Nat) : Nat → Nat → Nat
  | 0, _ => 0
  | f + 1, idx => if p[i]? = p[idx]? then idx + 1 else if idx = 0 then 0 else ovStep p T i f (T.getD (idx - 1) 0)
def ovGo {α : Type} [DecidableEq α] (p : List α) : Nat → List Nat
  | 0 => []
  | k + 1 => if k = 0 then [0] else ovGo p k ++ [ovStep p (ovGo p k) k (k + 1) ((ovGo p k).getD (k - 1) 0)]
def ovl {α : Type} [DecidableEq α] (p : List α) : List Nat := ovGo p p.length
theorem getD_iff {ns : List Int} {a b : Nat} (ha : a < ns.length) (hb : b < ns.length) : ns.getD a 0 = ns.getD b 0 ↔ ns[a]? = ns[b]? := by
  simp only [List.getD_eq_getElem?_getD, List.getElem?_eq_getElem ha, List.getElem?_eq_getElem hb, Option.getD_some, Option.some.injEq]
theorem getD_left {α : Type} {l r : List α} {n : Nat} {d : α} (h : n < l.length) : (l ++ r).getD n d = l.getD n d := by
  simp only [List.getD_eq_getElem?_getD, List.getElem?_append_left h]
theorem getD_right {α : Type} {l r : List α} {n : Nat} {d : α} (h : l.length ≤ n) : (l ++ r).getD n d = r.getD (n - l.length) d := by
  simp only [List.getD_eq_getElem?_getD, List.getElem?_append_right h]
theorem getD_over {α : Type} {l : List α} {n : Nat} {d : α} (h : l.length ≤ n) : l.getD n d = d := by
  simp only [List.getD_eq_getElem?_getD, List.getElem?_eq_none h]; rfl
theorem ovGo_len {α : Type} [DecidableEq α] (p : List α) : ∀ k, (ovGo p k).length = k
  | 0 => rfl
  | k + 1 => by
    unfold ovGo
    split
    · subst_vars; rfl
    · rw [List.length_append, ovGo_len p k]; rfl
theorem ovStep_le {α : Type} [DecidableEq α] {p : List α} {T : List Nat} {i : Nat} (h : ∀ j, T.getD j 0 ≤ j) : ∀ f idx, ovStep p T i f idx ≤ idx + 1
  | 0, _ => Nat.zero_le _
  | f + 1, idx => by
    unfold ovStep
    split
    · exact Nat.le_refl _
    · split
      · exact Nat.zero_le _
      · have := ovStep_le (p := p) (i := i) h f (T.getD (idx - 1) 0)
        have := h (idx - 1)
        omega
theorem ovGo_le {α : Type} [DecidableEq α] (p : List α) : ∀ k j, (ovGo p k).getD j 0 ≤ j
  | 0, j => by simp [ovGo]
  | k + 1, j => by
    unfold ovGo
    split
    · cases j <;> simp
    · have ih := ovGo_le p k
      have hl := ovGo_len p k
      rcases Nat.lt_trichotomy j k with h | h | h
      · rw [getD_left (by omega)]; exact ih j
      · subst h
        rw [getD_right (by omega), hl, Nat.sub_self]
        show ovStep _ _ _ _ _ ≤ j
        have := ovStep_le (p := p) (i := j) ih (j + 1) ((ovGo p j).getD (j - 1) 0)
        have := ih (j - 1)
        omega
      · rw [getD_right (by omega), hl, getD_over (by simp; omega)]
        exact Nat.zero_le _
theorem ovGo_succ {α : Type} [DecidableEq α] (p : List α) {k : Nat} (h : k ≠ 0) : ovGo p (k + 1) = ovGo p k ++ [ovStep p (ovGo p k) k (k + 1) ((ovGo p k).getD (k - 1) 0)] := by
  rw [ovGo, if_neg h]
theorem ovl_len {α : Type} [DecidableEq α] (p : List α) : (ovl p).length = p.length := ovGo_len p _
/-- the table behind the turns up to i -/
def tabI (p : List Int) (i : Nat) : List Int := (ovGo p i).map Int.ofNat ++ List.replicate (p.length - i) 0
theorem tabI_len (p : List Int) {i : Nat} (h : i ≤ p.length) : (tabI p i).length = p.length := by
  unfold tabI; rw [List.length_append, List.length_map, ovGo_len, List.length_replicate]; omega
theorem tabI_get (p : List Int) {i j : Nat} (h : j < i) : (tabI p i).getD j 0 = ((ovGo p i).getD j 0 : Nat) := by
  unfold tabI
  have hl := ovGo_len p i
  rw [getD_left (by rw [List.length_map]; omega)]
  simp only [List.getD_eq_getElem?_getD, List.getElem?_map]
  rw [List.getElem?_eq_getElem (by omega)]
  rfl
theorem tabI_set (p : List Int) {i v : Nat} (h0 : i ≠ 0) (h : i < p.length) (hv : v = ovStep p (ovGo p i) i (i + 1) ((ovGo p i).getD (i - 1) 0)) : (tabI p i).set i (v : Int) = tabI p (i + 1) := by
  unfold tabI
  rw [ovGo_succ p h0, ← hv, List.set_append_right _ _ (by rw [List.length_map, ovGo_len]; omega), List.length_map, ovGo_len, Nat.sub_self]
  obtain ⟨n, hn⟩ : ∃ n, p.length - i = n + 1 := ⟨p.length - i - 1, by omega⟩
  rw [hn, show p.length - (i + 1) = n by omega, List.replicate_succ, List.set_cons_zero, List.map_append, List.append_assoc]
  rfl
theorem tabI_all (p : List Int) : tabI p p.length = (ovl p).map Int.ofNat := by simp [tabI, ovl]
theorem ints_rep (t : Tok) : ∀ n, IntsAre (List.replicate n [Value.int 0 t]).flatten (List.replicate n 0)
  | 0 => .nil
  | n + 1 => by rw [List.replicate_succ, List.replicate_succ, List.flatten_cons]; exact .cons 0 t (ints_rep t n)
theorem rep_tab (p : List Int) (h : p.length ≠ 0) : List.replicate p.length (0 : Int) = tabI p 1 := by
  obtain ⟨n, hn⟩ : ∃ n, p.length = n + 1 := ⟨p.length - 1, by omega⟩
  simp [tabI, ovGo, hn, List.replicate_succ]
local macro_rules | `(tactic| walk_at "exec For Name Call cons nil") => `(tactic| (k_here; k_dflt (refine wpAny_For ?_)))
local macro_rules | `(tactic| walk_at "pyIter ref") => `(tactic| (k_here; refine Stop.of ?_))
local macro_rules | `(tactic| walk_at "exec While") => `(tactic| (k_here; k_dflt (refine wpAny_While (Stop.of ?_))))
local macro_rules | `(tactic| walk_at "call builtin:len") => `(tactic| (k_here; (with_reducible show wpAny _ _ (call (Value.builtin _) [Value.ref _]) _ _ _); (with_unfolding_all refine' len_ints_fit ?k1 ?k2 ?k3 ?_; (case k1 => exact LAt.isList (LAt.grow (by assumption) (Fr.keep (by assumption)))); (case k2 => assumption); (case k3 => omega))))
local macro_rules | `(tactic| walk_at "binaryOp Mult ref int") => `(tactic| (k_here; k_dflt (refine' KMa.mul ?F ?N ?l ?lo ?hi ?z ?e ?_; (case F => k_asm); (case N => k_asm); (case l => is_list); (case lo => omega); (case hi => omega); (case z => simp only [List.length_cons, List.length_nil]; omega); (case e => rfl)); intro D' h' F' N' l1; (try k_lt l1); (try k_sweep)))
set_option maxRecDepth 100000 in
set_option maxHeartbeats 8000000 in
theorem ovl_call {w : World} {dp un : Nat} {fr : Option (List Env)} {gd : Option (List Code)} {s : Shared} {Q E : Value → Shared → Prop} {a : Addr} {xs : List Value} {ns : List Int}
    (C : Cx w s.heap) (hdp : dp + 5 < recursionLimit) (hun : un + 100 < cLine)
    (ha : LAt s.heap a xs) (hi : IntsAre xs ns) (hsz : ns.length < 200)
    (ret : ∀ r vs h' tk', Grow s.heap h' → s.heap.get? r = none → LAt h' r vs → IntsAre vs ((ovl ns).map Int.ofNat) → Q (.ref r) { s with heap := h', toks := tk' }) :
    wpAny (model PP w) (Ar dp un fr gd) (call (.ref 21) [.ref a]) Q E s := by
  obtain ⟨X, mean, mg, mb, T⟩ := C
  have hla := ha.isList
  refine wpAny_call ?_
  k_dflt (refine' enter [(Str.ofString "prefix", .ref a)] X T ?k6 ?k7 ?k8 ?k9 ?kB ?c2 ?c3 ?c4 ?c5 ?_; (case k6 => k_is); (case k7 => k_is); (case k8 => ktr_room); (case k9 => exact BindsTo.of_eq rfl); (case c5 => decide); (case kB => exact locs rfl); (case c2 => exact rfl); (case c3 => exact rfl); (case c4 => exact rfl))
  intro L h₁ F N
  dsimp only
  k_steps
  rename_i a1 a2 a3 a4
  have hp : ns.length ≠ 0 ∨ ns.length = 0 := by omega
  refine Stop.mk ?_
  refine for_range (n := ns.length - 1) (h₀ := s.heap) (fun i m news => m (Str.ofString "prefix") = some (.ref a) ∧ ∃ D vs k, m (Str.ofString "table") = some (.ref D) ∧ news = [(D, listOf vs.toArray k)] ∧ IntsAre vs (if ns.length = 0 then [] else tabI ns (i + 1)))
    rfl a1 (by omega) (by omega) (by omega) rfl rfl (by passes_own) a2 (news_head a3) ⟨by rfl, _, _, _, by rfl, rfl, ?_⟩ ?_ ?_
  · rcases hp with hp | hp
    · rw [if_neg hp, ← rep_tab ns hp]; exact ints_rep _ _
    · rw [if_pos hp, hp]; exact .nil
  · rintro i tv I m₁ news₁ h tk oI hin ⟨hmp, D, vs, k, hmt, rfl, hiv⟩ hoff htk F₁ N₁
    have hn0 : ns.length ≠ 0 := by omega
    rw [if_neg hn0] at hiv
    have F₂ := fr_known (fr_known F₁ (x := Str.ofString "prefix") (v := .ref a) (by exact hmp)) (x := Str.ofString "table") (by exact hmt)
    clear F₁
    have hvl := tabI_len ns (i := i + 1) (by omega)
    have hT : (tabI ns (i + 1)).getD (1 + (i : Nat) - 1 : Int).toNat 0 = ((ovGo ns (i + 1)).getD i 0 : Nat) := by
      rw [show (1 + (i : Nat) - 1 : Int).toNat = i by omega]; exact tabI_get ns (Nat.lt_succ_self i)
    k_steps
    rename_i F₃ N₃
    rw [hT] at F₃
    refine Stop.mk ?_
    refine while_own (fun k' s' => ∃ h tk idx t m', s' = { s with heap := h, toks := tk } ∧ Fr s.heap L h m' ∧ News s.heap L h [(I, oI), (D, listOf vs.toArray k)] ∧ m' (Str.ofString "prefix") = some (.ref a) ∧
        m' (Str.ofString "table") = some (.ref D) ∧ m' (Str.ofString "i") = some (.int (1 + (i : Nat)) tv) ∧ m' (Str.ofString "idx") = some (.int (idx : Nat) t) ∧ idx < k' ∧ idx ≤ i ∧
        ovStep ns (ovGo ns (i + 1)) (i + 1) k' idx = ovStep ns (ovGo ns (i + 1)) (i + 1) (i + 2) ((ovGo ns (i + 1)).getD i 0))
      (by passes_own) ?_ (i + 2) ⟨_, _, _, _, _, rfl, F₃, N₃, rfl, rfl, rfl, rfl, ?_, ?_, rfl⟩
    · rintro k' s' ⟨h, tk, idx, t, m', rfl, F₄, N₄, hmp, hmt, hmi, hmx, hk', hix, hov⟩
      have F₅ := fr_known (fr_known (fr_known (fr_known F₄ hmp) (x := Str.ofString "table") (by exact hmt)) (x := Str.ofString "i") (by exact hmi)) (x := Str.ofString "idx") (by exact hmx)
      clear F₄ F₃ N₃ N₁ F₂ hmp hmt hmi hmx
      have hDI : D ≠ I := hoff (D, _) (.head _)
      have hDI := neN hDI
      obtain ⟨f, rfl⟩ : ∃ f, k' = f + 1 := ⟨k' - 1, by omega⟩
      rw [ovStep] at hov
      have fin : ∀ (v : Nat) (ws : List Value), v = ovStep ns (ovGo ns (i + 1)) (i + 1) (i + 2) ((ovGo ns (i + 1)).getD i 0) → IntsAre ws ((tabI ns (i + 1)).set (1 + (i : Nat) : Int).toNat (v : Int)) → IntsAre ws (if ns.length = 0 then [] else tabI ns (i + 1 + 1)) := fun v ws hv hw => by
        rw [if_neg hn0, ← tabI_set ns (Nat.succ_ne_zero i) (by omega) hv]
        rw [show (1 + (i : Nat) : Int).toNat = i + 1 by omega] at hw
        exact hw
      have e1 : (1 + (i : Nat) : Int).toNat = i + 1 := by omega
      have e2 : ((idx : Nat) : Int).toNat = idx := by omega
      k_steps
      · rename_i b1 b2 h' F' N' hi' _ _
        rw [e1, e2, Ne, getD_iff (by omega) (by omega)] at b1
        rw [if_neg b1, if_pos (by omega)] at hov
        exact TurnP.next F' N' (fun p hp => by rw [List.mem_singleton.mp hp]; exact hDI) ⟨rfl, _, _, _, rfl, rfl, fin 0 _ hov hi'⟩
      · rename_i b1 b2 t' h' F' N'
        rw [e1, e2, Ne, getD_iff (by omega) (by omega)] at b1
        rw [if_neg b1, if_neg (by omega)] at hov
        rw [show ((idx : Nat) - 1 : Int).toNat = idx - 1 by omega, tabI_get ns (by omega)] at F'
        have hle := ovGo_le ns (i + 1) (idx - 1)
        exact Stop.mk ⟨f, Nat.lt_succ_self f, _, _, _, _, _, rfl, F', N', rfl, rfl, rfl, rfl, by omega, by omega, hov⟩
      · rename_i b1 h' F' N' hi' _ _
        rw [e1, e2, getD_iff (by omega) (by omega)] at b1
        rw [if_pos b1] at hov
        exact TurnP.next F' N' (fun p hp => by rw [List.mem_singleton.mp hp]; exact hDI) ⟨rfl, _, _, _, rfl, rfl, fin (idx + 1) _ hov hi'⟩
    · have := ovGo_le ns (i + 1) i; omega
    · exact ovGo_le ns (i + 1) i
  · rintro m₁ news₁ h tk ⟨hmp, D, vs, k, hmt, rfl, hiv⟩ htk F₁ N₁
    have F₂ := fr_known F₁ (x := Str.ofString "table") hmt
    clear F₁
    k_steps
    refine ret D vs _ _ F₂.keep (N₁ _ (.head _)).2.2 ⟨_, (N₁ _ (.head _)).1⟩ ?_
    rcases hp with hp | hp
    · rw [if_neg hp, show ns.length - 1 + 1 = ns.length by omega, tabI_all] at hiv; exact hiv
    · rw [if_pos hp] at hiv
      rw [show ovl ns = [] by simp [ovl, hp, ovGo]]; exact hiv
end
section
open PySem.Calls PySem.Spec
theorem fill_idx : ∀ w : World, hd.heap_39 w.params = hd.heap_39 w.params ∧ Challenge.rw_rw0007_01 = Challenge.rw_rw0007_01 := by k_fill; exact fun _ => ⟨rfl, rfl⟩
def TurnE (h₀ : Heap) (L : Addr) (own : List (Addr × Obj)) (J : (Str → Option Value) → Prop) (s : Shared) (Q : Flow → Shared → Prop) (f : Flow) (s' : Shared) : Prop :=
  match f with
  | .ret v => Q (.ret v) s'
  | .brk => Q .next s'
  | _ => ∃ h' tk' m', s' = { s with heap := h', toks := tk' } ∧ Fr h₀ L h' m' ∧ News h₀ L h' own ∧ J m'
section
variable {prog : Program} {w : World} {A : Around} {E : Value → Shared → Prop} {s : Shared} {env : Env} {h₀ : Heap} {xi xv : Str} {pi pv pt : Pos} {x1 : Nat} {body orelse : List Stmt} {Q : Flow → Shared → Prop}
theorem for_enum {e it l : Addr} {items : Array Value} {m : Str → Option Value} (J : Nat → (Str → Option Value) → Prop)
    (hh : A.handled = none) (hxi : env.kindOf xi = some .local) (hxv : env.kindOf xv = some .local)
    (hp : (env.scope.kind == .class || (env.scope.kind == .module && env.locals != env.globals)) = false) (hE : PassesOwn (model prog w) A env E)
    (hei : e ≠ it) (heL : e ≠ env.locals) (hiL : it ≠ env.locals) (hen : h₀.get? e = none) (hin : h₀.get? it = none)
    (he : IsEnum s.heap e it 0 .none) (hit : s.heap.IsListIter it l 0) (hl : h₀.IsList l items) (F : Fr h₀ env.locals s.heap m) (h0 : J 0 m)
    (turn : ∀ i v t m₁ h tk own, items[i]? = some v → J i m₁ → Fr h₀ env.locals h (fun y => if y = xv then some v else if y = xi then some (.int (i : Nat) t) else m₁ y) → News h₀ env.locals h own →
      wpAny (model prog w) A (execs body env) (TurnE h₀ env.locals own (J (i + 1)) s Q) E { s with heap := h, toks := tk })
    (done : ∀ m₁ h tk, J items.size m₁ → Fr h₀ env.locals h m₁ → wpAny (model prog w) A (execs orelse env) Q E { s with heap := h, toks := tk }) :
    codeAny (model prog w) A (.forLoop (.Tuple [.Name xi pi, .Name xv pv] x1 pt) (.ref e) body orelse env) (BackTo prog w A env Q E) s := by
  refine codeAny_forLoop_any
    (fun k s' => ∃ h' tk m' i old, s' = { s with heap := h', toks := tk } ∧ IsEnum h' e it ((i : Nat) : Int) old ∧ h'.IsListIter it l i ∧ Fr h₀ env.locals h' m' ∧ J i m' ∧ i ≤ items.size ∧ k = items.size + 1 - i) ?_ (items.size + 1)
    ⟨s.heap, s.toks, m, 0, .none, rfl, he, hit, F, h0, Nat.zero_le _, rfl⟩
  rintro k s' ⟨H, tk, m', i, old, rfl, he', hit', F', hJ, hi, rfl⟩
  have hl' : H.IsList l items := hl.at fun o x => F'.keep l o x
  have hle : l ≠ e := fun q => by obtain ⟨o, ho, _⟩ := hl; rw [q, hen] at ho; cases ho
  have hli : l ≠ it := fun q => by obtain ⟨o, ho, _⟩ := hl; rw [q, hin] at ho; cases ho
  have old₀ : ∀ b o, h₀.get? b = some o → b ≠ e ∧ b ≠ it := fun b o x => ⟨fun q => (by rw [q, hen] at x; cases x), fun q => (by rw [q, hin] at x; cases x)⟩
  cases hv : items[i]? with
  | none =>
    have hsz : i = items.size := Nat.le_antisymm hi (by simpa using hv)
    refine wpAny_pyNext_enum_end hh he' hit' hl' hv fun h₁ he₁ => ?_
    exact wpAny_mono (wpAny_passesOwn hE (done m' h₁ tk (hsz ▸ hJ) ⟨F'.ns.extBut he₁ (Ne.symm hiL), fun b o x => he₁ b o (old₀ b o x).2 (F'.keep b o x), F'.above⟩)) (fun _ _ h => h) fun _ _ x => x
  | some v =>
    have hlt : i < items.size := (Array.getElem?_eq_some_iff.mp hv).1
    have heH : e < H.objs.size := Heap.lt_size he'
    have hLH : env.locals < H.objs.size := F'.ns.lt
    obtain ⟨oi, hoi, _⟩ := id hit'
    have hiH : it < H.objs.size := Heap.lt_size hoi
    refine wpAny_pyNext_enum_item he' hit' hl' hv hei fun h₁ heo hit₁ ht₁ hz₁ hk₁ => ?_
    refine wpAny_letOwnedTupleGo_enum heo fun h₂ he₂ hs₂ => ?_
    replace hs₂ : Heap.SameBut e h₁ h₂ := hs₂
    have ht₂ : h₂.IsTuple H.objs.size #[.int i tk, v] := ⟨_, (hs₂.2 _ (Nat.ne_of_gt heH)).trans ht₁, rfl, _, rfl⟩
    have hz₂ : h₂.objs.size = H.objs.size + 1 := hs₂.1.trans hz₁
    refine wpAny_assign_Tuple hh ht₂ rfl rfl fun h₃ hx₃ => ?_
    replace hx₃ : Heap.ExtBut h₂.objs.size h₂ h₃ := hx₃
    have old₃ : ∀ b o, b < H.objs.size → h₂.get? b = some o → h₃.get? b = some o := fun b o hb x => hx₃ b o (by rw [hz₂]; exact Nat.ne_of_lt (Nat.lt_succ_of_lt hb)) x
    have F₃ : Fr h₀ env.locals h₃ m' := ⟨((F'.ns.at' fun o x => hk₁ _ o (Ne.symm heL) (Ne.symm hiL) x).sameBut hs₂ (Ne.symm heL)).at' fun o x => old₃ _ o hLH x,
      fun b o x => old₃ b o (Heap.lt_size (F'.keep b o x)) ((hs₂.2 b (old₀ b o x).1).trans (hk₁ b o (old₀ b o x).1 (old₀ b o x).2 (F'.keep b o x))), F'.above⟩
    show wpAny _ A (do holding [v] (assign (.Name xi pi) env (.int i tk)); do holding [] (assign (.Name xv pv) env v); pure ()) _ _ _
    refine wpAny_bind (wpAny_holding (wpAny_assign_Name (wpAny_storeName_local hxi F₃.ns (fun h₄ hn₄ hs₄ => ?_) hp)))
    replace hs₄ : Heap.SameBut env.locals h₃ h₄ := hs₄
    have F₄ := F₃.set hn₄ hs₄
    refine wpAny_bind (wpAny_holding (wpAny_assign_Name (wpAny_storeName_local hxv hn₄ (fun h₅ hn₅ hs₅ => wpAny_pure ?_) hp)))
    replace hs₅ : Heap.SameBut env.locals h₄ h₅ := hs₅
    have F₅ := F₄.set hn₅ hs₅
    have up₅ : ∀ b o, b ≠ env.locals → b < H.objs.size → h₂.get? b = some o → h₅.get? b = some o := fun b o hbL hb x => hs₅.extBut b o hbL (hs₄.extBut b o hbL (old₃ b o hb x))
    have he₅ := up₅ e _ heL heH he₂
    have hit₂ : h₂.IsListIter it l (i + 1) := hit₁.extBut hs₂.extBut (Ne.symm hei)
    obtain ⟨oit, hoit, hcit, hdit⟩ := hit₂
    have hoit₅ := up₅ it _ hiL hiH hoit
    have N₅ : News h₀ env.locals h₅ [(e, { cls := .type "enumerate", dict := none, data := .fields #[.none, .bool false, .ref it, rawInt ((i : Int) + 1), .none, v], slots := #[] }), (it, oit)] := fun p hp => by
      rcases List.mem_cons.mp hp with rfl | hp
      · exact ⟨he₅, heL, hen⟩
      · rw [List.mem_singleton.mp hp]; exact ⟨hoit₅, hiL, hin⟩
    refine wpAny_mono (wpAny_passesOwn hE (turn i v tk m' h₅ _ _ hv hJ F₅ N₅)) (fun f s₃ h₆ => ?_) fun _ _ x => x
    have fin : (∃ h' tk' m', s₃ = { s with heap := h', toks := tk' } ∧ Fr h₀ env.locals h' m' ∧ News h₀ env.locals h' [(e, { cls := .type "enumerate", dict := none, data := .fields #[.none, .bool false, .ref it, rawInt ((i : Int) + 1), .none, v], slots := #[] }), (it, oit)] ∧ J (i + 1) m') →
        ∃ k', k' < items.size + 1 - i ∧ ∃ h' tk m' i old, s₃ = { s with heap := h', toks := tk } ∧ IsEnum h' e it ((i : Nat) : Int) old ∧ h'.IsListIter it l i ∧ Fr h₀ env.locals h' m' ∧ J i m' ∧ i ≤ items.size ∧ k' = items.size + 1 - i := by
      rintro ⟨h₇, tk₆, m₆, rfl, F₆, N₆, hJ₆⟩
      refine ⟨items.size + 1 - (i + 1), by omega, h₇, tk₆, m₆, i + 1, v, rfl, ?_, ⟨oit, (N₆ _ (.tail _ (.head _))).1, hcit, hdit⟩, F₆, hJ₆, hlt, rfl⟩
      have : ((i + 1 : Nat) : Int) = (i : Int) + 1 := by push_cast; rfl
      rw [this]; exact (N₆ _ (.head _)).1
    cases f with
    | ret v => exact h₆
    | brk => exact h₆
    | cont => exact fin h₆
    | next => exact fin h₆

theorem for_enum_list {l : Addr} {vs : List Value} {m : Str → Option Value} (J : Nat → (Str → Option Value) → Prop)
    (hh : A.handled = none) (hxi : env.kindOf xi = some .local) (hxv : env.kindOf xv = some .local)
    (hp : (env.scope.kind == .class || (env.scope.kind == .module && env.locals != env.globals)) = false) (hE : PassesOwn (model prog w) A env E)
    (hl : h₀.IsList l vs.toArray) (F : Fr h₀ env.locals s.heap m) (h0 : J 0 m)
    (turn : ∀ i v t m₁ h tk own, vs[i]? = some v → J i m₁ → Fr h₀ env.locals h (fun y => if y = xv then some v else if y = xi then some (.int (i : Nat) t) else m₁ y) → News h₀ env.locals h own →
      wpAny (model prog w) A (execs body env) (TurnE h₀ env.locals own (J (i + 1)) s Q) E { s with heap := h, toks := tk })
    (done : ∀ m₁ h tk, J vs.length m₁ → Fr h₀ env.locals h m₁ → wpAny (model prog w) A (execs orelse env) Q E { s with heap := h, toks := tk }) :
    wpAny (model prog w) A (call (.type "enumerate") [.ref l]) (fun xval s₁ => wpAny (model prog w) A (pyIter xval) (fun it s₂ => codeAny (model prog w) A (.forLoop (.Tuple [.Name xi pi, .Name xv pv] x1 pt) it body orelse env) (BackTo prog w A env Q E) s₂) E s₁) E s := by
  have hls : s.heap.IsList l vs.toArray := hl.at fun o x => F.keep l o x
  refine call_enumerate_list hls fun h' he hit hsz hk => ?_
  have F' : Fr h₀ env.locals h' m := F.keeps hk
  have hLs : env.locals < s.heap.objs.size := F.ns.lt
  have none_of : ∀ a, s.heap.objs.size ≤ a → h₀.get? a = none := fun a ha => by
    cases q : h₀.get? a with
    | none => rfl
    | some o => exact absurd (Heap.lt_size (F.keep _ _ q)) (Nat.not_lt.mpr ha)
  refine wpAny_pyIter_enum he ?_
  exact for_enum (s := { s with heap := h' }) J hh hxi hxv hp hE (Nat.succ_ne_self _) (Nat.ne_of_gt (Nat.lt_succ_of_lt hLs)) (Nat.ne_of_gt hLs) (none_of _ (Nat.le_succ _)) (none_of _ (Nat.le_refl _)) he hit hl F' h0
    (fun i v t m₁ h tk own hv => turn i v t m₁ h tk own (by simpa using hv)) (fun m₁ h tk hJ => done m₁ h tk (by simpa using hJ))
end
theorem idx_of_first {ns : List Int} {i : Nat} {n b : Int} (h : ns[i]? = some n) (hb : n = b) (hn : b ∉ ns.take i) : b ∈ ns ∧ ns.idxOf b = i := by
  subst hb
  refine ⟨List.mem_of_getElem? h, ?_⟩
  induction ns generalizing i with
  | nil => cases h
  | cons m r ih =>
    cases i with
    | zero => simp at h; subst h; simp
    | succ i =>
      simp at h hn
      have e : (m == n) = false := by simp; exact fun e => hn.1 e.symm
      rw [List.idxOf_cons, e, ih h hn.2]; rfl
end
section
open PySem.Calls PySem.Spec
theorem fill_grown : ∀ w : World, hd.heap_39 w.params = hd.heap_39 w.params ∧ Challenge.rw_rw0007_01 = Challenge.rw_rw0007_01 := by k_fill; exact fun _ => ⟨rfl, rfl⟩
local macro_rules | `(tactic| walk_at "exec For Tuple Call cons cons") => `(tactic| (k_here; k_dflt (refine wpAny_For ?_)))
local macro_rules | `(tactic| walk_at "call type:enumerate") => `(tactic| (k_here; refine Stop.of ?_))
local macro_rules | `(tactic| walk_at "compareOp Is int int") => `(tactic| (k_here; (refine is_int (by assumption) (And.left (by assumption)) (by assumption) (And.right (by assumption)) ?_); intro b' hb'))
local macro_rules | `(tactic| walk_at "call ref") => `(tactic| (k_here; refine Stop.of ?_))
local macro_rules | `(tactic| walk_at "leaving ref") => `(tactic| (k_here; refine Stop.of ?_))
local macro_rules | `(tactic| walk_at "call builtin:len") => `(tactic| (k_here; (with_reducible show wpAny _ _ (call (Value.builtin _) [Value.ref _]) _ _ _); (with_unfolding_all refine' len_ints_fit ?k1 ?k2 ?k3 ?_; (case k1 => exact LAt.isList (LAt.grow (by assumption) (Fr.keep (by assumption)))); (case k2 => assumption); (case k3 => omega))))
theorem isList_turn {fs : List Addr} {g g' : Heap} {a : Addr} {its : Array Value} (T : KtsTurn fs g g') (h : g.IsList a its) : g'.IsList a its := by
  obtain ⟨o, ho, hc, n, hd⟩ := h
  obtain ⟨sl, hs⟩ := T.up ho
  exact ⟨_, hs, hc, n, hd⟩
def grown (zs ns : List Int) (q more : Int) : Int := if q ∈ ns then 2 * zs.getD ns.length 0 - zs.getD (ns.length - 1 - ns.idxOf q) 0 else 2 * zs.getD ns.length 0 + more
set_option maxRecDepth 100000 in
set_option maxHeartbeats 8000000 in
theorem grown_call {w : World} {dp un : Nat} {fr : List Env} {gd : Option (List Code)} {base : Heap} {s : Shared} {Q E : Value → Shared → Prop} {a z : Addr} {xs zv : List Value} {ns zs : List Int} {b more : Int} {tb tm : Tok}
    (C : Cx w s.heap) (B : Below (Ar dp un (some fr) gd) base fr s.heap) (hdp : dp + 15 < recursionLimit) (hun : un + 100 < cLine)
    (ha : LAt s.heap a xs) (hi : IntsAre xs ns) (hsz : ns.length < 200) (hb : tb ≠ 0) (hk : TokOk b tb xs)
    (XB : (hd.heap_39 w.params).In base) (TB : ∃ mean mg mb, Top hd.view_39 (looseW hd.view_39 []) mean mg mb base) (D : KtsDicts (fr.filterMap (·.frame)) s.heap) (hz : LAt s.heap z zv) (hzi : IntsAre zv zs) (hzl : zs.length = ns.length + 1)
    (ret : ∀ g' h' tk' t, KtsTurn (fr.filterMap (·.frame)) s.heap g' → Grow g' h' → Q (.int (grown zs ns b more) t) { s with heap := h', toks := tk' }) :
    wpAny (model PP w) (Ar dp un (some fr) gd) (call (.ref 66) [.ref z, .ref a, .int b tb, .int more tm]) Q E s := by
  obtain ⟨X, mean, mg, mb, T⟩ := C
  have hla := ha.isList
  have hlz := hz.isList
  refine wpAny_call ?_
  k_dflt (refine' enter [(Str.ofString "sizes", .ref z), (Str.ofString "seen", .ref a), (Str.ofString "sign", .int b tb), (Str.ofString "more", .int more tm)] X T ?k6 ?k7 ?k8 ?k9 ?kB ?c2 ?c3 ?c4 ?c5 ?_; (case k6 => k_is); (case k7 => k_is); (case k8 => ktr_room); (case k9 => exact BindsTo.of_eq rfl); (case c5 => decide); (case kB => exact locs rfl); (case c2 => exact rfl); (case c3 => exact rfl); (case c4 => exact rfl))
  intro L h₁ F N
  dsimp only
  k_steps
  refine Stop.mk (wpAny_call ?_)
  k_dflt (refine' code_def (binds := [(Str.ofString "a", .ref a), (Str.ofString "b", .int b tb)]) B F X N T rfl rfl rfl ?k6 ?k7 ?k8 ?k9 ?kB ?_ ?c2 ?c3 ?c4 ?c5; (case k6 => k_is); (case k7 => k_is); (case k8 => ktr_room); (case k9 => exact BindsTo.of_eq rfl); (case c5 => decide); (case kB => exact locs rfl); (case c2 => exact rfl); (case c3 => exact rfl); (case c4 => exact rfl))
  intro g L' h' FG F' N' B' X' T'
  dsimp only
  have hla' : g.IsList a xs.toArray := hla.at fun o e => FG.keep _ o e
  k_steps
  refine Stop.mk ?_
  refine for_enum_list (h₀ := g) (fun i m => m (Str.ofString "b") = some (.int b tb) ∧ b ∉ ns.take i) rfl rfl rfl rfl (by passes_own) hla' F' ⟨by rfl, by simp⟩ ?_ ?_
  · rintro i v t m₁ h tk own hv ⟨hmb, hnt⟩ F₁ N₁
    obtain ⟨n, tn, rfl, hn⟩ := ints_at hi hv
    have hkk := hk _ _ (List.mem_of_getElem? hv)
    have F₂ := fr_known F₁ (x := Str.ofString "b") (v := .int b tb) (by exact hmb)
    clear F₁ F' N'
    have hbk := booked (X'.keeps F₂.keep)
    have hp : n = b → b ∈ ns ∧ ns.idxOf b = i := fun e => idx_of_first hn e hnt
    have hz : n ≠ b → b ∉ ns.take (i + 1) := fun e => by
      rw [List.take_add_one, hn, List.mem_append]
      rintro (h | h)
      · exact hnt h
      · simp at h; exact e h.symm
    k_steps
    · obtain ⟨hm, hx⟩ := hp (by simp_all)
      have hil : i < ns.length := (List.getElem?_eq_some_iff.mp hn).1
      dsimp only [TurnE]
      k_steps
      rw [show (-1 + (zs.length : Nat) : Int).toNat = ns.length by omega, show ((ns.length : Nat) - 1 - (i : Nat) : Int).toNat = ns.length - 1 - i by omega]
      have e : grown zs ns b more = 2 * zs.getD ns.length 0 - zs.getD (ns.length - 1 - i) 0 := by unfold grown; rw [if_pos hm, hx]
      rw [← e]
      exact ret _ _ _ _ KtsTurn.refl (Fr.keep (by assumption))
    · obtain ⟨hm, hx⟩ := hp (by simp_all)
      have hil : i < ns.length := (List.getElem?_eq_some_iff.mp hn).1
      dsimp only [TurnE]
      k_steps
      rw [show (-1 + (zs.length : Nat) : Int).toNat = ns.length by omega, show ((ns.length : Nat) - 1 - (i : Nat) : Int).toNat = ns.length - 1 - i by omega]
      have e : grown zs ns b more = 2 * zs.getD ns.length 0 - zs.getD (ns.length - 1 - i) 0 := by unfold grown; rw [if_pos hm, hx]
      rw [← e]
      exact ret _ _ _ _ KtsTurn.refl (Fr.keep (by assumption))
    · exact ⟨_, _, _, rfl, F₂, N₁, by rfl, hz (by simp_all)⟩
  · rintro m₁ h tk ⟨hmb, hnt⟩ F₁
    rw [ints_len hi, List.take_length] at hnt
    clear F' N'
    have N₁ : News g L' h [] := News.nil
    k_steps
    rename_i hx
    refine Stop.mk ?_
    refine leave_raiseS B' (Heap.MadeExc.of hx) F₁ N₁ ?_
    intro h₂ t R _ U
    obtain ⟨_, _, _, TB⟩ := TB
    refine caught_S0 (KF := hd.heap_39 w.params) (T' := "ValueError") (g₀ := s.heap) R FG B U XB TB D KtsTurn.refl (by k_is) PyProof.Rows.Boot.«ValueError» (by decide) PySem.F.isExc_ValueError PySem.F.notTuple_ValueError (by rw [isSubtype_type]; kernel_rfl) ?_
    intro h₃ g₃ n₃ T₃ F₃ N₃ _ _ B₃ X₃ P₃ D₃
    have hlz₃ := isList_turn T₃ hlz
    have hla₃ := isList_turn T₃ hla
    k_steps
    rw [show (-1 + (zs.length : Nat) : Int).toNat = ns.length by omega]
    have e : grown zs ns b more = 2 * zs.getD ns.length 0 + more := by unfold grown; rw [if_neg hnt]
    rw [← e]
    exact ret _ _ _ _ T₃ F₃.keep
end
section
open PySem.Calls PySem.Spec
theorem fill_whole : ∀ w : World, hd.heap_39 w.params = hd.heap_39 w.params ∧ Challenge.rw_rw0007_01 = Challenge.rw_rw0007_01 := by k_fill; exact fun _ => ⟨rfl, rfl⟩
section
variable {prog : Program} {w : World} {A : Around} {E : Value → Shared → Prop} {s : Shared} {h₀ : Heap} {L : Addr} {m : Str → Option Value} {env : Env} {news : List (Addr × Obj)}
theorem nameG_B {M : Model} {A : Around} {K : Frag} {mg mb : Str → Option Value} {p : Program} {loose : List Str} {x : Str} {pos : Pos} {v : Value} {Q : Value → Shared → Prop} (F : Fr h₀ L s.heap m) (X : K.In h₀) (T : TopRead p loose mg mb h₀)
    (e : nsIn K mainGlobals x = some none) (hv : bootBuiltins x = some v) (hn : x ≠ "__name__") (h : Q v s) (hg : env.globals = mainGlobals) (hb : env.builtins = builtinsNs) (hk : env.scope.kind = .function) (hx : env.kindOf x = some .globalImplicit) (hd : (x == ("__debug__" : Str)) = false) :
    wpAny M A (eval (.Name x pos) env) Q E s :=
  Name_function_global hk hx (loadGlobal_builtin (env := env) (by rw [hg]; exact T.g.keeps F.keep) (mg_none_of X T.g e) (by rw [hb]; exact T.b.keeps F.keep) ((T.builtins x hn).trans hv) h) hd
/-- a comprehension over a list that stood ahead of the call -/
theorem comp_list {elt : Expr} {x : Str} {ifs : List Expr} {scope : Scope} {Q : Value → Shared → Prop} {l : Addr} {vs : List Value} (p : Value → Bool) (G : Value → Value → Prop)
    (hh : A.handled = none) (hsz : vs.length ≤ sizeLine) (hl : h₀.IsList l vs.toArray) (F : Fr h₀ L s.heap m) (N : News h₀ L s.heap news)
    (tests : ∀ C v s₃ m₃ E', v ∈ vs → s₃.heap.Ns C m₃ → m₃ x = some v → Fr h₀ L s₃.heap m → News h₀ L s₃.heap news →
      wpAny (model prog w) A (forIn ifs true fun c r => if r = true then do let ok ← isTrue c (compEnv scope C env) (eval c (compEnv scope C env)); pure (ForInStep.yield ok) else pure (ForInStep.yield r)) (fun ok s₄ => ok = p v ∧ Keeps s₃ s₄) E' s₃)
    (elts : ∀ C v s₃ m₃ E', v ∈ vs → p v = true → s₃.heap.Ns C m₃ → m₃ x = some v → Fr h₀ L s₃.heap m → News h₀ L s₃.heap news →
      wpAny (model prog w) A (eval elt (compEnv scope C env)) (fun y s₄ => G v y ∧ Keeps s₃ s₄) E' s₃)
    (done : ∀ D (ys : List Value) n h' tk, Fr h₀ L h' m → News h₀ L h' ((D, listOf ys.toArray n) :: news) → Paired G (vs.filter p) ys → Q (.ref D) { s with heap := h', toks := tk }) :
    wpAny (model prog w) A (pyIter (.ref l)) (fun it s₂ => ∃ I fp wr n P St, it = .ref I ∧ Walks prog w A I fp wr n P St ∧ n ≤ sizeLine ∧ St 0 s₂.heap ∧ (∀ b ∈ fp, b < s₂.heap.objs.size) ∧
      QuietOn prog w A env scope x ifs elt wr P p G s₂ ∧
      (∀ D h' tk ys (vs : List Value), s₂.heap.get? D = none → h'.IsList D ys → h'.PlainList D ys → vs.length = n → (∀ j v, vs[j]? = some v → P j v) → Paired G (vs.filter p) ys.toList →
        (∀ b o, b ∉ wr → s₂.heap.get? b = some o → h'.get? b = some o) → Q (.ref D) { s₂ with heap := h', toks := tk })) E s := by
  have hls : s.heap.IsList l vs.toArray := hl.at fun o e => F.keep l o e
  obtain ⟨ol, hol, _⟩ := id hl
  have hlt : l < h₀.objs.size := Heap.lt_size hol
  have hls' : l < s.heap.objs.size := Heap.lt_size (F.keep _ _ hol)
  have hLs : L < s.heap.objs.size := F.ns.lt
  refine wpAny_pyIter_list hls ?_
  have keep : ∀ h' : Heap, (∀ b o, b ∉ [s.heap.objs.size] → (s.heap.push { cls := .type "list_iterator", data := .fields #[.ref l, .int 0 0] }).get? b = some o → h'.get? b = some o) → Fr h₀ L h' m ∧ News h₀ L h' news := fun h' hk =>
    have up : ∀ b o, s.heap.get? b = some o → h'.get? b = some o := fun b o e => hk b o (fun q => by rw [List.mem_singleton.mp q] at e; exact Nat.lt_irrefl _ (Heap.lt_size e)) (Heap.get?_push_of_some _ e)
    ⟨F.keeps up, news_grow N up⟩
  refine ⟨s.heap.objs.size, _, _, vs.toArray.size, _, _, rfl, Walks.list hh s.heap.objs.size l (Nat.ne_of_lt hls') vs.toArray, by simpa using hsz, ⟨⟨_, Heap.get?_push_size _ rfl, rfl, rfl⟩, hls.at fun o e => Heap.get?_push_of_some _ e⟩, ?_, ?_, ?_⟩
  · intro b hb
    show b < (Heap.push _ _).objs.size
    rw [Heap.size_push]
    rcases List.mem_cons.mp hb with rfl | hb
    · exact Nat.lt_succ_self _
    · rw [List.mem_singleton.mp hb]; exact Nat.lt_succ_of_lt hls'
  · exact ⟨fun C i v s₃ m₃ E' hP hn hm hk _ => let ⟨F₃, N₃⟩ := keep _ hk; tests C v s₃ m₃ E' (List.mem_of_getElem? (by simpa using hP)) hn hm F₃ N₃,
      fun C i v s₃ m₃ E' hP hp hn hm hk _ => let ⟨F₃, N₃⟩ := keep _ hk; elts C v s₃ m₃ E' (List.mem_of_getElem? (by simpa using hP)) hp hn hm F₃ N₃⟩
  · intro D h' tk ys us hD _ hpl hlen hP hG hk
    obtain ⟨F', N'⟩ := keep _ hk
    obtain ⟨n, hn⟩ := hpl
    have e : us = vs := by
      apply List.ext_getElem?
      intro j
      by_cases hj : j < us.length
      · have := hP j us[j] (by simp [hj])
        rw [List.getElem?_eq_getElem hj]
        simpa using this.symm
      · rw [List.getElem?_eq_none (Nat.le_of_not_lt hj), List.getElem?_eq_none (by rw [List.size_toArray] at hlen; omega)]
    subst e
    have hD' : s.heap.get? D = none := by
      cases q : s.heap.get? D with
      | none => rfl
      | some o => rw [Heap.get?_push_of_some _ q] at hD; cases hD
    have hDL : D ≠ L := by rintro rfl; obtain ⟨o, _, _, ho, _⟩ := F.ns; rw [hD'] at ho; cases ho
    have hD₀ : h₀.get? D = none := by
      cases q : h₀.get? D with
      | none => rfl
      | some o => rw [F.keep _ _ q] at hD'; cases hD'
    refine done D ys.toList n h' tk F' (fun q hq => ?_) hG
    rcases List.mem_cons.mp hq with rfl | hq
    · exact ⟨by simpa using hn, hDL, hD₀⟩
    · exact N' q hq
theorem ListComp_list {elt iter : Expr} {x : Str} {px : Pos} {ifs : List Expr} {scope : Scope} {pos : Pos} {Q : Value → Shared → Prop} {l : Addr} {vs : List Value} (p : Value → Bool) (G : Value → Value → Prop)
    (hh : A.handled = none) (hsz : vs.length ≤ sizeLine) (hl : h₀.IsList l vs.toArray)
    (hfree : ∀ y ∈ scope.names, y.2 ≠ .free) (hcell : ∀ y ∈ scope.names, y.2 ≠ .cell) (hkind : scope.kind = .function)
    (hnames : ∀ y ∈ scope.names, y.2 = .local → scope.names.lookup y.1 = some .local) (hx : scope.names.lookup x = some .local)
    (hit : wpAny (model prog w) A (eval iter env) (fun xv s₁ => ∃ h' tk, xv = .ref l ∧ s₁ = { s with heap := h', toks := tk } ∧ Fr h₀ L h' m ∧ News h₀ L h' news) E s)
    (tests : ∀ C v s₃ m₃ E', v ∈ vs → s₃.heap.Ns C m₃ → m₃ x = some v → Fr h₀ L s₃.heap m → News h₀ L s₃.heap news →
      wpAny (model prog w) A (forIn ifs true fun c r => if r = true then do let ok ← isTrue c (compEnv scope C env) (eval c (compEnv scope C env)); pure (ForInStep.yield ok) else pure (ForInStep.yield r)) (fun ok s₄ => ok = p v ∧ Keeps s₃ s₄) E' s₃)
    (elts : ∀ C v s₃ m₃ E', v ∈ vs → p v = true → s₃.heap.Ns C m₃ → m₃ x = some v → Fr h₀ L s₃.heap m → News h₀ L s₃.heap news →
      wpAny (model prog w) A (eval elt (compEnv scope C env)) (fun y s₄ => G v y ∧ Keeps s₃ s₄) E' s₃)
    (done : ∀ D (ys : List Value) n h' tk, Fr h₀ L h' m → News h₀ L h' ((D, listOf ys.toArray n) :: news) → Paired G (vs.filter p) ys → Q (.ref D) { s with heap := h', toks := tk })
    (hs : ∀ x, foldedSetIterable iter env x = pure x := by intro _; rfl) :
    wpAny (model prog w) A (eval (.ListComp elt [⟨.Name x px, iter, ifs, 0⟩] scope pos) env) Q E s := by
  refine wpAny_ListComp_walk p G hfree hcell hkind hnames hx (wpAny_mono hit (fun xv s₁ h₁ => ?_) fun _ _ e => e) hs
  obtain ⟨h', tk, rfl, rfl, F, N⟩ := h₁
  exact comp_list p G hh hsz hl F N tests elts done
end
theorem bt_isinstance : bootBuiltins "isinstance" = some (.builtin "isinstance") := by decide +kernel
theorem bt_bool : bootBuiltins "bool" = some (.type "bool") := by decide +kernel
theorem bt_int : bootBuiltins "int" = some (.type "int") := by decide +kernel
theorem bt_sum : bootBuiltins "sum" = some (.builtin "sum") := by decide +kernel
local macro_rules | `(tactic| walk_at "eval Name") => `(tactic| (k_here; k_inBlock; (with_reducible rename Fr _ _ _ _ => kF); k_dflt (refine' nameG_B kF ?k1 ?k2 ?k3 ?kv ?kn ?_ ?k4 ?kb ?k5 ?k6 ?k7; (case k4 => rfl); (case kb => rfl); (case k5 => rfl); (case k6 => rfl); (case k7 => decide); (case kv => first | exact bt_isinstance | exact bt_bool | exact bt_int | exact bt_sum); (case k1 => k_asm); (case k2 => k_asm); (case k3 => k_is); (case kn => decide))))
local macro_rules | `(tactic| walk_at "eval ListComp") => `(tactic| (k_here; refine Stop.of ?_))
set_option maxRecDepth 100000 in
set_option maxHeartbeats 8000000 in
theorem whole_call {w : World} {dp un : Nat} {fr : Option (List Env)} {gd : Option (List Code)} {s : Shared} {Q E : Value → Shared → Prop} {a : Addr} {xs : List Value} {ns : List Int}
    (C : Cx w s.heap) (hdp : dp + 15 < recursionLimit) (hun : un + 100 < cLine)
    (ha : LAt s.heap a xs) (hi : IntsAre xs ns) (hsz : ns.length < 200)
    (ret : ∀ h' tk', Grow s.heap h' → Q (.bool true) { s with heap := h', toks := tk' }) :
    wpAny (model PP w) (Ar dp un fr gd) (call (.ref 52) [.ref a]) Q E s := by
  obtain ⟨X, mean, mg, mb, T⟩ := C
  have hla := ha.isList
  refine wpAny_call ?_
  k_dflt (refine' enter [(Str.ofString "numbers", .ref a)] X T ?k6 ?k7 ?k8 ?k9 ?kB ?c2 ?c3 ?c4 ?c5 ?_; (case k6 => k_is); (case k7 => k_is); (case k8 => ktr_room); (case k9 => exact BindsTo.of_eq rfl); (case c5 => decide); (case kB => exact locs rfl); (case c2 => exact rfl); (case c3 => exact rfl); (case c4 => exact rfl))
  intro L h₁ F N
  dsimp only
  k_steps
  refine Stop.mk ?_
  refine ListComp_list (h₀ := s.heap) (vs := xs) (fun _ => false) (fun _ _ => False) rfl (by rw [ints_len hi, sizeLine_eq]; omega) hla (by decide) (by decide) rfl (by decide) rfl (ld F (by rfl) ⟨_, _, rfl, rfl, F, N⟩) ?_ ?_ ?_
  · intro C v s₃ m₃ E' hv hn hm F₃ N₃
    obtain ⟨hh₃, g₃, d₃, tk₃, os₃⟩ := s₃
    obtain ⟨i, hv⟩ := List.getElem?_of_mem hv
    obtain ⟨n, tn, rfl, _⟩ := ints_at hi hv
    dsimp only at F₃ N₃ hn
    k_steps
    exact ⟨_, _, rfl, fun _ _ e => e⟩
  · intro C v s₃ m₃ E' hv hp; cases hp
  · intro D ys n h' tk F' N' hG
    have e : ys = [] := by
      have e0 : xs.filter (fun _ => false) = [] := by simp
      rw [e0] at hG; cases hG; rfl
    subst e
    k_steps
    exact ret _ _ (Fr.keep (by assumption))
end
section
open PySem.Calls PySem.Spec
section
variable {prog : Program} {w : World} {A : Around} {E : Value → Shared → Prop} {s : Shared} {h₀ : Heap} {L l : Addr} {m : Str → Option Value} {news : List (Addr × Obj)} {value slice : PySem.Expr} {vs : List Value} {vl vu vk : Value} {x y : Int} {ops : List Value} {Q : Value → Shared → Prop}
theorem sl_rev (F : Fr h₀ L s.heap m) (N : News h₀ L s.heap news) (hl : s.heap.IsList l vs.toArray) (pk : IsPart vk (some (-1))) (hz : vs.length ≤ sizeLine)
    (h : ∀ D h', Fr h₀ L h' m → News h₀ L h' ((D, listOf vs.reverse.toArray 0) :: news) → (∀ p ∈ news, p.1 < D) → Q (.ref D) { s with heap := h' })
    (hs : subscripted slice false (.ref l) (.ref s.heap.objs.size) = operate ops (getItem (.ref l) (.ref s.heap.objs.size))) (ht : ∀ r, letTemporaryGo value (.ref l) r = pure ()) :
    wpAny (model prog w) A (subscriptTail value slice (.ref l) (.ref s.heap.objs.size)) Q E { s with heap := s.heap.push { cls := .type "slice", data := .fields #[.none, .none, vk] } } :=
  krv_lit F N hl pk rfl h hs ht (by simpa using hz)
theorem pick_to (vs : List Value) (h0 : 0 ≤ y) : kms_pick vs none (some y) = vs.take y.toNat := by
  have e : ¬ y < 0 := by omega
  simp only [kms_pick, kms_lo, kms_hi, if_neg e, List.drop_zero, Nat.sub_zero]
  by_cases h : y.toNat ≤ vs.length
  · rw [Nat.min_eq_left h]
  · rw [Nat.min_eq_right (by omega), List.take_of_length_le (Nat.le_refl _), List.take_of_length_le (by omega)]
theorem pick_ft (vs : List Value) (h0 : 0 ≤ x) (h1 : x ≤ vs.length) (h2 : 0 ≤ y) : kms_pick vs (some x) (some y) = (vs.drop x.toNat).take (y.toNat - x.toNat) := by
  have e : ¬ y < 0 := by omega
  have e' : ¬ x < 0 := by omega
  simp only [kms_pick, kms_lo, kms_hi, if_neg e, if_neg e']
  rw [Nat.min_eq_left (show x.toNat ≤ vs.length by omega)]
  by_cases h : y.toNat ≤ vs.length
  · rw [Nat.min_eq_left h]
  · rw [Nat.min_eq_right (by omega), List.take_of_length_le (by rw [List.length_drop]; exact Nat.le_refl _), List.take_of_length_le (by rw [List.length_drop]; omega)]
theorem sl_to (F : Fr h₀ L s.heap m) (N : News h₀ L s.heap news) (hl : s.heap.IsList l vs.toArray) (pu : IsPart vu (some y)) (h0 : 0 ≤ y) (hz : vs.length ≤ sizeLine)
    (h : ∀ D h', Fr h₀ L h' m → News h₀ L h' ((D, listOf (vs.take y.toNat).toArray 0) :: news) → (∀ p ∈ news, p.1 < D) → Q (.ref D) { s with heap := h' })
    (hs : subscripted slice false (.ref l) (.ref s.heap.objs.size) = operate [.ref s.heap.objs.size, .ref l] (getItem (.ref l) (.ref s.heap.objs.size))) (ht : ∀ r, letTemporaryGo value (.ref l) r = pure ()) :
    wpAny (model prog w) A (subscriptTail value slice (.ref l) (.ref s.heap.objs.size)) Q E { s with heap := s.heap.push { cls := .type "slice", data := .fields #[.none, vu, .none] } } :=
  kms_slice_lit F N hl .none pu (pick_to vs h0) h hs ht (by simpa using hz)
theorem sl_ft (F : Fr h₀ L s.heap m) (N : News h₀ L s.heap news) (hl : s.heap.IsList l vs.toArray) (pl : IsPart vl (some x)) (pu : IsPart vu (some y)) (h0 : 0 ≤ x) (h1 : x ≤ vs.length) (h2 : 0 ≤ y) (hz : vs.length ≤ sizeLine)
    (h : ∀ D h', Fr h₀ L h' m → News h₀ L h' ((D, listOf ((vs.drop x.toNat).take (y.toNat - x.toNat)).toArray 0) :: news) → (∀ p ∈ news, p.1 < D) → Q (.ref D) { s with heap := h' })
    (hs : subscripted slice false (.ref l) (.ref s.heap.objs.size) = operate [.ref s.heap.objs.size, .ref l] (getItem (.ref l) (.ref s.heap.objs.size))) (ht : ∀ r, letTemporaryGo value (.ref l) r = pure ()) :
    wpAny (model prog w) A (subscriptTail value slice (.ref l) (.ref s.heap.objs.size)) Q E { s with heap := s.heap.push { cls := .type "slice", data := .fields #[vl, vu, .none] } } :=
  kms_slice_lit F N hl pl pu (pick_ft vs h0 h1 h2) h hs ht (by simpa using hz)
/-- an item of a list at a place in it, by its value -/
theorem at_val {k : Int} {u : Tok} {v : Value} (hl : s.heap.IsList l vs.toArray) (h0 : 0 ≤ k) (hhi : k < 2 ^ 63) (hx : vs[k.toNat]? = some v) (h : Q v s)
    (hs : subscripted slice false (.ref l) (.int k u) = operate [.ref l, .int k u] (getItem (.ref l) (.int k u))) :
    wpAny (model prog w) A (subscriptTail value slice (.ref l) (.int k u)) Q E s :=
  tail_any hl.typeIs slot_list_getitem.lookup (wpAny_getItem_list hl h0 hhi (by simpa using hx) h) hs
/-- the last item of a list of ints -/
theorem at_last {k : Int} {u : Tok} {ns : List Int} (hl : s.heap.IsList l vs.toArray) (hi : IntsAre vs ns) (hk : k = -1) (hn : ns.length ≠ 0) (h : ∀ t, Q (.int (ns.getD (ns.length - 1) 0) t) s)
    (hs : subscripted slice false (.ref l) (.int k u) = operate [.ref l, .int k u] (getItem (.ref l) (.int k u))) :
    wpAny (model prog w) A (subscriptTail value slice (.ref l) (.int k u)) Q E s := by
  subst hk
  refine item_list_ints_negR hl hi (by decide) (by omega) (by decide) (fun t => ?_) hs
  rw [show (-1 + (ns.length : Nat) : Int).toNat = ns.length - 1 by omega]
  exact h t
end
end
section
open PySem.Calls PySem.Spec
theorem fill_closed : ∀ w : World, hd.heap_39 w.params = hd.heap_39 w.params ∧ Challenge.rw_rw0007_01 = Challenge.rw_rw0007_01 := by k_fill; exact fun _ => ⟨rfl, rfl⟩

local macro_rules | `(tactic| walk_at "my_list") => `(tactic| first | exact News.isList (by assumption) (by k_mem) | exact LAt.isList (LAt.grow (by assumption) (Fr.keep (by assumption))))
local macro_rules | `(tactic| walk_at "my_lat") => `(tactic| first | exact ⟨_, News.get (by assumption) (by k_mem)⟩ | exact LAt.grow (by assumption) (Fr.keep (by assumption)))
local macro_rules | `(tactic| walk_at "my_len") => `(tactic| ((try simp only [List.size_toArray, List.length_append, List.length_cons, List.length_nil, List.length_reverse, List.length_take, List.length_drop, List.length_map, sizeLine_eq, ovl_len]); omega))
local macro_rules | `(tactic| walk_at "my_ints") => `(tactic| first | assumption | exact IntsAre.nil | exact IntsAre.append (by walk_at "my_ints") (by walk_at "my_ints") | exact IntsAre.reverse (by walk_at "my_ints") | exact IntsAre.take (by walk_at "my_ints") _ | exact IntsAre.drop (by walk_at "my_ints") _ | exact IntsAre.cons _ _ (by walk_at "my_ints"))
local macro_rules | `(tactic| walk_at "my_cx") => `(tactic| exact Cx.grow (by assumption) (Fr.keep (by assumption)))
local macro_rules | `(tactic| walk_at "my_room") => `(tactic| (dsimp only [Around.deeper, Ar]; omega))
local macro_rules | `(tactic| walk_at "call builtin:len") => `(tactic| (k_here; (with_reducible show wpAny _ _ (call (Value.builtin _) [Value.ref _]) _ _ _); (with_unfolding_all refine' len_ints_fit ?k1 ?k2 ?k3 ?_; (case k1 => walk_at "my_list"); (case k2 => walk_at "my_ints"); (case k3 => walk_at "my_len"))))
local macro_rules | `(tactic| walk_at "subscriptTail Name Slice ref ref") => `(tactic| (k_here; (with_reducible show wpAny _ _ (subscriptTail _ (PySem.Expr.Slice none none (some _) _) (Value.ref _) (Value.ref _)) _ _ _); k_dflt (refine' sl_rev ?F ?N ?l ?k ?z ?_ ?s ?t; (case F => k_asm); (case N => k_asm); (case l => walk_at "my_list"); (case k => exact IsPart.int _ _); (case s => with_unfolding_all rfl); (case t => kmk_pure); (case z => walk_at "my_len")); intro D' h' F' N' l1; (try k_lt l1); (try k_sweep)))
local macro_rules | `(tactic| walk_at "subscriptTail Name Slice ref ref") => `(tactic| (k_here; (with_reducible show wpAny _ _ (subscriptTail _ (PySem.Expr.Slice none (some _) none _) (Value.ref _) (Value.ref _)) _ _ _); k_dflt (refine' sl_to ?F ?N ?l ?k ?y ?z ?_ ?s ?t; (case F => k_asm); (case N => k_asm); (case l => walk_at "my_list"); (case k => exact IsPart.int _ _); (case s => with_unfolding_all rfl); (case t => kmk_pure); (case y => omega); (case z => walk_at "my_len")); intro D' h' F' N' l1; (try k_lt l1); (try k_sweep)))
local macro_rules | `(tactic| walk_at "subscriptTail Name Slice ref ref") => `(tactic| (k_here; (with_reducible show wpAny _ _ (subscriptTail _ (PySem.Expr.Slice (some _) (some _) none _) (Value.ref _) (Value.ref _)) _ _ _); k_dflt (refine' sl_ft ?F ?N ?l ?k ?kk ?x ?x1 ?y ?z ?_ ?s ?t; (case F => k_asm); (case N => k_asm); (case l => walk_at "my_list"); (case k => exact IsPart.int _ _); (case kk => exact IsPart.int _ _); (case s => with_unfolding_all rfl); (case t => kmk_pure); (case x => omega); (case x1 => omega); (case y => omega); (case z => walk_at "my_len")); intro D' h' F' N' l1; (try k_lt l1); (try k_sweep)))
local macro_rules | `(tactic| walk_at "subscriptTail Name UnaryOp ref int") => `(tactic| (k_here; (with_reducible show wpAny _ _ (subscriptTail _ _ (Value.ref _) (Value.int _ _)) _ _ _); k_dflt (refine' at_last ?l ?i ?k ?n ?_ ?s; (case l => walk_at "my_list"); (case i => walk_at "my_ints"); (case k => omega); (case n => walk_at "my_len"); (case s => with_unfolding_all rfl)); intro t'))
local macro_rules | `(tactic| walk_at "call ref") => `(tactic| (k_here; k_dflt (refine' concat_call ?C ?d ?u ?a ?b ?z ?_; (case C => walk_at "my_cx"); (case d => walk_at "my_room"); (case u => walk_at "my_room"); (case a => walk_at "my_lat"); (case b => walk_at "my_lat"); (case z => walk_at "my_len")); intro r' h' tk' G' n' l'; obtain ⟨n1, o1⟩ := l'; (with_reducible rename News _ _ _ _ => N1); (with_reducible rename Fr _ _ _ _ => F1); (have N' := news_add F1 N1 G' n' o1); (have F' := fr_grow F1 G'); (clear N1 F1 G' n' o1)))

local macro_rules | `(tactic| walk_at "call ref") => `(tactic| (k_here; k_dflt (refine' ovl_call ?C ?d ?u ?a ?i ?z ?_; (case C => walk_at "my_cx"); (case d => walk_at "my_room"); (case u => walk_at "my_room"); (case a => walk_at "my_lat"); (case i => walk_at "my_ints"); (case z => walk_at "my_len")); intro r' vs' h' tk' G' n' l' i'; obtain ⟨n1, o1⟩ := l'; (with_reducible rename News _ _ _ _ => N1); (with_reducible rename Fr _ _ _ _ => F1); (have N' := news_add F1 N1 G' n' o1); (have F' := fr_grow F1 G'); (clear N1 F1 G' n' o1)))

/-- the last place of the table of the row turned about, the mark, the row -/
def tail (ns : List Int) (mark : Int) : Nat := (ovl (ns.reverse ++ [mark] ++ ns)).getD (2 * ns.length) 0
set_option maxRecDepth 100000 in
set_option maxHeartbeats 8000000 in
theorem closed_call {w : World} {dp un : Nat} {fr : Option (List Env)} {gd : Option (List Code)} {s : Shared} {Q E : Value → Shared → Prop} {a : Addr} {xs : List Value} {ns : List Int} {k : Int} {tk : Tok}
    (C : Cx w s.heap) (hdp : dp + 15 < recursionLimit) (hun : un + 200 < cLine)
    (ha : LAt s.heap a xs) (hi : IntsAre xs ns) (hsz : ns.length < 50) (ht : tail ns k ≤ ns.length)
    (ret : ∀ r h' tk', Grow s.heap h' → s.heap.get? r = none → LAt h' r (xs ++ (xs.take (ns.length - tail ns k)).reverse) → Q (.ref r) { s with heap := h', toks := tk' }) :
    wpAny (model PP w) (Ar dp un fr gd) (call (.ref 59) [.ref a, .int k tk]) Q E s := by
  have hxl := ints_len hi
  have C₀ := C
  obtain ⟨X, mean, mg, mb, T⟩ := C₀
  have hla := ha.isList
  refine wpAny_call ?_
  k_dflt (refine' enter [(Str.ofString "row", .ref a), (Str.ofString "mark", .int k tk)] X T ?k6 ?k7 ?k8 ?k9 ?kB ?c2 ?c3 ?c4 ?c5 ?_; (case k6 => k_is); (case k7 => k_is); (case k8 => ktr_room); (case k9 => exact BindsTo.of_eq rfl); (case c5 => decide); (case kB => exact locs rfl); (case c2 => exact rfl); (case c3 => exact rfl); (case c4 => exact rfl))
  intro L h₁ F N
  dsimp only
  have hlast : ((ovl (ns.reverse ++ [k] ++ ns)).map Int.ofNat).getD (((ovl (ns.reverse ++ [k] ++ ns)).map Int.ofNat).length - 1) 0 = (tail ns k : Nat) := by
    have e : ((ovl (ns.reverse ++ [k] ++ ns)).map Int.ofNat).length - 1 = 2 * ns.length := by simp only [List.length_map, ovl_len, List.length_append, List.length_reverse, List.length_cons, List.length_nil]; omega
    rw [e]
    unfold tail
    simp only [List.getD_eq_getElem?_getD, List.getElem?_map]
    cases (ovl (ns.reverse ++ [k] ++ ns))[2 * ns.length]? <;> rfl
  k_steps
  rename_i N' F'
  rw [hlast, show ((ns.length : Nat) - (tail ns k : Nat) : Int).toNat = ns.length - tail ns k by omega] at N'
  exact ret _ _ _ F'.keep (N' _ (.head _)).2.2 ⟨_, (N' _ (.head _)).1⟩
end
section
open PySem.Calls PySem.Spec
section
variable {prog : Program} {w : World} {A : Around} {E : Value → Shared → Prop} {s : Shared} {h₀ : Heap} {L : Addr} {m : Str → Option Value} {env : Env} {news : List (Addr × Obj)}
/-- an element's end -/
def EltP (h₀ : Heap) (L : Addr) (m : Str → Option Value) (news : List (Addr × Obj)) (s₃ : Shared) (J : Nat → Prop) (s₄ : Shared) : Prop :=
  ∃ h' tk' news', s₄ = { s₃ with heap := h', toks := tk' } ∧ J tk' ∧ Fr h₀ L h' m ∧ News h₀ L h' news' ∧ ∀ p ∈ news, p ∈ news'
theorem EltP.mk {h₀ h' : Heap} {L : Addr} {m : Str → Option Value} {news news' : List (Addr × Obj)} {s₃ : Shared} {J : Nat → Prop} {tk' : Nat} (hj : J tk') (F : Fr h₀ L h' m) (N : News h₀ L h' news') (hn : ∀ p ∈ news, p ∈ news') :
    EltP h₀ L m news s₃ J { s₃ with heap := h', toks := tk' } := ⟨h', tk', news', rfl, hj, F, N, hn⟩
theorem comp_block {elt iter : Expr} {x : Str} {px : Pos} {scope : Scope} {cl : List (Str × Addr)} {pos : Pos} {Q : Value → Shared → Prop} {a : Int} {n : Nat} {I : Addr} {s₂ : Shared}
    (J : Nat → List Value → Nat → Prop) (mono : ∀ i ys t t', J i ys t → t ≤ t' → J i ys t')
    (hh : A.handled = none) (hsz : n ≤ sizeLine)
    (hcell : ∀ y ∈ scope.names, y.2 ≠ .cell) (hkind : scope.kind = .function) (hx : scope.names.lookup x = some .local)
    (hst : IsRangeIter s₂.heap I a n 1) (hI₀ : h₀.get? I = none) (hIL : I ≠ L) (hIn : ∀ p ∈ news, p.1 ≠ I) (F : Fr h₀ L s₂.heap m) (N : News h₀ L s₂.heap news) (hJ : J 0 [] s₂.toks)
    (elts : ∀ C oC pD pI i tv ys s₃ m₃ E', i < n → J i ys s₃.toks → (∀ h : Heap, h.get? C = some oC → h.Ns C m₃) → m₃ x = some (.int (a + (i : Nat)) tv) → Fr h₀ L s₃.heap m → News h₀ L s₃.heap ((C, oC) :: pD :: pI :: news) →
      wpAny (model prog w) A (eval elt (compEnvC scope cl C env)) (fun y s₄ => EltP h₀ L m ((C, oC) :: pD :: pI :: news) s₃ (J (i + 1) (ys ++ [y])) s₄) E' s₃)
    (done : ∀ D (ys : List Value) k h' tk, J n ys tk → Fr h₀ L h' m → News h₀ L h' ((D, listOf ys.toArray k) :: news) → Q (.ref D) { s₂ with heap := h', toks := tk }) :
    wpAny (model prog w) A (newList []) (fun acc s₃ => wpAny (model prog w) A (newFunctionEnv scope env.globals cl [] env.qual none .none (some env)) (fun cenv s₄ =>
      codeAny (model prog w) A (.compStart (.ListComp elt [⟨.Name x px, iter, [], 0⟩] scope pos) 0 (.ref I) acc { cenv with scope := relabel scope env }) (compPost (model prog w) A E none Q acc cenv.locals) s₄) E s₃) E s₂ := by
  refine wpAny_newObj_type (wpAny_newFunctionEnv hcell (by intro y hy; simp at hy) (fun h₁ hns₁ hsb₁ => ?_) hkind)
  dsimp only at hns₁ hsb₁ ⊢
  generalize hH2 : s₂.heap.push { cls := .type "list", dict := none, data := .seq ([] : List Value).toArray } = H2 at hns₁ hsb₁ ⊢
  have hC : H2.objs.size = s₂.heap.objs.size + 1 := by rw [← hH2, Heap.size_push]
  have hDC : s₂.heap.objs.size ≠ H2.objs.size := by rw [hC]; exact Nat.ne_of_lt (Nat.lt_succ_self _)
  have hIs : I < s₂.heap.objs.size := Heap.lt_size hst
  have hID : I ≠ s₂.heap.objs.size := Nat.ne_of_lt hIs
  have hIC : I ≠ H2.objs.size := by rw [hC]; exact Nat.ne_of_lt (Nat.lt_succ_of_lt hIs)
  have below : ∀ b, b < s₂.heap.objs.size → b ≠ H2.objs.size ∧ b ≠ s₂.heap.objs.size := fun b hb => ⟨by rw [hC]; exact Nat.ne_of_lt (Nat.lt_succ_of_lt hb), Nat.ne_of_lt hb⟩
  have old : ∀ b o, s₂.heap.get? b = some o → h₁.get? b = some o := fun b o e => hsb₁.extBut b o (below b (Heap.lt_size e)).1 (Heap.get?_push_of_some _ (hH2 ▸ Heap.get?_push_of_some _ e))
  have hacc : h₁.PlainList s₂.heap.objs.size #[] := ⟨_, hsb₁.extBut _ _ hDC (Heap.get?_push_of_some _ (hH2 ▸ Heap.get?_push_size _ rfl))⟩
  have hD₂ : s₂.heap.get? s₂.heap.objs.size = none := Heap.get?_none_of_le (Nat.le_refl _)
  have hC₂ : s₂.heap.get? H2.objs.size = none := Heap.get?_none_of_le (by rw [hC]; exact Nat.le_succ _)
  have hn₀ : ∀ b, s₂.heap.get? b = none → h₀.get? b = none := fun b e => by
    cases q : h₀.get? b with
    | none => rfl
    | some o => rw [F.keep _ _ q] at e; cases e
  have hC₀ := hn₀ _ hC₂
  have hD₀ := hn₀ _ hD₂
  have hLn : ∀ b, s₂.heap.get? b = none → b ≠ L := fun b e q => by
    obtain ⟨o, _, _, ho, _⟩ := F.ns
    rw [← q, e] at ho; cases ho
  have hCL := hLn _ hC₂
  have hDL := hLn _ hD₂
  have hnn : ∀ b, s₂.heap.get? b = none → ∀ p ∈ news, p.1 ≠ b := fun b e p hp q => by
    have := (N p hp).1
    rw [q, e] at this; cases this
  have hCn := hnn _ hC₂
  have hDn := hnn _ hD₂
  have loop : ∀ s₃ : Shared, s₃ = { s₂ with heap := h₁, toks := s₂.toks + ([] : List (Str × Value)).length } →
      codeAny (model prog w) A (.compLoop (.ListComp elt [⟨.Name x px, iter, [], 0⟩] scope pos) 0 (.ref I) (.ref s₂.heap.objs.size) (compEnvC scope cl H2.objs.size env))
        (compPost (model prog w) A E none Q (.ref s₂.heap.objs.size) H2.objs.size) s₃ := by
    rintro s₃ rfl
    refine codeAny_compLoop_list
      (fun k s' => ∃ h' tk m' ys i, s' = { s₂ with heap := h', toks := tk } ∧ IsRangeIter h' I (a + (i : Nat)) ((n : Int) - (i : Nat)) 1 ∧ h'.PlainList s₂.heap.objs.size ys.toArray ∧ h'.Ns H2.objs.size m' ∧ J i ys tk ∧ ys.length = i ∧ i ≤ n ∧ k = n + 1 - i ∧ Fr h₀ L h' m ∧ News h₀ L h' news) ?_ (n + 1)
      ⟨h₁, s₂.toks + 0, _, [], 0, rfl, by simpa using old _ _ hst, hacc, hns₁, mono _ _ _ _ hJ (Nat.le_add_right _ _), rfl, Nat.zero_le _, rfl, F.keeps old, news_grow N old⟩
    rintro k s' ⟨h', tk, m', ys, i, rfl, hst', hacc', hn', hJ', hlen, hi, rfl, F', N'⟩
    have up : ∀ {h₂ h₃ : Heap}, (∀ b o, b ≠ I → h'.get? b = some o → h₂.get? b = some o) → Heap.SameBut H2.objs.size h₂ h₃ → Fr h₀ L h₃ m ∧ News h₀ L h₃ news := fun {h₂ h₃} hk₂ hs₃ => by
      have k : ∀ b o, b ≠ I → b ≠ H2.objs.size → h'.get? b = some o → h₃.get? b = some o := fun b o b1 b2 e => hs₃.extBut b o b2 (hk₂ b o b1 e)
      exact ⟨⟨F'.ns.at' fun o e => k _ o (Ne.symm hIL) (Ne.symm hCL) e, fun b o e => k b o (fun q => by rw [q, hI₀] at e; cases e) (fun q => by rw [q, hC₀] at e; cases e) (F'.keep b o e), F'.above⟩,
        fun p hp => ⟨k _ _ (hIn p hp) (hCn p hp) (N' p hp).1, (N' p hp).2⟩⟩
    by_cases hlt : i < n
    · refine wpAny_with_toks (n := tk) (Nat.le_refl _) (wpAny_pyNext_range_item hst' (by omega) fun h₂ hit₂ hs₂ htk₂ => ?_)
      replace hs₂ : Heap.SameBut I h' h₂ := hs₂
      refine wpAny_assign_Name (wpAny_storeName_local (lookup_relabel_local hx) (hn'.sameBut hs₂ (Ne.symm hIC)) (fun h₃ hn₃ hs₃ => ?_) (by simp [compEnvC, relabel, hkind]))
      replace hs₃ : Heap.SameBut H2.objs.size h₂ h₃ := hs₃
      obtain ⟨F₃, N₃⟩ := up (fun b o b1 e => hs₂.extBut b o b1 e) hs₃
      have hit₃ := hs₃.extBut I _ hIC hit₂
      have hacc₃ : h₃.PlainList s₂.heap.objs.size ys.toArray := (hacc'.at fun o e => hs₂.extBut _ o (Ne.symm hID) e).at fun o e => hs₃.extBut _ o hDC e
      obtain ⟨oC, esC, epC, hoC, hdC, hkC, hfC⟩ := id hn₃
      obtain ⟨kD, hkD⟩ := id hacc₃
      have N₄ : News h₀ L h₃ ((H2.objs.size, oC) :: (s₂.heap.objs.size, listOf ys.toArray kD) :: (I, _) :: news) := fun p hp => by
        rcases List.mem_cons.mp hp with rfl | hp
        · exact ⟨hoC, hCL, hC₀⟩
        · rcases List.mem_cons.mp hp with rfl | hp
          · exact ⟨hkD, hDL, hD₀⟩
          · rcases List.mem_cons.mp hp with rfl | hp
            · exact ⟨hit₃, hIL, hI₀⟩
            · exact N₃ p hp
      refine wpAny_mono (elts H2.objs.size oC _ _ i _ ys _ _ _ hlt (mono _ _ _ _ hJ' (Nat.le_succ_of_le (by exact htk₂))) (fun h e => ⟨oC, esC, epC, e, hdC, hkC, hfC⟩) (if_pos rfl) F₃ N₄) (fun y s₄ h₄ => ?_) fun _ _ e => e
      obtain ⟨h₄, tk₄, news₄, rfl, hJ₄, F₄, N₅, hsub⟩ := h₄
      have hC₄ := (N₅ _ (hsub _ (.head _))).1
      have hD₄ := (N₅ _ (hsub _ (.tail _ (.head _)))).1
      have hI₄ := (N₅ _ (hsub _ (.tail _ (.tail _ (.head _))))).1
      have g₄ : Fr h₀ L h₄ m ∧ News h₀ L h₄ news := ⟨F₄, fun p hp => N₅ p (hsub p (.tail _ (.tail _ (.tail _ hp))))⟩
      refine wpAny_list_append_plain (hsz := by rw [List.size_toArray, hlen]; omega) ⟨kD, hD₄⟩ fun h₅ hl₅ hs₅ => ?_
      replace hs₅ : Heap.SameBut s₂.heap.objs.size h₄ h₅ := hs₅
      refine ⟨n + 1 - (i + 1), by omega, h₅, tk₄, _, ys ++ [y], i + 1, rfl, ?_, by simpa using hl₅, Heap.Ns.sameBut (h := h₄) ⟨oC, esC, epC, hC₄, hdC, hkC, hfC⟩ hs₅ (Ne.symm hDC), hJ₄, by simp [hlen], hlt, rfl,
        ⟨g₄.1.ns.sameBut hs₅ (Ne.symm hDL), fun b o e => hs₅.extBut b o (fun q => by rw [q, hD₀] at e; cases e) (g₄.1.keep b o e), g₄.1.above⟩, fun p hp => ⟨hs₅.extBut _ _ (hDn p hp) (g₄.2 p hp).1, (g₄.2 p hp).2⟩⟩
      have e1 : a + ((i + 1 : Nat) : Int) = a + (i : Int) + 1 := by push_cast; omega
      have e2 : (n : Int) - ((i + 1 : Nat) : Int) = (n : Int) - (i : Int) - 1 := by push_cast; omega
      rw [e1, e2]
      exact hs₅.extBut I _ hID hI₄
    · have hin : i = n := by omega
      subst hin
      refine wpAny_pyNext_range_end hh hst' (by omega) fun h₂ he₂ => ?_
      refine ⟨m', hn'.at' fun o e => he₂ _ o (Ne.symm hIC) e, fun h₃ hs₃ => ?_⟩
      replace hs₃ : Heap.SameBut H2.objs.size h₂ h₃ := hs₃
      obtain ⟨F₃, N₃⟩ := up (fun b o b1 e => he₂ b o b1 e) hs₃
      obtain ⟨kk, hkk⟩ := hacc'
      refine done s₂.heap.objs.size ys kk h₃ tk hJ' F₃ fun p hp => ?_
      rcases List.mem_cons.mp hp with rfl | hp
      · exact ⟨hs₃.extBut _ _ hDC (he₂ _ _ (Ne.symm hID) hkk), hDL, hD₀⟩
      · exact N₃ p hp
  exact codeAny_compStart_list (loop _ rfl) (wpAny_pyIter_rangeiter (old _ _ hst) (loop _ rfl))

theorem ListComp_rangeT {elt iter : Expr} {x : Str} {px : Pos} {scope : Scope} {cl : List (Str × Addr)} {pos : Pos} {Q : Value → Shared → Prop} {a : Int} {n : Nat}
    (_F : Fr h₀ L s.heap m) (_N : News h₀ L s.heap news) (J : Nat → List Value → Nat → Prop) (mono : ∀ i ys t t', J i ys t → t ≤ t' → J i ys t')
    (hh : A.handled = none) (hsz : n ≤ sizeLine) (hclos : closureFor scope env = pure cl)
    (hcell : ∀ y ∈ scope.names, y.2 ≠ .cell) (hkind : scope.kind = .function)
    (hnames : ∀ y ∈ scope.names, y.2 = .local → scope.names.lookup y.1 = some .local) (hx : scope.names.lookup x = some .local)
    (hit : wpAny (model prog w) A (eval iter env) (fun xv s₁ => Stop (∃ r b t u v h' tk, xv = .ref r ∧ s₁ = { s with heap := h', toks := tk } ∧ IsRange h' r a b 1 t u v ∧ -(2 ^ 62) ≤ a ∧ a < 2 ^ 62 ∧ -(2 ^ 62) ≤ b ∧ b < 2 ^ 62 ∧ n = (b - a).toNat ∧ Fr h₀ L h' m ∧ News h₀ L h' news ∧ J 0 [] tk)) E s)
    (elts : ∀ C oC pD pI i tv ys s₃ m₃ E', i < n → J i ys s₃.toks → (∀ h : Heap, h.get? C = some oC → h.Ns C m₃) → m₃ x = some (.int (a + (i : Nat)) tv) → Fr h₀ L s₃.heap m → News h₀ L s₃.heap ((C, oC) :: pD :: pI :: news) →
      wpAny (model prog w) A (eval elt (compEnvC scope cl C env)) (fun y s₄ => EltP h₀ L m ((C, oC) :: pD :: pI :: news) s₃ (J (i + 1) (ys ++ [y])) s₄) E' s₃)
    (done : ∀ D (ys : List Value) k h' tk, J n ys tk → Fr h₀ L h' m → News h₀ L h' ((D, listOf ys.toArray k) :: news) → Q (.ref D) { s with heap := h', toks := tk })
    (hs : ∀ x, foldedSetIterable iter env x = pure x := by intro _; rfl) :
    wpAny (model prog w) A (eval (.ListComp elt [⟨.Name x px, iter, [], 0⟩] scope pos) env) Q E s := by
  rw [eval_ListComp]
  refine wpAny_comprehension_free (use := none) rfl hs hclos hkind hnames (wpAny_mono hit (fun xv s₁ h₁ => ?_) fun _ _ e => e)
  obtain ⟨r, b, t, u, v, h', tk, rfl, rfl, hr, ha0, ha1, hb0, hb1, hn, F, N, hJ⟩ := h₁
  refine wpAny_pyIter_range hr (small_one ha0 ha1 hb0 hb1) ?_
  have hsize : Builtin.Range.rangeSize a b 1 = (n : Int) := by rw [rangeSize_one]; split <;> omega
  refine comp_block (h₀ := h₀) (L := L) (m := m) (news := news) (a := a) (n := n) J mono hh hsz hcell hkind hx ?_ ?_ ?_ ?_ (F.push _) (fun p hp => ⟨Heap.get?_push_of_some _ (N p hp).1, (N p hp).2⟩) hJ elts done
  · rw [hsize]
    exact Heap.get?_push_size _ rfl
  · cases hq : h₀.get? h'.objs.size with
    | none => rfl
    | some o => exact absurd (Heap.lt_size (F.keep _ _ hq)) (Nat.lt_irrefl _)
  · intro q; exact absurd F.ns.lt (by rw [← q]; exact Nat.lt_irrefl _)
  · intro p hp e; exact absurd (Heap.lt_size (N p hp).1) (by rw [e]; exact Nat.lt_irrefl _)
end
end
section
open PySem.Calls PySem.Spec
theorem fill_orders : ∀ w : World, hd.heap_39 w.params = hd.heap_39 w.params ∧ Challenge.rw_rw0007_01 = Challenge.rw_rw0007_01 := by k_fill; exact fun _ => ⟨rfl, rfl⟩
section
variable {prog : Program} {w : World} {A : Around} {s : Shared}
/-- a def with cells is entered -/
theorem enterC {K : Frag} {p : Program} {loose : List Str} {mean : ExcName → Option Value} {mg mb : Str → Option Value} {R : Result → Shared → Prop} {name qual : Str} {params : Arguments} {body : List Stmt} {scope : Scope} {dV kV doc pm cdv ct oc : Value} {an od : Option Addr} {osl : Array (Option Value)} {f : Addr} {args : Args} (binds : List (Str × Value))
    (X : K.In s.heap) (T : Top p loose mean mg mb s.heap)
    (ho : K.lookup f = some ⟨oc, od, .func (fnOf name qual params body scope dV kV doc pm an cdv ct), osl⟩) (hcd : codeIn K cdv qual = true) (hroom : A.depth < recursionLimit)
    (hbind : BindsTo s (fnOf name qual params body scope dV kV doc pm an cdv ct) args binds) (hkind : (binds.all fun y => scope.names.lookup y.1 == some .local || scope.names.lookup y.1 == some .cell) = true)
    (hnd : ((cellsFrom 0 scope.names []).map (·.1)).Nodup)
    (hco : scope.isCoroutine = false) (hgen : scope.isGenerator = false) (hk : scope.kind = .function)
    (h : ∀ L h₁ tk cells, Fr s.heap L h₁ (bindL (envOfC qual scope L f cdv).kindOf binds fun _ => none) → News s.heap L h₁ cells →
      CellsAre (bindC (envOfC qual scope L f cdv).kindOf binds fun _ => none) (cellsFrom (L + 1) scope.names []) cells →
      wpAny (model prog w) (A.deeper (envOfC qual scope L f cdv)) (execs body (envOfC qual scope L f cdv))
        (fun fl s' => R (.ok (.ret (match fl with | .ret v => v | _ => .none))) s')
        (fun e s' => wpAny (model prog w) (A.deeper (envOfC qual scope L f cdv)) (leaving (envOfC qual scope L f cdv) e) (fun _ s'' => R (.error e) s'') (fun e' s'' => R (.error e') s'') s')
        { s with heap := h₁, toks := tk }) : codeAny (model prog w) A (.call (.ref f) args) R s := by
  refine codeAny_call_function hroom (X _ _ ho) rfl hco hgen rfl (codeRec_of X hcd) (hbind _ _ _ _ ?_)
  refine wpAny_newFunctionEnv_cells hk (kindsX hkind _) fun env' he s' x => ?_
  subst he
  refine ⟨T.nolimit.keeps x.toInCall.keep, codeAny_func ?_⟩
  obtain ⟨h₁, tk, rfl, _⟩ := x.done
  have hk₁ := x.toInCall.keep
  obtain ⟨cells, NC, Y⟩ := Cl.news (h₀ := s.heap) (Nat.le_refl _) fun n c hm => ⟨x.cell n c (lookup_of_mem_nodup (cellsFrom_names scope.names 0 (s.heap.objs.size + 1) [] [] rfl ▸ hnd) hm), x.above n c hm⟩
  exact h s.heap.objs.size h₁ tk cells ⟨x.toInCall.ns, fun b o e => hk₁ b o e, Nat.le_refl _⟩ NC Y
end
theorem ints_some : ∀ {ws : List Value}, (∀ v ∈ ws, ∃ n t, v = .int n t) → ∃ ms, IntsAre ws ms
  | [], _ => ⟨[], .nil⟩
  | v :: r, h => by
    obtain ⟨n, t, rfl⟩ := h v (.head _)
    obtain ⟨ms, hm⟩ := ints_some fun u hu => h u (.tail _ hu)
    exact ⟨n :: ms, .cons n t hm⟩
theorem pick_ints {vs : List Value} {ns : List Int} (hi : IntsAre vs ns) (lo hi' st : Option Int) : ∃ ms, IntsAre (slicePick vs.toArray lo hi' st).toList ms := by
  refine ints_some fun v hv => ?_
  unfold slicePick at hv
  rw [List.mem_filterMap] at hv
  obtain ⟨j, _, hj⟩ := hv
  obtain ⟨n, t, e, _⟩ := ints_at hi (i := j) (v := v) (by simpa using hj)
  exact ⟨n, t, e⟩
/-- what the orders are: base and 0, 1 or 2, each with a token of its own -/
def OrdJ (B : Int) (i : Nat) (ys : List Value) (t : Nat) : Prop :=
  (∃ ds : List Int, ds.length = i ∧ (∀ d ∈ ds, 0 ≤ d ∧ d < 3) ∧ IntsAre ys (ds.map (B + ·))) ∧ (∀ (p : Int) (u : Nat), Value.int p u ∈ ys → u ≠ 0 ∧ u < t) ∧ ∀ (p : Int) (u : Nat) (q : Int), Value.int p u ∈ ys → Value.int q u ∈ ys → p = q
theorem OrdJ.mono {B : Int} {i : Nat} {ys : List Value} {t t' : Nat} (h : OrdJ B i ys t) (ht : t ≤ t') : OrdJ B i ys t' :=
  ⟨h.1, fun p u m => ⟨(h.2.1 p u m).1, Nat.lt_of_lt_of_le (h.2.1 p u m).2 ht⟩, h.2.2⟩
theorem OrdJ.snoc {B d : Int} {i : Nat} {ys : List Value} {t u : Nat} (h : OrdJ B i ys t) (hd : 0 ≤ d ∧ d < 3) (hu : t + 1 ≤ u) : OrdJ B (i + 1) (ys ++ [.int (B + d) u]) (u + 1) := by
  obtain ⟨⟨ds, h1, h2, h3⟩, h5, h6⟩ := h
  refine ⟨⟨ds ++ [d], by simp [h1], fun e he => ?_, ?_⟩, fun p v hm => ?_, fun p v q hp hq => ?_⟩
  · rcases List.mem_append.mp he with he | he
    · exact h2 e he
    · rw [List.mem_singleton.mp he]; exact hd
  · rw [List.map_append]; exact h3.append (.cons _ _ .nil)
  · rcases List.mem_append.mp hm with hm | hm
    · have := h5 p v hm; exact ⟨this.1, by omega⟩
    · cases List.mem_singleton.mp hm; exact ⟨by omega, Nat.lt_succ_self _⟩
  · rcases List.mem_append.mp hp with hp | hp <;> rcases List.mem_append.mp hq with hq | hq
    · exact h6 p v q hp hq
    · cases List.mem_singleton.mp hq; have := (h5 p _ hp).2; omega
    · cases List.mem_singleton.mp hp; have := (h5 q _ hq).2; omega
    · cases List.mem_singleton.mp hp; cases List.mem_singleton.mp hq; rfl
section
variable {prog : Program} {w : World} {A : Around} {E : Value → Shared → Prop} {s : Shared} {h₀ : Heap} {L l C c : Addr} {m mC : Str → Option Value} {env : Env} {news : List (Addr × Obj)} {scope : Scope} {cl : List (Str × Addr)} {vs : List Value} {ns : List Int} {oC o : Obj} {x : Str} {pos : Pos} {v : Value} {Q : Value → Shared → Prop}
theorem name_comp (N : News h₀ L s.heap news) (hm : (C, oC) ∈ news) (hns : ∀ h : Heap, h.get? C = some oC → h.Ns C mC) (hv : mC x = some v) (h : Q v s)
    (hk : (compEnvC scope cl C env).scope.kind = .function) (hx : (compEnvC scope cl C env).kindOf x = some .local) (hd : (x == ("__debug__" : Str)) = false) :
    wpAny (model prog w) A (eval (.Name x pos) (compEnvC scope cl C env)) Q E s := wpAny_Name (wpAny_loadName_local hk hx (hns _ (N.get hm)) hv h) hd
theorem name_free (N : News h₀ L s.heap news) (hc : cl.lookup x = some c) (hm : (c, o) ∈ news) (hd : o.data = .cell (some v)) (h : Q v s)
    (hk : (compEnvC scope cl C env).scope.kind = .function) (hx : (compEnvC scope cl C env).kindOf x = some .cell) (hb : (x == ("__debug__" : Str)) = false) :
    wpAny (model prog w) A (eval (.Name x pos) (compEnvC scope cl C env)) Q E s := wpAny_Name (wpAny_loadName_cell hk hx hc ⟨o, N.get hm, hd⟩ h) hb
theorem sum_tok (F : Fr h₀ L s.heap m) (N : News h₀ L s.heap news) (hh : A.handled = none) (hl : s.heap.IsList l vs.toArray) (hi : IntsAre vs ns)
    (h : ∀ h' tk t', s.toks ≤ tk → Fr h₀ L h' m → News h₀ L h' news → Q (.int ns.sum t') { s with heap := h', toks := tk }) : wpAny (model prog w) A (call (.builtin "sum") [.ref l]) Q E s :=
  wpAny_with_toks (n := s.toks) (Nat.le_refl _) (LSm.sum_ints F N hh hl hi fun h' tk t' F' N' ht => h h' tk t' ht F' N')
theorem sl_step {value slice : PySem.Expr} {vl vk : Value} {lo st : Option Int} {ops : List Value} (F : Fr h₀ L s.heap m) (N : News h₀ L s.heap news) (hl : s.heap.IsList l vs.toArray) (hi : IntsAre vs ns) (pl : IsPart vl lo) (pk : IsPart vk st) (h0 : st ≠ some 0) (hz : vs.length ≤ sizeLine)
    (h : ∀ D ws ms h', Fr h₀ L h' m → News h₀ L h' ((D, listOf (List.toArray ws) 0) :: news) → (∀ p ∈ news, p.1 < D) → IntsAre ws ms → Q (.ref D) { s with heap := h' })
    (hs : subscripted slice false (.ref l) (.ref s.heap.objs.size) = operate ops (getItem (.ref l) (.ref s.heap.objs.size))) (ht : ∀ r, letTemporaryGo value (.ref l) r = pure ()) :
    wpAny (model prog w) A (subscriptTail value slice (.ref l) (.ref s.heap.objs.size)) Q E { s with heap := s.heap.push { cls := .type "slice", data := .fields #[vl, .none, vk] } } := by
  obtain ⟨ms, hm⟩ := pick_ints hi lo none st
  exact kmk_slice3_lit F N hl pl .none pk h0 rfl (fun D h' F' N' l1 => h D _ ms h' F' N' l1 hm) hs ht (by simpa using hz)
end
local macro_rules | `(tactic| walk_at "my_list") => `(tactic| first | exact News.isList (by assumption) (by k_mem) | exact LAt.isList (LAt.grow (by assumption) (Fr.keep (by assumption))) | exact stays_list (Fr.keep (by assumption)) (by assumption))
local macro_rules | `(tactic| walk_at "call builtin:sum") => `(tactic| (k_here; k_dflt (refine' sum_tok ?F ?N ?h ?l ?i ?_; (case F => k_asm); (case N => k_asm); (case h => rfl); (case l => walk_at "my_list"); (case i => assumption)); intro h' tk' t' ht' F' N'))
local macro_rules | `(tactic| walk_at "subscriptTail Name Slice ref ref") => `(tactic| (k_here; k_dflt (refine' sl_step ?F ?N ?l ?i ?p ?k ?o ?z ?_ ?s ?t; (case F => k_asm); (case N => k_asm); (case l => walk_at "my_list"); (case i => assumption); (case p => exact IsPart.int _ _); (case k => exact IsPart.int _ _); (case o => decide); (case s => with_unfolding_all rfl); (case t => kmk_pure); (case z => (rw [sizeLine_eq]; omega))); intro D' ws' ms' h' F' N' l1 i'))
local macro_rules | `(tactic| walk_at "eval Name") => `(tactic| (k_here; k_inBlock; (with_reducible rename Fr _ _ _ _ => kF); k_dflt (refine' nameG_B kF ?k1 ?k2 ?k3 ?kv ?kn ?_ ?k4 ?kb ?k5 ?k6 ?k7; (case k4 => rfl); (case kb => rfl); (case k5 => rfl); (case k6 => rfl); (case k7 => decide); (case kv => first | exact bt_isinstance | exact bt_bool | exact bt_int | exact bt_sum); (case k1 => k_asm); (case k2 => k_asm); (case k3 => k_is); (case kn => decide))))
local macro_rules | `(tactic| walk_at "eval Name") => `(tactic| (k_here; k_inBlock; k_dflt (refine' name_comp ?N ?m ?ns ?v ?_ ?k ?x ?d; (case k => rfl); (case x => rfl); (case d => decide); (case ns => assumption); (case v => assumption); (case N => k_asm); (case m => k_mem))))
local macro_rules | `(tactic| walk_at "eval Name") => `(tactic| (k_here; k_inBlock; k_dflt (refine' name_free ?N ?c ?m ?dd ?_ ?k ?x ?d; (case k => rfl); (case x => rfl); (case d => decide); (case c => rfl); (case N => k_asm); (case m => k_mem); (case dd => assumption))))
local macro_rules | `(tactic| walk_at "eval ListComp") => `(tactic| (k_here; refine Stop.of ?_))
set_option maxRecDepth 100000 in
set_option maxHeartbeats 8000000 in
theorem orders_call {w : World} {dp un : Nat} {fr : Option (List Env)} {gd : Option (List Code)} {s : Shared} {Q E : Value → Shared → Prop} {a : Addr} {xs : List Value} {ns : List Int}
    (C : Cx w s.heap) (hdp : dp + 15 < recursionLimit) (hun : un + 100 < cLine)
    (hla : s.heap.IsList a xs.toArray) (hi : IntsAre xs ns) (hsz : ns.length < 100)
    (ret : ∀ r vs h' tk', Grow s.heap h' → s.heap.get? r = none → LAt h' r vs → OrdJ (1000 + ns.sum) 5 vs tk' → Q (.ref r) { s with heap := h', toks := tk' }) :
    wpAny (model PP w) (Ar dp un fr gd) (call (.ref 47) [.ref a]) Q E s := by
  obtain ⟨X, mean, mg, mb, T⟩ := C
  refine wpAny_call ?_
  k_dflt (refine' enterC [(Str.ofString "script", .ref a)] X T ?k6 ?k7 ?k8 ?k9 ?kB ?kD ?c2 ?c3 ?c4 ?_; (case k6 => k_is); (case k7 => k_is); (case k8 => ktr_room); (case k9 => exact BindsTo.of_eq rfl); (case kB => exact rfl); (case kD => decide +kernel); (case c2 => exact rfl); (case c3 => exact rfl); (case c4 => exact rfl))
  intro L h₁ tk cells F N Y
  have hY := CellsAre.two Y
  obtain ⟨o1, o2, hE, d1, d2⟩ := hY
  subst hE
  clear Y
  dsimp only at N ⊢
  k_steps
  rename_i F1 N1 dd
  refine Stop.mk ?_
  refine' ListComp_rangeT (a := 0) (n := 5) F1 N1 (OrdJ (1000 + ns.sum)) (fun _ _ _ _ h => OrdJ.mono h) rfl (by rw [sizeLine_eq]; decide) ?hclos (by decide) rfl (by decide) rfl ?hit ?elts ?done
  case hclos => with_unfolding_all rfl
  case hit =>
    k_steps
    rename_i a1 a2 a3 _
    exact Stop.mk ⟨_, 5, _, _, _, _, _, rfl, rfl, a1, by decide, by decide, by decide, by decide, by decide, a2, a3, ⟨[], rfl, by simp, .nil⟩, by simp, by simp⟩
  case elts =>
    intro C oC pD pI i tv ys s₃ m₃ E' hi5 hJ hns hmk F₃ N₃
    obtain ⟨hh₃, g₃, d₃, tk₃, os₃⟩ := s₃
    rw [Int.zero_add] at hmk
    have hxl := ints_len hi
    dsimp only at F₃ N₃ hJ
    have c1 : o2.data = .cell (some (.ref a)) := d2
    k_steps
    rename_i F' N' _
    refine EltP.mk (OrdJ.snoc hJ ⟨fmod_lo _ (by decide), fmod_hi _ (by decide)⟩ ?_) F' N' (fun p hp => .tail _ hp)
    dsimp only at *
    omega
  case done =>
    intro D ys k h' tk' hJ F' N'
    exact ret D ys h' tk' F'.keep (N' _ (.head _)).2.2 ⟨_, (N' _ (.head _)).1⟩ hJ
end
section
open PySem.Calls PySem.Spec
def lastS : List Stmt → Stmt
  | [] => .Pass ⟨0, 0, 0, 0⟩
  | [x] => x
  | _ :: y :: r => lastS (y :: r)
def nthS : List Stmt → Nat → Stmt
  | [], _ => .Pass ⟨0, 0, 0, 0⟩
  | x :: _, 0 => x
  | _ :: r, n + 1 => nthS r n
def fdBody : Stmt → List Stmt
  | .FunctionDef _ _ body _ _ _ _ _ _ _ => body
  | _ => []
def fdScope : Stmt → Scope
  | .FunctionDef _ _ _ _ _ _ scope _ _ _ => scope
  | _ => { kind := .function, names := [], isGenerator := false, isCoroutine := false, more := [] }
def forBody : Stmt → List Stmt
  | .For _ _ b _ _ => b
  | _ => []
def lawFD : Stmt := lastS PySem.Challenge.pw_rw0007_01.main.body
def lawBody : List Stmt := fdBody lawFD
def lawScope : Scope := fdScope lawFD
def lawTurn : List Stmt := forBody (nthS lawBody 3)
def inTurn : List Stmt := forBody (nthS lawTurn 9)
abbrev lawEnv (L fa : Addr) (cd : Value) : Env := envOfC (Str.ofString "law") lawScope L fa cd
end
section
open PySem.Calls PySem.Spec
/-- two addresses, not one (no word for omega) -/
def Apart (a b : Addr) : Prop := a ≠ b
theorem Apart.symm {a b : Addr} (h : Apart a b) : Apart b a := fun e => h e.symm
theorem Apart.ne {a b : Addr} (h : Apart a b) : @Ne Nat a b := h
theorem Apart.of {a b : Addr} (h : @Ne Nat a b) : Apart a b := h
def AllAp (r : Addr) : List (Addr × Obj) → Prop
  | [] => True
  | p :: q => Apart p.1 r ∧ AllAp r q
theorem allAp_of {h₀ h : Heap} {L r : Addr} {news : List (Addr × Obj)} (N : News h₀ L h news) (hn : h.get? r = none) : AllAp r news := by
  induction news with
  | nil => trivial
  | cons p q ih =>
    refine ⟨fun e => ?_, ih fun x hx => N x (.tail _ hx)⟩
    have := (N p (.head _)).1
    rw [e, hn] at this; cases this
def Giv (P Q : Prop) : Prop := P → Q
theorem Giv.use {P Q : Prop} (h : Giv P Q) (p : P) : Q := h p
theorem last_at {α : Type} {l : List α} {i : Nat} (h : l.length = i + 1) (x : α) : (l ++ [x])[(((i : Nat) : Int) + 1).toNat]? = some x := by
  rw [show (((i : Nat) : Int) + 1).toNat = l.length by omega]; simp
theorem first_at {α : Type} {l : List α} {k : Nat} {x : α} (h : l[k]? = some x) (y : α) : (l ++ [y])[k]? = some x := by
  rw [List.getElem?_append_left (List.getElem?_eq_some_iff.mp h).1]; exact h
section
variable {prog : Program} {w : World} {M : Model} {A : Around} {E : Value → Shared → Prop} {s : Shared} {h₀ : Heap} {L l : Addr} {m : Str → Option Value} {env : Env} {news news' : List (Addr × Obj)} {value slice : PySem.Expr} {vs : List Value} {ns ms : List Int} {n : Nat}
theorem with_toksQ {α : Type} {t : Sem α} {Q : α → Shared → Prop} (hn : n ≤ s.toks) (h : wpAny M A t (fun a s' => n ≤ s'.toks → Q a s') E s) : wpAny M A t Q E s :=
  wpAny_mono (wpAny_toks_of hn h) (fun _ _ x => x.2 x.1) (fun _ _ x => x.2)
theorem execs_cons_tk {a : Stmt} {r : List Stmt} {Q : Flow → Shared → Prop} (hn : n ≤ s.toks)
    (h : ∀ tk, n ≤ tk → wpAny M A (exec a env) (fun f s' => n ≤ s'.toks → match f with | .next => wpAny M A (execs r env) Q E s' | f => Q f s') E { s with toks := tk }) : wpAny M A (execs (a :: r) env) Q E s :=
  wpAny_execs_cons (with_toksQ hn (h s.toks hn))
theorem For_tk {target iter : Expr} {body orelse : List Stmt} {pos : Pos} {Q : Flow → Shared → Prop} (hn : n ≤ s.toks)
    (h : wpAny (model prog w) A (eval iter env) (fun x s₁ => n ≤ s₁.toks → wpAny (model prog w) A (pyIter x) (fun it s₂ => codeAny (model prog w) A (.forLoop target it body orelse env) (BackTo prog w A env Q E) s₂) E s₁) E s)
    (hs : ∀ x, foldedSetIterable iter env x = pure x := by intro _; rfl) : wpAny (model prog w) A (exec (.For target iter body orelse pos) env) Q E s :=
  wpAny_For (with_toksQ hn h) hs
theorem add_I {a b : Addr} {us ws : List Value} {ls : List Int} {Q : Value → Shared → Prop} (F : Fr h₀ L s.heap m) (N : News h₀ L s.heap news) (ha : s.heap.IsList a us.toArray) (hb : s.heap.IsList b ws.toArray) (hi : IntsAre us ns) (hj : IntsAre ws ms) (he : ns ++ ms = ls)
    (h : ∀ D us h', Fr h₀ L h' m → News h₀ L h' ((D, listOf (List.toArray us) 0) :: news) → (∀ p ∈ news, p.1 < D) → IntsAre us ls → Q (.ref D) { s with heap := h' })
    (hz : ns.length + ms.length ≤ sizeLine) : wpAny (model prog w) A (binaryOp .Add (.ref a) (.ref b)) Q E s :=
  kmk_add_ints F N ha hb hi hj (fun D us h' F' N' l i => h D us h' F' N' l (he ▸ i)) hz
theorem ne_int_same {x : Int} {t u : Tok} {Q : Value → Shared → Prop} (h : Q (.bool false) s) : wpAny (model prog w) A (compareOp .NotEq (.int x t) (.int x u)) Q E s :=
  PyProof.Rows.ne_int (by rw [bne_self_eq_false]; exact h)
theorem append_L {D : Addr} {k : Nat} {x : Value} {Q : Value → Shared → Prop} (F : Fr h₀ L s.heap m) (N : News h₀ L s.heap news) (U : Upd D (listOf vs.toArray k) (listOf (vs ++ [x]).toArray (k + 1)) news news') (hz : vs.length ≤ sizeLine)
    (h : ∀ h', Fr h₀ L h' m → News h₀ L h' news' → Q .none { s with heap := h' }) : wpAny (model prog w) A (call (.builtin "list.append") [.ref D, x]) Q E s := by
  refine append_K (its := vs.toArray) (n := k) (news' := news') F N ?_ h (by simpa using hz)
  have e : vs.toArray.push x = (vs ++ [x]).toArray := by simp
  rw [e]; exact U
/-- an item, by the value that stands there -/
theorem at_it {k : Int} {u : Tok} {v : Value} {Q : Value → Shared → Prop} (hl : s.heap.IsList l vs.toArray) (h0 : 0 ≤ k) (hhi : k < 2 ^ 63) (hx : vs[k.toNat]? = some v) (h : Q v s)
    (hs : subscripted slice false (.ref l) (.int k u) = operate [.ref l, .int k u] (getItem (.ref l) (.int k u))) :
    wpAny (model prog w) A (subscriptTail value slice (.ref l) (.int k u)) Q E s := at_val hl h0 hhi hx h hs
theorem at_num {k x : Int} {u : Tok} {Q : Value → Shared → Prop} (hl : s.heap.IsList l vs.toArray) (hi : IntsAre vs ns) (h0 : 0 ≤ k) (hhi : k < 2 ^ 63) (hx : ns[k.toNat]? = some x) (h : ∀ t, Q (.int x t) s)
    (hs : subscripted slice false (.ref l) (.int k u) = operate [.ref l, .int k u] (getItem (.ref l) (.int k u))) :
    wpAny (model prog w) A (subscriptTail value slice (.ref l) (.int k u)) Q E s := by
  have hj : k.toNat < ns.length := (List.getElem?_eq_some_iff.mp hx).1
  have hlen := ints_len hi
  obtain ⟨n, t, e, hn⟩ := ints_at hi (List.getElem?_eq_getElem (show k.toNat < vs.length by omega))
  have : x = n := Option.some.inj (hx.symm.trans hn)
  subst this
  exact at_val hl h0 hhi ((List.getElem?_eq_getElem (show k.toNat < vs.length by omega)).trans (congrArg some e)) (h t) hs
theorem sl_upto {vu : Value} {y : Int} {c : Nat} {Q : Value → Shared → Prop} (F : Fr h₀ L s.heap m) (N : News h₀ L s.heap news) (hl : s.heap.IsList l vs.toArray) (pu : IsPart vu (some y)) (hy : y = (c : Int)) (hz : vs.length ≤ sizeLine)
    (h : ∀ D h', Fr h₀ L h' m → News h₀ L h' ((D, listOf (vs.take c).toArray 0) :: news) → (∀ p ∈ news, p.1 < D) → Q (.ref D) { s with heap := h' })
    (hs : subscripted slice false (.ref l) (.ref s.heap.objs.size) = operate [.ref s.heap.objs.size, .ref l] (getItem (.ref l) (.ref s.heap.objs.size))) (ht : ∀ r, letTemporaryGo value (.ref l) r = pure ()) :
    wpAny (model prog w) A (subscriptTail value slice (.ref l) (.ref s.heap.objs.size)) Q E { s with heap := s.heap.push { cls := .type "slice", data := .fields #[.none, vu, .none] } } := by
  subst hy
  exact sl_to F N hl pu (Int.natCast_nonneg c) hz (by simpa using h) hs ht
theorem sl_one {vl vu v : Value} {x y : Int} {c : Nat} {Q : Value → Shared → Prop} (F : Fr h₀ L s.heap m) (N : News h₀ L s.heap news) (hl : s.heap.IsList l vs.toArray) (pl : IsPart vl (some x)) (pu : IsPart vu (some y)) (hx : x = (c : Int)) (hy : y = x + 1) (hv : vs[c]? = some v) (hz : vs.length ≤ sizeLine)
    (h : ∀ D h', Fr h₀ L h' m → News h₀ L h' ((D, listOf [v].toArray 0) :: news) → (∀ p ∈ news, p.1 < D) → Q (.ref D) { s with heap := h' })
    (hs : subscripted slice false (.ref l) (.ref s.heap.objs.size) = operate [.ref s.heap.objs.size, .ref l] (getItem (.ref l) (.ref s.heap.objs.size))) (ht : ∀ r, letTemporaryGo value (.ref l) r = pure ()) :
    wpAny (model prog w) A (subscriptTail value slice (.ref l) (.ref s.heap.objs.size)) Q E { s with heap := s.heap.push { cls := .type "slice", data := .fields #[vl, vu, .none] } } := by
  subst hx hy
  obtain ⟨hc, e⟩ := List.getElem?_eq_some_iff.mp hv
  have e1 : (vs.drop ((c : Int)).toNat).take (((c : Int) + 1).toNat - ((c : Int)).toNat) = [v] := by
    rw [show ((c : Int)).toNat = c by omega, show ((c : Int) + 1).toNat - c = 1 by omega, List.drop_eq_getElem_cons hc, e]; rfl
  refine sl_ft F N hl pl pu (Int.natCast_nonneg c) (by omega) (by omega) hz ?_ hs ht
  rw [e1]; exact h
theorem ne_same {a b : Addr} {xs ys : List Value} {Q : Value → Shared → Prop} (ha : s.heap.IsList a xs.toArray) (hb : s.heap.IsList b ys.toArray) (hi : IntsAre xs ns) (hj : IntsAre ys ms) (hu : A.units + 64 < cLine) (he : ns = ms) (h : Q (.bool false) s) :
    wpAny (model prog w) A (compareOp .NotEq (.ref a) (.ref b)) Q E s := ke_ne_ints ha hb hi hj hu (by rw [decide_eq_true he]; exact h)
theorem fr_turn {g h' : Heap} (F : Fr h₀ L s.heap m) (T : KtsTurn [L] s.heap g) (G : Grow g h') : Fr h₀ L h' m := by
  obtain ⟨o, es, ep, ho, hd, hk, hf⟩ := F.ns
  obtain ⟨sl, hs⟩ := T.frame _ _ ho (.head _)
  refine ⟨⟨_, es, ep, G _ _ hs, hd, hk, hf⟩, fun b o e => G _ _ (T.other b o (F.keep b o e) fun hm => ?_), F.above⟩
  rw [List.mem_singleton.mp hm] at e
  exact absurd (Nat.lt_of_lt_of_le (Heap.lt_size e) F.above) (Nat.lt_irrefl _)
theorem news_turn {g h' : Heap} (N : News h₀ L s.heap news) (T : KtsTurn [L] s.heap g) (G : Grow g h') : News h₀ L h' news :=
  fun p hp => ⟨G _ _ (T.other _ _ (N p hp).1 fun hm => (N p hp).2.1 (List.mem_singleton.mp hm)), (N p hp).2⟩
theorem dicts_of (F : Fr h₀ L s.heap m) : KtsDicts [L] s.heap := fun b hb => by
  obtain ⟨o, es, ep, ho, hd, _⟩ := F.ns
  rw [List.mem_singleton.mp hb]; exact ⟨o, es, ep, ho, hd⟩
end
section
variable {w : World} {dp un : Nat} {fr : Option (List Env)} {gd : Option (List Code)} {s : Shared} {Q E : Value → Shared → Prop} {a : Addr} {xs : List Value} {ns ms : List Int}
theorem closed_I {k : Int} {tk : Tok} (C : Cx w s.heap) (hdp : dp + 15 < recursionLimit) (hun : un + 200 < cLine)
    (ha : LAt s.heap a xs) (hi : IntsAre xs ns) (hsz : ns.length < 50) (ht : tail ns k ≤ ns.length) (he : ns ++ (ns.take (ns.length - tail ns k)).reverse = ms)
    (ret : ∀ r vs h' tk', Grow s.heap h' → s.heap.get? r = none → LAt h' r vs → IntsAre vs ms → (∀ v ∈ vs, v ∈ xs) → Q (.ref r) { s with heap := h', toks := tk' }) :
    wpAny (model PP w) (Ar dp un fr gd) (call (.ref 59) [.ref a, .int k tk]) Q E s :=
  closed_call C hdp hun ha hi hsz ht fun r h' tk' G n l => ret r _ h' tk' G n l (he ▸ hi.append ((hi.take _).reverse)) fun v hv => by
    rcases List.mem_append.mp hv with h | h
    · exact h
    · exact List.mem_of_mem_take (List.mem_reverse.mp h)
theorem ovl_I (C : Cx w s.heap) (hdp : dp + 5 < recursionLimit) (hun : un + 100 < cLine)
    (ha : LAt s.heap a xs) (hi : IntsAre xs ns) (hsz : ns.length < 200) (he : (ovl ns).map Int.ofNat = ms)
    (ret : ∀ r vs h' tk', Grow s.heap h' → s.heap.get? r = none → LAt h' r vs → IntsAre vs ms → Q (.ref r) { s with heap := h', toks := tk' }) :
    wpAny (model PP w) (Ar dp un fr gd) (call (.ref 21) [.ref a]) Q E s :=
  ovl_call C hdp hun ha hi hsz fun r vs h' tk' G n l i => ret r vs h' tk' G n l (he ▸ i)
theorem count_I {b x : Int} {tb T0 : Nat} {ov : List Value} (C : Cx w s.heap) (hdp : dp + 5 < recursionLimit) (hun : un + 100 < cLine)
    (ha : LAt s.heap a xs) (hi : IntsAre xs ns) (hT1 : ∀ (p : Int) (u : Nat), Value.int p u ∈ ov → u ≠ 0 ∧ u < T0) (hm : ∀ v ∈ xs, v ∈ ov) (hsz : ns.length < 1000) (hlt : 0 < T0 ∧ T0 ≤ tb) (he : ((ns.count b : Nat) : Int) = x)
    (ret : ∀ h' tk' t, Grow s.heap h' → Q (.int x t) { s with heap := h', toks := tk' }) :
    wpAny (model PP w) (Ar dp un fr gd) (call (.ref 35) [.ref a, .int b tb]) Q E s :=
  count_call C hdp hun ha hi (by rw [ints_len hi]; exact hsz) (Nat.ne_of_gt (Nat.lt_of_lt_of_le hlt.1 hlt.2)) (fun p t hp => ⟨(hT1 p t (hm _ hp)).1, fun e => by have := (hT1 p t (hm _ hp)).2; rw [e] at this; exact absurd this (Nat.not_lt.mpr hlt.2)⟩) (by rw [he]; exact ret)
end
section
variable {w : World} {dp un : Nat} {gd : Option (List Code)} {h₀ : Heap} {L fa : Addr} {cd : Value} {s : Shared} {Q E : Value → Shared → Prop} {m : Str → Option Value} {news : List (Addr × Obj)} {a z : Addr} {xs zv : List Value} {ns zs : List Int} {b more x : Int} {tb tm : Tok}
theorem grown_I (C₀ : Cx w h₀) (B : Below (Ar dp un (some []) gd) h₀ [] h₀) (hdp : dp + 20 < recursionLimit) (hun : un + 200 < cLine)
    (F : Fr h₀ L s.heap m) (N : News h₀ L s.heap news)
    (ha : LAt s.heap a xs) (hi : IntsAre xs ns) (hsz : ns.length < 200) (hb : tb ≠ 0) (hk : TokOk b tb xs)
    (hz : LAt s.heap z zv) (hzi : IntsAre zv zs) (hzl : zs.length = ns.length + 1) (he : grown zs ns b more = x)
    (ret : ∀ h' tk' t, Fr h₀ L h' m → News h₀ L h' news → Q (.int x t) { s with heap := h', toks := tk' }) :
    wpAny (model PP w) ((Ar dp un (some []) gd).deeper (lawEnv L fa cd)) (call (.ref 66) [.ref z, .ref a, .int b tb, .int more tm]) Q E s := by
  have B' := pushX (env := lawEnv L fa cd) B F rfl rfl
  exact grown_call (dp := dp + 1) (un := un + 3) (fr := [lawEnv L fa cd]) (gd := gd) (C₀.grow F.keep) B' (by omega) (by omega) ha hi hsz hb hk C₀.X C₀.T (dicts_of F) hz hzi hzl
    (fun g' h' tk' t T G => by rw [he]; exact ret h' tk' t (fr_turn F T G) (news_turn N T G))
end
end
section
open PySem.Calls PySem.Spec
/-- a turn's end, where the loop's name is a cell -/
def TurnC (h₀ : Heap) (L I c : Addr) (oI oc : Obj) (J : (Str → Option Value) → List (Addr × Obj) → Prop) (s : Shared) (Q : Flow → Shared → Prop) (f : Flow) (s' : Shared) : Prop :=
  match f with
  | .ret v => Q (.ret v) s'
  | .brk => Q .next s'
  | _ => ∃ h' tk' m' news', s' = { s with heap := h', toks := tk' } ∧ Fr h₀ L h' m' ∧ News h₀ L h' ((I, oI) :: (c, oc) :: news') ∧ (∀ p ∈ news', p.1 ≠ I ∧ p.1 ≠ c) ∧ J m' news'
theorem TurnC.next {h₀ : Heap} {L I c : Addr} {oI oc : Obj} {J : (Str → Option Value) → List (Addr × Obj) → Prop} {s : Shared} {Q : Flow → Shared → Prop} {h' : Heap} {tk' : Nat} {m' : Str → Option Value} {news' : List (Addr × Obj)}
    (F : Fr h₀ L h' m') (N : News h₀ L h' ((I, oI) :: (c, oc) :: news')) (hn : ∀ p ∈ news', p.1 ≠ I ∧ p.1 ≠ c) (hj : J m' news') : TurnC h₀ L I c oI oc J s Q .next { s with heap := h', toks := tk' } := ⟨h', tk', m', news', rfl, F, N, hn, hj⟩
section
variable {prog : Program} {w : World} {A : Around} {E : Value → Shared → Prop} {s : Shared} {env : Env} {h₀ : Heap} {x : Str} {px : Pos} {body orelse : List Stmt} {Q : Flow → Shared → Prop}
theorem for_walkC {I c : Addr} {oc : Obj} {v₀ : Option Value} {n : Nat} {P : Nat → Value → Prop} {St : Nat → Heap → Prop} {m : Str → Option Value} {news : List (Addr × Obj)} (W : Walks prog w A I [I] [I] n P St)
    (J : Nat → (Str → Option Value) → List (Addr × Obj) → Prop)
    (hk : env.scope.kind = .function) (hx : env.kindOf x = some .cell) (hc : env.cells.lookup x = some c) (hE : PassesOwn (model prog w) A env E)
    (hI : ∀ i h, St i h → ∃ o, h.get? I = some o) (hLI : env.locals ≠ I) (hcI : c ≠ I) (hIn : h₀.get? I = none) (hst : St 0 s.heap)
    (F : Fr h₀ env.locals s.heap m) (N : News h₀ env.locals s.heap ((c, oc) :: news)) (hoc : oc.data = .cell v₀) (hnw : ∀ p ∈ news, p.1 ≠ I ∧ p.1 ≠ c) (h0 : J 0 m news)
    (turn : ∀ i v m₁ news₁ h tk oI oc', i < n → P i v → J i m₁ news₁ → (∀ p ∈ news₁, p.1 ≠ I ∧ p.1 ≠ c) → s.toks ≤ tk → oc'.data = .cell (some v) → Fr h₀ env.locals h m₁ → News h₀ env.locals h ((I, oI) :: (c, oc') :: news₁) →
      wpAny (model prog w) A (execs body env) (TurnC h₀ env.locals I c oI oc' (J (i + 1)) s Q) E { s with heap := h, toks := tk })
    (done : ∀ m₁ news₁ h tk, J n m₁ news₁ → s.toks ≤ tk → Fr h₀ env.locals h m₁ → News h₀ env.locals h news₁ → wpAny (model prog w) A (execs orelse env) Q E { s with heap := h, toks := tk }) :
    codeAny (model prog w) A (.forLoop (.Name x px) (.ref I) body orelse env) (BackTo prog w A env Q E) s := by
  have hcL : c ≠ env.locals := (N _ (.head _)).2.1
  have hc₀ : h₀.get? c = none := (N _ (.head _)).2.2
  refine codeAny_forLoop
    (fun k s' => ∃ h' tk m' news' i oc v₀, s' = { s with heap := h', toks := tk } ∧ St i h' ∧ Fr h₀ env.locals h' m' ∧ News h₀ env.locals h' ((c, oc) :: news') ∧ oc.data = .cell v₀ ∧ (∀ p ∈ news', p.1 ≠ I ∧ p.1 ≠ c) ∧ J i m' news' ∧ i ≤ n ∧ k = n + 1 - i ∧ s.toks ≤ tk) ?_ (n + 1)
    ⟨s.heap, s.toks, m, news, 0, oc, v₀, rfl, hst, F, N, hoc, hnw, h0, Nat.zero_le _, rfl, Nat.le_refl _⟩
  rintro k s' ⟨h', tk, m', news', i, oc, v₀, rfl, hst', F', N', hoc, hnw', hJ, hi, rfl, htk⟩
  have next : ∀ h₁ : Heap, (∀ b o, b ∉ [I] → h'.get? b = some o → h₁.get? b = some o) → Fr h₀ env.locals h₁ m' ∧ News h₀ env.locals h₁ ((c, oc) :: news') := fun h₁ hk₁ =>
    ⟨⟨F'.ns.at' fun o e => hk₁ _ o (fun q => hLI (List.mem_singleton.mp q)) e, fun b o e => hk₁ b o (fun q => by rw [List.mem_singleton.mp q, hIn] at e; cases e) (F'.keep b o e), F'.above⟩,
      fun p hp => ⟨hk₁ _ _ (fun q => by
        rcases List.mem_cons.mp hp with rfl | hp
        · exact hcI (List.mem_singleton.mp q)
        · exact (hnw' p hp).1 (List.mem_singleton.mp q)) (N' p hp).1, (N' p hp).2⟩⟩
  by_cases hlt : i < n
  · refine wpAny_with_toks (n := s.toks) htk (W.item i _ _ _ hlt hst' fun v h₁ tk₁ hP hst₁ hk₁ htk₁ => ?_)
    obtain ⟨F₁, N₁⟩ := next h₁ hk₁
    refine wpAny_assign_Name (wpAny_storeName_cell hk hx hc ⟨oc, (N₁ _ (.head _)).1, hoc⟩ fun h₂ hv₂ hs₂ => ?_)
    replace hs₂ : Heap.SameBut c h₁ h₂ := hs₂
    obtain ⟨oc', ho', hd'⟩ := hv₂
    have F₂ : Fr h₀ env.locals h₂ m' := ⟨F₁.ns.sameBut hs₂ (Ne.symm hcL), fun b o e => (hs₂.2 b (fun q => by rw [q, hc₀] at e; cases e)).trans (F₁.keep b o e), F₁.above⟩
    have hst₂ : St (i + 1) h₂ := W.frame _ _ _ hst₁ fun b hb o e => (hs₂.2 b fun q => hcI (q ▸ (List.mem_singleton.mp hb))).trans e
    obtain ⟨oI, hoI⟩ := hI _ _ hst₂
    have N₃ : News h₀ env.locals h₂ ((I, oI) :: (c, oc') :: news') := fun p hp => by
      rcases List.mem_cons.mp hp with rfl | hp
      · exact ⟨hoI, Ne.symm hLI, hIn⟩
      · rcases List.mem_cons.mp hp with rfl | hp
        · exact ⟨ho', hcL, hc₀⟩
        · exact ⟨(hs₂.2 _ (hnw' p hp).2).trans (N₁ p (.tail _ hp)).1, (N₁ p (.tail _ hp)).2⟩
    refine wpAny_mono (wpAny_toks_of (n := s.toks) htk₁ (wpAny_passesOwn hE (turn i v m' news' h₂ tk₁ oI oc' hlt hP hJ hnw' htk₁ hd' F₂ N₃))) (fun f s₃ h₃ => ?_) fun _ _ e => e.2
    obtain ⟨htk₃, h₃⟩ := h₃
    have fin : (∃ h' tk' m' news', s₃ = { s with heap := h', toks := tk' } ∧ Fr h₀ env.locals h' m' ∧ News h₀ env.locals h' ((I, oI) :: (c, oc') :: news') ∧ (∀ p ∈ news', p.1 ≠ I ∧ p.1 ≠ c) ∧ J (i + 1) m' news') →
        ∃ k', k' < n + 1 - i ∧ ∃ h' tk m' news' i oc v₀, s₃ = { s with heap := h', toks := tk } ∧ St i h' ∧ Fr h₀ env.locals h' m' ∧ News h₀ env.locals h' ((c, oc) :: news') ∧ oc.data = .cell v₀ ∧ (∀ p ∈ news', p.1 ≠ I ∧ p.1 ≠ c) ∧ J i m' news' ∧ i ≤ n ∧ k' = n + 1 - i ∧ s.toks ≤ tk := by
      rintro ⟨h₄, tk₄, m₄, news₄, rfl, F₄, N₄, hn₄, hJ₄⟩
      refine ⟨n + 1 - (i + 1), by omega, h₄, tk₄, m₄, news₄, i + 1, oc', _, rfl, ?_, F₄, fun p hp => N₄ p (.tail _ hp), hd', hn₄, hJ₄, hlt, rfl, htk₃⟩
      refine W.frame _ _ _ hst₂ fun b hb o e => ?_
      rw [List.mem_singleton.mp hb] at e ⊢
      rw [hoI] at e
      rw [← Option.some.inj e]
      exact (N₄ _ (.head _)).1
    cases f with
    | ret v => exact h₃
    | brk => exact h₃
    | cont => exact fin h₃
    | next => exact fin h₃
  · have hin : i = n := by omega
    subst hin
    refine wpAny_with_toks (n := s.toks) htk (W.done _ _ _ hst' fun h₁ tk₁ hk₁ htk₁ => ?_)
    obtain ⟨F₁, N₁⟩ := next h₁ hk₁
    exact wpAny_mono (wpAny_passesOwn hE (done m' news' h₁ tk₁ hJ htk₁ F₁ fun p hp => N₁ p (.tail _ hp))) (fun _ _ h => h) fun _ _ e => e

theorem for_rangeC {r c : Addr} {oc : Obj} {v₀ : Option Value} {a b : Int} {t u v : Tok} {n : Nat} {m : Str → Option Value} {news : List (Addr × Obj)} (J : Nat → (Str → Option Value) → List (Addr × Obj) → Prop)
    (hh : A.handled = none) (hr : IsRange s.heap r a b 1 t u v) (ha : -(2 ^ 62) ≤ a ∧ a < 2 ^ 62) (hb : -(2 ^ 62) ≤ b ∧ b < 2 ^ 62) (hn : n = (b - a).toNat)
    (hk : env.scope.kind = .function) (hx : env.kindOf x = some .cell) (hc : env.cells.lookup x = some c) (hE : PassesOwn (model prog w) A env E)
    (F : Fr h₀ env.locals s.heap m) (N : News h₀ env.locals s.heap ((c, oc) :: news)) (hoc : oc.data = .cell v₀) (hnw : ∀ p ∈ news, p.1 ≠ c) (h0 : J 0 m news)
    (turn : ∀ i tv I m₁ news₁ h tk oI oc', i < n → J i m₁ news₁ → (∀ p ∈ news₁, p.1 ≠ I ∧ p.1 ≠ c) → I ≠ c → s.toks ≤ tk → oc'.data = .cell (some (.int (a + (i : Nat)) tv)) → Fr h₀ env.locals h m₁ → News h₀ env.locals h ((I, oI) :: (c, oc') :: news₁) →
      wpAny (model prog w) A (execs body env) (TurnC h₀ env.locals I c oI oc' (J (i + 1)) s Q) E { s with heap := h, toks := tk })
    (done : ∀ m₁ news₁ h tk, J n m₁ news₁ → s.toks ≤ tk → Fr h₀ env.locals h m₁ → News h₀ env.locals h news₁ → wpAny (model prog w) A (execs orelse env) Q E { s with heap := h, toks := tk }) :
    wpAny (model prog w) A (pyIter (.ref r)) (fun it s₂ => codeAny (model prog w) A (.forLoop (.Name x px) it body orelse env) (BackTo prog w A env Q E) s₂) E s := by
  refine wpAny_pyIter_range hr (small_one ha.1 ha.2 hb.1 hb.2) ?_
  have hsz : Builtin.Range.rangeSize a b 1 = (n : Int) := by rw [rangeSize_one]; split <;> omega
  have hnone : h₀.get? s.heap.objs.size = none := by
    cases hq : h₀.get? s.heap.objs.size with
    | none => rfl
    | some o => exact absurd (Heap.lt_size (F.keep _ _ hq)) (Nat.lt_irrefl _)
  have hcl : c < s.heap.objs.size := Heap.lt_size (N _ (.head _)).1
  refine for_walkC (s := { s with heap := s.heap.push _ }) (c := c) (oc := oc) (v₀ := v₀) (news := news) (Walks.range hh s.heap.objs.size a 1 n) J hk hx hc hE (fun _ _ st => ⟨_, st⟩) ?_ (Nat.ne_of_lt hcl) hnone ?_ (F.push _) (fun p hp => ⟨Heap.get?_push_of_some _ (N p hp).1, (N p hp).2⟩) hoc ?_ h0 ?_ ?_
  · intro hm; exact absurd F.ns.lt (by rw [hm]; exact Nat.lt_irrefl _)
  · show IsRangeIter _ _ _ _ _
    rw [hsz]; simpa using Heap.get?_push_size _ rfl
  · intro p hp; exact ⟨fun e => absurd (Heap.lt_size (N p (.tail _ hp)).1) (e ▸ Nat.lt_irrefl _), hnw p hp⟩
  · rintro i v m₁ news₁ h tk oI oc' hi ⟨tv, rfl⟩ hJ hoff htk hd F₁ N₁
    rw [Int.mul_one] at hd
    exact turn i tv _ m₁ news₁ h tk oI oc' hi hJ hoff (Nat.ne_of_gt hcl) htk hd F₁ N₁
  · intro m₁ news₁ h tk hJ htk F₁ N₁
    exact done m₁ news₁ h tk hJ htk F₁ N₁
end
end
section
/-! the plain law: words of letters 0, 1, 2; the mark is 3 -/
structure PS where
  row : List Nat
  zs : List Int
  t0 : List Int
  t1 : List Int
  t2 : List Int
  due : List Int
def grownN (zs : List Int) (ns : List Nat) (q : Nat) (more : Int) : Int := if q ∈ ns then 2 * zs.getD ns.length 0 - zs.getD (ns.length - 1 - ns.idxOf q) 0 else 2 * zs.getD ns.length 0 + more
def openedN (d : Nat) (p : PS) : List Nat := p.row ++ [d]
def nth : List Nat → Nat → Nat
  | [], _ => 9
  | x :: _, 0 => x
  | _ :: r, n + 1 => nth r n
def stepR (p : List Nat) (R : List Nat) (i : Nat) : Nat → Nat → Nat
  | 0, _ => 0
  | f + 1, idx => bif Nat.beq (nth p i) (nth p idx) then idx + 1 else bif Nat.beq idx 0 then 0 else stepR p R i f (nth R (i - idx))
/-- the table, the last place first -/
def ovR (p : List Nat) : Nat → List Nat
  | 0 => []
  | k + 1 => bif Nat.beq k 0 then [0] else stepR p (ovR p k) k (k + 1) (nth (ovR p k) 0) :: ovR p k
def ovlR (p : List Nat) : List Nat := ovR p p.length
def tailN (o : List Nat) : Nat := nth (ovlR (o.reverse ++ [3] ++ o)) 0
def closedN (o : List Nat) : List Nat := o ++ (o.take (o.length - tailN o)).reverse
def dueN (a b : Int) (due : List Int) : List Int := due ++ (List.range (b - a).toNat).map fun (k : Nat) => a + (k : Int) + 1 - b + a
def oneN (c : Bool) : Int := if c then 1 else 0
def stepN (i : Nat) (w : List Nat) (d : Nat) (p : PS) : PS where
  row := closedN (openedN d p)
  zs := p.zs ++ [grownN p.zs w.reverse d 1]
  t0 := p.t0 ++ [grownN p.t0 w.reverse d (oneN (d == 0))]
  t1 := p.t1 ++ [grownN p.t1 w.reverse d (oneN (d == 1))]
  t2 := p.t2 ++ [grownN p.t2 w.reverse d (oneN (d == 2))]
  due := dueN (p.zs.getD i 0) (grownN p.zs w.reverse d 1) p.due
def okN (i : Nat) (w : List Nat) (d : Nat) (p : PS) (o n : List Nat) : Bool :=
  let a := p.zs.getD i 0
  let b := grownN p.zs w.reverse d 1
  let due := dueN a b p.due
  decide (p.row.length < 20) && decide (0 ≤ a) && decide (a ≤ b) && decide (b < 40) && decide (tailN o ≤ o.length) && decide (n = n.reverse) && decide (n.take a.toNat = p.row) && decide (n.take o.length = o) &&
    decide ((ovlR o).map Int.ofNat = (due.take o.length).reverse) && decide ((ovlR n).map Int.ofNat = due.reverse) &&
    decide ((n.count 0 : Int) = grownN p.t0 w.reverse d (oneN (d == 0))) && decide ((n.count 1 : Int) = grownN p.t1 w.reverse d (oneN (d == 1))) && decide ((n.count 2 : Int) = grownN p.t2 w.reverse d (oneN (d == 2))) && decide (p.due.length < 20)
def fR : List Nat → (List Nat → Bool) → Bool
  | [], k => k []
  | x :: xs, k => fR xs fun r => if x = 0 then k (0 :: r) else if x = 1 then k (1 :: r) else k (2 :: r)
/-- all words whose letters come in their order -/
def check : Nat → Nat → List Nat → Nat → PS → Bool
  | 0, _, _, _, _ => true
  | n + 1, i, w, m, p => (List.range (min (m + 1) 3)).all fun d => fR (openedN d p) fun o => fR (closedN o) fun r => okN i w d p o r && check n (i + 1) (w ++ [d]) (if d = m then m + 1 else m) { stepN i w d p with row := r }
def initN : PS := ⟨[], [0], [0], [0], [0], []⟩
set_option maxRecDepth 100000 in
theorem check5 : check 5 0 [] 0 initN = true := by decide +kernel
end
section
theorem nth_eq : ∀ (p : List Nat) (i : Nat), nth p i = p[i]?.getD 9
  | [], _ => by simp [nth]
  | x :: _, 0 => by simp [nth]
  | _ :: r, n + 1 => by simp [nth, nth_eq r n]
theorem nth_in {p : List Nat} {i : Nat} (h : i < p.length) : nth p i = p[i] := by rw [nth_eq, List.getElem?_eq_getElem h]; rfl
theorem nth_rev {T : List Nat} {j : Nat} (h : j < T.length) : nth T.reverse (T.length - 1 - j) = T.getD j 0 := by
  rw [nth_in (by rw [List.length_reverse]; omega), List.getElem_reverse, List.getD_eq_getElem?_getD, List.getElem?_eq_getElem h, Option.getD_some]
  congr 1
  omega
theorem stepR_eq {p : List Nat} {T : List Nat} {i : Nat} (hi : i < p.length) (hT : T.length = i) (hle : ∀ j, T.getD j 0 ≤ j) : ∀ f idx, idx < i → stepR p T.reverse i f idx = ovStep p T i f idx
  | 0, _, _ => rfl
  | f + 1, idx, h => by
    rw [stepR, ovStep]
    have e1 : Nat.beq (nth p i) (nth p idx) = decide (p[i]? = p[idx]?) := by
      rw [nth_in hi, nth_in (show idx < p.length by omega), List.getElem?_eq_getElem hi, List.getElem?_eq_getElem (show idx < p.length by omega)]
      by_cases e : p[i] = p[idx]
      · simp [e]
      · have : Nat.beq p[i] p[idx] = false := by
          cases h : Nat.beq p[i] p[idx]
          · rfl
          · exact absurd (Nat.eq_of_beq_eq_true h) e
        simp [e, this]
    rw [e1]
    by_cases c : p[i]? = p[idx]?
    · simp [c]
    · simp only [decide_eq_false c, cond_false, if_neg c]
      by_cases z : idx = 0
      · subst z; simp [Nat.beq]
      · have z' : Nat.beq idx 0 = false := by
          cases idx with
          | zero => exact absurd rfl z
          | succ _ => rfl
        rw [z', cond_false, if_neg z]
        have e2 : nth T.reverse (i - idx) = T.getD (idx - 1) 0 := by
          rw [← nth_rev (show idx - 1 < T.length by omega)]
          congr 1; omega
        rw [e2]
        have := hle (idx - 1)
        exact stepR_eq hi hT hle f _ (by omega)
theorem ovR_eq (p : List Nat) : ∀ k, k ≤ p.length → ovR p k = (ovGo p k).reverse
  | 0, _ => rfl
  | k + 1, h => by
    rw [ovR, ovGo]
    by_cases z : k = 0
    · subst z; simp [Nat.beq]
    · have z' : Nat.beq k 0 = false := by
        cases k with
        | zero => exact absurd rfl z
        | succ _ => rfl
      have hl := ovGo_len p k
      have hle := ovGo_le p k
      rw [z', cond_false, if_neg z, ovR_eq p k (by omega), List.reverse_append]
      have e : nth (ovGo p k).reverse 0 = (ovGo p k).getD (k - 1) 0 := by
        rw [← nth_rev (T := ovGo p k) (j := k - 1) (by omega)]
        congr 1; omega
      rw [e, stepR_eq (by omega) hl hle _ _ (by have := hle (k - 1); omega)]
      rfl
theorem ovlR_eq (p : List Nat) : ovlR p = (ovl p).reverse := ovR_eq p _ (Nat.le_refl _)
theorem tailN_eq (o : List Nat) : tailN o = (ovl (o.reverse ++ [3] ++ o)).getD (2 * o.length) 0 := by
  unfold tailN
  rw [ovlR_eq, ← nth_rev (T := ovl (o.reverse ++ [3] ++ o)) (j := 2 * o.length) (by rw [ovl_len]; simp only [List.length_append, List.length_reverse, List.length_cons, List.length_nil]; omega)]
  congr 1
  rw [ovl_len]; simp only [List.length_append, List.length_reverse, List.length_cons, List.length_nil]; omega
/-- letters become ints -/
def Inj (f : Nat → Int) : Prop := ∀ a b, a ≤ 3 → b ≤ 3 → f a = f b → a = b
def Let (n : Nat) (p : List Nat) : Prop := ∀ x ∈ p, x ≤ n
theorem Let.le {n m : Nat} {p : List Nat} (h : Let n p) (e : n ≤ m) : Let m p := fun x hx => Nat.le_trans (h x hx) e
theorem ovStep_map {f : Nat → Int} (hf : Inj f) {p : List Nat} (hp : Let 3 p) (T : List Nat) (i : Nat) : ∀ fu idx, ovStep (p.map f) T i fu idx = ovStep p T i fu idx
  | 0, _ => rfl
  | fu + 1, idx => by
    have e : ((p.map f)[i]? = (p.map f)[idx]?) ↔ p[i]? = p[idx]? := by
      rw [List.getElem?_map, List.getElem?_map]
      constructor
      · intro h
        cases hi : p[i]? with
        | none => rw [hi] at h; cases hj : p[idx]? with
          | none => rfl
          | some b => rw [hj] at h; cases h
        | some a => rw [hi] at h; cases hj : p[idx]? with
          | none => rw [hj] at h; cases h
          | some b =>
            rw [hj] at h
            rw [hf a b (hp a (List.mem_of_getElem? hi)) (hp b (List.mem_of_getElem? hj)) (Option.some.inj h)]
      · intro h; rw [h]
    rw [ovStep, ovStep]
    by_cases c : p[i]? = p[idx]?
    · rw [if_pos c, if_pos (e.mpr c)]
    · rw [if_neg c, if_neg (fun h => c (e.mp h)), ovStep_map hf hp T i fu]
theorem ovGo_map {f : Nat → Int} (hf : Inj f) {p : List Nat} (hp : Let 3 p) : ∀ k, ovGo (p.map f) k = ovGo p k
  | 0 => rfl
  | k + 1 => by rw [ovGo, ovGo, ovGo_map hf hp k, ovStep_map hf hp]
theorem ovl_map {f : Nat → Int} (hf : Inj f) {p : List Nat} (hp : Let 3 p) : ovl (p.map f) = ovl p := by
  unfold ovl; rw [List.length_map, ovGo_map hf hp]
theorem tail_map {f : Nat → Int} (hf : Inj f) {o : List Nat} (ho : Let 2 o) : tail (o.map f) (f 3) = tailN o := by
  rw [tailN_eq]
  unfold tail
  have e : (o.map f).reverse ++ [f 3] ++ o.map f = (o.reverse ++ [3] ++ o).map f := by simp
  rw [e, ovl_map hf, List.length_map]
  intro x hx
  rcases List.mem_append.mp hx with hx | hx
  · rcases List.mem_append.mp hx with hx | hx
    · exact Nat.le_succ_of_le (ho x (List.mem_reverse.mp hx))
    · rw [List.mem_singleton.mp hx]; exact Nat.le_refl _
  · exact Nat.le_succ_of_le (ho x hx)
theorem closed_map {f : Nat → Int} (hf : Inj f) {o : List Nat} (ho : Let 2 o) : o.map f ++ ((o.map f).take ((o.map f).length - tail (o.map f) (f 3))).reverse = (closedN o).map f := by
  rw [tail_map hf ho, List.length_map]
  unfold closedN
  rw [List.map_append, List.map_reverse, List.map_take]
theorem idx_map {f : Nat → Int} (hf : Inj f) {d : Nat} (hd : d ≤ 3) : ∀ {w : List Nat}, Let 3 w → (w.map f).idxOf (f d) = w.idxOf d
  | [], _ => rfl
  | x :: r, hw => by
    have ih := idx_map hf hd (w := r) fun y hy => hw y (.tail _ hy)
    rw [List.map_cons, List.idxOf_cons, List.idxOf_cons, ih]
    have e : (f x == f d) = (x == d) := by
      by_cases c : x = d
      · simp [c]
      · have : f x ≠ f d := fun h => c (hf x d (hw x (.head _)) hd h)
        rw [beq_eq_false_iff_ne.mpr this, beq_eq_false_iff_ne.mpr c]
    rw [e]
theorem mem_map' {f : Nat → Int} (hf : Inj f) {d : Nat} (hd : d ≤ 3) {w : List Nat} (hw : Let 3 w) : f d ∈ w.map f ↔ d ∈ w := by
  constructor
  · intro h
    obtain ⟨x, hx, e⟩ := List.mem_map.mp h
    rw [← hf x d (hw x hx) hd e]; exact hx
  · intro h; exact List.mem_map_of_mem h
theorem grown_map {f : Nat → Int} (hf : Inj f) {d : Nat} (hd : d ≤ 3) {w : List Nat} (hw : Let 3 w) (zs : List Int) (more : Int) : grown zs (w.map f) (f d) more = grownN zs w d more := by
  unfold grown grownN
  rw [List.length_map, idx_map hf hd hw]
  by_cases c : d ∈ w
  · rw [if_pos c, if_pos ((mem_map' hf hd hw).mpr c)]
  · rw [if_neg c, if_neg fun h => c ((mem_map' hf hd hw).mp h)]
theorem count_map {f : Nat → Int} (hf : Inj f) {d : Nat} (hd : d ≤ 3) : ∀ {w : List Nat}, Let 3 w → (w.map f).count (f d) = w.count d
  | [], _ => rfl
  | x :: r, hw => by
    have ih := count_map hf hd (w := r) fun y hy => hw y (.tail _ hy)
    rw [List.map_cons, List.count_cons, List.count_cons, ih]
    have e : (f x == f d) = (x == d) := by
      by_cases c : x = d
      · simp [c]
      · have : f x ≠ f d := fun h => c (hf x d (hw x (.head _)) hd h)
        rw [beq_eq_false_iff_ne.mpr this, beq_eq_false_iff_ne.mpr c]
    rw [e]
theorem let_closed {o : List Nat} (ho : Let 2 o) : Let 2 (closedN o) := fun x hx => by
  rcases List.mem_append.mp hx with h | h
  · exact ho x h
  · exact ho x (List.mem_of_mem_take (List.mem_reverse.mp h))
theorem fR_eq : ∀ {l : List Nat} (_ : Let 2 l) (k : List Nat → Bool), fR l k = k l
  | [], _, _ => rfl
  | x :: xs, h, k => by
    rw [fR, fR_eq (fun y hy => h y (.tail _ hy))]
    have hx := h x (.head _)
    rcases Nat.lt_or_ge x 1 with h0 | h0
    · have : x = 0 := by omega
      subst this; rfl
    · rcases Nat.lt_or_ge x 2 with h1 | h1
      · have : x = 1 := by omega
        subst this; rfl
      · have : x = 2 := by omega
        subst this; rfl
def canon : Nat → List Nat → Bool
  | _, [] => true
  | m, d :: r => decide (d < min (m + 1) 3) && canon (if d = m then m + 1 else m) r
/-- the state ahead of the j-th letter -/
def runN : Nat → List Nat → PS → List Nat → Nat → PS
  | _, _, p, _, 0 => p
  | _, _, p, [], _ + 1 => p
  | i, w, p, d :: ds, j + 1 => runN (i + 1) (w ++ [d]) (stepN i w d p) ds j
theorem runN_succ : ∀ (ds : List Nat) (i : Nat) (w : List Nat) (p : PS) (j : Nat) (hj : j < ds.length), runN i w p ds (j + 1) = stepN (i + j) (w ++ ds.take j) ds[j] (runN i w p ds j)
  | d :: ds, i, w, p, 0, _ => by simp [runN]
  | d :: ds, i, w, p, j + 1, h => by
    have h' : j < ds.length := by simpa using h
    have := runN_succ ds (i + 1) (w ++ [d]) (stepN i w d p) j h'
    rw [show runN i w p (d :: ds) (j + 1 + 1) = runN (i + 1) (w ++ [d]) (stepN i w d p) ds (j + 1) from rfl, this]
    show stepN _ _ _ _ = stepN _ _ _ (runN (i + 1) (w ++ [d]) (stepN i w d p) ds j)
    rw [show i + 1 + j = i + (j + 1) by omega, List.take_succ_cons, List.append_assoc]
    rfl
theorem check_ok : ∀ (n i : Nat) (w : List Nat) (m : Nat) (p : PS) (ds : List Nat), check n i w m p = true → ds.length = n → canon m ds = true → Let 2 p.row →
    ∀ j (hj : j < ds.length), okN (i + j) (w ++ ds.take j) ds[j] (runN i w p ds j) (openedN ds[j] (runN i w p ds j)) (closedN (openedN ds[j] (runN i w p ds j))) = true ∧ Let 2 (runN i w p ds j).row ∧ ds[j] ≤ 2
  | 0, _, _, _, _, ds, _, hl, _, _ => fun j hj => absurd hj (by omega)
  | n + 1, i, w, m, p, [], _, hl, _, _ => by simp at hl
  | n + 1, i, w, m, p, d :: ds, hc, hl, hcan, hp => fun j hj => by
    rw [canon, Bool.and_eq_true] at hcan
    have hd : d < min (m + 1) 3 := of_decide_eq_true hcan.1
    have hd2 : d ≤ 2 := by omega
    have ho : Let 2 (openedN d p) := fun x hx => (List.mem_append.mp hx).elim (hp x) fun h => by rw [List.mem_singleton.mp h]; exact hd2
    rw [check, List.all_eq_true] at hc
    have h1 := hc d (List.mem_range.mpr hd)
    rw [fR_eq ho, fR_eq (let_closed ho), Bool.and_eq_true] at h1
    cases j with
    | zero => exact ⟨by simpa [runN] using h1.1, hp, hd2⟩
    | succ j =>
      have h2 := check_ok n (i + 1) (w ++ [d]) (if d = m then m + 1 else m) (stepN i w d p) ds h1.2 (by simpa using hl) hcan.2 (let_closed ho) j (by simpa using hj)
      rw [show i + 1 + j = i + (j + 1) by omega, List.append_assoc] at h2
      exact h2
end
section
open PySem.Calls PySem.Spec
theorem fill_turn : ∀ w : World, hd.heap_39 w.params = hd.heap_39 w.params ∧ Challenge.rw_rw0007_01 = Challenge.rw_rw0007_01 := by k_fill; exact fun _ => ⟨rfl, rfl⟩

local macro_rules | `(tactic| k_ne) => `(tactic| first | (exact Apart.ne (by assumption)) | (exact Apart.ne (Apart.symm (by assumption))) | (refine neN ?_; (try dsimp only); omega))
local macro_rules | `(tactic| walk_at "my_list") => `(tactic| first | exact News.isList (by assumption) (by k_mem) | exact LAt.isList (LAt.grow (by assumption) (Fr.keep (by assumption))))
local macro_rules | `(tactic| walk_at "my_lat") => `(tactic| first | exact ⟨_, News.get (by assumption) (by k_mem)⟩ | exact LAt.grow (by assumption) (Fr.keep (by assumption)))
local macro_rules | `(tactic| walk_at "my_len") => `(tactic| ((try simp only [List.size_toArray, List.length_append, List.length_cons, List.length_nil, List.length_reverse, List.length_take, List.length_drop, List.length_map, sizeLine_eq, ovl_len, List.length_range]); omega))
local macro_rules | `(tactic| walk_at "my_ints") => `(tactic| first | assumption | exact IntsAre.nil | exact IntsAre.append (by walk_at "my_ints") (by walk_at "my_ints") | exact IntsAre.reverse (by walk_at "my_ints") | exact IntsAre.take (by walk_at "my_ints") _ | exact IntsAre.drop (by walk_at "my_ints") _ | exact IntsAre.cons _ _ (by walk_at "my_ints"))
local macro_rules | `(tactic| walk_at "my_cx") => `(tactic| exact Cx.grow (by assumption) (Fr.keep (by assumption)))
local macro_rules | `(tactic| walk_at "my_room") => `(tactic| ((try dsimp only [Around.deeper, Ar]); omega))
local macro_rules | `(tactic| walk_at "my_new") => `(tactic| ((with_reducible rename News _ _ _ _ => N1); (with_reducible rename Fr _ _ _ _ => F1); (have ap' := allAp_of N1 (by assumption)); dsimp only [AllAp] at ap'; (repeat (obtain ⟨_, ap'⟩ := ap')); (have N' := news_add F1 N1 (by assumption) (by assumption) (by assumption)); (have F' := fr_grow F1 (by assumption)); (clear N1 F1)))
local macro_rules | `(tactic| walk_at "execs cons") => `(tactic| (k_here; refine' execs_cons_tk (by assumption) ?_; intro tk' ht'; (try (rename (_ ≤ Shared.toks _) => hOld; clear hOld)); (try dsimp only)))
local macro_rules | `(tactic| walk_at "exec For Name Call cons nil") => `(tactic| (k_here; k_dflt (refine' For_tk (by assumption) (Stop.of ?_))))
local macro_rules | `(tactic| walk_at "eval Name") => `(tactic| (k_here; k_inBlock; k_dflt (refine' name_comp ?N ?m ?ns ?v ?_ ?k ?x ?d; (case k => rfl); (case x => rfl); (case d => decide); (case ns => assumption); (case v => assumption); (case N => k_asm); (case m => k_mem))))
local macro_rules | `(tactic| walk_at "eval Name") => `(tactic| (k_here; k_inBlock; k_dflt (refine' name_free ?N ?c ?m ?dd ?_ ?k ?x ?d; (case k => rfl); (case x => rfl); (case d => decide); (case c => rfl); (case N => k_asm); (case m => k_mem); (case dd => assumption))))
local macro_rules | `(tactic| walk_at "call builtin:len") => `(tactic| (k_here; (with_reducible show wpAny _ _ (call (Value.builtin _) [Value.ref _]) _ _ _); (with_unfolding_all refine' len_ints_fit ?k1 ?k2 ?k3 ?_; (case k1 => walk_at "my_list"); (case k2 => walk_at "my_ints"); (case k3 => walk_at "my_len"))))
local macro_rules | `(tactic| walk_at "subscriptTail Name Slice ref ref") => `(tactic| (k_here; (with_reducible show wpAny _ _ (subscriptTail _ (PySem.Expr.Slice none none (some _) _) (Value.ref _) (Value.ref _)) _ _ _); k_dflt (refine' sl_rev ?F ?N ?l ?k ?z ?_ ?s ?t; (case F => k_asm); (case N => k_asm); (case l => walk_at "my_list"); (case k => exact IsPart.int _ _); (case s => with_unfolding_all rfl); (case t => kmk_pure); (case z => walk_at "my_len")); intro D' h' F' N' l1; (try k_lt l1); (try k_sweep)))
local macro_rules | `(tactic| walk_at "subscriptTail Name Slice ref ref") => `(tactic| (k_here; (with_reducible show wpAny _ _ (subscriptTail _ (PySem.Expr.Slice none (some _) none _) (Value.ref _) (Value.ref _)) _ _ _); k_dflt (refine' sl_upto ?F ?N ?l ?k ?y ?z ?_ ?s ?t; (case F => k_asm); (case N => k_asm); (case l => walk_at "my_list"); (case k => exact IsPart.int _ _); (case s => with_unfolding_all rfl); (case t => kmk_pure); (case y => rfl); (case z => walk_at "my_len")); intro D' h' F' N' l1; (try k_lt l1); (try k_sweep)))
local macro_rules | `(tactic| walk_at "subscriptTail Name Slice ref ref") => `(tactic| (k_here; (with_reducible show wpAny _ _ (subscriptTail _ (PySem.Expr.Slice (some _) (some _) none _) (Value.ref _) (Value.ref _)) _ _ _); k_dflt (refine' sl_one ?F ?N ?l ?k ?kk ?x ?y ?v ?z ?_ ?s ?t; (case F => k_asm); (case N => k_asm); (case l => walk_at "my_list"); (case k => exact IsPart.int _ _); (case kk => exact IsPart.int _ _); (case s => with_unfolding_all rfl); (case t => kmk_pure); (case x => rfl); (case y => rfl); (case v => assumption); (case z => walk_at "my_len")); intro D' h' F' N' l1; (try k_lt l1); (try k_sweep)))
local macro_rules | `(tactic| walk_at "subscriptTail Name Name ref int") => `(tactic| (k_here; (with_reducible show wpAny _ _ (subscriptTail _ _ (Value.ref _) (Value.int _ _)) _ _ _); k_dflt (first
  | (refine' at_it ?l ?x0 ?x1 ?v ?_ ?s; (case l => walk_at "my_list"); (case x0 => omega); (case x1 => omega); (case v => first | assumption | exact last_at (by assumption) _ | exact first_at (by assumption) _); (case s => with_unfolding_all rfl))
  | (refine' at_num ?l ?i ?x0 ?x1 ?v ?_ ?s; (case l => walk_at "my_list"); (case i => walk_at "my_ints"); (case x0 => omega); (case x1 => omega); (case v => assumption); (case s => with_unfolding_all rfl); intro t'))))
local macro_rules | `(tactic| walk_at "subscriptTail Name BinOp ref int") => `(tactic| (k_here; (with_reducible show wpAny _ _ (subscriptTail _ _ (Value.ref _) (Value.int _ _)) _ _ _); k_dflt (first
  | (refine' at_it ?l ?x0 ?x1 ?v ?_ ?s; (case l => walk_at "my_list"); (case x0 => omega); (case x1 => omega); (case v => first | assumption | exact last_at (by assumption) _ | exact first_at (by assumption) _); (case s => with_unfolding_all rfl))
  | (refine' at_num ?l ?i ?x0 ?x1 ?v ?_ ?s; (case l => walk_at "my_list"); (case i => walk_at "my_ints"); (case x0 => omega); (case x1 => omega); (case v => assumption); (case s => with_unfolding_all rfl); intro t'))))
local macro_rules | `(tactic| walk_at "subscriptTail Subscript") => `(tactic| (k_here; (with_reducible show wpAny _ _ (subscriptTail _ _ (Value.ref _) (Value.int _ _)) _ _ _); k_dflt (first
  | (refine' at_it ?l ?x0 ?x1 ?v ?_ ?s; (case l => walk_at "my_list"); (case x0 => omega); (case x1 => omega); (case v => first | assumption | exact last_at (by assumption) _ | exact first_at (by assumption) _); (case s => with_unfolding_all rfl))
  | (refine' at_num ?l ?i ?x0 ?x1 ?v ?_ ?s; (case l => walk_at "my_list"); (case i => walk_at "my_ints"); (case x0 => omega); (case x1 => omega); (case v => assumption); (case s => with_unfolding_all rfl); intro t'))))
local macro_rules | `(tactic| walk_at "compareOp NotEq int int") => `(tactic| (k_here; with_reducible refine' ne_int_same ?_))
local macro_rules | `(tactic| walk_at "call builtin:list.append") => `(tactic| (k_here; k_dflt (refine' append_L ?F ?N ?U ?z ?_; (case F => k_asm); (case N => k_asm); (case U => k_upd); (case z => walk_at "my_len")); intro h' F' N'; (try k_sweep)))
local macro_rules | `(tactic| walk_at "call ref") => `(tactic| (k_here; k_dflt (refine' concat_call ?C ?d ?u ?a ?b ?z ?_; (case C => walk_at "my_cx"); (case d => walk_at "my_room"); (case u => walk_at "my_room"); (case a => walk_at "my_lat"); (case b => walk_at "my_lat"); (case z => walk_at "my_len")); intro r' h' tk' G' n' l'; obtain ⟨n1, o1⟩ := l'; walk_at "my_new"; clear G' n' o1))
local macro_rules | `(tactic| walk_at "call ref") => `(tactic| (k_here; k_dflt (refine' ovl_I ?C ?d ?u ?a ?i ?z ?e ?_; (case C => walk_at "my_cx"); (case d => walk_at "my_room"); (case u => walk_at "my_room"); (case a => walk_at "my_lat"); (case i => walk_at "my_ints"); (case e => assumption); (case z => walk_at "my_len")); intro r' vs' h' tk' G' n' l' i'; obtain ⟨n1, o1⟩ := l'; walk_at "my_new"; clear G' n' o1))
local macro_rules | `(tactic| walk_at "call ref") => `(tactic| (k_here; k_dflt (refine' closed_I ?C ?d ?u ?a ?i ?z ?t ?e ?_; (case C => walk_at "my_cx"); (case d => walk_at "my_room"); (case u => walk_at "my_room"); (case a => walk_at "my_lat"); (case i => walk_at "my_ints"); (case t => assumption); (case e => assumption); (case z => walk_at "my_len")); intro r' vs' h' tk' G' n' l' i' m'; obtain ⟨n1, o1⟩ := l'; walk_at "my_new"; clear G' n' o1))
local macro_rules | `(tactic| walk_at "call ref") => `(tactic| (k_here; k_dflt (refine' grown_I ?C ?B ?d ?u ?F ?N ?a ?i ?z ?b ?t ?zz ?zi ?zl ?e ?_; (case C => assumption); (case B => assumption); (case d => walk_at "my_room"); (case u => walk_at "my_room"); (case F => k_asm); (case N => k_asm); (case a => walk_at "my_lat"); (case i => walk_at "my_ints"); (case b => assumption); (case t => assumption); (case zz => walk_at "my_lat"); (case zi => walk_at "my_ints"); (case e => first | assumption | exact Giv.use (by assumption) (by assumption)); (case z => walk_at "my_len"); (case zl => walk_at "my_len")); intro h' tk' t' F' N'))
local macro_rules | `(tactic| walk_at "call ref") => `(tactic| (k_here; k_dflt (refine' whole_call ?C ?d ?u ?a ?i ?z ?_; (case C => walk_at "my_cx"); (case d => walk_at "my_room"); (case u => walk_at "my_room"); (case a => walk_at "my_lat"); (case i => walk_at "my_ints"); (case z => walk_at "my_len")); intro h' tk' G'; (with_reducible rename News _ _ _ _ => N1); (with_reducible rename Fr _ _ _ _ => F1); (have N' := news_grow N1 G'); (have F' := fr_grow F1 G'); (clear N1 F1 G')))
local macro_rules | `(tactic| walk_at "binaryOp Add ref ref") => `(tactic| (k_here; k_dflt (refine' add_I ?F ?N ?a ?b ?i ?j ?e ?_ ?z; (case F => k_asm); (case N => k_asm); (case a => walk_at "my_list"); (case b => walk_at "my_list"); (case i => walk_at "my_ints"); (case j => walk_at "my_ints"); (case e => first | assumption | rfl); (case z => walk_at "my_len")); intro D' ws' h' F' N' l1 i'; (try k_lt l1)))
local macro_rules | `(tactic| walk_at "compareOp NotEq ref ref") => `(tactic| (k_here; k_dflt (refine' ne_same ?a ?b ?i ?j ?u ?e ?_; (case a => walk_at "my_list"); (case b => walk_at "my_list"); (case i => walk_at "my_ints"); (case j => walk_at "my_ints"); (case u => walk_at "my_room"); (case e => first | assumption | rfl))))

local macro_rules | `(tactic| walk_at "call ref") => `(tactic| (k_here; k_dflt (refine' count_I ?C ?d ?u ?a ?i ?T ?m ?z ?l ?e ?_; (case C => walk_at "my_cx"); (case d => walk_at "my_room"); (case u => walk_at "my_room"); (case a => walk_at "my_lat"); (case i => walk_at "my_ints"); (case T => assumption); (case m => assumption); (case e => assumption); (case z => walk_at "my_len"); (case l => ((try dsimp only at *); omega))); intro h' tk' t' G'; (with_reducible rename News _ _ _ _ => N1); (with_reducible rename Fr _ _ _ _ => F1); (have N' := news_grow N1 G'); (have F' := fr_grow F1 G'); (clear N1 F1 G')))

set_option maxRecDepth 100000 in
set_option maxHeartbeats 8000000 in
theorem inner {w : World} {dp un : Nat} {gd : Option (List Code)} {h₀ : Heap} {L fa : Addr} {cd : Value} {s : Shared} {E : Value → Shared → Prop} {Post : Flow → Shared → Prop}
    {h : Heap} {tk T0 i j : Nat} {ov xs tv cv rl : List Value} {os nn er z : List Int} {o B g : Int} {to tB tA tj : Tok} {m : Str → Option Value}
    {I I2 ca cs ro rs rc rt rj rd ai rE : Addr} {oI oI2 oca ocs : Obj} {ors ord : Obj} {pa pb : Addr × Obj} {n1 n3 n4 n5 n9 nE : Nat}
    (C₀ : Cx w h₀) (Bl : Below (Ar dp un (some []) gd) h₀ [] h₀) (hdp : dp + 25 < recursionLimit) (hun : un + 300 < cLine)
    (hi : i < 5) (hj : j < 3) (hov : IntsAre ov os) (hov5 : os.length = 5) (hT1 : ∀ (p : Int) (u : Nat), Value.int p u ∈ ov → u ≠ 0 ∧ u < T0) (hT2 : ∀ (p : Int) (u : Nat) (q : Int), Value.int p u ∈ ov → Value.int q u ∈ ov → p = q)
    (hvi : ov[((i : Nat) : Int).toNat]? = some (.int o to)) (her : (os.take i).reverse = er)
    (hx : IntsAre xs nn) (hxm : ∀ v ∈ xs, v ∈ ov) (ht : IntsAre tv z) (hcv : cv[(((i : Nat) : Int) + 1).toNat]? = some (.ref ai)) (hcl : cv.length = i + 2) (hzl : z.length = i + 1) (hnl : nn.length < 50)
    (hrl : rl[((j : Nat) : Int).toNat]? = some (.ref rj)) (hrl3 : rl.length = 3)
    (k : ((nn.count (B + (j : Nat)) : Nat) : Int) = g) (q : grown z er o (if o = B + (j : Nat) then 1 else 0) = g)
    (F : Fr h₀ L h m) (N : News h₀ L h [(I2, oI2), (rj, listOf tv.toArray n5), (I, oI), (ca, oca), (cs, ocs), (ro, listOf ov.toArray n1), (rs, ors), (rc, listOf cv.toArray n3), (rt, listOf rl.toArray n4), pa, pb, (rd, ord), (ai, listOf xs.toArray n9), (rE, listOf (ov.take i).reverse.toArray nE)])
    (hca : ca = L + 2) (hcs : cs = L + 1) (hoca : oca.data = .cell (some (.int (i : Nat) tA)))
    (m1 : m (Str.ofString "base") = some (.int B tB)) (m2 : m (Str.ofString "orders") = some (.ref ro)) (m3 : m (Str.ofString "closed") = some (.ref rc)) (m4 : m (Str.ofString "tallies") = some (.ref rt)) (m5 : m (Str.ofString "due") = some (.ref rd)) (m6 : m (Str.ofString "earlier") = some (.ref rE)) (m7 : m (Str.ofString "t") = some (.int (j : Nat) tj))
    (p1 : Apart rj I2) (p2 : Apart rj I) (p3 : Apart rj ca) (p4 : Apart rj cs) (p5 : Apart rj ro) (p6 : Apart rj rs) (p7 : Apart rj rc) (p8 : Apart rj rt) (p9 : Apart rj pa.1) (p10 : Apart rj pb.1) (p11 : Apart rj rd) (p12 : Apart rj ai) (p13 : Apart rj rE)
    (htk : T0 ≤ tk)
    (fin : ∀ h' tk' m' tv' n5', IntsAre tv' (z ++ [g]) → T0 ≤ tk' → Fr h₀ L h' m' →
      News h₀ L h' [(I2, oI2), (rj, listOf tv'.toArray n5'), (I, oI), (ca, oca), (cs, ocs), (ro, listOf ov.toArray n1), (rs, ors), (rc, listOf cv.toArray n3), (rt, listOf rl.toArray n4), pa, pb, (rd, ord), (ai, listOf xs.toArray n9), (rE, listOf (ov.take i).reverse.toArray nE)] →
      m' (Str.ofString "base") = some (.int B tB) → m' (Str.ofString "orders") = some (.ref ro) → m' (Str.ofString "closed") = some (.ref rc) → m' (Str.ofString "tallies") = some (.ref rt) → m' (Str.ofString "due") = some (.ref rd) → m' (Str.ofString "earlier") = some (.ref rE) →
      Post .next { s with heap := h', toks := tk' }) :
    wpAny (model PP w) ((Ar dp un (some []) gd).deeper (lawEnv L fa cd)) (execs inTurn (lawEnv L fa cd)) Post E { s with heap := h, toks := tk } := by
  have hie : IntsAre (ov.take i).reverse er := her ▸ (hov.take i).reverse
  have hel : er.length = i := by rw [← her, List.length_reverse, List.length_take]; omega
  have hvm : Value.int o to ∈ ov := List.mem_of_getElem? hvi
  have hto0 : to ≠ 0 := (hT1 o to hvm).1
  have hT0 : 0 < T0 := by have := (hT1 o to hvm).2; omega
  have hTk : TokOk o to (ov.take i).reverse := fun p t hp => by
    have hp' := List.mem_of_mem_take (List.mem_reverse.mp hp)
    exact ⟨(hT1 p t hp').1, fun e => by subst e; exact hT2 p t o hp' hvm⟩
  have hzb : (z ++ [g])[(((i : Nat) : Int) + 1).toNat]? = some g := last_at hzl _
  have hq1 : Giv (o = B + (j : Nat)) (grown z er o 1 = g) := fun e => by rw [if_pos e] at q; exact q
  have hq0 : Giv (o ≠ B + (j : Nat)) (grown z er o 0 = g) := fun e => by rw [if_neg e] at q; exact q
  have hxl := ints_len hx
  have htl := ints_len ht
  have ho5 := ints_len hov
  have G1 := fr_known (fr_known (fr_known (fr_known (fr_known (fr_known (fr_known F m1) (x := Str.ofString "orders") (by exact m2)) (x := Str.ofString "closed") (by exact m3)) (x := Str.ofString "tallies") (by exact m4)) (x := Str.ofString "due") (by exact m5)) (x := Str.ofString "earlier") (by exact m6)) (x := Str.ofString "t") (by exact m7)
  clear F
  subst hca hcs
  have X := C₀.X
  obtain ⟨mean, mg, mb, T⟩ := C₀.T
  dsimp only [lawEnv] at *
  conv in (inTurn) => whnf
  conv in (lawScope) => whnf
  k_steps
  · rename News _ _ _ _ => NA
    rename Fr _ _ _ _ => FA
    exact fin _ _ _ _ _ (ht.append (.cons _ _ .nil)) (by assumption) FA (fun p hp => NA p (.tail _ hp)) (by rfl) (by rfl) (by rfl) (by rfl) (by rfl) (by rfl)
  · rename News _ _ _ _ => NA
    rename Fr _ _ _ _ => FA
    exact fin _ _ _ _ _ (ht.append (.cons _ _ .nil)) (by assumption) FA (fun p hp => NA p (.tail _ hp)) (by rfl) (by rfl) (by rfl) (by rfl) (by rfl) (by rfl)
end
section
open PySem.Calls PySem.Spec
set_option maxRecDepth 100000 in
set_option maxHeartbeats 4000000 in
theorem rest {w : World} {dp un : Nat} {gd : Option (List Code)} {h₀ : Heap} {L fa : Addr} {cd : Value} {s : Shared} {E : Value → Shared → Prop} {Q : Flow → Shared → Prop} {px : Pos}
    {h : Heap} {tk T0 i : Nat} {ov xs tv0 tv1 tv2 cv : List Value} {os nn er z0 z1 z2 : List Int} {o B g0 g1 g2 : Int} {to tB tA t u v : Tok} {m : Str → Option Value} {news : List (Addr × Obj)}
    {r I ro rs rc rt r0 r1 r2 rd ai rE : Addr} {oI oca ocs ors ord : Obj} {n1 n3 n4 n5 n6 n7 n9 nE : Nat}
    (C₀ : Cx w h₀) (Bl : Below (Ar dp un (some []) gd) h₀ [] h₀) (hdp : dp + 25 < recursionLimit) (hun : un + 300 < cLine) (hE : PassesOwn (model PP w) ((Ar dp un (some []) gd).deeper (lawEnv L fa cd)) (lawEnv L fa cd) E)
    (hi : i < 5) (hov : IntsAre ov os) (hov5 : os.length = 5) (hT1 : ∀ (p : Int) (u : Nat), Value.int p u ∈ ov → u ≠ 0 ∧ u < T0) (hT2 : ∀ (p : Int) (u : Nat) (q : Int), Value.int p u ∈ ov → Value.int q u ∈ ov → p = q)
    (hvi : ov[((i : Nat) : Int).toNat]? = some (.int o to)) (her : (os.take i).reverse = er)
    (hx : IntsAre xs nn) (hxm : ∀ v ∈ xs, v ∈ ov) (h0 : IntsAre tv0 z0) (h1 : IntsAre tv1 z1) (h2 : IntsAre tv2 z2) (hnl : nn.length < 50) (hz0 : z0.length = i + 1) (hz1 : z1.length = i + 1) (hz2 : z2.length = i + 1)
    (k0 : ((nn.count (B + 0) : Nat) : Int) = g0) (k1 : ((nn.count (B + 1) : Nat) : Int) = g1) (k2 : ((nn.count (B + 2) : Nat) : Int) = g2)
    (q0 : grown z0 er o (if o = B + 0 then 1 else 0) = g0) (q1 : grown z1 er o (if o = B + 1 then 1 else 0) = g1) (q2 : grown z2 er o (if o = B + 2 then 1 else 0) = g2)
    (hoca : oca.data = .cell (some (.int (i : Nat) tA)))
    (F : Fr h₀ L h m) (N : News h₀ L h news)
    (m1 : m (Str.ofString "base") = some (.int B tB)) (m2 : m (Str.ofString "orders") = some (.ref ro)) (m3 : m (Str.ofString "closed") = some (.ref rc)) (m4 : m (Str.ofString "tallies") = some (.ref rt)) (m5 : m (Str.ofString "due") = some (.ref rd)) (m6 : m (Str.ofString "earlier") = some (.ref rE))
    (hN : ∀ p ∈ [(r0, listOf tv0.toArray n5), (r1, listOf tv1.toArray n6), (r2, listOf tv2.toArray n7), (I, oI), (L + 2, oca), (L + 1, ocs), (ro, listOf ov.toArray n1), (rs, ors), (rc, listOf cv.toArray n3), (rt, listOf [Value.ref r0, Value.ref r1, Value.ref r2].toArray n4), (rd, ord), (ai, listOf xs.toArray n9), (rE, listOf (ov.take i).reverse.toArray nE)], p ∈ news)
    (hcv : cv[(((i : Nat) : Int) + 1).toNat]? = some (.ref ai)) (hcl : cv.length = i + 2)
    (a0 : Apart r0 I) (a1 : Apart r0 (L + 2)) (a2 : Apart r0 (L + 1)) (a3 : Apart r0 ro) (a4 : Apart r0 rs) (a5 : Apart r0 rc) (a6 : Apart r0 rt) (a7 : Apart r0 rd) (a8 : Apart r0 ai) (a9 : Apart r0 rE) (a10 : Apart r1 I) (a11 : Apart r1 (L + 2)) (a12 : Apart r1 (L + 1)) (a13 : Apart r1 ro) (a14 : Apart r1 rs) (a15 : Apart r1 rc) (a16 : Apart r1 rt) (a17 : Apart r1 rd) (a18 : Apart r1 ai) (a19 : Apart r1 rE) (a20 : Apart r2 I) (a21 : Apart r2 (L + 2)) (a22 : Apart r2 (L + 1)) (a23 : Apart r2 ro) (a24 : Apart r2 rs) (a25 : Apart r2 rc) (a26 : Apart r2 rt) (a27 : Apart r2 rd) (a28 : Apart r2 ai) (a29 : Apart r2 rE) (a30 : Apart r0 r1) (a31 : Apart r0 r2) (a32 : Apart r1 r2)
    (hr : IsRange h r 0 3 1 t u v) (htk : T0 ≤ tk)
    (fin : ∀ h' tk' m' tv0' tv1' tv2' n5' n6' n7', IntsAre tv0' (z0 ++ [g0]) → IntsAre tv1' (z1 ++ [g1]) → IntsAre tv2' (z2 ++ [g2]) → T0 ≤ tk' → Fr h₀ L h' m' →
      News h₀ L h' [(r0, listOf tv0'.toArray n5'), (r1, listOf tv1'.toArray n6'), (r2, listOf tv2'.toArray n7'), (I, oI), (L + 2, oca), (L + 1, ocs), (ro, listOf ov.toArray n1), (rs, ors), (rc, listOf cv.toArray n3), (rt, listOf [Value.ref r0, Value.ref r1, Value.ref r2].toArray n4), (rd, ord), (ai, listOf xs.toArray n9), (rE, listOf (ov.take i).reverse.toArray nE)] →
      m' (Str.ofString "base") = some (.int B tB) → m' (Str.ofString "orders") = some (.ref ro) → m' (Str.ofString "closed") = some (.ref rc) → m' (Str.ofString "tallies") = some (.ref rt) → m' (Str.ofString "due") = some (.ref rd) → m' (Str.ofString "earlier") = some (.ref rE) →
      Q .next { s with heap := h', toks := tk' }) :
    wpAny (model PP w) ((Ar dp un (some []) gd).deeper (lawEnv L fa cd)) (pyIter (.ref r)) (fun it s₂ => codeAny (model PP w) ((Ar dp un (some []) gd).deeper (lawEnv L fa cd)) (.forLoop (.Name (Str.ofString "t") px) it inTurn [] (lawEnv L fa cd)) (BackTo PP w ((Ar dp un (some []) gd).deeper (lawEnv L fa cd)) (lawEnv L fa cd) Q E) s₂) E { s with heap := h, toks := tk } := by
  refine for_range (n := 3) (fun j m news => ∃ tv0 tv1 tv2 n5 n6 n7, news = [(r0, listOf tv0.toArray n5), (r1, listOf tv1.toArray n6), (r2, listOf tv2.toArray n7), (I, oI), (L + 2, oca), (L + 1, ocs), (ro, listOf ov.toArray n1), (rs, ors), (rc, listOf cv.toArray n3), (rt, listOf [Value.ref r0, Value.ref r1, Value.ref r2].toArray n4), (rd, ord), (ai, listOf xs.toArray n9), (rE, listOf (ov.take i).reverse.toArray nE)] ∧
      IntsAre tv0 (if 0 < j then z0 ++ [g0] else z0) ∧ IntsAre tv1 (if 1 < j then z1 ++ [g1] else z1) ∧ IntsAre tv2 (if 2 < j then z2 ++ [g2] else z2) ∧
      m (Str.ofString "base") = some (.int B tB) ∧ m (Str.ofString "orders") = some (.ref ro) ∧ m (Str.ofString "closed") = some (.ref rc) ∧ m (Str.ofString "tallies") = some (.ref rt) ∧ m (Str.ofString "due") = some (.ref rd) ∧ m (Str.ofString "earlier") = some (.ref rE))
    rfl hr (by decide) (by decide) (by decide) rfl rfl hE F (news_sub N hN) ⟨_, _, _, _, _, _, rfl, h0, h1, h2, m1, m2, m3, m4, m5, m6⟩ ?_ ?_
  · rintro j tv I2 m₁ news₁ h tk' oI2 hj ⟨tv0, tv1, tv2, n5, n6, n7, rfl, i0, i1, i2, m1, m2, m3, m4, m5, m6⟩ hoff htk₁ F₁ N₁
    rw [Int.zero_add] at F₁
    have ht₁ : T0 ≤ tk' := Nat.le_trans htk htk₁
    have e0 : Apart r0 I2 := hoff (r0, listOf tv0.toArray n5) (.head _)
    have e1 : Apart r1 I2 := hoff (r1, listOf tv1.toArray n6) (.tail _ (.head _))
    have e2 : Apart r2 I2 := hoff (r2, listOf tv2.toArray n7) (.tail _ (.tail _ (.head _)))
    have hoff' : ∀ {tv0' tv1' tv2' : List Value} {n5' n6' n7' : Nat}, ∀ p ∈ [(r0, listOf tv0'.toArray n5'), (r1, listOf tv1'.toArray n6'), (r2, listOf tv2'.toArray n7'), (I, oI), (L + 2, oca), (L + 1, ocs), (ro, listOf ov.toArray n1), (rs, ors), (rc, listOf cv.toArray n3), (rt, listOf [Value.ref r0, Value.ref r1, Value.ref r2].toArray n4), (rd, ord), (ai, listOf xs.toArray n9), (rE, listOf (ov.take i).reverse.toArray nE)], p.1 ≠ I2 := by
      intro tv0' tv1' tv2' n5' n6' n7' p hp
      simp only [List.mem_cons, List.not_mem_nil, or_false] at hp
      rcases hp with rfl | rfl | rfl | hp
      · exact e0
      · exact e1
      · exact e2
      · exact hoff p (by simp only [List.mem_cons, List.not_mem_nil, or_false]; exact .inr (.inr (.inr hp)))
    rcases (show j = 0 ∨ j = 1 ∨ j = 2 by omega) with rfl | rfl | rfl
    · have i0' : IntsAre tv0 z0 := by simpa using i0
      refine inner (I := I) (I2 := I2) (oI := oI) (oI2 := oI2) (oca := oca) (ocs := ocs) (ors := ors) (ord := ord) (n1 := n1) (n3 := n3) (n4 := n4) (n5 := n5) (n9 := n9) (nE := nE) (ca := L + 2) (cs := L + 1) (rs := rs) (tv := tv0) (xs := xs) (j := 0) (rj := r0) (rl := [Value.ref r0, Value.ref r1, Value.ref r2]) (pa := (r1, listOf tv1.toArray n6)) (pb := (r2, listOf tv2.toArray n7)) C₀ Bl hdp hun hi (by omega) hov hov5 hT1 hT2 hvi her hx hxm i0' hcv hcl hz0 hnl rfl rfl k0 q0 F₁ (news_sub N₁ ?sub) rfl rfl hoca (by exact m1) (by exact m2) (by exact m3) (by exact m4) (by exact m5) (by exact m6) (by rfl) e0 a0 a1 a2 a3 a4 a5 a6 a30 a31 a7 a8 a9 ht₁ ?fin
      case sub => intro p hp; simp only [List.mem_cons, List.not_mem_nil, or_false] at hp ⊢; grind
      case fin =>
        intro h' tk'' m' tv' n' i' ht' F' N' b1 b2 b3 b4 b5 b6
        refine TurnP.next F' (news_sub N' ?s2) hoff' ⟨tv', tv1, tv2, n', n6, n7, rfl, ?_, ?_, ?_, b1, b2, b3, b4, b5, b6⟩
        case s2 => intro p hp; simp only [List.mem_cons, List.not_mem_nil, or_false] at hp ⊢; grind
        · simpa using i'
        · simpa using i1
        · simpa using i2
    · have i1' : IntsAre tv1 z1 := by simpa using i1
      refine inner (I := I) (I2 := I2) (oI := oI) (oI2 := oI2) (oca := oca) (ocs := ocs) (ors := ors) (ord := ord) (n1 := n1) (n3 := n3) (n4 := n4) (n5 := n6) (n9 := n9) (nE := nE) (ca := L + 2) (cs := L + 1) (rs := rs) (tv := tv1) (xs := xs) (j := 1) (rj := r1) (rl := [Value.ref r0, Value.ref r1, Value.ref r2]) (pa := (r0, listOf tv0.toArray n5)) (pb := (r2, listOf tv2.toArray n7)) C₀ Bl hdp hun hi (by omega) hov hov5 hT1 hT2 hvi her hx hxm i1' hcv hcl hz1 hnl rfl rfl k1 q1 F₁ (news_sub N₁ ?sub) rfl rfl hoca (by exact m1) (by exact m2) (by exact m3) (by exact m4) (by exact m5) (by exact m6) (by rfl) e1 a10 a11 a12 a13 a14 a15 a16 (Apart.symm a30) a32 a17 a18 a19 ht₁ ?fin
      case sub => intro p hp; simp only [List.mem_cons, List.not_mem_nil, or_false] at hp ⊢; grind
      case fin =>
        intro h' tk'' m' tv' n' i' ht' F' N' b1 b2 b3 b4 b5 b6
        refine TurnP.next F' (news_sub N' ?s2) hoff' ⟨tv0, tv', tv2, n5, n', n7, rfl, ?_, ?_, ?_, b1, b2, b3, b4, b5, b6⟩
        case s2 => intro p hp; simp only [List.mem_cons, List.not_mem_nil, or_false] at hp ⊢; grind
        · simpa using i0
        · simpa using i'
        · simpa using i2
    · have i2' : IntsAre tv2 z2 := by simpa using i2
      refine inner (I := I) (I2 := I2) (oI := oI) (oI2 := oI2) (oca := oca) (ocs := ocs) (ors := ors) (ord := ord) (n1 := n1) (n3 := n3) (n4 := n4) (n5 := n7) (n9 := n9) (nE := nE) (ca := L + 2) (cs := L + 1) (rs := rs) (tv := tv2) (xs := xs) (j := 2) (rj := r2) (rl := [Value.ref r0, Value.ref r1, Value.ref r2]) (pa := (r0, listOf tv0.toArray n5)) (pb := (r1, listOf tv1.toArray n6)) C₀ Bl hdp hun hi (by omega) hov hov5 hT1 hT2 hvi her hx hxm i2' hcv hcl hz2 hnl rfl rfl k2 q2 F₁ (news_sub N₁ ?sub) rfl rfl hoca (by exact m1) (by exact m2) (by exact m3) (by exact m4) (by exact m5) (by exact m6) (by rfl) e2 a20 a21 a22 a23 a24 a25 a26 (Apart.symm a31) (Apart.symm a32) a27 a28 a29 ht₁ ?fin
      case sub => intro p hp; simp only [List.mem_cons, List.not_mem_nil, or_false] at hp ⊢; grind
      case fin =>
        intro h' tk'' m' tv' n' i' ht' F' N' b1 b2 b3 b4 b5 b6
        refine TurnP.next F' (news_sub N' ?s2) hoff' ⟨tv0, tv1, tv', n5, n6, n', rfl, ?_, ?_, ?_, b1, b2, b3, b4, b5, b6⟩
        case s2 => intro p hp; simp only [List.mem_cons, List.not_mem_nil, or_false] at hp ⊢; grind
        · simpa using i0
        · simpa using i1
        · simpa using i'
  · rintro m₁ news₁ h tk' ⟨tv0, tv1, tv2, n5, n6, n7, rfl, i0, i1, i2, m1, m2, m3, m4, m5, m6⟩ htk₁ F₁ N₁
    exact wpAny_execs_nil (fin _ _ _ _ _ _ _ _ _ (by simpa using i0) (by simpa using i1) (by simpa using i2) (Nat.le_trans htk htk₁) F₁ N₁ m1 m2 m3 m4 m5 m6)
end
section
def perms : List (List Nat × List Nat) := [([0,1,2],[0,1,2]), ([0,2,1],[0,2,1]), ([1,0,2],[1,0,2]), ([1,2,0],[2,0,1]), ([2,0,1],[1,2,0]), ([2,1,0],[2,1,0])]
theorem canon_ex : ∀ a < 3, ∀ b < 3, ∀ c < 3, ∀ d < 3, ∀ e < 3, ∃ pr ∈ perms, canon 0 ([a, b, c, d, e].map (nth pr.1)) = true := by decide +kernel
theorem perms_ok : ∀ pr ∈ perms, ∀ t < 3, nth pr.1 t < 3 ∧ nth pr.2 t < 3 ∧ nth pr.2 (nth pr.1 t) = t ∧ nth pr.1 (nth pr.2 t) = t := by decide
def tal (S : PS) (c : Nat) : List Int := if c = 0 then S.t0 else if c = 1 then S.t1 else S.t2
/-- the letters of a word of orders, and their names -/
structure Word (B : Int) (ds : List Nat) (p : List Nat) (f : Nat → Int) (tl : Nat → Nat) : Prop where
  mark : f 3 = B - 1
  len : p.length = 5
  le : Let 2 p
  inj : Inj f
  map : ds.map (fun (d : Nat) => B + (d : Int)) = p.map f
  tl : ∀ t : Nat, t < 3 → tl t ≤ 2 ∧ f (tl t) = B + (t : Int)
  canon : canon 0 p = true
theorem word_ex (B : Int) (ds : List Nat) (hl : ds.length = 5) (hb : ∀ d ∈ ds, d < 3) : ∃ p f tl, Word B ds p f tl := by
  match ds, hl with
  | [a, b, c, d, e], _ =>
  have ha := hb a (by simp)
  have hb' := hb b (by simp)
  have hc := hb c (by simp)
  have hd := hb d (by simp)
  have he := hb e (by simp)
  obtain ⟨pr, hp, hcan⟩ := canon_ex a ha b hb' c hc d hd e he
  have ok := perms_ok pr hp
  refine ⟨[a, b, c, d, e].map (nth pr.1), fun c => if c = 3 then B - 1 else B + (nth pr.2 c : Nat), nth pr.1, ⟨by simp, rfl, ?_, ?_, ?_, ?_, hcan⟩⟩
  · intro x hx
    obtain ⟨y, hy, rfl⟩ := List.mem_map.mp hx
    have := (ok y (hb y hy)).1
    omega
  · intro x y hx hy e
    dsimp only at e
    by_cases cx : x = 3
    · by_cases cy : y = 3
      · omega
      · rw [if_pos cx, if_neg cy] at e; omega
    · by_cases cy : y = 3
      · rw [if_neg cx, if_pos cy] at e; omega
      · rw [if_neg cx, if_neg cy] at e
        have e' : nth pr.2 x = nth pr.2 y := by omega
        rw [← (ok x (by omega)).2.2.2, ← (ok y (by omega)).2.2.2, e']
  · rw [List.map_map]
    refine List.map_congr_left fun x hx => ?_
    have h := ok x (hb x hx)
    show _ = if nth pr.1 x = 3 then _ else _
    rw [if_neg (by omega), h.2.2.1]
  · intro t ht
    have h := ok t ht
    refine ⟨by omega, ?_⟩
    rw [if_neg (by omega), h.2.2.1]
theorem runN_lens (p : List Nat) : ∀ i, i ≤ p.length → (runN 0 [] initN p i).zs.length = i + 1 ∧ ∀ c, (tal (runN 0 [] initN p i) c).length = i + 1
  | 0, _ => by
    have e : runN 0 [] initN p 0 = initN := by cases p <;> rfl
    rw [e]; refine ⟨rfl, fun c => ?_⟩
    unfold tal; split
    · rfl
    · split <;> rfl
  | i + 1, h => by
    have ih := runN_lens p i (by omega)
    rw [runN_succ p 0 [] initN i (by omega)]
    refine ⟨by simp [stepN, ih.1], fun c => ?_⟩
    have := ih.2 c
    unfold tal at this ⊢
    by_cases c0 : c = 0
    · simp only [c0, if_true] at this ⊢; simp [stepN, this]
    · by_cases c1 : c = 1
      · simp only [c1, if_true] at this ⊢
        simp at this ⊢; simp [stepN, this]
      · simp only [if_neg c0, if_neg c1] at this ⊢; simp [stepN, this]
/-- what a turn shows -/
structure TF (B : Int) (f : Nat → Int) (tl : Nat → Nat) (d : Nat) (w : List Nat) (i : Nat) (S S' : PS) : Prop where
  hon : S.row.map f ++ [f d] = (openedN d S).map f
  htl : tail ((openedN d S).map f) (B - 1) ≤ ((openedN d S).map f).length
  hnn : (openedN d S).map f ++ (((openedN d S).map f).take (((openedN d S).map f).length - tail ((openedN d S).map f) (B - 1))).reverse = S'.row.map f
  hg : grown S.zs ((w.map f).reverse) (f d) 1 = grownN S.zs w.reverse d 1
  zs : S'.zs = S.zs ++ [grownN S.zs w.reverse d 1]
  hab : ((S.zs.getD i 0).toNat : Int) ≤ grownN S.zs w.reverse d 1 ∧ grownN S.zs w.reverse d 1 < 40
  hza : S.zs[((i : Nat) : Int).toNat]? = some ((S.zs.getD i 0).toNat : Int)
  hdl : S.due ++ (List.range (grownN S.zs w.reverse d 1 - ((S.zs.getD i 0).toNat : Int)).toNat).map (fun (k : Nat) => ((S.zs.getD i 0).toNat : Int) + (k : Int) + 1 - grownN S.zs w.reverse d 1 + ((S.zs.getD i 0).toNat : Int)) = S'.due
  hea : (ovl ((openedN d S).map f)).map Int.ofNat = S'.due.take ((openedN d S).map f).length
  hto : (ovl (S'.row.map f)).map Int.ofNat = S'.due
  c1 : S'.row.map f = (S'.row.map f).reverse
  c2 : (S'.row.map f).take (S.zs.getD i 0).toNat = S.row.map f
  c3 : (S'.row.map f).take ((openedN d S).map f).length = (openedN d S).map f
  tal : ∀ t : Nat, t < 3 → (((S'.row.map f).count (B + (t : Int)) : Nat) : Int) = grown (tal S (tl t)) ((w.map f).reverse) (f d) (if f d = B + (t : Int) then 1 else 0) ∧ Mine.tal S' (tl t) = Mine.tal S (tl t) ++ [grown (Mine.tal S (tl t)) ((w.map f).reverse) (f d) (if f d = B + (t : Int) then 1 else 0)]
  hnl : S.row.length < 20
  hdl2 : S.due.length < 20
theorem step_facts {B : Int} {ds p : List Nat} {f : Nat → Int} {tl : Nat → Nat} (W : Word B ds p f tl) (i : Nat) (hi : i < 5) :
    TF B f tl (p[i]'(by rw [W.len]; exact hi)) (p.take i) i (runN 0 [] initN p i) (runN 0 [] initN p (i + 1)) := by
  have hip : i < p.length := by rw [W.len]; exact hi
  obtain ⟨ok, hrow, hd⟩ := check_ok 5 0 [] 0 initN p check5 W.len W.canon (fun x hx => absurd hx (by simp [initN])) i hip
  have lens := runN_lens p i (by omega)
  rw [runN_succ p 0 [] initN i hip]
  rw [Nat.zero_add, List.nil_append] at *
  generalize runN 0 [] initN p i = S at *
  generalize p[i] = d at *
  have hw : Let 2 (p.take i) := fun x hx => W.le x (List.mem_of_mem_take hx)
  generalize p.take i = w at *
  have ho : Let 2 (openedN d S) := fun x hx => (List.mem_append.mp hx).elim (hrow x) fun h => by rw [List.mem_singleton.mp h]; exact hd
  have hn := let_closed ho
  have hwr : Let 3 w.reverse := fun x hx => Nat.le_succ_of_le (hw x (List.mem_reverse.mp hx))
  simp only [okN, Bool.and_eq_true, decide_eq_true_eq] at ok
  obtain ⟨⟨⟨⟨⟨⟨⟨⟨⟨⟨⟨⟨⟨o1, o2⟩, o3⟩, o4⟩, o5⟩, o6⟩, o7⟩, o8⟩, o9⟩, o10⟩, o11⟩, o12⟩, o13⟩, o14⟩ := ok
  have hi' := W.inj
  have ea : ((S.zs.getD i 0).toNat : Int) = S.zs.getD i 0 := by omega
  have tt : tail ((openedN d S).map f) (B - 1) = tailN (openedN d S) := by rw [← W.mark]; exact tail_map hi' ho
  refine ⟨by simp [openedN], by rw [tt, List.length_map]; exact o5, ?_, ?_, rfl, ⟨by omega, o4⟩, ?_, ?_, ?_, ?_, ?_, ?_, ?_, ?_, o1, o14⟩
  · rw [← W.mark]; exact closed_map hi' ho
  · rw [← List.map_reverse]; exact grown_map hi' (by omega) hwr _ _
  · have hlt : i < S.zs.length := by omega
    rw [ea, show ((i : Nat) : Int).toNat = i by omega, List.getD_eq_getElem?_getD, List.getElem?_eq_getElem hlt]; rfl
  · rw [ea]; rfl
  · rw [ovl_map hi' (ho.le (by omega)), List.length_map]
    have := congrArg List.reverse o9
    rw [ovlR_eq, ← List.map_reverse, List.reverse_reverse, List.reverse_reverse] at this
    exact this
  · show (ovl ((closedN (openedN d S)).map f)).map Int.ofNat = _
    rw [ovl_map hi' (hn.le (by omega))]
    have := congrArg List.reverse o10
    rw [ovlR_eq, ← List.map_reverse, List.reverse_reverse, List.reverse_reverse] at this
    exact this
  · show (closedN (openedN d S)).map f = _
    rw [← List.map_reverse]; exact congrArg (List.map f) o6
  · show ((closedN (openedN d S)).map f).take _ = _
    rw [← List.map_take, o7]
  · show ((closedN (openedN d S)).map f).take _ = _
    rw [← List.map_take, List.length_map, o8]
  · intro t ht
    obtain ⟨hc, hf⟩ := W.tl t ht
    have e1 : (if f d = B + (t : Int) then (1 : Int) else 0) = oneN (d == tl t) := by
      unfold oneN
      rw [← hf]
      by_cases c : d = tl t
      · simp [c]
      · have : f d ≠ f (tl t) := fun e => c (hi' _ _ (by omega) (by omega) e)
        simp [c, this]
    have e2 : ∀ z : List Int, grown z ((w.map f).reverse) (f d) (if f d = B + (t : Int) then 1 else 0) = grownN z w.reverse d (oneN (d == tl t)) := fun z => by
      rw [e1, ← List.map_reverse]; exact grown_map hi' (by omega) hwr _ _
    rw [e2]
    have e3 : ((((closedN (openedN d S)).map f).count (B + (t : Int)) : Nat) : Int) = (((closedN (openedN d S)).count (tl t) : Nat) : Int) := by
      rw [← hf, count_map hi' (by omega) (hn.le (by omega))]
    refine ⟨?_, ?_⟩
    · show ((((closedN (openedN d S)).map f).count (B + (t : Int)) : Nat) : Int) = _
      rw [e3]
      rcases (show tl t = 0 ∨ tl t = 1 ∨ tl t = 2 by omega) with h | h | h <;> rw [h]
      · exact o11
      · exact o12
      · exact o13
    · rcases (show tl t = 0 ∨ tl t = 1 ∨ tl t = 2 by omega) with h | h | h <;> rw [h] <;> rfl
end
section
open PySem.Calls PySem.Spec
theorem fill_outer : ∀ w : World, hd.heap_39 w.params = hd.heap_39 w.params ∧ Challenge.rw_rw0007_01 = Challenge.rw_rw0007_01 := by k_fill; exact fun _ => ⟨rfl, rfl⟩

local macro_rules | `(tactic| k_ne) => `(tactic| first | (exact Apart.ne (by assumption)) | (exact Apart.ne (Apart.symm (by assumption))) | (refine neN ?_; (try dsimp only); omega))
local macro_rules | `(tactic| walk_at "my_list") => `(tactic| first | exact News.isList (by assumption) (by k_mem) | exact LAt.isList (LAt.grow (by assumption) (Fr.keep (by assumption))))
local macro_rules | `(tactic| walk_at "my_lat") => `(tactic| first | exact ⟨_, News.get (by assumption) (by k_mem)⟩ | exact LAt.grow (by assumption) (Fr.keep (by assumption)))
local macro_rules | `(tactic| walk_at "my_len") => `(tactic| ((try simp only [List.size_toArray, List.length_append, List.length_cons, List.length_nil, List.length_reverse, List.length_take, List.length_drop, List.length_map, sizeLine_eq, ovl_len, List.length_range]); omega))
local macro_rules | `(tactic| walk_at "my_ints") => `(tactic| first | assumption | exact IntsAre.nil | exact IntsAre.append (by walk_at "my_ints") (by walk_at "my_ints") | exact IntsAre.reverse (by walk_at "my_ints") | exact IntsAre.take (by walk_at "my_ints") _ | exact IntsAre.drop (by walk_at "my_ints") _ | exact IntsAre.cons _ _ (by walk_at "my_ints"))
local macro_rules | `(tactic| walk_at "my_cx") => `(tactic| exact Cx.grow (by assumption) (Fr.keep (by assumption)))
local macro_rules | `(tactic| walk_at "my_room") => `(tactic| ((try dsimp only [Around.deeper, Ar]); omega))
local macro_rules | `(tactic| walk_at "my_new") => `(tactic| ((with_reducible rename News _ _ _ _ => N1); (with_reducible rename Fr _ _ _ _ => F1); (have ap' := allAp_of N1 (by assumption)); dsimp only [AllAp] at ap'; (repeat (obtain ⟨_, ap'⟩ := ap')); (have N' := news_add F1 N1 (by assumption) (by assumption) (by assumption)); (have F' := fr_grow F1 (by assumption)); (clear N1 F1)))
local macro_rules | `(tactic| walk_at "execs cons") => `(tactic| (k_here; refine' execs_cons_tk (by assumption) ?_; intro tk' ht'; (try (rename (_ ≤ Shared.toks _) => hOld; clear hOld)); (try dsimp only)))
local macro_rules | `(tactic| walk_at "exec For Name Call cons nil") => `(tactic| (k_here; k_dflt (refine' For_tk (by assumption) (Stop.of ?_))))
local macro_rules | `(tactic| walk_at "eval Name") => `(tactic| (k_here; k_inBlock; k_dflt (refine' name_comp ?N ?m ?ns ?v ?_ ?k ?x ?d; (case k => rfl); (case x => rfl); (case d => decide); (case ns => assumption); (case v => assumption); (case N => k_asm); (case m => k_mem))))
local macro_rules | `(tactic| walk_at "eval Name") => `(tactic| (k_here; k_inBlock; k_dflt (refine' name_free ?N ?c ?m ?dd ?_ ?k ?x ?d; (case k => rfl); (case x => rfl); (case d => decide); (case c => rfl); (case N => k_asm); (case m => k_mem); (case dd => assumption))))
local macro_rules | `(tactic| walk_at "call builtin:len") => `(tactic| (k_here; (with_reducible show wpAny _ _ (call (Value.builtin _) [Value.ref _]) _ _ _); (with_unfolding_all refine' len_ints_fit ?k1 ?k2 ?k3 ?_; (case k1 => walk_at "my_list"); (case k2 => walk_at "my_ints"); (case k3 => walk_at "my_len"))))
local macro_rules | `(tactic| walk_at "subscriptTail Name Slice ref ref") => `(tactic| (k_here; (with_reducible show wpAny _ _ (subscriptTail _ (PySem.Expr.Slice none none (some _) _) (Value.ref _) (Value.ref _)) _ _ _); k_dflt (refine' sl_rev ?F ?N ?l ?k ?z ?_ ?s ?t; (case F => k_asm); (case N => k_asm); (case l => walk_at "my_list"); (case k => exact IsPart.int _ _); (case s => with_unfolding_all rfl); (case t => kmk_pure); (case z => walk_at "my_len")); intro D' h' F' N' l1; (try k_lt l1); (try k_sweep)))
local macro_rules | `(tactic| walk_at "subscriptTail Name Slice ref ref") => `(tactic| (k_here; (with_reducible show wpAny _ _ (subscriptTail _ (PySem.Expr.Slice none (some _) none _) (Value.ref _) (Value.ref _)) _ _ _); k_dflt (refine' sl_upto ?F ?N ?l ?k ?y ?z ?_ ?s ?t; (case F => k_asm); (case N => k_asm); (case l => walk_at "my_list"); (case k => exact IsPart.int _ _); (case s => with_unfolding_all rfl); (case t => kmk_pure); (case y => rfl); (case z => walk_at "my_len")); intro D' h' F' N' l1; (try k_lt l1); (try k_sweep)))
local macro_rules | `(tactic| walk_at "subscriptTail Name Slice ref ref") => `(tactic| (k_here; (with_reducible show wpAny _ _ (subscriptTail _ (PySem.Expr.Slice (some _) (some _) none _) (Value.ref _) (Value.ref _)) _ _ _); k_dflt (refine' sl_one ?F ?N ?l ?k ?kk ?x ?y ?v ?z ?_ ?s ?t; (case F => k_asm); (case N => k_asm); (case l => walk_at "my_list"); (case k => exact IsPart.int _ _); (case kk => exact IsPart.int _ _); (case s => with_unfolding_all rfl); (case t => kmk_pure); (case x => rfl); (case y => rfl); (case v => assumption); (case z => walk_at "my_len")); intro D' h' F' N' l1; (try k_lt l1); (try k_sweep)))
local macro_rules | `(tactic| walk_at "subscriptTail Name Name ref int") => `(tactic| (k_here; (with_reducible show wpAny _ _ (subscriptTail _ _ (Value.ref _) (Value.int _ _)) _ _ _); k_dflt (first
  | (refine' at_it ?l ?x0 ?x1 ?v ?_ ?s; (case l => walk_at "my_list"); (case x0 => omega); (case x1 => omega); (case v => first | assumption | exact last_at (by assumption) _ | exact first_at (by assumption) _); (case s => with_unfolding_all rfl))
  | (refine' at_num ?l ?i ?x0 ?x1 ?v ?_ ?s; (case l => walk_at "my_list"); (case i => walk_at "my_ints"); (case x0 => omega); (case x1 => omega); (case v => assumption); (case s => with_unfolding_all rfl); intro t'))))
local macro_rules | `(tactic| walk_at "subscriptTail Name BinOp ref int") => `(tactic| (k_here; (with_reducible show wpAny _ _ (subscriptTail _ _ (Value.ref _) (Value.int _ _)) _ _ _); k_dflt (first
  | (refine' at_it ?l ?x0 ?x1 ?v ?_ ?s; (case l => walk_at "my_list"); (case x0 => omega); (case x1 => omega); (case v => first | assumption | exact last_at (by assumption) _ | exact first_at (by assumption) _); (case s => with_unfolding_all rfl))
  | (refine' at_num ?l ?i ?x0 ?x1 ?v ?_ ?s; (case l => walk_at "my_list"); (case i => walk_at "my_ints"); (case x0 => omega); (case x1 => omega); (case v => assumption); (case s => with_unfolding_all rfl); intro t'))))
local macro_rules | `(tactic| walk_at "subscriptTail Subscript") => `(tactic| (k_here; (with_reducible show wpAny _ _ (subscriptTail _ _ (Value.ref _) (Value.int _ _)) _ _ _); k_dflt (first
  | (refine' at_it ?l ?x0 ?x1 ?v ?_ ?s; (case l => walk_at "my_list"); (case x0 => omega); (case x1 => omega); (case v => first | assumption | exact last_at (by assumption) _ | exact first_at (by assumption) _); (case s => with_unfolding_all rfl))
  | (refine' at_num ?l ?i ?x0 ?x1 ?v ?_ ?s; (case l => walk_at "my_list"); (case i => walk_at "my_ints"); (case x0 => omega); (case x1 => omega); (case v => assumption); (case s => with_unfolding_all rfl); intro t'))))
local macro_rules | `(tactic| walk_at "compareOp NotEq int int") => `(tactic| (k_here; with_reducible refine' ne_int_same ?_))
local macro_rules | `(tactic| walk_at "call builtin:list.append") => `(tactic| (k_here; k_dflt (refine' append_L ?F ?N ?U ?z ?_; (case F => k_asm); (case N => k_asm); (case U => k_upd); (case z => walk_at "my_len")); intro h' F' N'; (try k_sweep)))
local macro_rules | `(tactic| walk_at "call ref") => `(tactic| (k_here; k_dflt (refine' concat_call ?C ?d ?u ?a ?b ?z ?_; (case C => walk_at "my_cx"); (case d => walk_at "my_room"); (case u => walk_at "my_room"); (case a => walk_at "my_lat"); (case b => walk_at "my_lat"); (case z => walk_at "my_len")); intro r' h' tk' G' n' l'; obtain ⟨n1, o1⟩ := l'; walk_at "my_new"; clear G' n' o1))
local macro_rules | `(tactic| walk_at "call ref") => `(tactic| (k_here; k_dflt (refine' ovl_I ?C ?d ?u ?a ?i ?z ?e ?_; (case C => walk_at "my_cx"); (case d => walk_at "my_room"); (case u => walk_at "my_room"); (case a => walk_at "my_lat"); (case i => walk_at "my_ints"); (case e => assumption); (case z => walk_at "my_len")); intro r' vs' h' tk' G' n' l' i'; (have il' := ints_len i'); obtain ⟨n1, o1⟩ := l'; walk_at "my_new"; clear G' n' o1))
local macro_rules | `(tactic| walk_at "call ref") => `(tactic| (k_here; k_dflt (refine' closed_I ?C ?d ?u ?a ?i ?z ?t ?e ?_; (case C => walk_at "my_cx"); (case d => walk_at "my_room"); (case u => walk_at "my_room"); (case a => walk_at "my_lat"); (case i => walk_at "my_ints"); (case t => assumption); (case e => assumption); (case z => walk_at "my_len")); intro r' vs' h' tk' G' n' l' i' m'; (have il' := ints_len i'); obtain ⟨n1, o1⟩ := l'; walk_at "my_new"; clear G' n' o1))
local macro_rules | `(tactic| walk_at "call ref") => `(tactic| (k_here; k_dflt (refine' grown_I ?C ?B ?d ?u ?F ?N ?a ?i ?z ?b ?t ?zz ?zi ?zl ?e ?_; (case C => assumption); (case B => assumption); (case d => walk_at "my_room"); (case u => walk_at "my_room"); (case F => k_asm); (case N => k_asm); (case a => walk_at "my_lat"); (case i => walk_at "my_ints"); (case b => assumption); (case t => assumption); (case zz => walk_at "my_lat"); (case zi => walk_at "my_ints"); (case e => first | assumption | exact Giv.use (by assumption) (by assumption)); (case z => walk_at "my_len"); (case zl => walk_at "my_len")); intro h' tk' t' F' N'))
local macro_rules | `(tactic| walk_at "call ref") => `(tactic| (k_here; k_dflt (refine' whole_call ?C ?d ?u ?a ?i ?z ?_; (case C => walk_at "my_cx"); (case d => walk_at "my_room"); (case u => walk_at "my_room"); (case a => walk_at "my_lat"); (case i => walk_at "my_ints"); (case z => walk_at "my_len")); intro h' tk' G'; (with_reducible rename News _ _ _ _ => N1); (with_reducible rename Fr _ _ _ _ => F1); (have N' := news_grow N1 G'); (have F' := fr_grow F1 G'); (clear N1 F1 G')))
local macro_rules | `(tactic| walk_at "binaryOp Add ref ref") => `(tactic| (k_here; k_dflt (refine' add_I ?F ?N ?a ?b ?i ?j ?e ?_ ?z; (case F => k_asm); (case N => k_asm); (case a => walk_at "my_list"); (case b => walk_at "my_list"); (case i => walk_at "my_ints"); (case j => walk_at "my_ints"); (case e => first | assumption | rfl); (case z => walk_at "my_len")); intro D' ws' h' F' N' l1 i'; (have il' := ints_len i'); (try k_lt l1)))
local macro_rules | `(tactic| walk_at "compareOp NotEq ref ref") => `(tactic| (k_here; k_dflt (refine' ne_same ?a ?b ?i ?j ?u ?e ?_; (case a => walk_at "my_list"); (case b => walk_at "my_list"); (case i => walk_at "my_ints"); (case j => walk_at "my_ints"); (case u => walk_at "my_room"); (case e => first | assumption | rfl))))

local macro_rules | `(tactic| walk_at "my_ap") => `(tactic| first | with_reducible assumption | exact Apart.symm (by with_reducible assumption) | (refine Apart.of ?_; omega))
local macro_rules | `(tactic| walk_at "k_sub") => `(tactic| repeat' (first | exact List.forall_mem_nil _ | refine List.forall_mem_cons.mpr ⟨by k_mem, ?_⟩))
local macro_rules | `(tactic| walk_at "pyIter ref") => `(tactic| (k_here; refine Stop.of ?_))
local macro_rules | `(tactic| walk_at "eval ListComp") => `(tactic| (k_here; refine Stop.of ?_))
set_option maxRecDepth 100000 in
set_option maxHeartbeats 8000000 in
theorem turn {w : World} {dp un : Nat} {gd : Option (List Code)} {h₀ : Heap} {L fa : Addr} {cd : Value} {s : Shared} {E : Value → Shared → Prop} {Post : Flow → Shared → Prop}
    {h : Heap} {tk T0 i : Nat} {ov xs sv tv0 tv1 tv2 dv cv : List Value} {os ns on nn zs dl dl' ea er z0 z1 z2 : List Int} {o B b g0 g1 g2 : Int} {an : Nat} {to tB tA : Tok} {m : Str → Option Value}
    {I ca cs ro rs rc rt r0 r1 r2 rd ai : Addr} {oI oca ocs : Obj} {n1 n2 n3 n4 n5 n6 n7 n8 n9 : Nat}
    (C₀ : Cx w h₀) (Bl : Below (Ar dp un (some []) gd) h₀ [] h₀) (hdp : dp + 25 < recursionLimit) (hun : un + 300 < cLine) (hE : PassesOwn (model PP w) ((Ar dp un (some []) gd).deeper (lawEnv L fa cd)) (lawEnv L fa cd) E)
    -- the orders
    (hi : i < 5) (hov : IntsAre ov os) (hov5 : os.length = 5) (hT1 : ∀ (p : Int) (u : Nat), Value.int p u ∈ ov → u ≠ 0 ∧ u < T0) (hT2 : ∀ (p : Int) (u : Nat) (q : Int), Value.int p u ∈ ov → Value.int q u ∈ ov → p = q)
    (hvi : ov[i]? = some (.int o to)) (her : (os.take i).reverse = er)
    -- the state
    (hx : IntsAre xs ns) (hxm : ∀ v ∈ xs, v ∈ ov) (hs : IntsAre sv zs) (hd : IntsAre dv dl) (h0 : IntsAre tv0 z0) (h1 : IntsAre tv1 z1) (h2 : IntsAre tv2 z2) (hcv : cv[((i : Nat) : Int).toNat]? = some (.ref ai)) (hcl : cv.length = i + 1)
    (hzl : zs.length = i + 1) (hz0 : z0.length = i + 1) (hz1 : z1.length = i + 1) (hz2 : z2.length = i + 1) (hnl : ns.length < 20) (hdl : dl.length < 20) (hza : zs[((i : Nat) : Int).toNat]? = some (an : Int))
    -- what the turn shows
    (hon : ns ++ [o] = on) (htl : tail on (B - 1) ≤ on.length) (hnn : on ++ (on.take (on.length - tail on (B - 1))).reverse = nn) (hg : grown zs er o 1 = b) (hab : (an : Int) ≤ b ∧ b < 40)
    (hdl' : dl ++ (List.range (b - an).toNat).map (fun (k : Nat) => (an : Int) + (k : Int) + 1 - b + an) = dl') (hea : (ovl on).map Int.ofNat = ea) (hto : (ovl nn).map Int.ofNat = dl')
    (c1 : nn = nn.reverse) (c2 : nn.take an = ns) (c3 : nn.take on.length = on) (c4 : ea = dl'.take on.length)
    (k0 : ((nn.count (B + 0) : Nat) : Int) = g0) (k1 : ((nn.count (B + 1) : Nat) : Int) = g1) (k2 : ((nn.count (B + 2) : Nat) : Int) = g2)
    (q0 : grown z0 er o (if o = B + 0 then 1 else 0) = g0) (q1 : grown z1 er o (if o = B + 1 then 1 else 0) = g1) (q2 : grown z2 er o (if o = B + 2 then 1 else 0) = g2)
    -- the ledger
    (F : Fr h₀ L h m) (N : News h₀ L h [(I, oI), (ca, oca), (cs, ocs), (ro, listOf ov.toArray n1), (rs, listOf sv.toArray n2), (rc, listOf cv.toArray n3), (rt, listOf [Value.ref r0, Value.ref r1, Value.ref r2].toArray n4), (r0, listOf tv0.toArray n5), (r1, listOf tv1.toArray n6), (r2, listOf tv2.toArray n7), (rd, listOf dv.toArray n8), (ai, listOf xs.toArray n9)])
    (hca : ca = L + 2) (hcs : cs = L + 1) (hoca : oca.data = .cell (some (.int (i : Nat) tA))) (hocs : ocs.data = .cell (some (.ref rs)))
    (m1 : m (Str.ofString "base") = some (.int B tB)) (m2 : m (Str.ofString "orders") = some (.ref ro)) (m3 : m (Str.ofString "closed") = some (.ref rc)) (m4 : m (Str.ofString "tallies") = some (.ref rt)) (m5 : m (Str.ofString "due") = some (.ref rd))
    (p0 : Apart I ca) (p1 : Apart I cs) (p2 : Apart I ro) (p3 : Apart I rs) (p4 : Apart I rc) (p5 : Apart I rt) (p6 : Apart I r0) (p7 : Apart I r1) (p8 : Apart I r2) (p9 : Apart I rd) (p10 : Apart I ai) (p11 : Apart ca cs) (p12 : Apart ca ro) (p13 : Apart ca rs) (p14 : Apart ca rc) (p15 : Apart ca rt) (p16 : Apart ca r0) (p17 : Apart ca r1) (p18 : Apart ca r2) (p19 : Apart ca rd) (p20 : Apart ca ai) (p21 : Apart rs cs) (p22 : Apart rs ro) (p23 : Apart rs rc) (p24 : Apart rs rt) (p25 : Apart rs r0) (p26 : Apart rs r1) (p27 : Apart rs r2) (p28 : Apart rs rd) (p29 : Apart rs ai) (p30 : Apart rc cs) (p31 : Apart rc ro) (p32 : Apart rc rt) (p33 : Apart rc r0) (p34 : Apart rc r1) (p35 : Apart rc r2) (p36 : Apart rc rd) (p37 : Apart rc ai) (p38 : Apart r0 cs) (p39 : Apart r0 ro) (p40 : Apart r0 rt) (p41 : Apart r0 r1) (p42 : Apart r0 r2) (p43 : Apart r0 rd) (p44 : Apart r0 ai) (p45 : Apart r1 cs) (p46 : Apart r1 ro) (p47 : Apart r1 rt) (p48 : Apart r1 r2) (p49 : Apart r1 rd) (p50 : Apart r1 ai) (p51 : Apart r2 cs) (p52 : Apart r2 ro) (p53 : Apart r2 rt) (p54 : Apart r2 rd) (p55 : Apart r2 ai)
    (htk : T0 ≤ tk)
    (fin : ∀ h' tk' m' xs' sv' tv0' tv1' tv2' dv' cv' rd' ai' n2' n3' n5' n6' n7' n8' n9', IntsAre xs' nn → (∀ v ∈ xs', v ∈ ov) → IntsAre sv' (zs ++ [b]) → IntsAre dv' dl' → IntsAre tv0' (z0 ++ [g0]) → IntsAre tv1' (z1 ++ [g1]) → IntsAre tv2' (z2 ++ [g2]) → cv' = cv ++ [Value.ref ai'] → T0 ≤ tk' →
      Fr h₀ L h' m' → News h₀ L h' [(I, oI), (ca, oca), (cs, ocs), (ro, listOf ov.toArray n1), (rs, listOf sv'.toArray n2'), (rc, listOf cv'.toArray n3'), (rt, listOf [Value.ref r0, Value.ref r1, Value.ref r2].toArray n4), (r0, listOf tv0'.toArray n5'), (r1, listOf tv1'.toArray n6'), (r2, listOf tv2'.toArray n7'), (rd', listOf dv'.toArray n8'), (ai', listOf xs'.toArray n9')] →
      m' (Str.ofString "base") = some (.int B tB) → m' (Str.ofString "orders") = some (.ref ro) → m' (Str.ofString "closed") = some (.ref rc) → m' (Str.ofString "tallies") = some (.ref rt) → m' (Str.ofString "due") = some (.ref rd') →
      Apart I rd' ∧ Apart I ai' ∧ Apart ca rd' ∧ Apart ca ai' ∧ Apart rs rd' ∧ Apart rs ai' ∧ Apart rc rd' ∧ Apart rc ai' ∧ Apart r0 rd' ∧ Apart r0 ai' ∧ Apart r1 rd' ∧ Apart r1 ai' ∧ Apart r2 rd' ∧ Apart r2 ai' → Post .next { s with heap := h', toks := tk' }) :
    wpAny (model PP w) ((Ar dp un (some []) gd).deeper (lawEnv L fa cd)) (execs lawTurn (lawEnv L fa cd)) Post E { s with heap := h, toks := tk } := by
  have hio : IntsAre (xs ++ [Value.int o to]) on := hon ▸ hx.append (.cons _ _ .nil)
  have hol : on.length = ns.length + 1 := by rw [← hon]; simp
  have hnl2 : nn.length ≤ 2 * on.length := by rw [← hnn]; simp only [List.length_append, List.length_reverse, List.length_take]; omega
  have hie : IntsAre (ov.take i).reverse er := her ▸ (hov.take i).reverse
  have hel : er.length = i := by rw [← her, List.length_reverse, List.length_take]; omega
  have hvm : Value.int o to ∈ ov := List.mem_of_getElem? hvi
  have hto0 : to ≠ 0 := (hT1 o to hvm).1
  have hTk : TokOk o to (ov.take i).reverse := fun p t hp => by
    have hp' := List.mem_of_mem_take (List.mem_reverse.mp hp)
    exact ⟨(hT1 p t hp').1, fun e => by subst e; exact hT2 p t o hp' hvm⟩
  have hxo : ∀ v ∈ xs ++ [Value.int o to], v ∈ ov := fun v hv => (List.mem_append.mp hv).elim (hxm v) fun h => by rw [List.mem_singleton.mp h]; exact hvm
  have hzb1 : (zs ++ [b])[((i : Nat) : Int).toNat]? = some (an : Int) := first_at hza _
  have hzb2 : (zs ++ [b])[(((i : Nat) : Int) + 1).toNat]? = some b := last_at hzl _
  have hell : ea.length = on.length := by rw [← hea, List.length_map, ovl_len]
  have hdll : dl'.length = nn.length := by rw [← hto, List.length_map, ovl_len]
  have hxl := ints_len hx
  have hsl := ints_len hs
  have hdl0 := ints_len hd
  have ho5 := ints_len hov
  have G1 := fr_known (fr_known (fr_known (fr_known (fr_known F m1) (x := Str.ofString "orders") (by exact m2)) (x := Str.ofString "closed") (by exact m3)) (x := Str.ofString "tallies") (by exact m4)) (x := Str.ofString "due") (by exact m5)
  clear F
  subst hca hcs
  have X := C₀.X
  obtain ⟨mean, mg, mb, T⟩ := C₀.T
  dsimp only [lawEnv] at *
  conv in (lawTurn) => whnf
  conv in (lawScope) => whnf
  k_steps
  rename News _ _ _ _ => NA
  rename Fr _ _ _ _ => FA
  refine Stop.mk ?_
  refine' ListComp_rangeT (a := (an : Int)) (n := (b - an).toNat) FA NA (fun k ys _ => IntsAre ys ((List.range k).map fun (k : Nat) => (an : Int) + (k : Int) + 1 - b + an)) (fun _ _ _ _ h _ => h) rfl (by rw [sizeLine_eq]; omega) ?hclos (by decide) rfl (by decide) rfl ?hit ?elts ?done
  case hclos => with_unfolding_all rfl
  case hit =>
    k_steps
    rename IsRange _ _ _ _ _ _ _ _ => hR
    rename News _ _ _ _ => NA
    rename Fr _ _ _ _ => FA
    exact Stop.mk ⟨_, b, _, _, _, _, _, rfl, rfl, hR, by omega, by omega, by omega, by omega, rfl, FA, NA, .nil⟩
  case elts =>
    intro C oC pD pI k tv ys s₃ m₃ E' hk hJ hns hmk F₃ N₃
    obtain ⟨hh₃, g₃, d₃, tk₃, os₃⟩ := s₃
    dsimp only at F₃ N₃ hJ
    clear NA FA
    k_steps
    refine EltP.mk ?_ F₃ N₃ (fun p hp => hp)
    rw [List.range_succ, List.map_append]
    exact hJ.append (.cons _ _ .nil)
  case done =>
    intro D ys k h' tk' hJ F' N'
    clear NA FA
    have hyl : ys.length = (b - an).toNat := by rw [ints_len hJ]; simp
    k_steps
    refine Stop.mk ?_
    k_steps
    refine Stop.mk ?_
    rename IsRange _ _ _ _ _ _ _ _ => hR
    rename News _ _ _ _ => NA
    rename Fr _ _ _ _ => FA
    rename IntsAre _ nn => hxn
    rename (∀ v, v ∈ _ → v ∈ xs ++ [Value.int o to]) => hm'
    have hcl' : (cv ++ [Value.ref ai]).length = i + 2 := by simp; omega
    refine' rest (s := s) (T0 := T0) (I := I) (oI := oI) (oca := oca) (ocs := ocs) (ro := ro) (rs := rs) (rc := rc) (rt := rt) (r0 := r0) (r1 := r1) (r2 := r2) (n1 := n1) (n4 := n4) (n5 := n5) (n6 := n6) (n7 := n7) C₀ Bl hdp hun ?hE hi hov hov5 hT1 hT2 (by exact hvi) her hxn (fun v hv => hxo v (hm' v hv)) h0 h1 h2 (by omega) hz0 hz1 hz2 k0 k1 k2 q0 q1 q2 hoca FA NA (by rfl) (by rfl) (by rfl) (by rfl) (by rfl) (by rfl) ?sub (last_at hcl _) (by rw [List.length_append]; show _ + 1 = _; omega) ?_ ?_ ?_ ?_ ?_ ?_ ?_ ?_ ?_ ?_ ?_ ?_ ?_ ?_ ?_ ?_ ?_ ?_ ?_ ?_ ?_ ?_ ?_ ?_ ?_ ?_ ?_ ?_ ?_ ?_ ?_ ?_ ?_ hR ?tk ?fin
    case hE => exact hE
    case sub => walk_at "k_sub"
    case tk => assumption
    case fin =>
      intro h' tk' m' tv0' tv1' tv2' n5' n6' n7' i0 i1 i2 ht F' N' b1 b2 b3 b4 b5 b6 _
      refine wpAny_execs_nil ?_
      refine' fin h' tk' m' _ _ tv0' tv1' tv2' _ _ _ _ _ _ n5' n6' n7' _ _ hxn (fun v hv => hxo v (hm' v hv)) ?hs ?hd i0 i1 i2 rfl ht F' (news_sub N' ?sub) b1 b2 b3 b4 b5 ?ap
      case sub => walk_at "k_sub"
      case hs => exact hs.append (.cons _ _ .nil)
      case hd => assumption
      case ap => exact ⟨by walk_at "my_ap", by walk_at "my_ap", by walk_at "my_ap", by walk_at "my_ap", by walk_at "my_ap", by walk_at "my_ap", by walk_at "my_ap", by walk_at "my_ap", by walk_at "my_ap", by walk_at "my_ap", by walk_at "my_ap", by walk_at "my_ap", by walk_at "my_ap", by walk_at "my_ap"⟩
    all_goals walk_at "my_ap"
end
section
open PySem.Calls PySem.Spec
local macro_rules | `(tactic| walk_at "mem_at") => `(tactic| repeat (first | exact List.Mem.head _ | apply List.Mem.tail))
theorem run0 (p : List Nat) : runN 0 [] initN p 0 = initN := by cases p <;> rfl
theorem tal0 (c : Nat) : tal initN c = [0] := by
  unfold tal; split
  · rfl
  · split <;> rfl
set_option maxRecDepth 100000 in
set_option maxHeartbeats 4000000 in
theorem loop {w : World} {dp un : Nat} {gd : Option (List Code)} {h₀ : Heap} {L fa : Addr} {cd : Value} {s : Shared} {E : Value → Shared → Prop} {Q : Flow → Shared → Prop} {px : Pos}
    {h : Heap} {tk T0 : Nat} {B b : Int} {ds p : List Nat} {f : Nat → Int} {tl : Nat → Nat} {ov : List Value} {tB t u v u0 u1 u2 u3 : Tok} {m : Str → Option Value} {news : List (Addr × Obj)} {v₀ : Option Value}
    {r ro rs rc rt r0 r1 r2 rd ai : Addr} {oca ocs : Obj} {n1 n4 k2 k3 k5 k6 k7 k8 k9 : Nat}
    (C₀ : Cx w h₀) (Bl : Below (Ar dp un (some []) gd) h₀ [] h₀) (hdp : dp + 25 < recursionLimit) (hun : un + 300 < cLine) (hE : PassesOwn (model PP w) ((Ar dp un (some []) gd).deeper (lawEnv L fa cd)) (lawEnv L fa cd) E)
    (W : Word B ds p f tl) (hov : IntsAre ov (p.map f)) (hT1 : ∀ (p : Int) (u : Nat), Value.int p u ∈ ov → u ≠ 0 ∧ u < T0) (hT2 : ∀ (p : Int) (u : Nat) (q : Int), Value.int p u ∈ ov → Value.int q u ∈ ov → p = q)
    (F : Fr h₀ L h m) (N : News h₀ L h news)
    (m1 : m (Str.ofString "base") = some (.int B tB)) (m2 : m (Str.ofString "orders") = some (.ref ro)) (m3 : m (Str.ofString "closed") = some (.ref rc)) (m4 : m (Str.ofString "tallies") = some (.ref rt)) (m5 : m (Str.ofString "due") = some (.ref rd))
    (hN : ∀ q ∈ [(L + 2, oca), (L + 1, ocs), (ro, listOf ov.toArray n1), (rs, listOf [Value.int 0 u0].toArray k2), (rc, listOf [Value.ref ai].toArray k3), (rt, listOf [Value.ref r0, Value.ref r1, Value.ref r2].toArray n4), (r0, listOf [Value.int 0 u1].toArray k5), (r1, listOf [Value.int 0 u2].toArray k6), (r2, listOf [Value.int 0 u3].toArray k7), (rd, listOf ([] : List Value).toArray k8), (ai, listOf ([] : List Value).toArray k9)], q ∈ news)
    (hoca : oca.data = .cell v₀) (hocs : ocs.data = .cell (some (.ref rs)))
    (a0 : Apart (L + 2) (L + 1)) (a1 : Apart (L + 2) ro) (a2 : Apart (L + 2) rs) (a3 : Apart (L + 2) rc) (a4 : Apart (L + 2) rt) (a5 : Apart (L + 2) r0) (a6 : Apart (L + 2) r1) (a7 : Apart (L + 2) r2) (a8 : Apart rs (L + 1)) (a9 : Apart rs ro) (a10 : Apart rs rc) (a11 : Apart rs rt) (a12 : Apart rs r0) (a13 : Apart rs r1) (a14 : Apart rs r2) (a15 : Apart rc (L + 1)) (a16 : Apart rc ro) (a17 : Apart rc rt) (a18 : Apart rc r0) (a19 : Apart rc r1) (a20 : Apart rc r2) (a21 : Apart r0 (L + 1)) (a22 : Apart r0 ro) (a23 : Apart r0 rt) (a24 : Apart r0 r1) (a25 : Apart r0 r2) (a26 : Apart r1 (L + 1)) (a27 : Apart r1 ro) (a28 : Apart r1 rt) (a29 : Apart r1 r2) (a30 : Apart r2 (L + 1)) (a31 : Apart r2 ro) (a32 : Apart r2 rt)
    (b0 : Apart rs rd) (b1 : Apart rs ai) (b2 : Apart rc rd) (b3 : Apart rc ai) (b4 : Apart r0 rd) (b5 : Apart r0 ai) (b6 : Apart r1 rd) (b7 : Apart r1 ai) (b8 : Apart r2 rd) (b9 : Apart r2 ai) (d0 : Apart (L + 2) rd) (d1 : Apart (L + 2) ai)
    (hr : IsRange h r 0 b 1 t u v) (hb : b = 5) (htk : T0 ≤ tk)
    (fin : ∀ h' tk' m' news', Fr h₀ L h' m' → News h₀ L h' news' → Q .next { s with heap := h', toks := tk' }) :
    wpAny (model PP w) ((Ar dp un (some []) gd).deeper (lawEnv L fa cd)) (pyIter (.ref r)) (fun it s₂ => codeAny (model PP w) ((Ar dp un (some []) gd).deeper (lawEnv L fa cd)) (.forLoop (.Name (Str.ofString "at") px) it lawTurn [] (lawEnv L fa cd)) (BackTo PP w ((Ar dp un (some []) gd).deeper (lawEnv L fa cd)) (lawEnv L fa cd) Q E) s₂) E { s with heap := h, toks := tk } := by
  subst hb
  refine for_rangeC (c := L + 2) (oc := oca) (v₀ := v₀) (n := 5) (m := m) (news := [(L + 1, ocs), (ro, listOf ov.toArray n1), (rs, listOf [Value.int 0 u0].toArray k2), (rc, listOf [Value.ref ai].toArray k3), (rt, listOf [Value.ref r0, Value.ref r1, Value.ref r2].toArray n4), (r0, listOf [Value.int 0 u1].toArray k5), (r1, listOf [Value.int 0 u2].toArray k6), (r2, listOf [Value.int 0 u3].toArray k7), (rd, listOf ([] : List Value).toArray k8), (ai, listOf ([] : List Value).toArray k9)]) (fun i m news => ∃ (sv cv tv0 tv1 tv2 dv xs : List Value) (rd ai : Addr) (n2 n3 n5 n6 n7 n8 n9 : Nat), news = [(L + 1, ocs), (ro, listOf ov.toArray n1), (rs, listOf sv.toArray n2), (rc, listOf cv.toArray n3), (rt, listOf [Value.ref r0, Value.ref r1, Value.ref r2].toArray n4), (r0, listOf tv0.toArray n5), (r1, listOf tv1.toArray n6), (r2, listOf tv2.toArray n7), (rd, listOf dv.toArray n8), (ai, listOf xs.toArray n9)] ∧
      IntsAre xs ((runN 0 [] initN p i).row.map f) ∧ (∀ v ∈ xs, v ∈ ov) ∧ IntsAre sv (runN 0 [] initN p i).zs ∧ IntsAre dv (runN 0 [] initN p i).due ∧ IntsAre tv0 (tal (runN 0 [] initN p i) (tl 0)) ∧ IntsAre tv1 (tal (runN 0 [] initN p i) (tl 1)) ∧ IntsAre tv2 (tal (runN 0 [] initN p i) (tl 2)) ∧
      cv[i]? = some (.ref ai) ∧ cv.length = i + 1 ∧
      m (Str.ofString "base") = some (.int B tB) ∧ m (Str.ofString "orders") = some (.ref ro) ∧ m (Str.ofString "closed") = some (.ref rc) ∧ m (Str.ofString "tallies") = some (.ref rt) ∧ m (Str.ofString "due") = some (.ref rd) ∧
      Apart rs rd ∧ Apart rs ai ∧ Apart rc rd ∧ Apart rc ai ∧ Apart r0 rd ∧ Apart r0 ai ∧ Apart r1 rd ∧ Apart r1 ai ∧ Apart r2 rd ∧ Apart r2 ai)
    rfl hr (by decide) (by decide) (by decide) rfl rfl rfl hE F (news_sub N hN) hoca ?_ ?_ ?_ ?_
  · have ne : ∀ {x : Addr} {o : Obj}, Apart (L + 2) x → (x, o).1 ≠ L + 2 := fun a e => a e.symm
    intro q hq
    simp only [List.mem_cons, List.not_mem_nil, or_false] at hq
    rcases hq with rfl | rfl | rfl | rfl | rfl | rfl | rfl | rfl | rfl | rfl
    all_goals first | exact ne (by assumption)
  · rw [run0, tal0, tal0, tal0]
    exact ⟨_, _, _, _, _, _, _, rd, ai, k2, k3, k5, k6, k7, k8, k9, rfl, .nil, fun v hv => absurd hv (List.not_mem_nil), .cons _ _ .nil, .nil, .cons _ _ .nil, .cons _ _ .nil, .cons _ _ .nil, rfl, rfl, m1, m2, m3, m4, m5, b0, b1, b2, b3, b4, b5, b6, b7, b8, b9⟩
  · rintro i tA I m₁ news₁ h tk' oI oc hi ⟨sv, cv, tv0, tv1, tv2, dv, xs, rd, ai, n2, n3, n5, n6, n7, n8, n9, rfl, ix, ixm, isv, idv, i0, i1, i2, hcv, hcl, m1, m2, m3, m4, m5, b0, b1, b2, b3, b4, b5, b6, b7, b8, b9⟩ hoff hIc htk₁ hoc F₁ N₁
    rw [Int.zero_add] at hoc
    have hq : ∀ {x : Addr} {o : Obj}, (x, o) ∈ [(L + 1, ocs), (ro, listOf ov.toArray n1), (rs, listOf sv.toArray n2), (rc, listOf cv.toArray n3), (rt, listOf [Value.ref r0, Value.ref r1, Value.ref r2].toArray n4), (r0, listOf tv0.toArray n5), (r1, listOf tv1.toArray n6), (r2, listOf tv2.toArray n7), (rd, listOf dv.toArray n8), (ai, listOf xs.toArray n9)] → Apart I x ∧ Apart (L + 2) x := fun hm => ⟨fun e => (hoff _ hm).1 e.symm, fun e => (hoff _ hm).2 e.symm⟩
    have ht₁ : T0 ≤ tk' := Nat.le_trans htk htk₁
    have tf := step_facts W i hi
    have ln := runN_lens p i (by rw [W.len]; omega)
    have hip : i < p.length := by rw [W.len]; exact hi
    have hlv : ov.length = 5 := by rw [ints_len hov, List.length_map, W.len]
    obtain ⟨o', to, hoe, hon⟩ := ints_at hov (List.getElem?_eq_getElem (show i < ov.length by omega))
    rw [List.getElem?_map, List.getElem?_eq_getElem hip] at hon
    have hoe' : ov[i]? = some (.int (f p[i]) to) := by
      rw [List.getElem?_eq_getElem (show i < ov.length by omega), hoe, ← Option.some.inj hon]
    clear hoe hon
    generalize runN 0 [] initN p i = S at *
    generalize hS' : runN 0 [] initN p (i + 1) = S' at *
    generalize p[i] = d at *
    refine turn (i := i) (I := I) (oI := oI) (ca := L + 2) (oca := oc) (cs := L + 1) (ocs := ocs) (n1 := n1) (n2 := n2) (n3 := n3) (n4 := n4) (n5 := n5) (n6 := n6) (n7 := n7) (n8 := n8) (n9 := n9) C₀ Bl hdp hun hE hi hov (by rw [List.length_map, W.len]) hT1 hT2 hoe' (by rw [← List.map_take]) ix ixm isv idv i0 i1 i2 (by exact hcv) hcl
      ln.1 (ln.2 _) (ln.2 _) (ln.2 _) (by rw [List.length_map]; exact tf.hnl) tf.hdl2 tf.hza tf.hon tf.htl tf.hnn tf.hg tf.hab tf.hdl tf.hea tf.hto tf.c1 tf.c2 tf.c3 rfl
      (by exact (tf.tal 0 (by decide)).1) (by exact (tf.tal 1 (by decide)).1) (by exact (tf.tal 2 (by decide)).1) rfl rfl rfl F₁ N₁ rfl rfl hoc hocs m1 m2 m3 m4 m5 (Apart.of hIc) (hq (by walk_at "mem_at")).1 (hq (by walk_at "mem_at")).1 (hq (by walk_at "mem_at")).1 (hq (by walk_at "mem_at")).1 (hq (by walk_at "mem_at")).1 (hq (by walk_at "mem_at")).1 (hq (by walk_at "mem_at")).1 (hq (by walk_at "mem_at")).1 (hq (by walk_at "mem_at")).1 (hq (by walk_at "mem_at")).1 a0 a1 a2 a3 a4 a5 a6 a7 (hq (by walk_at "mem_at")).2 (hq (by walk_at "mem_at")).2 a8 a9 a10 a11 a12 a13 a14 b0 b1 a15 a16 a17 a18 a19 a20 b2 b3 a21 a22 a23 a24 a25 b4 b5 a26 a27 a28 a29 b6 b7 a30 a31 a32 b8 b9 ht₁ ?_
    rintro h' tk'' m' xs' sv' tv0' tv1' tv2' dv' cv' rd' ai' n2' n3' n5' n6' n7' n8' n9' jx jxm jsv jdv j0 j1 j2 rfl ht' F' N' e1 e2 e3 e4 e5 ⟨c0, c1, c2, c3, c4, c5, c6, c7, c8, c9, c10, c11, c12, c13⟩
    refine TurnC.next F' N' ?_ ⟨sv', _, tv0', tv1', tv2', dv', xs', rd', ai', n2', n3', n5', n6', n7', n8', n9', rfl, jx, jxm, by rw [tf.zs]; exact jsv, jdv, by rw [(tf.tal 0 (by decide)).2]; exact j0, by rw [(tf.tal 1 (by decide)).2]; exact j1, by rw [(tf.tal 2 (by decide)).2]; exact j2, ?_, by rw [List.length_append, hcl]; rfl, e1, e2, e3, e4, e5, c4, c5, c6, c7, c8, c9, c10, c11, c12, c13⟩
    · intro q hq
      simp only [List.mem_cons, List.not_mem_nil, or_false] at hq
      have old : ∀ {x : Addr} {o o' : Obj}, (x, o) ∈ [(L + 1, ocs), (ro, listOf ov.toArray n1), (rs, listOf sv.toArray n2), (rc, listOf cv.toArray n3), (rt, listOf [Value.ref r0, Value.ref r1, Value.ref r2].toArray n4), (r0, listOf tv0.toArray n5), (r1, listOf tv1.toArray n6), (r2, listOf tv2.toArray n7), (rd, listOf dv.toArray n8), (ai, listOf xs.toArray n9)] → (x, o').1 ≠ I ∧ (x, o').1 ≠ L + 2 := fun {x o o'} hm => hoff (x, o) hm
      rcases hq with rfl | rfl | rfl | rfl | rfl | rfl | rfl | rfl | rfl | rfl
      iterate 8 (· exact old (by walk_at "mem_at"))
      · exact ⟨fun e => c0 e.symm, fun e => c2 e.symm⟩
      · exact ⟨fun e => c1 e.symm, fun e => c3 e.symm⟩
    · rw [← hcl, List.getElem?_concat_length]
  · rintro m₁ news₁ h tk' _ _ F₁ N₁
    exact wpAny_execs_nil (fin _ _ _ _ F₁ N₁)
end
section
open PySem.Calls PySem.Spec
theorem ord_word {B : Int} {vs : List Value} {t : Nat} (h : OrdJ B 5 vs t) : ∃ ds p f tl, Word B ds p f tl ∧ IntsAre vs (p.map f) ∧ vs.length = 5 ∧ (∀ (p : Int) (u : Nat), Value.int p u ∈ vs → u ≠ 0 ∧ u < t) ∧ ∀ (p : Int) (u : Nat) (q : Int), Value.int p u ∈ vs → Value.int q u ∈ vs → p = q := by
  obtain ⟨⟨ds, h1, h2, h3⟩, h4, h5⟩ := h
  obtain ⟨p, f, tl, W⟩ := word_ex B (ds.map Int.toNat) (by simpa using h1) (fun d hd => by
    obtain ⟨x, hx, rfl⟩ := List.mem_map.mp hd
    have := h2 x hx
    omega)
  refine ⟨_, p, f, tl, W, ?_, by rw [ints_len h3, List.length_map, h1], h4, h5⟩
  have e : ds.map (B + ·) = p.map f := by
    rw [← W.map, List.map_map]
    refine List.map_congr_left fun x hx => ?_
    have := h2 x hx
    show B + x = B + ((x.toNat : Nat) : Int)
    omega
  rw [← e]; exact h3
theorem fill_body : ∀ w : World, hd.heap_39 w.params = hd.heap_39 w.params ∧ Challenge.rw_rw0007_01 = Challenge.rw_rw0007_01 := by k_fill; exact fun _ => ⟨rfl, rfl⟩

local macro_rules | `(tactic| k_ne) => `(tactic| first | (exact Apart.ne (by assumption)) | (exact Apart.ne (Apart.symm (by assumption))) | (refine neN ?_; (try dsimp only); omega))
local macro_rules | `(tactic| walk_at "my_list") => `(tactic| first | exact News.isList (by assumption) (by k_mem) | exact LAt.isList (LAt.grow (by assumption) (Fr.keep (by assumption))))
local macro_rules | `(tactic| walk_at "my_lat") => `(tactic| first | exact ⟨_, News.get (by assumption) (by k_mem)⟩ | exact LAt.grow (by assumption) (Fr.keep (by assumption)))
local macro_rules | `(tactic| walk_at "my_len") => `(tactic| ((try simp only [List.size_toArray, List.length_append, List.length_cons, List.length_nil, List.length_reverse, List.length_take, List.length_drop, List.length_map, sizeLine_eq, ovl_len, List.length_range]); omega))
local macro_rules | `(tactic| walk_at "my_ints") => `(tactic| first | assumption | exact IntsAre.nil | exact IntsAre.append (by walk_at "my_ints") (by walk_at "my_ints") | exact IntsAre.reverse (by walk_at "my_ints") | exact IntsAre.take (by walk_at "my_ints") _ | exact IntsAre.drop (by walk_at "my_ints") _ | exact IntsAre.cons _ _ (by walk_at "my_ints"))
local macro_rules | `(tactic| walk_at "my_cx") => `(tactic| exact Cx.grow (by assumption) (Fr.keep (by assumption)))
local macro_rules | `(tactic| walk_at "my_room") => `(tactic| ((try dsimp only [Around.deeper, Ar]); omega))
local macro_rules | `(tactic| walk_at "my_new") => `(tactic| ((with_reducible rename News _ _ _ _ => N1); (with_reducible rename Fr _ _ _ _ => F1); (have ap' := allAp_of N1 (by assumption)); dsimp only [AllAp] at ap'; (repeat (obtain ⟨_, ap'⟩ := ap')); (have N' := news_add F1 N1 (by assumption) (by assumption) (by assumption)); (have F' := fr_grow F1 (by assumption)); (clear N1 F1)))
local macro_rules | `(tactic| walk_at "execs cons") => `(tactic| (k_here; refine' execs_cons_tk (by assumption) ?_; intro tk' ht'; (try (rename (_ ≤ Shared.toks _) => hOld; clear hOld)); (try dsimp only)))
local macro_rules | `(tactic| walk_at "exec For Name Call cons nil") => `(tactic| (k_here; k_dflt (refine' For_tk (by assumption) (Stop.of ?_))))
local macro_rules | `(tactic| walk_at "eval Name") => `(tactic| (k_here; k_inBlock; k_dflt (refine' name_comp ?N ?m ?ns ?v ?_ ?k ?x ?d; (case k => rfl); (case x => rfl); (case d => decide); (case ns => assumption); (case v => assumption); (case N => k_asm); (case m => k_mem))))
local macro_rules | `(tactic| walk_at "eval Name") => `(tactic| (k_here; k_inBlock; k_dflt (refine' name_free ?N ?c ?m ?dd ?_ ?k ?x ?d; (case k => rfl); (case x => rfl); (case d => decide); (case c => rfl); (case N => k_asm); (case m => k_mem); (case dd => assumption))))
local macro_rules | `(tactic| walk_at "call builtin:len") => `(tactic| (k_here; (with_reducible show wpAny _ _ (call (Value.builtin _) [Value.ref _]) _ _ _); (with_unfolding_all refine' len_ints_fit ?k1 ?k2 ?k3 ?_; (case k1 => walk_at "my_list"); (case k2 => walk_at "my_ints"); (case k3 => walk_at "my_len"))))
local macro_rules | `(tactic| walk_at "subscriptTail Name Slice ref ref") => `(tactic| (k_here; (with_reducible show wpAny _ _ (subscriptTail _ (PySem.Expr.Slice none none (some _) _) (Value.ref _) (Value.ref _)) _ _ _); k_dflt (refine' sl_rev ?F ?N ?l ?k ?z ?_ ?s ?t; (case F => k_asm); (case N => k_asm); (case l => walk_at "my_list"); (case k => exact IsPart.int _ _); (case s => with_unfolding_all rfl); (case t => kmk_pure); (case z => walk_at "my_len")); intro D' h' F' N' l1; (try k_lt l1); (try k_sweep)))
local macro_rules | `(tactic| walk_at "subscriptTail Name Slice ref ref") => `(tactic| (k_here; (with_reducible show wpAny _ _ (subscriptTail _ (PySem.Expr.Slice none (some _) none _) (Value.ref _) (Value.ref _)) _ _ _); k_dflt (refine' sl_upto ?F ?N ?l ?k ?y ?z ?_ ?s ?t; (case F => k_asm); (case N => k_asm); (case l => walk_at "my_list"); (case k => exact IsPart.int _ _); (case s => with_unfolding_all rfl); (case t => kmk_pure); (case y => rfl); (case z => walk_at "my_len")); intro D' h' F' N' l1; (try k_lt l1); (try k_sweep)))
local macro_rules | `(tactic| walk_at "subscriptTail Name Slice ref ref") => `(tactic| (k_here; (with_reducible show wpAny _ _ (subscriptTail _ (PySem.Expr.Slice (some _) (some _) none _) (Value.ref _) (Value.ref _)) _ _ _); k_dflt (refine' sl_one ?F ?N ?l ?k ?kk ?x ?y ?v ?z ?_ ?s ?t; (case F => k_asm); (case N => k_asm); (case l => walk_at "my_list"); (case k => exact IsPart.int _ _); (case kk => exact IsPart.int _ _); (case s => with_unfolding_all rfl); (case t => kmk_pure); (case x => rfl); (case y => rfl); (case v => assumption); (case z => walk_at "my_len")); intro D' h' F' N' l1; (try k_lt l1); (try k_sweep)))
local macro_rules | `(tactic| walk_at "subscriptTail Name Name ref int") => `(tactic| (k_here; (with_reducible show wpAny _ _ (subscriptTail _ _ (Value.ref _) (Value.int _ _)) _ _ _); k_dflt (first
  | (refine' at_it ?l ?x0 ?x1 ?v ?_ ?s; (case l => walk_at "my_list"); (case x0 => omega); (case x1 => omega); (case v => first | assumption | exact last_at (by assumption) _ | exact first_at (by assumption) _); (case s => with_unfolding_all rfl))
  | (refine' at_num ?l ?i ?x0 ?x1 ?v ?_ ?s; (case l => walk_at "my_list"); (case i => walk_at "my_ints"); (case x0 => omega); (case x1 => omega); (case v => assumption); (case s => with_unfolding_all rfl); intro t'))))
local macro_rules | `(tactic| walk_at "subscriptTail Name BinOp ref int") => `(tactic| (k_here; (with_reducible show wpAny _ _ (subscriptTail _ _ (Value.ref _) (Value.int _ _)) _ _ _); k_dflt (first
  | (refine' at_it ?l ?x0 ?x1 ?v ?_ ?s; (case l => walk_at "my_list"); (case x0 => omega); (case x1 => omega); (case v => first | assumption | exact last_at (by assumption) _ | exact first_at (by assumption) _); (case s => with_unfolding_all rfl))
  | (refine' at_num ?l ?i ?x0 ?x1 ?v ?_ ?s; (case l => walk_at "my_list"); (case i => walk_at "my_ints"); (case x0 => omega); (case x1 => omega); (case v => assumption); (case s => with_unfolding_all rfl); intro t'))))
local macro_rules | `(tactic| walk_at "subscriptTail Subscript") => `(tactic| (k_here; (with_reducible show wpAny _ _ (subscriptTail _ _ (Value.ref _) (Value.int _ _)) _ _ _); k_dflt (first
  | (refine' at_it ?l ?x0 ?x1 ?v ?_ ?s; (case l => walk_at "my_list"); (case x0 => omega); (case x1 => omega); (case v => first | assumption | exact last_at (by assumption) _ | exact first_at (by assumption) _); (case s => with_unfolding_all rfl))
  | (refine' at_num ?l ?i ?x0 ?x1 ?v ?_ ?s; (case l => walk_at "my_list"); (case i => walk_at "my_ints"); (case x0 => omega); (case x1 => omega); (case v => assumption); (case s => with_unfolding_all rfl); intro t'))))
local macro_rules | `(tactic| walk_at "compareOp NotEq int int") => `(tactic| (k_here; with_reducible refine' ne_int_same ?_))
local macro_rules | `(tactic| walk_at "call builtin:list.append") => `(tactic| (k_here; k_dflt (refine' append_L ?F ?N ?U ?z ?_; (case F => k_asm); (case N => k_asm); (case U => k_upd); (case z => walk_at "my_len")); intro h' F' N'; (try k_sweep)))
local macro_rules | `(tactic| walk_at "call ref") => `(tactic| (k_here; k_dflt (refine' concat_call ?C ?d ?u ?a ?b ?z ?_; (case C => walk_at "my_cx"); (case d => walk_at "my_room"); (case u => walk_at "my_room"); (case a => walk_at "my_lat"); (case b => walk_at "my_lat"); (case z => walk_at "my_len")); intro r' h' tk' G' n' l'; obtain ⟨n1, o1⟩ := l'; walk_at "my_new"; clear G' n' o1))
local macro_rules | `(tactic| walk_at "call ref") => `(tactic| (k_here; k_dflt (refine' ovl_I ?C ?d ?u ?a ?i ?z ?e ?_; (case C => walk_at "my_cx"); (case d => walk_at "my_room"); (case u => walk_at "my_room"); (case a => walk_at "my_lat"); (case i => walk_at "my_ints"); (case e => assumption); (case z => walk_at "my_len")); intro r' vs' h' tk' G' n' l' i'; (have il' := ints_len i'); obtain ⟨n1, o1⟩ := l'; walk_at "my_new"; clear G' n' o1))
local macro_rules | `(tactic| walk_at "call ref") => `(tactic| (k_here; k_dflt (refine' closed_I ?C ?d ?u ?a ?i ?z ?t ?e ?_; (case C => walk_at "my_cx"); (case d => walk_at "my_room"); (case u => walk_at "my_room"); (case a => walk_at "my_lat"); (case i => walk_at "my_ints"); (case t => assumption); (case e => assumption); (case z => walk_at "my_len")); intro r' vs' h' tk' G' n' l' i' m'; (have il' := ints_len i'); obtain ⟨n1, o1⟩ := l'; walk_at "my_new"; clear G' n' o1))
local macro_rules | `(tactic| walk_at "call ref") => `(tactic| (k_here; k_dflt (refine' grown_I ?C ?B ?d ?u ?F ?N ?a ?i ?z ?b ?t ?zz ?zi ?zl ?e ?_; (case C => assumption); (case B => assumption); (case d => walk_at "my_room"); (case u => walk_at "my_room"); (case F => k_asm); (case N => k_asm); (case a => walk_at "my_lat"); (case i => walk_at "my_ints"); (case b => assumption); (case t => assumption); (case zz => walk_at "my_lat"); (case zi => walk_at "my_ints"); (case e => first | assumption | exact Giv.use (by assumption) (by assumption)); (case z => walk_at "my_len"); (case zl => walk_at "my_len")); intro h' tk' t' F' N'))
local macro_rules | `(tactic| walk_at "call ref") => `(tactic| (k_here; k_dflt (refine' whole_call ?C ?d ?u ?a ?i ?z ?_; (case C => walk_at "my_cx"); (case d => walk_at "my_room"); (case u => walk_at "my_room"); (case a => walk_at "my_lat"); (case i => walk_at "my_ints"); (case z => walk_at "my_len")); intro h' tk' G'; (with_reducible rename News _ _ _ _ => N1); (with_reducible rename Fr _ _ _ _ => F1); (have N' := news_grow N1 G'); (have F' := fr_grow F1 G'); (clear N1 F1 G')))
local macro_rules | `(tactic| walk_at "binaryOp Add ref ref") => `(tactic| (k_here; k_dflt (refine' add_I ?F ?N ?a ?b ?i ?j ?e ?_ ?z; (case F => k_asm); (case N => k_asm); (case a => walk_at "my_list"); (case b => walk_at "my_list"); (case i => walk_at "my_ints"); (case j => walk_at "my_ints"); (case e => first | assumption | rfl); (case z => walk_at "my_len")); intro D' ws' h' F' N' l1 i'; (have il' := ints_len i'); (try k_lt l1)))
local macro_rules | `(tactic| walk_at "compareOp NotEq ref ref") => `(tactic| (k_here; k_dflt (refine' ne_same ?a ?b ?i ?j ?u ?e ?_; (case a => walk_at "my_list"); (case b => walk_at "my_list"); (case i => walk_at "my_ints"); (case j => walk_at "my_ints"); (case u => walk_at "my_room"); (case e => first | assumption | rfl))))

local macro_rules | `(tactic| walk_at "my_ap") => `(tactic| first | with_reducible assumption | exact Apart.symm (by with_reducible assumption) | (refine Apart.of ?_; omega))
local macro_rules | `(tactic| walk_at "k_sub") => `(tactic| repeat' (first | exact List.forall_mem_nil _ | refine List.forall_mem_cons.mpr ⟨by k_mem, ?_⟩))
local macro_rules | `(tactic| walk_at "call ref") => `(tactic| (k_here; k_dflt (refine' orders_call ?C ?d ?u ?a ?i ?z ?_; (case C => walk_at "my_cx"); (case d => walk_at "my_room"); (case u => walk_at "my_room"); (case a => exact stays_list (Fr.keep (by assumption)) (by assumption)); (case i => walk_at "my_ints"); (case z => walk_at "my_len")); intro r' vs' h' tk' G' n' l' hO; (have le' := Nat.le_succ tk'); obtain ⟨ds, p, f, tl, hW, hoI, hol, hT1, hT2⟩ := ord_word hO; (have hpl' := Word.len hW); obtain ⟨n1, o1⟩ := l'; walk_at "my_new"; clear G' n' o1))
local macro_rules | `(tactic| walk_at "exec For Name Call cons nil") => `(tactic| (k_here; k_dflt (refine' For_tk (by assumption) (Stop.of ?_))))
local macro_rules | `(tactic| walk_at "pyIter ref") => `(tactic| (k_here; refine Stop.of ?_))

set_option maxRecDepth 100000 in
set_option maxHeartbeats 8000000 in
theorem body {w : World} {dp un : Nat} {gd : Option (List Code)} {h₀ : Heap} {L fa : Addr} {cd : Value} {s : Shared} {E : Value → Shared → Prop} {Q : Flow → Shared → Prop}
    {h : Heap} {tk : Nat} {xs : List Value} {ns : List Int} {m : Str → Option Value} {a : Addr} {oca ocs : Obj}
    (C₀ : Cx w h₀) (Bl : Below (Ar dp un (some []) gd) h₀ [] h₀) (hdp : dp + 25 < recursionLimit) (hun : un + 300 < cLine) (hE : PassesOwn (model PP w) ((Ar dp un (some []) gd).deeper (lawEnv L fa cd)) (lawEnv L fa cd) E)
    (hla : h₀.IsList a xs.toArray) (hi : IntsAre xs ns) (hsz : ns.length < 64)
    (F : Fr h₀ L h m) (N : News h₀ L h [(L + 2, oca), (L + 1, ocs)]) (hm : m (Str.ofString "script") = some (.ref a))
    (hoca : oca.data = .cell none) (hocs : ocs.data = .cell none)
    (fin : ∀ h' tk' m' news', Fr h₀ L h' m' → News h₀ L h' news' → Q (.ret (.bool true)) { s with heap := h', toks := tk' }) :
    wpAny (model PP w) ((Ar dp un (some []) gd).deeper (lawEnv L fa cd)) (execs lawBody (lawEnv L fa cd)) Q E { s with heap := h, toks := tk } := by
  have G1 := fr_known F hm
  clear F
  have hxl := ints_len hi
  have X := C₀.X
  obtain ⟨mean, mg, mb, T⟩ := C₀.T
  dsimp only [lawEnv] at *
  conv in (lawBody) => whnf
  conv in (lawScope) => whnf
  k_steps
  refine Stop.mk ?_
  k_steps
  refine Stop.mk ?_
  rename IsRange _ _ _ _ _ _ _ _ => hR
  rename News _ _ _ _ => NA
  rename Fr _ _ _ _ => FA
  rename Word _ _ _ _ _ => W
  rename IntsAre _ (List.map _ _) => hov
  have hpl := W.len
  refine' loop (s := s) (oca := oca) C₀ Bl hdp hun ?hE W hov (by assumption) (by assumption) FA NA ?m1 ?m2 ?m3 ?m4 ?m5 ?sub hoca ?hocs ?_ ?_ ?_ ?_ ?_ ?_ ?_ ?_ ?_ ?_ ?_ ?_ ?_ ?_ ?_ ?_ ?_ ?_ ?_ ?_ ?_ ?_ ?_ ?_ ?_ ?_ ?_ ?_ ?_ ?_ ?_ ?_ ?_ ?_ ?_ ?_ ?_ ?_ ?_ ?_ ?_ ?_ ?_ ?_ ?_ hR ?hb ?tk ?fin
  case hE => exact hE
  case m1 => exact rfl
  case m2 => exact rfl
  case m3 => exact rfl
  case m4 => exact rfl
  case m5 => exact rfl
  case hocs => assumption
  case sub => walk_at "k_sub"
  case hb => simp [hpl]
  case tk => assumption
  case fin =>
    intro h' tk' m' news' F' N' ht'
    clear FA NA
    k_steps
    all_goals trace_state
    exact fin _ _ _ _ F' N'
  all_goals walk_at "my_ap"
end
end Mine
open Mine
set_option maxRecDepth 100000 in
set_option maxHeartbeats 8000000 in
theorem PySem.Challenge.cw_rw0007_01_holds : PySem.Challenge.rw_rw0007_01.Holds := by
  refine hd ?_
  k_go0
  all_goals (try k_fold)
  rename News _ _ _ _ => N0
  rename Fr _ _ _ _ => F0
  rename Top _ _ _ _ _ _ => T0
  rename Heap.IsList _ _ _ => hL
  rename IntsAre _ _ => hI
  rename ¬ _ => hlen
  rename Frag.In _ _ => KX
  refine' body (dp := 1 + claimMargin) (un := 4) (gd := some []) ⟨KX, _, _, _, T0⟩ (below_caller (Top.heap T0)) (by decide) (by decide) ?hE hL hI ?hsz F0 N0 ?hm ?c1 ?c2 ?fin
  case hE => passes_own
  case hsz => omega
  case hm => rfl
  case c1 => assumption
  case c2 => assumption
  case fin =>
    intro h' tk' m' news' F' N'
    clear F0 N0
    k_steps
