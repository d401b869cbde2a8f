import PyProof.Rows.All
import Wide.All
import OpenK.AllK
import Wide.FinOn
import PyProof.Rows.FactsExc_IndexError
import PyProof.AutoListH
import PySem.Challenge.RW_fe0369_01
open PySem PySem.W PyProof.Rows PySem.Calls
set_option Elab.async false
set_option maxRecDepth 100000
set_option maxHeartbeats 8000000

-- part B1
namespace Mine
section
variable {prog : Program} {w : World} {A : Around} {s : Shared}

/-- a turn's end: a new ground, frame, ledger -/
def TurnEnd (G : Heap → Prop) (L I : Addr) (oI : Obj) (J : (Str → Option Value) → List (Addr × Obj) → Prop) (s s₂ : Shared) : Prop :=
  ∃ g h tk m news, s₂ = { s with heap := h, toks := tk } ∧ G g ∧ Fr g L h m ∧ News g L h ((I, oI) :: news) ∧ (∀ p ∈ news, p.1 ≠ I) ∧ J m news
def TurnPost (G : Heap → Prop) (L I : Addr) (oI : Obj) (J : (Str → Option Value) → List (Addr × Obj) → Prop) (s : Shared) (f : Flow) (s₂ : Shared) : Prop :=
  match f with
  | .next | .cont => TurnEnd G L I oI J s s₂
  | _ => False

theorem for_list {Q : Flow → Shared → Prop} {E : Value → Shared → Prop} {x : Str} {px : Pos} {body : List Stmt} {env : Env} {l : Addr} {vs : List Value} {c : Nat} {g : Heap} {m : Str → Option Value} {news : List (Addr × Obj)}
    (hh : A.handled = none) (hx : env.kindOf x = some .local)
    (hp : (env.scope.kind == .class || (env.scope.kind == .module && env.locals != env.globals)) = false)
    (G : Heap → Prop) (J : Nat → (Str → Option Value) → List (Addr × Obj) → Prop)
    (F : Fr g env.locals s.heap m) (N : News g env.locals s.heap news) (hg : G g) (h0 : J 0 m news)
    (hJl : ∀ i m news, J i m news → (l, listOf vs.toArray c) ∈ news)
    (turn : ∀ i v g₁ m₁ news₁ I oI h tk, vs[i]? = some v → G g₁ → J i m₁ news₁ → Fr g₁ env.locals h (fun y => if y = x then some v else m₁ y) → News g₁ env.locals h ((I, oI) :: news₁) → (∀ p ∈ news₁, p.1 ≠ I) →
      wpAny (model prog w) A (execs body env) (TurnPost G env.locals I oI (J (i + 1)) { s with heap := h, toks := tk }) (fun _ _ => False) { s with heap := h, toks := tk })
    (done : ∀ g₁ m₁ news₁ h tk, G g₁ → J vs.length m₁ news₁ → Fr g₁ env.locals h m₁ → News g₁ env.locals h news₁ → Q .next { s with heap := h, toks := tk }) :
    wpAny (model prog w) A (pyIter (.ref l)) (fun it s₂ => codeAny (model prog w) A (.forLoop (.Name x px) it body [] env) (fun r s' => match r with | .ok f => Q f s' | .error e => cameBackBy (model prog w) A env E e s') s₂) E s := by
  have hol : s.heap.get? l = some (listOf vs.toArray c) := (N _ (hJl _ _ _ h0)).1
  refine wpAny_pyIter_list (items := vs.toArray) ⟨_, hol, rfl, c, rfl⟩ ?_
  have N0 := News.push F N { cls := .type "list_iterator", data := .fields #[.ref l, .int 0 0] } rfl
  have hnew : ∀ p ∈ news, p.1 ≠ s.heap.objs.size := fun p hp e => absurd (Heap.lt_size (N p hp).1) (by rw [e]; exact Nat.lt_irrefl _)
  have gen : ∀ (I : Addr) (s₂ : Shared) (oI : Obj), (∃ tk, s₂ = { s with heap := s₂.heap, toks := tk }) → Fr g env.locals s₂.heap m → News g env.locals s₂.heap ((I, oI) :: news) → (∀ p ∈ news, p.1 ≠ I) → s₂.heap.IsListIter I l 0 →
      codeAny (model prog w) A (.forLoop (.Name x px) (.ref I) body [] env) (fun r s' => match r with | .ok f => Q f s' | .error e => cameBackBy (model prog w) A env E e s') s₂ := by
    intro I s₂ oI ⟨tk₀, hs₂⟩ F₂ N₂ hI hit
    refine codeAny_forLoop (fun k s' => ∃ g' h' tk' m' news' oI' i, s' = { s with heap := h', toks := tk' } ∧ G g' ∧ Fr g' env.locals h' m' ∧ News g' env.locals h' ((I, oI') :: news') ∧ (∀ p ∈ news', p.1 ≠ I) ∧ h'.IsListIter I l i ∧ J i m' news' ∧ i ≤ vs.length ∧ k = vs.length + 1 - i) ?_ (vs.length + 1)
      ⟨g, s₂.heap, tk₀, m, news, oI, 0, hs₂, hg, F₂, N₂, hI, hit, h0, Nat.zero_le _, rfl⟩
    rintro k s' ⟨g', h', tk', m', news', oI', i, rfl, hG, F', N', hI', hit', hJ, hi, rfl⟩
    have hl' : h'.IsList l vs.toArray := ⟨_, (N' _ (List.mem_cons_of_mem _ (hJl _ _ _ hJ))).1, rfl, c, rfl⟩
    have hIg : g'.get? I = none := (N' _ (List.mem_cons_self)).2.2
    have hIL : I ≠ env.locals := (N' _ (List.mem_cons_self)).2.1
    by_cases hlt : i < vs.length
    · refine wpAny_pyNext_list_item hit' hl' (x := vs[i]) (by simp [hlt]) fun h₁ hit₁ hs₁ => ?_
      obtain ⟨o₁, ho₁, _⟩ := id hit₁
      have F₁ : Fr g' env.locals h₁ m' := ⟨F'.ns.at' fun o e => (hs₁.2 _ (Ne.symm hIL)).trans e, fun b o e => (hs₁.2 _ fun q => by rw [q, hIg] at e; cases e).trans (F'.keep b o e), F'.above⟩
      have N₁ : News g' env.locals h₁ ((I, o₁) :: news') := fun p hp => by
        rcases List.mem_cons.mp hp with rfl | hp
        · exact ⟨ho₁, hIL, hIg⟩
        · have P := N' p (List.mem_cons_of_mem _ hp)
          exact ⟨(hs₁.2 _ (hI' p hp)).trans P.1, P.2⟩
      refine wpAny_assign_Name (wpAny_storeName_local hx F₁.ns (fun h₂ hn₂ hs₂ => ?_) hp)
      have F₂ := F₁.set hn₂ hs₂
      have N₂ := N₁.set hs₂
      refine wpAny_mono (turn i vs[i] g' m' news' I o₁ h₂ _ (by simp [hlt]) hG hJ F₂ N₂ hI') (fun f s₃ h₃ => ?_) fun _ _ e => e.elim
      have fin : TurnEnd G env.locals I o₁ (J (i + 1)) { s with heap := h₂, toks := tk' + 1 } s₃ → ∃ k₁, k₁ < vs.length + 1 - i ∧ ∃ g' h' tk' m' news' oI' i, s₃ = { s with heap := h', toks := tk' } ∧ G g' ∧ Fr g' env.locals h' m' ∧ News g' env.locals h' ((I, oI') :: news') ∧ (∀ p ∈ news', p.1 ≠ I) ∧ h'.IsListIter I l i ∧ J i m' news' ∧ i ≤ vs.length ∧ k₁ = vs.length + 1 - i := by
        rintro ⟨g₃, h₃, tk₃, m₃, news₃, e₃, G₃, F₃, N₃, I₃, J₃⟩
        refine ⟨vs.length + 1 - (i + 1), by omega, g₃, h₃, tk₃, m₃, news₃, o₁, i + 1, e₃, G₃, F₃, N₃, I₃, ?_, J₃, hlt, rfl⟩
        obtain ⟨o', ho', r'⟩ := hit₁
        rw [ho₁] at ho'
        cases ho'
        exact ⟨o₁, (N₃ _ List.mem_cons_self).1, r'⟩
      cases f with
      | next => exact fin h₃
      | cont => exact fin h₃
      | brk => exact h₃.elim
      | ret v => exact h₃.elim
    · have hin : i = vs.length := by omega
      subst hin
      refine wpAny_pyNext_list_end hh hit' hl' (by simp) fun h₁ he₁ => ?_
      refine wpAny_execs_nil ?_
      refine done g' m' news' h₁ _ hG hJ ⟨F'.ns.at' fun o e => he₁ _ o (Ne.symm hIL) e, fun b o e => he₁ b o (fun q => by rw [q, hIg] at e; cases e) (F'.keep b o e), F'.above⟩ fun p hp => ?_
      have P := N' p (List.mem_cons_of_mem _ hp)
      exact ⟨he₁ _ _ (hI' p hp) P.1, P.2⟩
  exact gen _ _ _ ⟨_, rfl⟩ (F.push _) N0 hnew ⟨_, Heap.get?_push_size _ rfl, rfl, rfl⟩
end
end Mine

-- part B2
namespace Mine
section
variable {prog : Program} {w : World} {A : Around} {E : Value → Shared → Prop} {s : Shared} {env : Env} {K : Frag} {x C fe fx : Addr} {ox : Obj} {od : Option Obj} {pos : Pos}

/-- behind a raise in a with's body: noted, landed, handed to the exit, which swallows it -/
def Swallowed (prog : Program) (w : World) (A : Around) (E : Value → Shared → Prop) (env : Env) (x fx : Addr) (Q : Flow → Shared → Prop) (e : Value) (s : Shared) : Prop :=
  wpAny (model prog w) A (noteFrame e env) (fun _ s₅ => wpAny (model prog w) A (setFlight e none) (fun _ s₆ =>
    wpAny (model prog w) A (typeOf e) (fun t s₇ => wpAny (model prog w) A (tracebackOf e) (fun tb s₈ =>
      wpAny (model prog w) A (run (.call (.ref fx) ⟨[.ref x, t, e, tb], []⟩) (some e)) (fun fl s₉ => fl = .ret (.bool true) ∧ wpAny (model prog w) A (setFlight e none) (fun _ s₁₀ => Q .next s₁₀) E s₉) E s₈) E s₇) E s₆) E s₅) E s

theorem kw_coreR {bdy : Sem Flow} {Q : Flow → Shared → Prop} (X : K.In s.heap) (I : InstAt s.heap x ox C od) (he : findIn K (.ref C) "__enter__" = some (some (.ref fe))) (hfe : isFn K (.ref fe) = true) (hx : findIn K (.ref C) "__exit__" = some (some (.ref fx))) (hfx : isFn K (.ref fx) = true)
    (h : wpAny (model prog w) A (call (.ref fe) [.ref x]) (fun _ s₂ => wpAny (model prog w) A bdy (fun f s₄ => wpAny (model prog w) A (call (.ref fx) [.ref x, .none, .none, .none]) (fun _ s₅ => Q f s₅) E s₄) (Swallowed prog w A E env x fx Q) s₂) E s) :
    wpAny (model prog w) A (withItem false pos env (pure (.ref x)) none bdy) Q E s := by
  obtain ⟨cd, hcd, ae⟩ := kw_along he
  obtain ⟨cd', hcd', ax⟩ := kw_along hx
  cases hcd.symm.trans hcd'
  obtain ⟨hh, g, d, tt, os⟩ := s
  have L1 : Looks (model prog w) hh (specialOnItsLine (.ref x) "__enter__") (some (.ref fe), cd.mro) := kw_special X I hcd ae
  have L2 : Looks (model prog w) hh (specialOnItsLine (.ref x) "__exit__") (some (.ref fx), cd.mro) := kw_special X I hcd ax
  have L3 : Looks (model prog w) hh (bindSpecial (.ref fe) (.ref x)) (.ref fe, [.ref x]) := bind_fn X _ (beq_iff_eq.mp hfe)
  have L4 : Looks (model prog w) hh (bindSpecial (.ref fx) (.ref x)) (.ref fx, [.ref x]) := bind_fn X _ (beq_iff_eq.mp hfx)
  have L5 : Looks (model prog w) hh (aMethodOfAnotherBuiltinTypeStops (.ref fe) cd.mro) () := Looks.of_pure rfl
  have L6 : Looks (model prog w) hh (aMethodOfAnotherBuiltinTypeStops (.ref fx) cd.mro) () := Looks.of_pure rfl
  unfold withItem
  refine wpAny_bind (wpAny_pure ?_)
  refine wpAny_bind (wpAny_standAt ?_)
  simp only [Bool.false_eq_true, if_false]
  kw_lk
  refine wpAny_mono h (fun v s₂ h₂ => ?_) fun _ _ z => z
  kw_lk
  refine wpAny_attempt (kw_held ?_)
  show wpAny _ _ bdy _ _ _
  refine wpAny_mono h₂ (fun f s₄ h₄ => ?_) fun e s₄ h₄ => ?_
  · kw_lk
    refine wpAny_mono h₄ (fun _ s₅ h₅ => ?_) fun _ _ z => z
    kw_lk
    exact h₅
  · dsimp only
    unfold Swallowed at h₄
    refine wpAny_bind (wpAny_mono h₄ (fun _ s₅ h₅ => ?_) fun _ _ z => z)
    refine wpAny_bind (wpAny_mono h₅ (fun _ s₆ h₆ => ?_) fun _ _ z => z)
    refine wpAny_bind (wpAny_standAt ?_)
    refine wpAny_holding ?_
    refine wpAny_bind (wpAny_mono h₆ (fun t s₇ h₇ => ?_) fun _ _ z => z)
    refine wpAny_bind (wpAny_mono h₇ (fun tb s₈ h₈ => ?_) fun _ _ z => z)
    unfold withItem.marked
    refine wpAny_bind (wpAny_bind (wpAny_mono h₈ (fun fl s₉ h₉ => ?_) fun _ _ z => z))
    obtain ⟨rfl, h₉⟩ := h₉
    refine wpAny_pure ?_
    refine wpAny_bind (m := pure (Value.bool true)) (wpAny_pure ?_)
    refine wpAny_bind (m := pure true) (wpAny_pure ?_)
    rw [if_pos rfl]
    refine wpAny_bind (wpAny_rule ?_)
    refine wpAny_bind (wpAny_mono h₉ (fun _ s₁₀ h₁₀ => ?_) fun _ _ z => z)
    exact wpAny_pure h₁₀
end
end Mine

-- part B3
namespace Mine
section
variable {M : Model} {A₀ : Around} {E : Value → Shared → Prop} {s' : Shared} {base g h : Heap} {outer : List Env} {L a e : Addr} {m : Str → Option Value} {name : Str} {scope : Scope} {cd : Value} {Q : Unit → Shared → Prop} {news : List (Addr × Obj)} {X : String}

theorem own_land (K : Below A₀ base outer g) (hx : Heap.NewExc h s'.heap e X) (F : Fr g L h m) (N : News g L h news)
    (hQ : ∀ h₂ g₂ oe vs T oT ts, KtsTurn (outer.filterMap (·.frame)) g g₂ → Fr g₂ L h₂ m → News g₂ L h₂ ((e, oe) :: (T, oT) :: news) → Below A₀ base outer g₂ →
      oe.cls = .type X → oe.data = .fields vs → vs[1]? = some (.ref T) → oT.data = .fields ts → ts[3]? = some .none → T ≠ e → (∀ p ∈ news, p.1 ≠ e ∧ p.1 ≠ T) → Q () { s' with heap := h₂ }) (hk : scope.kind = .function := by rfl) :
    wpAny M (A₀.deeper (envOf name scope L a cd)) (noteFrame (.ref e) (envOf name scope L a cd)) (fun _ s₅ => wpAny M (A₀.deeper (envOf name scope L a cd)) (setFlight (.ref e) none) Q E s₅) E s' := by
  have K' := K.push (name := name) (a := a) (cd := cd) F hk
  have hin : ∀ env ∈ (envOf name scope L a cd :: outer), ∀ b, env.frame = some b → b ∈ (envOf name scope L a cd :: outer).filterMap (·.frame) := fun env he b hb => List.mem_filterMap.mpr ⟨env, he, hb⟩
  have hBG : ∀ b o, h.get? b = some o → b ∉ (envOf name scope L a cd :: outer).filterMap (·.frame) → (hideAll h ((envOf name scope L a cd :: outer).filterMap (·.frame))).get? b = some o := fun b o q nm => hideAll_get _ q nm
  have hnf : ∀ q ∈ news, q.1 ∉ (envOf name scope L a cd :: outer).filterMap (·.frame) := fun q hq hm => by
    obtain ⟨env, he, hf⟩ := List.mem_filterMap.mp hm
    rcases List.mem_cons.mp he with rfl | he
    · exact (N q hq).2.1 (Option.some.inj hf).symm
    · obtain ⟨o, ho, _⟩ := (K.frames.mem (List.mem_filterMap.mpr ⟨env, he, hf⟩)).2
      rw [(N q hq).2.2] at ho; cases ho
  obtain ⟨ob, tp, he, hcls, hd⟩ := hx.there
  have hen : (hideAll h ((envOf name scope L a cd :: outer).filterMap (·.frame))).get? e = none := by
    cases q : (hideAll h ((envOf name scope L a cd :: outer).filterMap (·.frame))).get? e with
    | none => rfl
    | some o => have := of_hideAll _ q; rw [hx.new] at this; cases this
  have Fs : s'.heap.FunFrames (hideAll h ((envOf name scope L a cd :: outer).filterMap (·.frame))) (envOf name scope L a cd :: outer) :=
    (funFrames_hide K'.frames hin).of_keeps fun b o hb _ => ⟨o, hx.keeps b o hb, rfl⟩
  unfold noteFrame
  simp only [show (envOf name scope L a cd).frame = some L from rfl]
  refine wpAny_bind (wpAny_field he hd (x := .none) rfl ?_)
  rw [if_neg (by decide)]
  refine wpAny_entryW (a0 := tp) K'.stack Fs rfl he (fun b o hb => hx.keeps b o (of_hideAll _ hb)) hen hd (by show 1 < 6; decide) rfl fun h₁ hN => ?_
  obtain ⟨k1, k2, k3, k4⟩ := hN
  refine wpAny_landsW (s := { s' with heap := h₁ }) (L := L) ⟨k1, hen, k2, k3⟩ fun h₂ hfl hsm => ?_
  have up : h.UpToSlots h₂ := ((Heap.UpToSlots.of_keeps hx.keeps).trans k4).trans hsm
  obtain ⟨g₂, T₂, F₂, K₂⟩ := kts_ground K F hBG hfl.1 up
  obtain ⟨hfl_stays, _, _, oe, vs, T, oT, ts, he₂, ⟨hc₂, _⟩, hd₂, h1₂, hnT, hTe, hT₂, hdT, h3₂⟩ := hfl
  have geN : g.get? e = none := kts_none F.keep hx.new
  have gTN : g.get? T = none := kts_fresh F hBG hnT fun o ho mm => by
    obtain ⟨_, o', ho', hd'⟩ := K.frames.mem mm
    rw [ho] at ho'
    cases ho'
    obtain ⟨sl, hs⟩ := up _ _ (F.keep _ _ ho) hd'
    rw [hT₂] at hs
    cases hs
    exact hd' _ hdT
  have hdict : ∀ b ob' vs', h₂.get? b = some ob' → ob'.data = .fields vs' → b ≠ L := fun b ob' vs' hb hdb q => by
    obtain ⟨oL, es, ep, hL, hLd, _⟩ := F₂.ns
    rw [q, hL] at hb
    cases hb
    rw [hLd] at hdb
    cases hdb
  refine hQ h₂ g₂ oe vs T oT ts T₂ F₂ (fun q hq => ?_) K₂ (hc₂.trans hcls) hd₂ h1₂ hdT h3₂ hTe fun p hp => ⟨fun q => ?_, fun q => ?_⟩
  · rcases List.mem_cons.mp hq with rfl | hq
    · exact ⟨he₂, hdict _ _ _ he₂ hd₂, T₂.none_ _ geN⟩
    rcases List.mem_cons.mp hq with rfl | hq
    · exact ⟨hT₂, hdict _ _ _ hT₂ hdT, T₂.none_ _ gTN⟩
    · have hb := hBG _ _ (N q hq).1 (hnf q hq)
      exact ⟨hfl_stays _ _ hb, (N q hq).2.1, T₂.none_ _ (N q hq).2.2⟩
  · have := (N p hp).1
    rw [q, hx.new] at this
    cases this
  · have := hBG _ _ (N p hp).1 (hnf p hp)
    rw [q, hnT] at this
    cases this
end
end Mine

-- part B4
namespace Mine
theorem args_nested_3 (a b c : Value) : argsOk "issubclass.nested" ⟨[a, b, c], []⟩ := by unfold argsOk; kernel_rfl
theorem kind_nested : builtinKind "issubclass.nested" = none := by decide +kernel
theorem plain_nested : plainId "issubclass.nested" = true := by decide +kernel
theorem sub_self : isSubtype (.type "IndexError") (.type "IndexError") = pure true := by rw [isSubtype_type]; kernel_rfl
section
variable {prog : Program} {w : World} {A : Around} {E : Value → Shared → Prop} {s : Shared}
theorem nested_one {k : Int} {tk : Tok} {Q : Value → Shared → Prop} (h : Q (.bool true) s) : wpAny (model prog w) A (call (.builtin "issubclass.nested") [.type "IndexError", .type "IndexError", .int k tk]) Q E s := by
  refine call_function_entry kind_nested plain_nested F.entry_issubclass_nested (args_nested_3 _ _ _) ?_
  exact issubclass_nested_self rfl excClass_IndexError sub_self ⟨_, rfl, h⟩

theorem issub_tup {tp : Addr} {dd : Option Addr} {n : Nat} {sl : Array (Option Value)} {Q : Value → Shared → Prop} (htp : s.heap.get? tp = some ⟨.type "tuple", dd, .seq [Value.type "IndexError"].toArray n, sl⟩) (h : Q (.bool true) s) :
    wpAny (model prog w) A (call (.builtin "issubclass") [.type "IndexError", .ref tp]) Q E s := by
  refine call_issubclass (S := fun _ R s => s.heap.get? tp = some ⟨.type "tuple", dd, .seq [Value.type "IndexError"].toArray n, sl⟩ ∧ R (.ok (.ret (.bool true))) s) ?_ ⟨htp, h⟩
  intro prog w A R s hs
  refine issubclass_outer ?_
  obtain ⟨h, g, d, tt, os⟩ := s
  obtain ⟨htp, hq⟩ := hs
  obtain ⟨its, hits⟩ : ∃ l : List Value, l = [Value.type "IndexError"] := ⟨_, rfl⟩
  rw [← hits] at htp
  have hT2 : (⟨h, g, d, tt, os⟩ : Shared).TypeIs (.ref tp) "tuple" := ⟨_, htp, rfl⟩
  have f1 := F.isi_sub_tuple
  unfold Builtin.«issubclass.nested» rawInt
  repeat (any_goals (first | assumption | wp_step))
  refine wpAny_arrayLoop ?_
  simp only [Option.getD_some, List.toList_toArray]
  rw [hits, List.forIn_cons]
  refine wpAny_bind (wpAny_bind (nested_one ?_))
  refine wpAny_bind (m := truthy (.bool true)) (wpAny_pure ?_)
  rw [if_pos rfl]
  refine wpAny_bind (wpAny_pure (wpAny_pure ?_))
  exact wpAny_pure (wpAny_pure hq)
end
end Mine

-- part B5
namespace Mine
section
variable {prog : Program} {w : World} {A : Around} {E : Value → Shared → Prop} {s : Shared} {h₀ : Heap} {L D : Addr} {m : Str → Option Value} {news news' : List (Addr × Obj)} {n : Nat}
theorem pop_texts {us : List Value} {Q : Value → Shared → Prop} (hh : A.handled = none) (F : Fr h₀ L s.heap m) (N : News h₀ L s.heap news) (hm : (D, listOf us.toArray n) ∈ news) (U : Upd D (listOf us.toArray n) (listOf us.dropLast.toArray (n + 1)) news news') (hz : us.length ≤ sizeLine)
    (hok : ∀ h' v, us ≠ [] → Fr h₀ L h' m → News h₀ L h' news' → Q v { s with heap := h' })
    (hr : ∀ h' tk e, us = [] → Heap.NewExc s.heap h' e "IndexError" → E (.ref e) { s with heap := h', toks := tk }) :
    wpAny (model prog w) A (call (.builtin "list.pop") [.ref D]) Q E s := by
  rcases List.eq_nil_or_concat us with rfl | ⟨p, y, rfl⟩
  · have z := N _ hm
    refine call_meets PySem.F.slot_list_pop ⟨_, z.1, rfl⟩ PySem.F.entry_list_pop (PySem.F.args_list_pop_1 _) (PySem.AutoListH.list_pop_list_0 D _ n rfl) ⟨z.1, hh, fun h' tk e hx => hr h' tk e rfl hx⟩
  · rw [List.concat_eq_append] at *
    rw [List.dropLast_concat] at U
    refine kl_pop F N (p := p) (y := y) ?_ U (by simpa using hz) fun h' F' N' => hok h' y (by simp) F' N'
    simpa using kpa_last y p
theorem kw_in0R {K : Frag} {x C fe fx : Addr} {ox : Obj} {od : Option Obj} {env : Env} {pos py : Pos} {body : List Stmt} {Q : Flow → Shared → Prop} (F : Fr h₀ L s.heap m) (X₀ : K.In h₀) (I : InstAt s.heap x ox C od) (he : findIn K (.ref C) "__enter__" = some (some (.ref fe))) (hfe : isFn K (.ref fe) = true)
    (hx : findIn K (.ref C) "__exit__" = some (some (.ref fx))) (hfx : isFn K (.ref fx) = true)
    (h : wpAny (model prog w) A (call (.ref fe) [.ref x]) (fun _ s₂ => wpAny (model prog w) A (execs body env) (KwOut prog w A E x fx Q) (Swallowed prog w A E env x fx Q) s₂) E s) :
    KwIn prog w A E env pos none py body Q (.ref x) s :=
  kw_coreR (X₀.keeps F.keep) I he hfe hx hfx h
end
end Mine

-- part B6
namespace Mine
section
variable {prog : Program} {w : World} {A₀ : Around} {E : Value → Shared → Prop} {s' : Shared} {base g h : Heap} {outer : List Env} {L a e x fx : Addr} {m : Str → Option Value} {name : Str} {scope : Scope} {cd : Value} {Q : Flow → Shared → Prop} {news : List (Addr × Obj)}

/-- what stands when the exit is called: the exception, its traceback -/
structure Landed (e T : Addr) (oe oT : Obj) (vs ts : Array Value) : Prop where
  cls : oe.cls = .type "IndexError"
  dat : oe.data = .fields vs
  one : vs[1]? = some (.ref T)
  tdat : oT.data = .fields ts
  fl : ts[3]? = some .none
  ne : @Ne Nat T e

theorem swallow (K : Below A₀ base outer g) (hx : Heap.NewExc h s'.heap e "IndexError") (F : Fr g L h m) (N : News g L h news)
    (k : ∀ h₂ g₂ oe vs T oT ts tb, KtsTurn (outer.filterMap (·.frame)) g g₂ → Fr g₂ L h₂ m → News g₂ L h₂ ((e, oe) :: (T, oT) :: news) → Below A₀ base outer g₂ → Landed e T oe oT vs ts → (∀ p ∈ news, p.1 ≠ e ∧ p.1 ≠ T) →
      codeAny (model prog w) ((A₀.deeper (envOf name scope L a cd)).mark (some (.ref e))) (.call (.ref fx) ⟨[.ref x, .type "IndexError", .ref e, tb], []⟩)
        (fun r s₉ => match r with | .ok fl => fl = .ret (.bool true) ∧ wpAny (model prog w) (A₀.deeper (envOf name scope L a cd)) (setFlight (.ref e) none) (fun _ s₁₀ => Q .next s₁₀) E s₉ | .error y => E y s₉) { s' with heap := h₂ })
    (hk : scope.kind = .function := by rfl) : Swallowed prog w (A₀.deeper (envOf name scope L a cd)) E (envOf name scope L a cd) x fx Q (.ref e) s' := by
  unfold Swallowed
  refine own_land K hx F N (fun h₂ g₂ oe vs T oT ts KT F₂ N₂ K₂ c1 c2 c3 c4 c5 c6 hn => ?_) hk
  have he := (N₂ (e, oe) List.mem_cons_self).1
  have hT := (N₂ (T, oT) (List.mem_cons_of_mem _ List.mem_cons_self)).1
  refine wpAny_typeOf (T := "IndexError") ⟨oe, he, c1⟩ ?_
  have h3 : 3 < ts.size := (Array.getElem?_eq_some_iff.mp c5).1
  unfold tracebackOf
  refine wpAny_bind (wpAny_field he c2 c3 ?_)
  dsimp only
  refine wpAny_bind (wpAny_field hT c4 (x := ts[1]) (by simp) ?_)
  split
  · exact wpAny_pure (wpAny_run (k h₂ g₂ oe vs T oT ts _ KT F₂ N₂ K₂ ⟨c1, c2, c3, c4, c5, c6⟩ hn) (by intro q; cases q))
  · exact wpAny_pure (wpAny_run (k h₂ g₂ oe vs T oT ts _ KT F₂ N₂ K₂ ⟨c1, c2, c3, c4, c5, c6⟩ hn) (by intro q; cases q))

/-- behind the exit: the exception is no longer in flight -/
theorem unflight {M : Model} {A : Around} {s : Shared} {Q : Unit → Shared → Prop} {T : Addr} {oe oT : Obj} {vs ts : Array Value} (D : Landed e T oe oT vs ts) (F : Fr g L s.heap m) (N : News g L s.heap ((e, oe) :: (T, oT) :: news)) (hn : ∀ p ∈ news, p.1 ≠ e ∧ p.1 ≠ T)
    (k : ∀ h', Fr g L h' m → News g L h' news → Q () { s with heap := h' }) : wpAny M A (setFlight (.ref e) none) Q E s := by
  have he := N (e, oe) List.mem_cons_self
  have hT := N (T, oT) (List.mem_cons_of_mem _ List.mem_cons_self)
  refine wpAny_setFlight_none he.1 D.dat D.one hT.1 D.tdat (Array.getElem?_eq_some_iff.mp D.fl).1 (k _ ?_ fun p hp => ?_)
  · obtain ⟨oL, es, ep, hL, r⟩ := F.ns
    refine ⟨⟨oL, es, ep, (Heap.get?_update_ne _ _ _ _ hT.2.1.symm).trans hL, r⟩, fun b o hb => (Heap.get?_update_ne _ _ _ _ fun q => ?_).trans (F.keep b o hb), F.above⟩
    rw [q, hT.2.2] at hb
    cases hb
  · have P := N p (List.mem_cons_of_mem _ (List.mem_cons_of_mem _ hp))
    exact ⟨(Heap.get?_update_ne _ _ _ _ (hn p hp).2).trans P.1, P.2⟩
end
end Mine

-- part B7
namespace Mine
def resPush (R : List Str) (p : Str) : List Str := if p = Str.ofString ".." then R.dropLast else if p = Str.ofString "." then R else R ++ [p]
def resWalk (ws : List Str) : List Str := ws.foldl resPush []
/-- normalize_path_segments, as a function of its texts -/
def segsOf (ws : List Str) : List Str := if ws.getLast? = some (Str.ofString ".") ∨ ws.getLast? = some (Str.ofString "..") then resWalk ws ++ [Str.ofString ""] else resWalk ws

theorem strsAre_dropLast : ∀ {vs : List Value} {ys : List Str}, StrsAre vs ys → StrsAre vs.dropLast ys.dropLast
  | _, _, .nil => .nil
  | _, _, .cons _ _ .nil => .nil
  | _, _, .cons y t (.cons z u r) => .cons y t (strsAre_dropLast (.cons z u r))
theorem strsAre_nil {ys : List Str} (h : StrsAre [] ys) : ys = [] := by cases h; rfl
theorem res_step {ws : List Str} {i : Nat} {y : Str} (hy : ws[i]? = some y) : (ws.take (i + 1)).foldl resPush [] = resPush ((ws.take i).foldl resPush []) y := by
  rw [List.take_add_one, hy]; simp

theorem turn_close {G : Heap → Prop} {L I : Addr} {oI : Obj} {J : (Str → Option Value) → List (Addr × Obj) → Prop} {s : Shared} {h g : Heap} {tk : Nat} {m : Str → Option Value} {news news' : List (Addr × Obj)}
    (F : Fr g L h m) (N : News g L h news') (hG : G g) (hs : ∀ p ∈ (I, oI) :: news, p ∈ news') (hI : ∀ p ∈ news, p.1 ≠ I) (hJ : J m news) : TurnPost G L I oI J s .next { s with heap := h, toks := tk } :=
  ⟨g, h, tk, m, news, rfl, hG, F, fun p hp => N p (hs p hp), hI, hJ⟩
theorem fr_seg {g h : Heap} {L : Addr} {m₁ : Str → Option Value} {v : Value} {l r : Addr} (h1 : m₁ (Str.ofString "segments") = some (.ref l)) (h2 : m₁ (Str.ofString "resolved_path") = some (.ref r))
    (F : Fr g L h (fun y => if y = Str.ofString "seg" then some v else m₁ y)) :
    Fr g L h (fun y => if y = Str.ofString "seg" then some v else if y = Str.ofString "segments" then some (.ref l) else if y = Str.ofString "resolved_path" then some (.ref r) else m₁ y) := by
  have e : (fun y => if y = Str.ofString "seg" then some v else if y = Str.ofString "segments" then some (.ref l) else if y = Str.ofString "resolved_path" then some (.ref r) else m₁ y) = fun y => if y = Str.ofString "seg" then some v else m₁ y := by
    funext y
    by_cases q : y = Str.ofString "seg"
    · simp [q]
    · rw [if_neg q, if_neg q]
      by_cases q1 : y = Str.ofString "segments"
      · rw [if_pos q1, q1, h1]
      · rw [if_neg q1]
        by_cases q2 : y = Str.ofString "resolved_path"
        · rw [if_pos q2, q2, h2]
        · rw [if_neg q2]
  rw [e]; exact F
theorem fr_done {g h : Heap} {L : Addr} {m₁ : Str → Option Value} {l r : Addr} (h1 : m₁ (Str.ofString "segments") = some (.ref l)) (h2 : m₁ (Str.ofString "resolved_path") = some (.ref r))
    (F : Fr g L h m₁) :
    Fr g L h (fun y => if y = Str.ofString "segments" then some (.ref l) else if y = Str.ofString "resolved_path" then some (.ref r) else m₁ y) := by
  have e : (fun y => if y = Str.ofString "segments" then some (.ref l) else if y = Str.ofString "resolved_path" then some (.ref r) else m₁ y) = m₁ := by
    funext y
    by_cases q1 : y = Str.ofString "segments"
    · rw [if_pos q1, q1, h1]
    · rw [if_neg q1]
      by_cases q2 : y = Str.ofString "resolved_path"
      · rw [if_pos q2, q2, h2]
      · rw [if_neg q2]
  rw [e]; exact F
theorem strsAre_snoc {vs : List Value} {ys : List Str} {y : Str} {t : Tok} (h : StrsAre vs ys) : StrsAre (vs ++ [.str y t]) (ys ++ [y]) := kct_snoc h
end Mine

-- part B8
namespace Mine
section
variable {prog : Program} {w : World} {A : Around} {E : Value → Shared → Prop} {s : Shared} {l : Addr} {vs : List Value} {v : Value}
theorem truthy_nil {c : Nat} {h₀ : Heap} {L : Addr} {news : List (Addr × Obj)} {Q : Bool → Shared → Prop} (N : News h₀ L s.heap news) (hm : (l, listOf ([] : List Value).toArray c) ∈ news) (h : ∀ tk, Q false { s with toks := tk }) : wpAny (model prog w) A (truthy (.ref l)) Q E s :=
  wpAny_truthy_list (items := #[]) ⟨_, (N _ hm).1, rfl, c, rfl⟩ (by decide) (h _)
theorem truthy_cons {c : Nat} {h₀ : Heap} {L : Addr} {news : List (Addr × Obj)} {Q : Bool → Shared → Prop} (N : News h₀ L s.heap news) (hm : (l, listOf (vs ++ [v]).toArray c) ∈ news) (hz : vs.length ≤ 1000) (h : ∀ tk, Q true { s with toks := tk }) : wpAny (model prog w) A (truthy (.ref l)) Q E s :=
  wpAny_truthy_list (items := (vs ++ [v]).toArray) ⟨_, (N _ hm).1, rfl, c, rfl⟩ (by simp; omega) (by
    have e : (!(vs ++ [v]).toArray.isEmpty) = true := by simp
    rw [e]; exact h _)
theorem last_item {value slice : PySem.Expr} {u : Tok} {c : Nat} {h₀ : Heap} {L : Addr} {news : List (Addr × Obj)} {Q : Value → Shared → Prop} (N : News h₀ L s.heap news) (hm : (l, listOf (vs ++ [v]).toArray c) ∈ news) (h : Q v s)
    (hs : subscripted slice false (.ref l) (.int (-1) u) = operate [.ref l, .int (-1) u] (getItem (.ref l) (.int (-1) u)) := by with_unfolding_all rfl) :
    wpAny (model prog w) A (subscriptTail value slice (.ref l) (.int (-1) u)) Q E s := by
  have hl : s.heap.IsList l (vs ++ [v]).toArray := ⟨_, (N _ hm).1, rfl, c, rfl⟩
  refine tail_any hl.typeIs slot_list_getitem.lookup (wpAny_getItem_list_neg hl (by decide) (by simp; omega) (by decide) (x := v) ?_ h) hs
  have e : ((-1 : Int) + ((vs ++ [v]).toArray.size : Nat)).toNat = vs.length := by simp; omega
  rw [e]; simp
end
theorem is_type_none {M : Model} {A : Around} {E : Value → Shared → Prop} {s : Shared} {X : String} {Q : Value → Shared → Prop} (h : Q (.bool false) s) : wpAny M A (compareOp .Is (.type X) .none) Q E s := by
  refine PyProof.Rows.is_none_ne (by intro x; cases x) h
theorem strsAre_split {vs : List Value} {ws : List Str} (h : StrsAre vs ws) : (vs = [] ∧ ws = []) ∨ ∃ p y t ps, vs = p ++ [.str y t] ∧ ws = ps ++ [y] ∧ StrsAre p ps := by
  induction h with
  | nil => exact .inl ⟨rfl, rfl⟩
  | cons z u r ih =>
    rcases ih with ⟨rfl, rfl⟩ | ⟨p, y, t, ps, rfl, rfl, hp⟩
    · exact .inr ⟨[], z, u, [], rfl, rfl, .nil⟩
    · exact .inr ⟨_ :: p, y, t, z :: ps, rfl, rfl, .cons z u hp⟩
end Mine

-- part B9
namespace Mine
/-- what a call that may turn the frames beneath leaves to its caller -/
structure Back (A₀ : Around) (base : Heap) (outer : List Env) (K : Frag) (p : Program) (loose : List Str) (mean : ExcName → Option Value) (mg mb : Str → Option Value) (h₀ : Heap) (L : Addr) (m : Str → Option Value) (g h : Heap) (news : List (Addr × Obj)) : Prop where
  turn : KtsTurn (outer.filterMap (·.frame)) h₀ g
  fr : Fr g L h m
  news : News g L h news
  below : Below A₀ base outer g
  inn : K.In g
  top : Top p loose mean mg mb g
  dicts : KtsDicts (outer.filterMap (·.frame)) g

def NpsClaim (prog : Program) (w : World) (K : Frag) (p : Program) (loose : List Str) (mean : ExcName → Option Value) (mg mb : Str → Option Value) (f : Addr) : Prop :=
  ∀ (dp un : Nat) (gd : Option (List Code)) (cn : Str) (cs : Scope) (a : Addr) (ccd : Value) (outer : List Env) (A₀ : Around) (base h₀ : Heap) (L : Addr) (m : Str → Option Value) (s : Shared) (Q : Value → Shared → Prop)
    (l P : Addr) (oP : Obj) (vs : List Value) (ws : List Str) (c : Nat),
    Below A₀ base outer h₀ → Fr h₀ L s.heap m → K.In h₀ → News h₀ L s.heap [(l, listOf vs.toArray c), (P, oP)] → Top p loose mean mg mb h₀ → cs.kind = .function →
    K.In base → Top p loose mean mg mb base → KtsDicts (outer.filterMap (·.frame)) h₀ →
    StrsAre vs ws → vs.length ≤ 100 → dp + 10 < recursionLimit → un + 80 < cLine → @Ne Nat l P →
    (∀ r us c' g h tk, Back A₀ base outer K p loose mean mg mb h₀ L m g h [(r, listOf us.toArray c'), (l, listOf vs.toArray c), (P, oP)] → @LT.lt Nat _ l r → @LT.lt Nat _ P r → StrsAre us (segsOf ws) → Q (.ref r) { s with heap := h, toks := tk }) →
    wpAny (model prog w) (ktrTop dp un gd cn cs L a ccd [] outer) (call (.ref f) [.ref l]) Q (fun _ _ => False) s

theorem segsOf_nil : segsOf [] = [] := rfl
theorem segsOf_dot {ps : List Str} {y : Str} (h : ([Str.ofString ".", Str.ofString ".."].any fun x => x == y) = true) : segsOf (ps ++ [y]) = resWalk (ps ++ [y]) ++ [Str.ofString ""] := by
  have h' : y = Str.ofString "." ∨ y = Str.ofString ".." := by
    simp only [List.any_cons, List.any_nil, Bool.or_false, Bool.or_eq_true, beq_iff_eq] at h
    rcases h with h | h
    · exact .inl h.symm
    · exact .inr h.symm
  unfold segsOf
  rw [List.getLast?_concat, if_pos (by rcases h' with rfl | rfl <;> simp)]
theorem segsOf_plain {ps : List Str} {y : Str} (h : ([Str.ofString ".", Str.ofString ".."].any fun x => x == y) = false) : segsOf (ps ++ [y]) = resWalk (ps ++ [y]) := by
  have h' : ¬ (y = Str.ofString "." ∨ y = Str.ofString "..") := by
    rintro (rfl | rfl) <;> simp at h
  unfold segsOf
  rw [List.getLast?_concat, if_neg (by simpa using h')]
end Mine

-- part C1
namespace Mine
section
variable {prog : Program} {w : World} {A : Around} {s : Shared}
def WhileEnd (I : Nat → Shared → Prop) (n : Nat) (f : Flow) (s₃ : Shared) : Prop :=
  match f with
  | .next | .cont => ∃ m, @LT.lt Nat _ m n ∧ I m s₃
  | _ => False
theorem while_inv {test : PySem.Expr} {body : List Stmt} {pos : Pos} {env : Env} {Q : Flow → Shared → Prop} {E : Value → Shared → Prop} (I : Nat → Shared → Prop) (n : Nat) (h : I n s)
    (turn : ∀ n s, I n s → wpAny (model prog w) A (isTrue test env (eval test env)) (fun b s₂ => if b then wpAny (model prog w) A (execs body env) (WhileEnd I n) (fun _ _ => False) s₂ else Q .next s₂) (fun _ _ => False) s) :
    wpAny (model prog w) A (exec (.While test body [] pos) env) Q E s := by
  refine wpAny_While (codeAny_whileLoop I (fun n s hI => wpAny_mono (turn n s hI) (fun b s₂ h₂ => ?_) fun _ _ z => z.elim) n h)
  cases b with
  | false =>
    simp only [Bool.false_eq_true, if_false] at h₂ ⊢
    exact wpAny_execs_nil h₂
  | true =>
    simp only [if_true] at h₂ ⊢
    refine wpAny_mono h₂ (fun f s₃ h₃ => ?_) fun _ _ z => z.elim
    cases f with
    | next => exact h₃
    | cont => exact h₃
    | brk => exact h₃.elim
    | ret v => exact h₃.elim
end
theorem fr_two {g h : Heap} {L : Addr} {m₁ : Str → Option Value} {a b : Str} {v u : Value} (h1 : m₁ a = some v) (h2 : m₁ b = some u) (F : Fr g L h m₁) :
    Fr g L h (fun y => if y = a then some v else if y = b then some u else m₁ y) := by
  have e : (fun y => if y = a then some v else if y = b then some u else m₁ y) = m₁ := by
    funext y
    by_cases q1 : y = a
    · rw [if_pos q1, q1, h1]
    · rw [if_neg q1]
      by_cases q2 : y = b
      · rw [if_pos q2, q2, h2]
      · rw [if_neg q2]
  rw [e]; exact F

def StepsClaim (prog : Program) (w : World) (K : Frag) (p : Program) (loose : List Str) (mean : ExcName → Option Value) (mg mb : Str → Option Value) (f : Addr) (steps : Str → Str) : Prop :=
  ∀ (dp un : Nat) (gd : Option (List Code)) (cn : Str) (cs : Scope) (a : Addr) (ccd : Value) (outer : List Env) (A₀ : Around) (base h₀ : Heap) (L : Addr) (m : Str → Option Value) (s : Shared) (Q : Value → Shared → Prop)
    (P : Addr) (oP : Obj) (x : Str) (t : Tok),
    Below A₀ base outer h₀ → Fr h₀ L s.heap m → K.In h₀ → News h₀ L s.heap [(P, oP)] → Top p loose mean mg mb h₀ → cs.kind = .function →
    x.length ≤ 1000 → dp + 10 < recursionLimit → un + 80 < cLine →
    (∀ t' h tk, Fr h₀ L h m → News h₀ L h [(P, oP)] → Q (.str (steps x) t') { s with heap := h, toks := tk }) →
    wpAny (model prog w) (ktrTop dp un gd cn cs L a ccd [] outer) (call (.ref f) [.str x t]) Q (fun _ _ => False) s
def Stop (P : Prop) : Prop := P
theorem stop_here {P : Prop} (h : Stop P) : P := h
end Mine

-- part P1
namespace Mine
/-- a text's signs -/
def L (x : Str) : List Nat := x.cps.toList
theorem L_inj {a b : Str} (h : L a = L b) : a = b := Str.ext' (Array.toList_inj.mp h)
theorem L_iff {a b : Str} : a = b ↔ L a = L b := ⟨fun h => by rw [h], L_inj⟩
theorem L_beq {a b : Str} : (a == b) = decide (L a = L b) := by
  by_cases h : a = b
  · subst h; simp
  · rw [decide_eq_false (fun q => h (L_inj q))]; simpa using h
theorem L_len (x : Str) : x.length = (L x).length := by simp [L, Str.length]
theorem L_cat (a b : Str) : L (a ++ b) = L a ++ L b := by simp [L, Str.cps_append]
theorem L_0 : L (Str.ofString "") = [] := by decide +kernel
theorem L_s : L (Str.ofString "/") = [47] := by decide +kernel
theorem L_d : L (Str.ofString ".") = [46] := by decide +kernel
theorem L_dd : L (Str.ofString "..") = [46, 46] := by decide +kernel
theorem L_dds : L (Str.ofString "../") = [46, 46, 47] := by decide +kernel
theorem L_ds : L (Str.ofString "./") = [46, 47] := by decide +kernel
theorem L_sds : L (Str.ofString "/./") = [47, 46, 47] := by decide +kernel
theorem L_sd : L (Str.ofString "/.") = [47, 46] := by decide +kernel
theorem L_sdds : L (Str.ofString "/../") = [47, 46, 46, 47] := by decide +kernel
theorem L_sdd : L (Str.ofString "/..") = [47, 46, 46] := by decide +kernel
theorem s_lit : Str.ofString "/" = ⟨#[47]⟩ := by decide +kernel

theorem slice_to (x : Str) (k : Nat) : L (Txt.slice x none (some (k : Int))) = (L x).take k := by
  have hx : x.cps.toList.length = x.length := by simp [Str.length]
  by_cases h : k ≤ x.length
  · show L (StrLaws.sliceText x none (some (k : Int))) = _
    rw [StrLaws.sliceText_to ⟨by omega, by omega⟩]
    simp [L]
  · have e : Builtin.Str.strSliceIndices none (some (k : Int)) 1 x.length = Builtin.Str.strSliceIndices none (some (x.length : Int)) 1 x.length := by
      have a : ¬ ((k : Int) < 0) := by omega
      have b : ¬ ((x.length : Int) < 0) := by omega
      have c : min (k : Int) (x.length : Int) = x.length := by omega
      simp [Builtin.Str.strSliceIndices, a, b, c]
    show L (StrLaws.sliceText x none (some (k : Int))) = _
    have e2 : StrLaws.sliceText x none (some (k : Int)) = StrLaws.sliceText x none (some (x.length : Int)) := by unfold StrLaws.sliceText; rw [e]
    rw [e2, StrLaws.sliceText_to ⟨by omega, by omega⟩]
    have h1 : List.take k (L x) = L x := List.take_of_length_le (by show x.cps.toList.length ≤ k; omega)
    rw [h1]
    simp [L, Str.length]
    exact List.take_of_length_le (by simp)
theorem slice_from (x : Str) (k : Nat) : L (Txt.slice x (some (k : Int)) none) = (L x).drop k := by
  have hx : x.cps.toList.length = x.length := by simp [Str.length]
  by_cases h : k ≤ x.length
  · show L (StrLaws.sliceText x (some (k : Int)) none) = _
    rw [StrLaws.sliceText_from ⟨by omega, by omega⟩]
    show ((x.cps.toList.drop (k : Int).toNat).take ((x.cps.toList.length : Int) - k).toNat) = _
    have e : ((k : Int)).toNat = k := by omega
    rw [e]
    refine List.take_of_length_le ?_
    rw [List.length_drop]; omega
  · have e : Builtin.Str.strSliceIndices (some (k : Int)) none 1 x.length = Builtin.Str.strSliceIndices (some (x.length : Int)) none 1 x.length := by
      have a : ¬ ((k : Int) < 0) := by omega
      have b : ¬ ((x.length : Int) < 0) := by omega
      have c : min (k : Int) (x.length : Int) = x.length := by omega
      simp [Builtin.Str.strSliceIndices, a, b, c]
    show L (StrLaws.sliceText x (some (k : Int)) none) = _
    have e2 : StrLaws.sliceText x (some (k : Int)) none = StrLaws.sliceText x (some (x.length : Int)) none := by unfold StrLaws.sliceText; rw [e]
    rw [e2, StrLaws.sliceText_from ⟨by omega, by omega⟩]
    have h1 : List.drop k (L x) = [] := List.drop_eq_nil_of_le (by show x.cps.toList.length ≤ k; omega)
    rw [h1]
    simp [L, Str.length]

/-- where the last part of the text begins: max(rfind('/'), 0) -/
def cutAt (o : Str) : Int := if 0 > Txt.rfind o (Str.ofString "/") then 0 else Txt.rfind o (Str.ofString "/")
def stepT (g o : Str) : Str × Str :=
  if (Txt.slice g none (some 3) == Str.ofString "../") = true then (Txt.slice g (some 3) none, o)
  else if (Txt.slice g none (some 2) == Str.ofString "./") = true then (Txt.slice g (some 2) none, o)
  else if (Txt.slice g none (some 3) == Str.ofString "/./") = true then (Txt.slice g (some 2) none, o)
  else if (g == Str.ofString "/.") = true then (Str.ofString "/", o)
  else if (Txt.slice g none (some 4) == Str.ofString "/../") = true then (Txt.slice g (some 3) none, Txt.slice o none (some (cutAt o)))
  else if (g == Str.ofString "/..") = true then (Str.ofString "/", Txt.slice o none (some (cutAt o)))
  else if ([Str.ofString ".", Str.ofString ".."].any fun x => x == g) = true then (Str.ofString "", o)
  else if Txt.find3 g (Str.ofString "/") 1 < 0 then (Txt.slice g (some (g.length : Int)) none, o ++ Txt.slice g none (some (g.length : Int)))
  else (Txt.slice g (some (Txt.find3 g (Str.ofString "/") 1)) none, o ++ Txt.slice g none (some (Txt.find3 g (Str.ofString "/") 1)))

theorem find_at (g : Str) : (Txt.find3 g (Str.ofString "/") 1 < 0 ∧ ∀ v, 1 ≤ v → v < g.length → g.cps.getD v 0 ≠ 47) ∨
    ∃ k : Nat, Txt.find3 g (Str.ofString "/") 1 = (k : Int) ∧ 1 ≤ k ∧ k < g.length ∧ g.cps.getD k 0 = 47 ∧ ∀ v, 1 ≤ v → v < k → g.cps.getD v 0 ≠ 47 := by
  rw [s_lit]
  have hf : ∀ v, v < g.length → 1 ≤ v → fromIndex g.length 1 ≤ v := fun v hv h1 => by
    unfold fromIndex
    simp
    omega
  rcases StrLaws.find3_spec g 47 1 with ⟨h0, h1⟩ | ⟨k, h0, h1, h2, h3, h4⟩
  · exact .inl ⟨by rw [h0]; decide, fun v hv hl => h1 v (hf v hl hv) hl⟩
  · have h5 : 1 ≤ k := by
      unfold fromIndex at h1
      simp at h1
      omega
    exact .inr ⟨k, h0, h5, h2, h3, fun v hv hl => h4 v (hf v (by omega) hv) hl⟩
end Mine

-- part P2
namespace Mine
theorem take_ge {l t : List Nat} {k : Nat} (h : l.take k = t) (ht : t.length = k) : k ≤ l.length := by
  have := congrArg List.length h
  rw [List.length_take] at this
  omega
theorem sl_to_len (x : Str) (k : Nat) : (Txt.slice x none (some (k : Int))).length = min k x.length := by
  rw [L_len, slice_to, List.length_take, ← L_len]
theorem sl_from_len (x : Str) (k : Nat) : (Txt.slice x (some (k : Int)) none).length = x.length - k := by
  rw [L_len, slice_from, List.length_drop, ← L_len]
theorem stepT_less (g o : Str) (hg : g ≠ Str.ofString "") : (stepT g o).1.length < g.length ∧ (stepT g o).1.length + (stepT g o).2.length ≤ g.length + o.length := by
  have hpos : 0 < g.length := by
    rcases Nat.eq_zero_or_pos g.length with h | h
    · exact absurd (L_inj (by rw [L_0]; exact List.eq_nil_of_length_eq_zero (by rw [← L_len]; exact h))) hg
    · exact h
  have l1 : (Str.ofString "/").length = 1 := by rw [L_len, L_s]; rfl
  have l0 : (Str.ofString "").length = 0 := by rw [L_len, L_0]; rfl
  unfold stepT
  split
  · rename_i h
    rw [L_beq, decide_eq_true_eq, show (3 : Int) = ((3 : Nat) : Int) from rfl, slice_to, L_dds] at h
    have := take_ge h rfl
    rw [← L_len] at this
    have e := sl_from_len g 3
    simp only [show ((3 : Nat) : Int) = 3 from rfl] at e
    simp only [e]; omega
  split
  · rename_i h
    rw [L_beq, decide_eq_true_eq, show (2 : Int) = ((2 : Nat) : Int) from rfl, slice_to, L_ds] at h
    have := take_ge h rfl
    rw [← L_len] at this
    have e := sl_from_len g 2
    simp only [show ((2 : Nat) : Int) = 2 from rfl] at e
    simp only [e]; omega
  split
  · rename_i h
    rw [L_beq, decide_eq_true_eq, show (3 : Int) = ((3 : Nat) : Int) from rfl, slice_to, L_sds] at h
    have := take_ge h rfl
    rw [← L_len] at this
    have e := sl_from_len g 2
    simp only [show ((2 : Nat) : Int) = 2 from rfl] at e
    simp only [e]; omega
  split
  · rename_i h
    rw [L_beq, decide_eq_true_eq, L_sd] at h
    have : g.length = 2 := by rw [L_len, h]; rfl
    simp only [l1]; omega
  split
  · rename_i h
    rw [L_beq, decide_eq_true_eq, show (4 : Int) = ((4 : Nat) : Int) from rfl, slice_to, L_sdds] at h
    have := take_ge h rfl
    rw [← L_len] at this
    have e := sl_from_len g 3
    have e2 := Txt.slice_le o none (some (cutAt o))
    simp only [show ((3 : Nat) : Int) = 3 from rfl] at e
    simp only [e]; omega
  split
  · rename_i h
    rw [L_beq, decide_eq_true_eq, L_sdd] at h
    have : g.length = 3 := by rw [L_len, h]; rfl
    have e2 := Txt.slice_le o none (some (cutAt o))
    simp only [l1]; omega
  split
  · simp only [l0]; omega
  split
  · have e1 := sl_from_len g g.length
    have e2 := sl_to_len g g.length
    simp only [Str.length_append, e1, e2]; omega
  · rename_i h
    rcases find_at g with ⟨h1, _⟩ | ⟨k, h1, h2, h3, _⟩
    · exact absurd h1 h
    · rw [h1]
      have e1 := sl_from_len g k
      have e2 := sl_to_len g k
      simp only [Str.length_append, e1, e2]; omega

def StepsOk (prog : Program) (w : World) (K : Frag) (p : Program) (loose : List Str) (mean : ExcName → Option Value) (mg mb : Str → Option Value) (f : Addr) : Prop :=
  ∀ (dp un : Nat) (gd : Option (List Code)) (cn : Str) (cs : Scope) (a : Addr) (ccd : Value) (outer : List Env) (A₀ : Around) (base h₀ : Heap) (L : Addr) (m : Str → Option Value) (s : Shared) (Q : Value → Shared → Prop)
    (P : Addr) (oP : Obj) (x : Str) (t : Tok) (Inv : Str → Str → Prop),
    Below A₀ base outer h₀ → Fr h₀ L s.heap m → K.In h₀ → News h₀ L s.heap [(P, oP)] → Top p loose mean mg mb h₀ → cs.kind = .function →
    x.length ≤ 1000 → dp + 10 < recursionLimit → un + 80 < cLine →
    Inv x (Str.ofString "") → (∀ g o, g ≠ Str.ofString "" → Inv g o → Inv (stepT g o).1 (stepT g o).2) →
    (∀ o t' h tk, Inv (Str.ofString "") o → Fr h₀ L h m → News h₀ L h [(P, oP)] → Q (.str o t') { s with heap := h, toks := tk }) →
    wpAny (model prog w) (ktrTop dp un gd cn cs L a ccd [] outer) (call (.ref f) [.str x t]) Q (fun _ _ => False) s

theorem while_close {I : Nat → Shared → Prop} {n k : Nat} {s : Shared} (hk : k < n) (h : I k s) : WhileEnd I n .next s := ⟨k, hk, h⟩
end Mine

-- part C2
namespace Mine
/-- normalize_path, as a function of its text -/
def npath (x : Str) : Str :=
  if (x ≠ Str.ofString "" ∧ (L x).head? = some 47) then Str.ofString "/" ++ Txt.join (Str.ofString "/") (segsOf (Txt.split (Txt.slice x (some 1) none) (Str.ofString "/")))
  else Str.ofString "" ++ Txt.join (Str.ofString "/") (segsOf (Txt.split x (Str.ofString "/")))

def NpOk (prog : Program) (w : World) (K : Frag) (p : Program) (loose : List Str) (mean : ExcName → Option Value) (mg mb : Str → Option Value) (f : Addr) : Prop :=
  ∀ (dp un : Nat) (gd : Option (List Code)) (cn : Str) (cs : Scope) (a : Addr) (ccd : Value) (A₀ : Around) (base h₀ : Heap) (L : Addr) (m : Str → Option Value) (s : Shared) (Q : Value → Shared → Prop)
    (P : Addr) (oP : Obj) (x : Str) (t : Tok),
    Below A₀ base [] h₀ → Fr h₀ L s.heap m → K.In h₀ → News h₀ L s.heap [(P, oP)] → Top p loose mean mg mb h₀ → cs.kind = .function →
    K.In base → Top p loose mean mg mb base →
    x.length ≤ 90 → dp + 20 < recursionLimit → un + 100 < cLine →
    (∀ t' h tk, Fr h₀ L h m → News h₀ L h [(P, oP)] → Q (.str (npath x) t') { s with heap := h, toks := tk }) →
    wpAny (model prog w) (ktrTop dp un gd cn cs L a ccd [] []) (call (.ref f) [.str x t]) Q (fun _ _ => False) s
end Mine

-- part P3
namespace Mine
def wt (ws : List Str) : Nat := (ws.map (·.length)).sum
theorem wt_cons (x : Str) (r : List Str) : wt (x :: r) = x.length + wt r := rfl
theorem wt_append (a b : List Str) : wt (a ++ b) = wt a + wt b := by simp [wt]
theorem join_cons2 (sep x y : Str) (r : List Str) : Str.join sep (x :: y :: r) = x ++ sep ++ Str.join sep (y :: r) := rfl
theorem join_len (sep : Str) : ∀ ws : List Str, ws ≠ [] → (Str.join sep ws).length + sep.length = wt ws + ws.length * sep.length
  | [], h => absurd rfl h
  | [x], _ => by
    show x.length + sep.length = _
    simp [wt]
  | x :: y :: r, _ => by
    have ih := join_len sep (y :: r) (by simp)
    rw [join_cons2, wt_cons, Str.length_append, Str.length_append]
    have e : (x :: y :: r).length * sep.length = (y :: r).length * sep.length + sep.length := by
      rw [List.length_cons, Nat.succ_mul]
    omega
theorem split_ne (x : Str) : Txt.split x (Str.ofString "/") ≠ [] := by
  unfold Txt.split
  split
  · simp
  split
  · simp
  · rw [StrLaws.partsBetween_eq]
    obtain ⟨p, r, h⟩ := StrLaws.partsFrom_ne x (Str.ofString "/").length 0 (Builtin.Str.occurrences x (Str.ofString "/") 0 x.length (x.length + 1))
    rw [h]; simp
theorem split_wt (x : Str) : wt (Txt.split x (Str.ofString "/")) + (Txt.split x (Str.ofString "/")).length = x.length + 1 := by
  have h := join_len (Str.ofString "/") _ (split_ne x)
  rw [StrLaws.join_split] at h
  have l1 : (Str.ofString "/").length = 1 := by rw [L_len, L_s]; rfl
  rw [l1] at h
  omega
theorem wt_dropLast (R : List Str) : wt R.dropLast ≤ wt R := by
  rcases List.eq_nil_or_concat R with rfl | ⟨p, y, rfl⟩
  · simp [wt]
  · rw [List.concat_eq_append, List.dropLast_concat, wt_append]; omega
theorem res_wt : ∀ (ws R : List Str), wt (ws.foldl resPush R) ≤ wt R + wt ws ∧ (ws.foldl resPush R).length ≤ R.length + ws.length
  | [], R => by simp [wt]
  | y :: r, R => by
    have ih := res_wt r (resPush R y)
    have h : wt (resPush R y) ≤ wt R + y.length ∧ (resPush R y).length ≤ R.length + 1 := by
      unfold resPush
      split
      · have := wt_dropLast R
        exact ⟨by omega, by rw [List.length_dropLast]; omega⟩
      split
      · exact ⟨by omega, by omega⟩
      · rw [wt_append]
        simp [wt]
    rw [List.foldl_cons, wt_cons, List.length_cons]
    omega
theorem segs_wt (ws : List Str) : wt (segsOf ws) ≤ wt ws ∧ (segsOf ws).length ≤ ws.length + 1 := by
  have h := res_wt ws []
  have l0 : (Str.ofString "").length = 0 := by rw [L_len, L_0]; rfl
  unfold segsOf resWalk
  split
  · rw [wt_append]
    have e : wt [Str.ofString ""] = 0 := by simp [wt, l0]
    simp [wt] at h ⊢
    simp [wt] at e
    omega
  · simp [wt] at h ⊢
    omega
theorem tjoin_eq (sep : Str) (ws : List Str) : Txt.join sep ws = Str.join sep ws := StrLaws.glued_eq_join sep ws
theorem tjoin_le (ws : List Str) : (Txt.join (Str.ofString "/") ws).length ≤ wt ws + ws.length := by
  rw [tjoin_eq]
  have l1 : (Str.ofString "/").length = 1 := by rw [L_len, L_s]; rfl
  cases ws with
  | nil => exact Nat.zero_le _
  | cons x r =>
    have h := join_len (Str.ofString "/") (x :: r) (by simp)
    rw [l1] at h
    omega
end Mine

-- part C3
namespace Mine
section
variable {prog : Program} {w : World} {A : Around} {E : Value → Shared → Prop} {s : Shared} {h₀ : Heap} {L D : Addr} {news : List (Addr × Obj)} {vs : List Value} {ys : List Str} {c : Nat} {t : Tok} {Q : Value → Shared → Prop}
theorem join_news (N : News h₀ L s.heap news) (hm : (D, listOf vs.toArray c) ∈ news) (hi : StrsAre vs ys) (hok : wt ys + ys.length ≤ 10000)
    (h : ∀ t' k, Q (.str (Txt.join (Str.ofString "/") ys) t') { s with toks := k }) : wpAny (model prog w) A (call (.builtin "str.join") [.str (Str.ofString "/") t, .ref D]) Q E s := by
  have l1 : (Str.ofString "/").length = 1 := by rw [L_len, L_s]; rfl
  refine join_list ⟨_, (N _ hm).1, rfl, c, rfl⟩ hi ?_ h
  rw [l1]
  unfold wt at hok
  omega
end
theorem item0 {x : Str} (hx : x.length ≠ 0) : (Txt.item x 0 == Str.ofString "/") = true ↔ (L x).head? = some 47 := by
  rw [L_beq, decide_eq_true_eq, L_s]
  have e : L (Txt.item x 0) = [(Txt.charAt x 0).getD 0] := rfl
  have hl : (L x).length = x.length := (L_len x).symm
  rw [e]
  unfold Txt.charAt
  rw [StrLaws.seqIndex_nonneg (by decide) (by omega)]
  show [((some (0 : Int).toNat).bind (x.cps[·]?)).getD 0] = [47] ↔ _
  have e2 : ((some (0 : Int).toNat).bind (x.cps[·]?)) = (L x)[0]? := by
    show x.cps[0]? = x.cps.toList[0]?
    simp
  rw [e2]
  cases hL : L x with
  | nil => rw [hL] at hl; simp at hl; omega
  | cons a r => simp
theorem npath_slash {x : Str} (hx : x.length ≠ 0) (h : (Txt.item x 0 == Str.ofString "/") = true) : npath x = Str.ofString "/" ++ Txt.join (Str.ofString "/") (segsOf (Txt.split (Txt.slice x (some 1) none) (Str.ofString "/"))) := by
  unfold npath
  rw [if_pos ⟨fun q => hx (by rw [q, L_len, L_0]; rfl), (item0 hx).mp h⟩]
theorem npath_plain {x : Str} (hx : x.length ≠ 0) (h : (Txt.item x 0 == Str.ofString "/") = false) : npath x = Str.ofString "" ++ Txt.join (Str.ofString "/") (segsOf (Txt.split x (Str.ofString "/"))) := by
  unfold npath
  rw [if_neg fun q => by rw [(item0 hx).mpr q.2] at h; cases h]
theorem npath_nil {x : Str} (hx : x.length = 0) : npath x = Str.ofString "" ++ Txt.join (Str.ofString "/") (segsOf (Txt.split x (Str.ofString "/"))) := by
  unfold npath
  rw [if_neg fun q => q.1 (L_inj (by rw [L_0]; exact List.eq_nil_of_length_eq_zero (by rw [← L_len]; exact hx)))]
theorem segs_small {y : Str} (hy : y.length ≤ 100) : wt (segsOf (Txt.split y (Str.ofString "/"))) + (segsOf (Txt.split y (Str.ofString "/"))).length ≤ y.length + 2 ∧ (Txt.split y (Str.ofString "/")).length ≤ y.length + 1 ∧
    (Txt.join (Str.ofString "/") (segsOf (Txt.split y (Str.ofString "/")))).length ≤ y.length + 2 := by
  have h1 := split_wt y
  have h2 := segs_wt (Txt.split y (Str.ofString "/"))
  have h3 := tjoin_le (segsOf (Txt.split y (Str.ofString "/")))
  omega
theorem segs_smallA {vs : List Value} {y : Str} (_ : StrsAre vs (Txt.split y (Str.ofString "/"))) (hy : y.length ≤ 100) : wt (segsOf (Txt.split y (Str.ofString "/"))) + (segsOf (Txt.split y (Str.ofString "/"))).length ≤ 102 ∧ (Txt.split y (Str.ofString "/")).length ≤ y.length + 1 ∧
    (Txt.join (Str.ofString "/") (segsOf (Txt.split y (Str.ofString "/")))).length ≤ 102 := by
  have h := segs_small hy
  omega
end Mine

-- part C4
namespace Mine
def tbl : List Str := [Str.ofString "a", Str.ofString "", Str.ofString ".", Str.ofString "..", Str.ofString "b.c", Str.ofString "...", Str.ofString ".h", Str.ofString "d.", Str.ofString "é", Str.ofString ".."]
def pieceAt (k : Int) : Str := tbl.getD (k.fmod 10).toNat Str.empty
end Mine

-- part P4
namespace Mine
def Free (p : Str) : Prop := 47 ∉ L p
def AllFree (ps : List Str) : Prop := ∀ p ∈ ps, Free p
def Tailish (s : List Nat) : Prop := s = [] ∨ ∃ r, s = 47 :: r

theorem cut_uniq : ∀ {a b s t : List Nat}, 47 ∉ a → 47 ∉ b → Tailish s → Tailish t → a ++ s = b ++ t → a = b ∧ s = t
  | [], [], _, _, _, _, _, _, h => ⟨rfl, h⟩
  | [], y :: b, s, t, _, hb, hs, _, h => by
    rcases hs with rfl | ⟨r, rfl⟩
    · simp at h
    · simp only [List.nil_append, List.cons_append, List.cons.injEq] at h
      exact absurd (by rw [← h.1]; exact List.mem_cons_self) hb
  | x :: a, [], s, t, ha, _, _, ht, h => by
    rcases ht with rfl | ⟨r, rfl⟩
    · simp at h
    · simp only [List.nil_append, List.cons_append, List.cons.injEq] at h
      exact absurd (by rw [h.1]; exact List.mem_cons_self) ha
  | x :: a, y :: b, s, t, ha, hb, hs, ht, h => by
    simp only [List.cons_append, List.cons.injEq] at h
    obtain ⟨h1, h2⟩ := cut_uniq (fun q => ha (List.mem_cons_of_mem _ q)) (fun q => hb (List.mem_cons_of_mem _ q)) hs ht h.2
    exact ⟨by rw [h.1, h1], h2⟩

def encT (R : List Str) : List Nat := R.flatMap fun p => 47 :: L p
theorem encT_nil : encT [] = [] := rfl
theorem encT_cons (p : Str) (r : List Str) : encT (p :: r) = 47 :: (L p ++ encT r) := by simp [encT]
theorem encT_append (a b : List Str) : encT (a ++ b) = encT a ++ encT b := by simp [encT]
theorem encT_tail (r : List Str) : Tailish (encT r) := by
  cases r with
  | nil => exact .inl rfl
  | cons p r => exact .inr ⟨_, encT_cons p r⟩
theorem encT_eq_nil {r : List Str} (h : encT r = []) : r = [] := by
  cases r with
  | nil => rfl
  | cons p r => rw [encT_cons] at h; cases h
theorem join_enc : ∀ ps : List Str, ps ≠ [] → 47 :: L (Str.join (Str.ofString "/") ps) = encT ps
  | [], h => absurd rfl h
  | [x], _ => by rw [encT_cons, encT_nil, List.append_nil]; rfl
  | x :: y :: r, _ => by
    rw [join_cons2, L_cat, L_cat, L_s, encT_cons, ← join_enc (y :: r) (by simp)]
    simp
theorem encT_inj : ∀ {a b : List Str}, AllFree a → AllFree b → encT a = encT b → a = b
  | [], b, _, _, h => by rw [encT_nil] at h; exact (encT_eq_nil h.symm).symm
  | x :: a, [], _, _, h => by rw [encT_nil, encT_cons] at h; cases h
  | x :: a, y :: b, ha, hb, h => by
    rw [encT_cons, encT_cons, List.cons.injEq] at h
    obtain ⟨h1, h2⟩ := cut_uniq (ha x List.mem_cons_self) (hb y List.mem_cons_self) (encT_tail a) (encT_tail b) h.2
    rw [L_inj h1, encT_inj (fun p hp => ha p (List.mem_cons_of_mem _ hp)) (fun p hp => hb p (List.mem_cons_of_mem _ hp)) h2]
theorem split_free (x : Str) : AllFree (Txt.split x (Str.ofString "/")) := by
  rw [s_lit]
  exact fun p hp => StrLaws.split_free x 47 p hp
/-- splitting undoes joining -/
theorem split_join {ps : List Str} (hne : ps ≠ []) (hf : AllFree ps) : Txt.split (Txt.join (Str.ofString "/") ps) (Str.ofString "/") = ps := by
  refine encT_inj (split_free _) hf ?_
  rw [← join_enc _ (split_ne _), ← join_enc _ hne, StrLaws.join_split, tjoin_eq]

def Pof (ps : List Str) : List Str := if ps = [] then [Str.ofString ""] else ps
theorem Pof_ne (ps : List Str) : Pof ps ≠ [] := by unfold Pof; split <;> simp_all
theorem Pof_free {ps : List Str} (hf : AllFree ps) : AllFree (Pof ps) := by
  unfold Pof
  split
  · intro p hp
    rw [List.mem_singleton.mp hp]
    unfold Free; rw [L_0]; simp
  · exact hf
theorem Pof_join (ps : List Str) : Txt.join (Str.ofString "/") (Pof ps) = Txt.join (Str.ofString "/") ps := by
  unfold Pof
  split
  · rename_i h; subst h; rfl
  · rfl
theorem split_path {ps : List Str} (hf : AllFree ps) : Txt.split (Txt.join (Str.ofString "/") ps) (Str.ofString "/") = Pof ps := by
  rw [← Pof_join]; exact split_join (Pof_ne ps) (Pof_free hf)

abbrev Dot (y : Str) : Prop := y = Str.ofString "." ∨ y = Str.ofString ".."
def fromR (R P : List Str) : List Str := if P = [] then R else P.foldl resPush R ++ (if P.getLast? = some (Str.ofString ".") ∨ P.getLast? = some (Str.ofString "..") then [Str.ofString ""] else [])
theorem fromR_nil (R : List Str) : fromR R [] = R := rfl
theorem fromR_segs {P : List Str} (h : P ≠ []) : fromR [] P = segsOf P := by
  unfold fromR segsOf resWalk
  rw [if_neg h]
  split <;> simp
theorem fromR_cons (R : List Str) (p q : Str) (r : List Str) : fromR R (p :: q :: r) = fromR (resPush R p) (q :: r) := by
  have h1 : (p :: q :: r) ≠ [] := by simp
  have h2 : (q :: r) ≠ [] := by simp
  unfold fromR
  rw [if_neg h1, if_neg h2, List.getLast?_cons_cons]
  rfl
theorem fromR_one (R : List Str) (p : Str) : fromR R [p] = resPush R p ++ (if Dot p then [Str.ofString ""] else []) := by
  have h1 : [p] ≠ [] := by simp
  unfold fromR
  rw [if_neg h1]
  simp
theorem ne0d : Str.ofString "" ≠ Str.ofString "." := fun h => by have := congrArg L h; rw [L_0, L_d] at this; cases this
theorem ne0dd : Str.ofString "" ≠ Str.ofString ".." := fun h => by have := congrArg L h; rw [L_0, L_dd] at this; cases this
theorem nedd : Str.ofString "." ≠ Str.ofString ".." := fun h => by have := congrArg L h; rw [L_d, L_dd] at this; cases this
theorem not_dot0 : ¬ Dot (Str.ofString "") := fun h => h.elim ne0d ne0dd
theorem push_dd (R : List Str) : resPush R (Str.ofString "..") = R.dropLast := if_pos rfl
theorem push_d (R : List Str) : resPush R (Str.ofString ".") = R := by unfold resPush; rw [if_neg nedd, if_pos rfl]
theorem push_else {R : List Str} {p : Str} (h : ¬ Dot p) : resPush R p = R ++ [p] := by unfold resPush; rw [if_neg (fun q => h (.inr q)), if_neg (fun q => h (.inl q))]
theorem free_push {R : List Str} {p : Str} (hR : AllFree R) (hp : Free p) : AllFree (resPush R p) := by
  unfold resPush
  split
  · exact fun q hq => hR q (List.dropLast_subset R hq)
  split
  · exact hR
  · intro q hq
    rcases List.mem_append.mp hq with h | h
    · exact hR q h
    · rw [List.mem_singleton.mp h]; exact hp
end Mine

-- part P5
namespace Mine
theorem rfind_at (o : Str) : (Txt.rfind o (Str.ofString "/") = -1 ∧ 47 ∉ L o) ∨ ∃ i : Nat, Txt.rfind o (Str.ofString "/") = (i : Int) ∧ (L o)[i]? = some 47 ∧ ∀ k, i < k → (L o)[k]? ≠ some 47 := by
  rw [s_lit]
  unfold Txt.rfind
  rcases StrLaws.last_spec o ⟨#[47]⟩ with ⟨h0, h1⟩ | ⟨i, h0, h1, h2⟩
  · rw [h0]
    refine .inl ⟨rfl, fun hm => ?_⟩
    obtain ⟨i, hi⟩ := List.mem_iff_getElem?.mp hm
    exact h1 i ((StrLaws.subAt_one o 47 i).mpr hi)
  · rw [h0]
    exact .inr ⟨i, rfl, (StrLaws.subAt_one o 47 i).mp h1, fun k hk q => h2 k hk ((StrLaws.subAt_one o 47 k).mpr q)⟩
theorem cut_last {o : Str} {R : List Str} (hR : AllFree R) (ho : L o = encT R) : L (Txt.slice o none (some (cutAt o))) = encT R.dropLast := by
  rcases List.eq_nil_or_concat R with rfl | ⟨p, y, rfl⟩
  · have hn : 47 ∉ L o := by rw [ho, encT_nil]; simp
    have hc : cutAt o = 0 := by
      unfold cutAt
      rcases rfind_at o with ⟨h, _⟩ | ⟨i, _, h, _⟩
      · rw [h]; decide
      · exact absurd (List.mem_of_getElem? h) hn
    rw [hc, show (0 : Int) = ((0 : Nat) : Int) from rfl, slice_to]
    rfl
  · rw [List.concat_eq_append] at *
    rw [List.dropLast_concat]
    have hy : Free y := hR y (by simp)
    rw [encT_append, encT_cons, encT_nil, List.append_nil] at ho
    have hj : (L o)[(encT p).length]? = some 47 := by rw [ho]; simp
    rcases rfind_at o with ⟨_, h⟩ | ⟨i, h0, h1, h2⟩
    · exact absurd (List.mem_of_getElem? hj) h
    · have e : i = (encT p).length := by
        rcases Nat.lt_trichotomy i (encT p).length with q | q | q
        · exact absurd hj (h2 _ q)
        · exact q
        · rw [ho, List.getElem?_append_right (by omega)] at h1
          obtain ⟨k, hk⟩ : ∃ k, i - (encT p).length = k + 1 := ⟨i - (encT p).length - 1, by omega⟩
          rw [hk, List.getElem?_cons_succ] at h1
          exact absurd (List.mem_of_getElem? h1) hy
      have hc : cutAt o = (i : Int) := by
        unfold cutAt
        rw [h0, if_neg (by omega)]
      rw [hc, slice_to, ho, e]
      simp

/-- the loop's word: what is given and what is out, by pieces -/
def StepInv (target : List Str) (g o : Str) : Prop := ∃ P R, AllFree P ∧ AllFree R ∧ L g = encT P ∧ L o = encT R ∧ fromR R P = target

theorem pre_eq {a s b : List Nat} (ha : 47 ∉ a) (hb : 47 ∉ b) (hs : Tailish s) (h : (a ++ s).take (b.length + 1) = b ++ [47]) : a = b ∧ s ≠ [] := by
  have e : a ++ s = b ++ (47 :: (a ++ s).drop (b.length + 1)) := by
    have := (List.take_append_drop (b.length + 1) (a ++ s)).symm
    rw [h] at this
    simpa using this
  obtain ⟨h1, h2⟩ := cut_uniq ha hb hs (.inr ⟨_, rfl⟩) e
  exact ⟨h1, by rw [h2]; simp⟩
theorem all_eq {a s b : List Nat} (ha : 47 ∉ a) (hb : 47 ∉ b) (hs : Tailish s) (h : a ++ s = b) : a = b ∧ s = [] :=
  cut_uniq ha hb hs (.inl rfl) (by simpa using h)

section
variable {g : Str} {p : Str} {P' : List Str} (hg : L g = encT (p :: P')) (hp : Free p)
include hg
theorem no1 : (Txt.slice g none (some 3) == Str.ofString "../") = false := by
  rw [L_beq, decide_eq_false_iff_not, show (3 : Int) = ((3 : Nat) : Int) from rfl, slice_to, L_dds, hg, encT_cons]
  simp
theorem no2 : (Txt.slice g none (some 2) == Str.ofString "./") = false := by
  rw [L_beq, decide_eq_false_iff_not, show (2 : Int) = ((2 : Nat) : Int) from rfl, slice_to, L_ds, hg, encT_cons]
  simp
theorem no7 : ([Str.ofString ".", Str.ofString ".."].any fun x => x == g) = false := by
  simp only [List.any_cons, List.any_nil, Bool.or_false, Bool.or_eq_false_iff, L_beq, decide_eq_false_iff_not, L_d, L_dd, hg, encT_cons]
  constructor <;> simp
include hp
theorem is3 : (Txt.slice g none (some 3) == Str.ofString "/./") = true ↔ p = Str.ofString "." ∧ P' ≠ [] := by
  rw [L_beq, decide_eq_true_eq, show (3 : Int) = ((3 : Nat) : Int) from rfl, slice_to, L_sds, hg, encT_cons]
  constructor
  · intro h
    have h' : (L p ++ encT P').take ([46].length + 1) = [46] ++ [47] := by simpa using h
    obtain ⟨h1, h2⟩ := pre_eq hp (by decide) (encT_tail P') h'
    exact ⟨L_inj (by rw [h1, L_d]), fun q => h2 (by rw [q]; rfl)⟩
  · rintro ⟨rfl, h2⟩
    obtain ⟨r, hr⟩ : ∃ r, encT P' = 47 :: r := (encT_tail P').elim (fun q => absurd (encT_eq_nil q) h2) id
    rw [L_d, hr]; rfl
theorem is4 : (g == Str.ofString "/.") = true ↔ p = Str.ofString "." ∧ P' = [] := by
  rw [L_beq, decide_eq_true_eq, L_sd, hg, encT_cons]
  constructor
  · intro h
    obtain ⟨h1, h2⟩ := all_eq hp (by decide : 47 ∉ [46]) (encT_tail P') (by simpa using h)
    exact ⟨L_inj (by rw [h1, L_d]), encT_eq_nil h2⟩
  · rintro ⟨rfl, rfl⟩
    rw [L_d]; rfl
theorem is5 : (Txt.slice g none (some 4) == Str.ofString "/../") = true ↔ p = Str.ofString ".." ∧ P' ≠ [] := by
  rw [L_beq, decide_eq_true_eq, show (4 : Int) = ((4 : Nat) : Int) from rfl, slice_to, L_sdds, hg, encT_cons]
  constructor
  · intro h
    have h' : (L p ++ encT P').take ([46, 46].length + 1) = [46, 46] ++ [47] := by simpa using h
    obtain ⟨h1, h2⟩ := pre_eq hp (by decide) (encT_tail P') h'
    exact ⟨L_inj (by rw [h1, L_dd]), fun q => h2 (by rw [q]; rfl)⟩
  · rintro ⟨rfl, h2⟩
    obtain ⟨r, hr⟩ : ∃ r, encT P' = 47 :: r := (encT_tail P').elim (fun q => absurd (encT_eq_nil q) h2) id
    rw [L_dd, hr]; rfl
theorem is6 : (g == Str.ofString "/..") = true ↔ p = Str.ofString ".." ∧ P' = [] := by
  rw [L_beq, decide_eq_true_eq, L_sdd, hg, encT_cons]
  constructor
  · intro h
    obtain ⟨h1, h2⟩ := all_eq hp (by decide : 47 ∉ [46, 46]) (encT_tail P') (by simpa using h)
    exact ⟨L_inj (by rw [h1, L_dd]), encT_eq_nil h2⟩
  · rintro ⟨rfl, rfl⟩
    rw [L_dd]; rfl
end
end Mine

-- part P6
namespace Mine
section
variable {g : Str} {p : Str} {P' : List Str} (hg : L g = encT (p :: P')) (hp : Free p)
include hg
theorem g_at (v : Nat) : (L g)[v + 1]? = (L p ++ encT P')[v]? := by rw [hg, encT_cons]; simp
include hp
theorem find_none (h : P' = []) : Txt.find3 g (Str.ofString "/") 1 < 0 := by
  rcases find_at g with ⟨h0, _⟩ | ⟨k, _, h1, h2, h3, _⟩
  · exact h0
  · obtain ⟨j, rfl⟩ : ∃ j, k = j + 1 := ⟨k - 1, by omega⟩
    have := StrLaws.getElem?_of_getD h2 h3
    have e := g_at hg j
    unfold L at e
    rw [this] at e
    subst h
    rw [encT_nil, List.append_nil] at e
    exact absurd (List.mem_of_getElem? e.symm) hp
theorem find_some (h : P' ≠ []) : Txt.find3 g (Str.ofString "/") 1 = (((L p).length + 1 : Nat) : Int) := by
  obtain ⟨r, hr⟩ : ∃ r, encT P' = 47 :: r := (encT_tail P').elim (fun q => absurd (encT_eq_nil q) h) id
  have hat : (L g)[(L p).length + 1]? = some 47 := by rw [g_at hg, hr]; simp
  have hlen : (L p).length + 1 < g.length := by
    rw [L_len, hg, encT_cons, hr]; simp
  rcases find_at g with ⟨_, h1⟩ | ⟨k, h0, h1, h2, h3, h4⟩
  · exact absurd (StrLaws.getD_of_getElem? hat) (h1 _ (by omega) hlen)
  · rw [h0]
    have e : k = (L p).length + 1 := by
      rcases Nat.lt_trichotomy k ((L p).length + 1) with q | q | q
      · obtain ⟨j, rfl⟩ : ∃ j, k = j + 1 := ⟨k - 1, by omega⟩
        have h5 := StrLaws.getElem?_of_getD h2 h3
        have e := g_at hg j
        unfold L at e
        rw [h5] at e
        have e' : (L p ++ encT P')[j]? = some 47 := e.symm
        rw [List.getElem?_append_left (by omega)] at e'
        exact absurd (List.mem_of_getElem? e') hp
      · exact q
      · exact absurd (StrLaws.getD_of_getElem? hat) (h4 _ (by omega) q)
    rw [e]
end

theorem free_nil : AllFree [] := fun _ h => absurd h (by simp)
theorem encT_one0 : encT [Str.ofString ""] = [47] := by rw [encT_cons, encT_nil, L_0]; rfl
theorem free0 : Free (Str.ofString "") := by unfold Free; rw [L_0]; simp
theorem free_dropLast {R : List Str} (h : AllFree R) : AllFree R.dropLast := fun q hq => h q (List.dropLast_subset R hq)

theorem step_inv {target : List Str} {g o : Str} (hne : g ≠ Str.ofString "") (h : StepInv target g o) : StepInv target (stepT g o).1 (stepT g o).2 := by
  obtain ⟨P, R, hP, hR, hg, ho, ht⟩ := h
  cases P with
  | nil => exact absurd (L_inj (by rw [L_0, hg]; rfl)) hne
  | cons p P' =>
    have hp : Free p := hP p List.mem_cons_self
    have hP' : AllFree P' := fun q hq => hP q (List.mem_cons_of_mem _ hq)
    have n1 := no1 hg
    have n2 := no2 hg
    have n7 := no7 hg
    have i3 := is3 hg hp
    have i4 := is4 hg hp
    have i5 := is5 hg hp
    have i6 := is6 hg hp
    unfold stepT
    rw [if_neg (by rw [n1]; decide), if_neg (by rw [n2]; decide)]
    by_cases c1 : p = Str.ofString "."
    · by_cases c2 : P' = []
      · rw [if_neg (fun q => (i3.mp q).2 c2), if_pos (i4.mpr ⟨c1, c2⟩)]
        refine ⟨[Str.ofString ""], R, fun q hq => by rw [List.mem_singleton.mp hq]; exact free0, hR, by rw [encT_one0]; exact L_s, ho, ?_⟩
        rw [← ht, c2, fromR_one, fromR_one, c1, push_d, push_else not_dot0, if_neg not_dot0, if_pos (.inl rfl)]
        simp
      · rw [if_pos (i3.mpr ⟨c1, c2⟩)]
        refine ⟨P', R, hP', hR, ?_, ho, ?_⟩
        · rw [show (2 : Int) = ((2 : Nat) : Int) from rfl, slice_from, hg, encT_cons, c1, L_d]
          rfl
        · cases P' with
          | nil => exact absurd rfl c2
          | cons q r => rw [← ht, fromR_cons, c1, push_d]
    · rw [if_neg (fun q => c1 (i3.mp q).1), if_neg (fun q => c1 (i4.mp q).1)]
      by_cases c3 : p = Str.ofString ".."
      · by_cases c2 : P' = []
        · rw [if_neg (fun q => (i5.mp q).2 c2), if_pos (i6.mpr ⟨c3, c2⟩)]
          refine ⟨[Str.ofString ""], R.dropLast, fun q hq => by rw [List.mem_singleton.mp hq]; exact free0, free_dropLast hR, by rw [encT_one0]; exact L_s, cut_last hR ho, ?_⟩
          rw [← ht, c2, fromR_one, fromR_one, c3, push_dd, push_else not_dot0, if_neg not_dot0, if_pos (.inr rfl)]
          simp
        · rw [if_pos (i5.mpr ⟨c3, c2⟩)]
          refine ⟨P', R.dropLast, hP', free_dropLast hR, ?_, cut_last hR ho, ?_⟩
          · rw [show (3 : Int) = ((3 : Nat) : Int) from rfl, slice_from, hg, encT_cons, c3, L_dd]
            rfl
          · cases P' with
            | nil => exact absurd rfl c2
            | cons q r => rw [← ht, fromR_cons, c3, push_dd]
      · have hd : ¬ Dot p := fun q => q.elim c1 c3
        rw [if_neg (fun q => c3 (i5.mp q).1), if_neg (fun q => c3 (i6.mp q).1), if_neg (by rw [n7]; decide)]
        by_cases c2 : P' = []
        · rw [if_pos (find_none hg hp c2)]
          have e1 : L (Txt.slice g (some (g.length : Int)) none) = [] := by
            rw [slice_from, L_len]; exact List.drop_length
          have e2 : L (Txt.slice g none (some (g.length : Int))) = L g := by
            rw [slice_to, L_len]; exact List.take_length
          refine ⟨[], R ++ [p], free_nil, ?_, e1, ?_, ?_⟩
          · exact push_else hd ▸ free_push hR hp
          · rw [L_cat, e2, ho, hg, c2, encT_append]
          · rw [← ht, c2, fromR_one, push_else hd, if_neg hd, fromR_nil, List.append_nil]
        · have hf := find_some hg hp c2
          rw [if_neg (by rw [hf]; omega), hf]
          refine ⟨P', R ++ [p], hP', push_else hd ▸ free_push hR hp, ?_, ?_, ?_⟩
          · rw [slice_from, hg, encT_cons]
            simp
          · rw [L_cat, slice_to, ho, hg, encT_append, encT_cons, encT_cons, encT_nil, List.append_nil]
            simp
          · cases P' with
            | nil => exact absurd rfl c2
            | cons q r => rw [← ht, fromR_cons, push_else hd]
/-- the normal form of the path of the pieces -/
def dueT (ps : List Str) : Str := Str.ofString "/" ++ Txt.join (Str.ofString "/") (segsOf (Pof ps))
theorem segs_ne {P : List Str} (h : P ≠ []) : segsOf P ≠ [] := by
  rcases List.eq_nil_or_concat P with rfl | ⟨q, y, rfl⟩
  · exact absurd rfl h
  · rw [List.concat_eq_append]
    unfold segsOf resWalk
    rw [List.getLast?_concat, List.foldl_append]
    split
    · simp
    · rename_i hd
      have hd' : ¬ Dot y := fun z => hd (z.elim (fun w => .inl (by rw [w])) fun w => .inr (by rw [w]))
      show resPush _ y ≠ []
      rw [push_else hd']
      simp
theorem L_due (ps : List Str) : L (dueT ps) = encT (segsOf (Pof ps)) := by
  unfold dueT
  rw [L_cat, L_s, tjoin_eq, ← join_enc _ (segs_ne (Pof_ne ps))]
  rfl
theorem inv_start {ps : List Str} (hf : AllFree ps) : StepInv (segsOf (Pof ps)) (Str.ofString "/" ++ Txt.join (Str.ofString "/") ps) (Str.ofString "") := by
  refine ⟨Pof ps, [], Pof_free hf, free_nil, ?_, ?_, fromR_segs (Pof_ne ps)⟩
  · rw [L_cat, L_s, ← Pof_join, tjoin_eq, ← join_enc _ (Pof_ne ps)]
    rfl
  · exact L_0
theorem inv_end {ps : List Str} {o : Str} (h : StepInv (segsOf (Pof ps)) (Str.ofString "") o) : o = dueT ps := by
  obtain ⟨P, R, _, _, hg, ho, ht⟩ := h
  rw [L_0] at hg
  have hP := encT_eq_nil hg.symm
  subst hP
  rw [fromR_nil] at ht
  exact L_inj (by rw [ho, ht, L_due])
end Mine

-- part P7
namespace Mine
def NoDots (R : List Str) : Prop := ∀ p ∈ R, ¬ Dot p
theorem res_plain : ∀ (ws R : List Str), NoDots R → NoDots (ws.foldl resPush R)
  | [], R, h => h
  | y :: r, R, h => by
    rw [List.foldl_cons]
    refine res_plain r _ ?_
    by_cases c1 : y = Str.ofString ".."
    · rw [c1, push_dd]; exact fun q hq => h q (List.dropLast_subset R hq)
    · by_cases c2 : y = Str.ofString "."
      · rw [c2, push_d]; exact h
      · have hd : ¬ Dot y := fun q => q.elim c2 c1
        rw [push_else hd]
        intro q hq
        rcases List.mem_append.mp hq with w | w
        · exact h q w
        · rw [List.mem_singleton.mp w]; exact hd
theorem segs_plain (ws : List Str) : NoDots (segsOf ws) := by
  have h := res_plain ws [] (fun q hq => absurd hq (by simp))
  unfold segsOf resWalk
  split
  · intro q hq
    rcases List.mem_append.mp hq with w | w
    · exact h q w
    · rw [List.mem_singleton.mp w]; exact not_dot0
  · exact h
theorem res_same : ∀ (ws R : List Str), NoDots ws → ws.foldl resPush R = R ++ ws
  | [], R, _ => by simp
  | y :: r, R, h => by
    rw [List.foldl_cons, push_else (h y List.mem_cons_self), res_same r _ fun q hq => h q (List.mem_cons_of_mem _ hq)]
    simp
theorem segs_same {ws : List Str} (h : NoDots ws) : segsOf ws = ws := by
  have e : resWalk ws = ws := by unfold resWalk; rw [res_same ws [] h]; simp
  unfold segsOf
  rw [if_neg, e]
  rintro (q | q)
  · exact h _ (List.mem_of_getLast? q) (.inl rfl)
  · exact h _ (List.mem_of_getLast? q) (.inr rfl)
theorem res_free : ∀ (ws R : List Str), AllFree ws → AllFree R → AllFree (ws.foldl resPush R)
  | [], _, _, h => h
  | y :: r, _, hw, h => res_free r _ (fun q hq => hw q (List.mem_cons_of_mem _ hq)) (free_push h (hw y List.mem_cons_self))
theorem segs_free {ws : List Str} (h : AllFree ws) : AllFree (segsOf ws) := by
  have h' := res_free ws [] h free_nil
  unfold segsOf resWalk
  split
  · intro q hq
    rcases List.mem_append.mp hq with w | w
    · exact h' q w
    · rw [List.mem_singleton.mp w]; exact free0
  · exact h'

theorem drop1_slash (y : Str) : Txt.slice (Str.ofString "/" ++ y) (some 1) none = y := by
  refine L_inj ?_
  rw [show (1 : Int) = ((1 : Nat) : Int) from rfl, slice_from, L_cat, L_s]
  rfl
theorem empty_cat (y : Str) : Str.ofString "" ++ y = y := L_inj (by rw [L_cat, L_0]; rfl)
theorem npath_of_slash (y : Str) : npath (Str.ofString "/" ++ y) = Str.ofString "/" ++ Txt.join (Str.ofString "/") (segsOf (Txt.split y (Str.ofString "/"))) := by
  unfold npath
  rw [if_pos, drop1_slash]
  refine ⟨fun q => ?_, ?_⟩
  · have := congrArg L q
    rw [L_cat, L_s, L_0] at this
    cases this
  · rw [L_cat, L_s]; rfl
theorem npath_of_plain {y : Str} (h : (L y).head? ≠ some 47) : npath y = Txt.join (Str.ofString "/") (segsOf (Txt.split y (Str.ofString "/"))) := by
  unfold npath
  rw [if_neg (fun q => h q.2), empty_cat]

section
variable {ps : List Str} (hf : AllFree ps)
include hf
theorem law_a : npath (Str.ofString "/" ++ Txt.join (Str.ofString "/") ps) = dueT ps := by
  rw [npath_of_slash, split_path hf]; rfl
theorem law_split : Txt.split (Txt.join (Str.ofString "/") (segsOf (Pof ps))) (Str.ofString "/") = segsOf (Pof ps) := split_join (segs_ne (Pof_ne ps)) (segs_free (Pof_free hf))
theorem law_b : npath (dueT ps) = dueT ps := by
  unfold dueT
  rw [npath_of_slash, law_split hf, segs_same (segs_plain _)]
theorem due_tail : Txt.slice (dueT ps) (some 1) none = Txt.join (Str.ofString "/") (segsOf (Pof ps)) := drop1_slash _
theorem due_split : Txt.split (dueT ps) (Str.ofString "/") = Str.ofString "" :: segsOf (Pof ps) := by
  have e : dueT ps = Txt.join (Str.ofString "/") (Str.ofString "" :: segsOf (Pof ps)) := by
    refine L_inj (List.cons_inj_right (a := 47) |>.mp ?_)
    rw [tjoin_eq, join_enc _ (by simp), L_due, encT_cons, L_0]
    rfl
  rw [e]
  refine split_join (by simp) fun q hq => ?_
  rcases List.mem_cons.mp hq with rfl | w
  · exact free0
  · exact segs_free (Pof_free hf) q w
theorem due_nodots : NoDots (Txt.split (dueT ps) (Str.ofString "/")) := by
  rw [due_split hf]
  intro q hq
  rcases List.mem_cons.mp hq with rfl | w
  · exact not_dot0
  · exact segs_plain _ q w
theorem law_d (h : (Txt.slice (Txt.join (Str.ofString "/") ps) none (some 1) != Str.ofString "/") = true) : npath (Txt.join (Str.ofString "/") ps) = Txt.slice (dueT ps) (some 1) none := by
  rw [due_tail hf, npath_of_plain, split_path hf]
  intro q
  have e : Txt.slice (Txt.join (Str.ofString "/") ps) none (some 1) = Str.ofString "/" := by
    refine L_inj ?_
    rw [show (1 : Int) = ((1 : Nat) : Int) from rfl, slice_to, L_s]
    cases hL : L (Txt.join (Str.ofString "/") ps) with
    | nil => rw [hL] at q; cases q
    | cons a r =>
      rw [hL] at q
      have : a = 47 := Option.some.inj q
      rw [this]; rfl
  rw [e] at h
  simp at h
theorem law_e : npath (Txt.slice (dueT ps) (some 1) none) = Txt.slice (dueT ps) (some 1) none := by
  rw [due_tail hf]
  by_cases h : (L (Txt.join (Str.ofString "/") (segsOf (Pof ps)))).head? = some 47
  · have hS := law_split hf
    have hfS := segs_free (Pof_free hf)
    have hdS := segs_plain (Pof ps)
    generalize segsOf (Pof ps) = S at *
    cases S with
    | nil => exact absurd h (by rw [tjoin_eq]; show ([] : List Nat).head? ≠ _; simp)
    | cons x r =>
      cases r with
      | nil =>
        rw [tjoin_eq] at h
        have h' : (L x).head? = some 47 := h
        have hm : 47 ∈ L x := List.mem_of_head? h'
        exact absurd hm (hfS x List.mem_cons_self)
      | cons y r =>
        have hx : x = Str.ofString "" := by
          have hfx := hfS x List.mem_cons_self
          rw [tjoin_eq, join_cons2, L_cat, L_cat] at h
          refine L_inj ?_
          rw [L_0]
          cases hL : L x with
          | nil => rfl
          | cons a t =>
            rw [hL] at h
            have : a = 47 := Option.some.inj h
            exact absurd (by rw [hL, this]; exact List.mem_cons_self) hfx
        have e : Txt.join (Str.ofString "/") (x :: y :: r) = Str.ofString "/" ++ Txt.join (Str.ofString "/") (y :: r) := by
          rw [tjoin_eq, tjoin_eq, join_cons2, hx, empty_cat]
        have hfr : AllFree (y :: r) := fun q hq => hfS q (List.mem_cons_of_mem _ hq)
        rw [e, npath_of_slash, split_join (by simp) hfr, segs_same fun q hq => hdS q (List.mem_cons_of_mem _ hq)]
  · rw [npath_of_plain h, law_split hf, segs_same (segs_plain _)]
theorem law_f (h : ps ≠ []) : Txt.split (Txt.slice (dueT ps) (some 1) none) (Str.ofString "/") = segsOf ps := by
  rw [due_tail hf, law_split hf]
  unfold Pof
  rw [if_neg h]
end
end Mine

-- part P8
namespace Mine
theorem tbl_ok : ∀ p ∈ tbl, L p |>.all (· != 47) := by decide +kernel
theorem tbl_len : ∀ p ∈ tbl, p.length ≤ 3 := by decide +kernel
theorem pieceAt_in (k : Int) : pieceAt k ∈ tbl ∨ pieceAt k = Str.empty := by
  unfold pieceAt
  by_cases h : (k.fmod 10).toNat < tbl.length
  · left
    rw [List.getD_eq_getElem?_getD, List.getElem?_eq_getElem h]
    exact List.getElem_mem h
  · right
    rw [List.getD_eq_getElem?_getD, List.getElem?_eq_none (by omega)]
    rfl
theorem pieceAt_free (k : Int) : Free (pieceAt k) := by
  rcases pieceAt_in k with h | h
  · intro hm
    have := List.all_eq_true.mp (tbl_ok _ h) _ hm
    simp at this
  · rw [h]; intro hm; cases hm
theorem pieceAt_len (k : Int) : (pieceAt k).length ≤ 3 := by
  rcases pieceAt_in k with h | h
  · exact tbl_len _ h
  · rw [h]; decide
def piecesOf (ns : List Int) : List Str := (ns.take 16).map pieceAt
theorem pieces_free (ns : List Int) : AllFree (piecesOf ns) := fun p hp => by
  obtain ⟨k, _, rfl⟩ := List.mem_map.mp hp
  exact pieceAt_free k
theorem pieces_len (ns : List Int) : (piecesOf ns).length ≤ 16 := by
  unfold piecesOf; rw [List.length_map, List.length_take]; omega
theorem wt_le : ∀ (ks : List Int), wt (ks.map pieceAt) ≤ 3 * ks.length
  | [] => Nat.le_refl _
  | k :: r => by
    rw [List.map_cons, wt_cons, List.length_cons]
    have := pieceAt_len k
    have := wt_le r
    omega
theorem pieces_wt (ns : List Int) : wt (piecesOf ns) ≤ 48 := by
  have h := wt_le (ns.take 16)
  rw [List.length_take] at h
  unfold piecesOf
  omega
theorem len_s : (Str.ofString "/").length = 1 := by rw [L_len, L_s]; rfl
theorem path_len {ps : List Str} (h : wt ps ≤ 48) (h2 : ps.length ≤ 16) : (Txt.join (Str.ofString "/") ps).length ≤ 64 := by
  have := tjoin_le ps
  omega
theorem Pof_wt {ps : List Str} (h : wt ps ≤ 48) (h2 : ps.length ≤ 16) : wt (Pof ps) ≤ 48 ∧ (Pof ps).length ≤ 16 := by
  unfold Pof
  split
  · have l0 : (Str.ofString "").length = 0 := by rw [L_len, L_0]; rfl
    simp [wt, l0]
  · exact ⟨h, h2⟩
theorem due_len {ps : List Str} (h : wt ps ≤ 48) (h2 : ps.length ≤ 16) : (dueT ps).length ≤ 70 := by
  obtain ⟨h3, h4⟩ := Pof_wt h h2
  have h5 := segs_wt (Pof ps)
  have h6 := tjoin_le (segsOf (Pof ps))
  unfold dueT
  rw [Str.length_append, len_s]
  omega
end Mine

-- part B10
namespace Mine
def AllOk (ws : List Str) : Prop := ∀ p ∈ ws, PyData.strOk p = true
theorem str_lay : ∀ ws : List Str, AllOk ws → PyData.canLayAll0 (ws.map PyData.str) = true
  | [], _ => rfl
  | y :: r, h => by
    simp only [List.map_cons, PyData.canLayAll0, PyData.canLay0, Bool.and_eq_true]
    exact ⟨h y List.mem_cons_self, str_lay r fun p hp => h p (List.mem_cons_of_mem _ hp)⟩
theorem str_depth : ∀ ws : List Str, PyData.depthAll (ws.map PyData.str) = 0
  | [] => rfl
  | _ :: r => by simp [PyData.depthAll, PyData.depth, str_depth r]
theorem str_shaped {ws : List Str} (h : AllOk ws) : SeqAt.shaped (.list (ws.map PyData.str)) = true := by
  simp [SeqAt.shaped, PyData.canLay0, PyData.depth, str_lay ws h, str_depth]
theorem str_sameAll : ∀ us ws : List Str, PySem.Spec.sameAll (us.map PyData.str) (ws.map PyData.str) = decide (us = ws)
  | [], [] => by simp [PySem.Spec.sameAll]
  | [], _ :: _ => by simp [PySem.Spec.sameAll]
  | _ :: _, [] => by simp [PySem.Spec.sameAll]
  | a :: r, b :: t => by
    simp only [List.map_cons, PySem.Spec.sameAll, PySem.Spec.same, str_sameAll r t]
    by_cases h : a = b <;> by_cases h' : r = t <;> simp [h, h']
theorem str_same (us ws : List Str) : PySem.Spec.same (.list (us.map PyData.str)) (.list (ws.map PyData.str)) = decide (us = ws) := by
  simp only [PySem.Spec.same]; exact str_sameAll us ws
theorem str_carried : ∀ {vs : List Value} {ws : List Str}, StrsAre vs ws → CarriedAll vs (ws.map PyData.str)
  | _, _, .nil => .nil
  | _, _, .cons _ t r => .cons (.str _ t) (str_carried r)
section
variable {prog : Program} {w : World} {A : Around} {E : Value → Shared → Prop} {s : Shared} {a b : Addr} {xs ys : List Value} {us ws : List Str} {Q : Value → Shared → Prop}
theorem eq_texts (ha : s.heap.IsList a xs.toArray) (hb : s.heap.IsList b ys.toArray) (hi : StrsAre xs us) (hj : StrsAre ys ws) (oi : AllOk us) (oj : AllOk ws) (hu : A.units + 64 < cLine) (h : Q (.bool (decide (us = ws))) s) :
    wpAny (model prog w) A (compareOp .Eq (.ref a) (.ref b)) Q E s :=
  eq_dataH_same (reads_newData ha (str_carried hi)) (reads_newData hb (str_carried hj)) (str_shaped oi) (str_shaped oj) hu (SeqAt.noMix_of_shape (.list .str) rfl _ _ (list_map_has fun _ => rfl) (list_map_has fun _ => rfl)) (by rw [str_same]; exact h)
theorem eq_texts_same (ha : s.heap.IsList a xs.toArray) (hb : s.heap.IsList b ys.toArray) (hi : StrsAre xs us) (hj : StrsAre ys us) (oi : AllOk us) (hu : A.units + 64 < cLine) (h : Q (.bool true) s) :
    wpAny (model prog w) A (compareOp .Eq (.ref a) (.ref b)) Q E s := eq_texts ha hb hi hj oi oi hu (by rw [decide_eq_true rfl]; exact h)
theorem ne_texts (ha : s.heap.IsList a xs.toArray) (hb : s.heap.IsList b ys.toArray) (hi : StrsAre xs us) (hj : StrsAre ys ws) (oi : AllOk us) (oj : AllOk ws) (hu : A.units + 64 < cLine) (h : Q (.bool (!decide (us = ws))) s) :
    wpAny (model prog w) A (compareOp .NotEq (.ref a) (.ref b)) Q E s :=
  ne_dataH_same (reads_newData ha (str_carried hi)) (reads_newData hb (str_carried hj)) (str_shaped oi) (str_shaped oj) hu (SeqAt.noMix_of_shape (.list .str) rfl _ _ (list_map_has fun _ => rfl) (list_map_has fun _ => rfl)) (by rw [str_same]; exact h)
end
open PyProof.Rows.LCt PyProof.Rows.LCg in
theorem rest_no {prog : Program} {w : World} {A : Around} {s : Shared} {h₀ : Heap} {L : Addr} {m : Str → Option Value} {env : Env} {ct elt : Expr} {x : Str} {scope : Scope} {cl : List (Str × Addr)} {S : List (Addr × Obj) → Prop} {P : Nat → Value → Prop} {Fin : List Value → List (Addr × Obj) → Prop} {news : List (Addr × Obj)}
    (turn : ∀ (R : List Value → List (Addr × Obj) → Prop) i v I oI C oC D m₂ h tk (E' : Value → Shared → Prop), R [] news → P i v → NsObj oC m₂ → m₂ x = some v → Fr h₀ L h m → News h₀ L h ((I, oI) :: (C, oC) :: (D, lst []) :: news) → Off3 I C D news → ((@Ne Nat I C) ∧ (@Ne Nat I D) ∧ (@Ne Nat C D)) →
      wpAny (model prog w) A (isTrue ct (compEnvC scope cl C env) (eval ct (compEnvC scope cl C env))) (fun ok s' => if ok = true then
        wpAny (model prog w) A (eval elt (compEnvC scope cl C env)) (CompEnd h₀ L m { s with heap := h, toks := tk } I oI C oC D (lst []) S (fun y news' => R ([] ++ [y]) news')) E' s'
        else CompEnd h₀ L m { s with heap := h, toks := tk } I oI C oC D (lst []) S (fun _ news' => R [] news') Value.none s') E' { s with heap := h, toks := tk })
    (hfin : Fin [] news) : ∀ n i, CompRestT prog w A h₀ L m env ct elt x scope cl s S P Fin n i [] news
  | 0, _ => CompRestT.zero hfin
  | k + 1, i => CompRestT.succ fun v I oI C oC D m₂ h tk E' hv hC hx F N off ne =>
      turn (fun ys news' => CompRestT prog w A h₀ L m env ct elt x scope cl s S P Fin k (i + 1) ys news') i v I oI C oC D m₂ h tk E' (rest_no turn hfin k (i + 1)) hv hC hx F N off ne
theorem tbl_fine : ∀ p ∈ tbl, PyData.strOk p = true := by decide +kernel
theorem pieceAt_fine (k : Int) : PyData.strOk (pieceAt k) = true := by
  rcases pieceAt_in k with h | h
  · exact tbl_fine _ h
  · rw [h]; decide +kernel
theorem pieces_fine (ns : List Int) : AllOk (piecesOf ns) := fun p hp => by
  obtain ⟨k, _, rfl⟩ := List.mem_map.mp hp
  exact pieceAt_fine k
theorem fine_nil : AllOk [] := fun p hp => absurd hp List.not_mem_nil
theorem res_fine : ∀ (ws R : List Str), AllOk ws → AllOk R → AllOk (ws.foldl resPush R)
  | [], _, _, h => h
  | y :: r, R, h, hR => by
    refine res_fine r _ (fun p hp => h p (List.mem_cons_of_mem _ hp)) ?_
    unfold resPush
    split
    · exact fun p hp => hR p (List.dropLast_subset _ hp)
    · split
      · exact hR
      · intro p hp
        rcases List.mem_append.mp hp with w | w
        · exact hR p w
        · rw [List.mem_singleton.mp w]; exact h y List.mem_cons_self
theorem segs_fine {ws : List Str} (h : AllOk ws) : AllOk (segsOf ws) := by
  have h' := res_fine ws [] h fine_nil
  unfold segsOf resWalk
  split
  · intro q hq
    rcases List.mem_append.mp hq with w | w
    · exact h' q w
    · rw [List.mem_singleton.mp w]; decide +kernel
  · exact h'
theorem fr_back {g g' h : Heap} {L : Addr} {m : Str → Option Value} (k : KtsTurn [] g g') (F : Fr g' L h m) : Fr g L h m :=
  ⟨F.ns, fun b o e => F.keep b o (k.other b o e List.not_mem_nil), by rw [← k.size]; exact F.above⟩
theorem news_back {g g' h : Heap} {L : Addr} {news : List (Addr × Obj)} (k : KtsTurn [] g g') (N : News g' L h news) : News g L h news := fun p hp => by
  refine ⟨(N p hp).1, (N p hp).2.1, ?_⟩
  cases e : g.get? p.1 with
  | none => rfl
  | some o =>
    have h1 := k.other _ o e List.not_mem_nil
    have h2 := (N p hp).2.2
    rw [h1] at h2; cases h2
theorem dot_any {y : Str} (h : ([Str.ofString ".", Str.ofString ".."].any fun x => x == y) = true) : Dot y := by
  simp only [List.any_cons, List.any_nil, Bool.or_false, Bool.or_eq_true, beq_iff_eq] at h
  rcases h with h | h
  · exact .inl h.symm
  · exact .inr h.symm
theorem news_two {g h : Heap} {L a b : Addr} {oa ob : Obj} {rest : List (Addr × Obj)} (N : News g L h ((b, ob) :: rest)) (hm : (a, oa) ∈ rest) : News g L h [(a, oa), (b, ob)] := by
  refine cb_drop N fun q hq => ?_
  simp only [List.mem_cons, List.not_mem_nil, or_false] at hq
  rcases hq with rfl | rfl
  · exact List.mem_cons_of_mem _ hm
  · exact List.mem_cons_self
end Mine

-- part HD
namespace Mine
open_top hd for PySem.Challenge.rw_fe0369_01
end Mine
-- part NPS
namespace Mine

local macro_rules | `(tactic| k_room) => `(tactic| first | ktr_room | ((simp only [depth_mark, depth_under_make, depth_under_kw, depth_in1, depth_deeper, depth_caller]); (try dsimp only [ktrTop]); omega))
local macro_rules | `(tactic| k_units) => `(tactic| ktr_units)
local macro_rules | `(tactic| walk_at "exec For Name Name cons nil") => `(tactic| (k_here; with_unfolding_all refine wpAny_For ?_))

local macro_rules | `(tactic| walk_at "KwIn") => `(tactic| (k_here; k_dflt (refine' kw_in0R ?F ?X ?I ?hE ?hEf ?hX ?hXf ?_; (case F => k_asm); (case X => k_asm); (case I => k_inst); (case hE => k_is); (case hEf => k_is); (case hX => k_is); (case hXf => k_is); k_whole)))
local macro_rules | `(tactic| walk_at "call builtin:list.pop") => `(tactic| (k_here; k_dflt (refine' pop_texts ?hh ?F ?N ?m ?U ?z ?_ ?_; (case hh => exact rfl); (case F => k_asm); (case N => k_asm); (case m => k_mem); (case U => k_upd); (case z => (rw [sizeLine_eq]; omega))); skip))
local macro_rules | `(tactic| walk_at "Swallowed") => `(tactic| (k_here; k_dflt (refine' swallow ?K ?hx ?F ?N ?_ ?hk; (case K => k_asm); (case hx => k_asm); (case F => k_asm); (case N => k_asm); (case hk => exact rfl)); intro h' g' oe' vs' T' oT' ts' tb' KT' F' N' B' D' n'))
local macro_rules | `(tactic| walk_at "call builtin:issubclass") => `(tactic| (k_here; k_dflt (refine' issub_tup ?h ?_; (case h => exact (News.get (by k_asm) (by k_mem))))))

local macro_rules | `(tactic| walk_at "truthy ref") => `(tactic| (k_here; k_dflt (first | (refine' truthy_nil ?N ?m ?_; (case N => k_asm); (case m => k_mem)) | (refine' truthy_cons ?N ?m ?z ?_; (case N => k_asm); (case m => k_mem); (case z => omega))); intro _))
local macro_rules | `(tactic| walk_at "subscriptTail Name UnaryOp ref int") => `(tactic| (k_here; k_dflt (refine' last_item ?N ?m ?_ ?hs; (case N => k_asm); (case m => k_mem); (case hs => (with_unfolding_all rfl)))))
local macro_rules | `(tactic| walk_at "compareOp Is") => `(tactic| (with_unfolding_all refine is_type_none ?_))
theorem nps_ok {w : World} {mg mb : Str → Option Value} {p : Program} {loose : List Str} {mean : ExcName → Option Value} : NpsClaim Challenge.rw_fe0369_01.row.prog w (hd.heap_39 w.params) p loose mean mg mb 125 := by
  w_top off
  k_fill
  unfold NpsClaim
  intro dp un gd cn cs a ccd outer A₀ base h₀ L m s Q l P oP vs ws c B F X N T hk XB TB D hv hvl hdp hu hlP hret
  refine wpAny_call ?_
  have T0 : KtsTurn (outer.filterMap (·.frame)) h₀ h₀ := .refl
  refine' code_defS ?k1 ?k2 ?k3 ?k4 ?k5 ?XB ?TB ?D ?T0 ?kA ?k6 ?k7 ?k8 ?k9 ?kB ?_ ?cK ?c2 ?c3 ?c4 ?c5
  case kA => exact rfl
  case k2 => exact F
  case k1 => exact B
  case XB => exact XB
  case TB => exact TB
  case D => exact D
  case T0 => exact T0
  case k3 => exact X
  case k4 => exact N
  case k5 => exact T
  case k6 => k_dflt k_is
  case k7 => k_dflt k_is
  case k8 => ktr_room
  case k9 => exact BindsTo.of_eq rfl
  case kB => exact locs rfl
  case cK => exact hk
  case c2 => exact rfl
  case c3 => exact rfl
  case c4 => exact rfl
  case c5 => decide
  intro g' L' h' FG' F' N' B' X' T' D'
  (try dsimp only)
  refine wpAny_noRaise ?_
  k_steps
  rename Fr _ _ _ _ => F1
  rename News _ _ _ _ => N1
  rename_i r _ hr _
  refine' for_list ?hh ?hx ?hp
    (fun g₂ => KtsTurn ((envOf cn cs L a ccd :: outer).filterMap (·.frame)) g' g₂ ∧ Below (ktrTop dp un gd cn cs L a ccd [] outer) base (envOf cn cs L a ccd :: outer) g₂ ∧ (hd.heap_39 w.params).In g₂ ∧ Top p loose mean mg mb g₂ ∧ KtsDicts ((envOf cn cs L a ccd :: outer).filterMap (·.frame)) g₂)
    (fun i m news => m (Str.ofString "segments") = some (.ref l) ∧ m (Str.ofString "resolved_path") = some (.ref r) ∧ ∃ us c', news = [(r, listOf us.toArray c'), (l, listOf vs.toArray c), (P, oP)] ∧ StrsAre us ((ws.take i).foldl resPush []) ∧ us.length ≤ i)
    ?F ?N ?g ?h0 ?hl ?turn ?done
  case hh => exact rfl
  case hx => exact rfl
  case hp => exact rfl
  case F => exact F1
  case N => exact N1
  case g => exact ⟨.refl, B', X', T', D'⟩
  case h0 => exact ⟨rfl, rfl, [], 0, rfl, .nil, Nat.le_refl _⟩
  case hl =>
    rintro i m₂ news₂ ⟨_, _, us, c', rfl, _, _⟩
    exact List.mem_cons_of_mem _ List.mem_cons_self
  case turn =>
    clear F1 N1 B' X' T' D' 
    rintro i v g₂ m₂ news₂ I oI h₂ tk₂ hiv ⟨GT, B', X', T', D'⟩ ⟨hm1, hm2, us, c', rfl, hus, hul⟩ F2 N2 hI
    replace F2 := fr_seg hm1 hm2 F2
    obtain ⟨y, ty, rfl, hy⟩ := hv.item i v hiv
    have hI1 : @Ne Nat r I := hI (r, listOf us.toArray c') (by simp)
    have hI2 : @Ne Nat l I := hI (l, listOf vs.toArray c) (by simp)
    have hI3 : @Ne Nat P I := hI (P, oP) (by simp)
    clear hI
    change Fr g₂ L' h₂ _ at F2
    change News g₂ L' h₂ _ at N2
    have hrl := hr.1
    have hil : i < vs.length := by
      rcases Nat.lt_or_ge i vs.length with q | q
      · exact q
      · rw [List.getElem?_eq_none q] at hiv; cases hiv
    have hus9 : us.toArray.size ≤ sizeLine := by rw [List.size_toArray, sizeLine_eq]; omega
    have hus8 : us.toArray.size + 1 ≤ sizeLine := by rw [List.size_toArray, sizeLine_eq]; omega
    have hrP := hr.2
    k_steps
    · -- popped
      rename us ≠ [] => hne
      rename (y == Str.ofString "..") = true => hc
      have hy2 : y = Str.ofString ".." := by simpa using hc
      rename Fr g₂ L' _ _ => F9
      rename News g₂ L' _ _ => N9
      refine turn_close (news := [(r, listOf us.dropLast.toArray (c' + 1)), (l, listOf vs.toArray c), (P, oP)]) F9 N9 ⟨GT, B', X', T', D'⟩ ?_ ?_ ⟨rfl, rfl, us.dropLast, c' + 1, rfl, ?_, ?_⟩
      · intro p hp
        simp only [List.mem_cons, List.not_mem_nil, or_false] at hp
        rcases hp with rfl | rfl | rfl | rfl <;> simp
      · intro p hp
        simp only [List.mem_cons, List.not_mem_nil, or_false] at hp
        rcases hp with rfl | rfl | rfl <;> assumption
      · rw [res_step hy, resPush, if_pos hy2]
        exact strsAre_dropLast hus
      · rw [List.length_dropLast]; omega
    · -- raised
      rename us = [] => hne
      rename (y == Str.ofString "..") = true => hc
      have hy2 : y = Str.ofString ".." := by simpa using hc
      rename Below (ktrTop dp un gd cn cs L a ccd [] outer) base _ _ => B9
      rename Landed _ _ _ _ _ _ => D9
      rename KtsTurn _ _ _ => K9
      rename Fr _ L' _ _ => F9
      rename News _ L' _ _ => N9
      have X9 := XB.keeps B9.stays
      have T9 := TB.keeps B9.stays
      k_enter
      k_steps
      rename ∀ (p : Addr × Obj), p ∈ _ → p.1 ≠ _ ∧ p.1 ≠ _ => n9
      clear F9 N9
      rename Fr _ L' _ _ => F9
      rename News _ L' _ _ => N9
      refine unflight D9 F9 N9 n9 ?_
      intro h9 F8 N8
      k_steps
      show TurnPost _ _ _ _ _ _ _ _
      have hR : (ws.take i).foldl resPush [] = [] := strsAre_nil (hne ▸ hus)
      refine turn_close (news := [(r, listOf us.toArray c'), (l, listOf vs.toArray c), (P, oP)]) F8 N8 ⟨GT.trans K9, B9, X9, T9, D'.turn K9⟩ ?_ ?_ ⟨rfl, rfl, us, c', rfl, ?_, ?_⟩
      · intro p hp
        simp only [List.mem_cons, List.not_mem_nil, or_false] at hp
        rcases hp with rfl | rfl | rfl | rfl <;> simp
      · intro p hp
        simp only [List.mem_cons, List.not_mem_nil, or_false] at hp
        rcases hp with rfl | rfl | rfl <;> assumption
      · rw [res_step hy, resPush, if_pos hy2, hR, hne]
        exact .nil
      · omega
    · rename (y != Str.ofString ".") = true => hc
      rename (y == Str.ofString "..") = false => hc1
      rename Fr g₂ L' _ _ => F9
      rename News g₂ L' _ _ => N9
      refine turn_close (news := [(r, listOf (us ++ [Value.str y ty]).toArray (c' + 1)), (l, listOf vs.toArray c), (P, oP)]) F9 ?_ ⟨GT, B', X', T', D'⟩ (fun p hp => hp) ?_ ⟨rfl, rfl, us ++ [Value.str y ty], c' + 1, rfl, ?_, ?_⟩
      · change News g₂ L' _ _
        simpa using N9
      · intro p hp
        simp only [List.mem_cons, List.not_mem_nil, or_false] at hp
        rcases hp with rfl | rfl | rfl <;> assumption
      · rw [res_step hy, resPush, if_neg (by simpa using hc1), if_neg (by simpa using hc)]
        exact strsAre_snoc hus
      · rw [List.length_append]; simp; omega
    · rename (y != Str.ofString ".") = false => hc
      rename (y == Str.ofString "..") = false => hc1
      refine turn_close (news := [(r, listOf us.toArray c'), (l, listOf vs.toArray c), (P, oP)]) F2 N2 ⟨GT, B', X', T', D'⟩ (fun p hp => hp) ?_ ⟨rfl, rfl, us, c', rfl, ?_, ?_⟩
      · intro p hp
        simp only [List.mem_cons, List.not_mem_nil, or_false] at hp
        rcases hp with rfl | rfl | rfl <;> assumption
      · rw [res_step hy, resPush, if_neg (by simpa using hc1), if_pos (by simpa using hc)]
        exact hus
      · omega
  case done =>
    clear F1 N1 B' X' T' D'
    rintro g₁ m₂ news₂ h₂ tk₂ ⟨GT, B', X', T', D'⟩ ⟨hm1, hm2, us, c', rfl, hus, hul⟩ F2 N2
    rw [hv.length, List.take_length] at hus
    replace F2 := fr_done hm1 hm2 F2
    change Fr g₁ L' h₂ _ at F2
    change News g₁ L' h₂ _ at N2
    have hrl := hr.1
    have hrP := hr.2
    have hus8 : us.toArray.size + 1 ≤ sizeLine := by rw [List.size_toArray, sizeLine_eq]; omega
    rcases strsAre_split hv with ⟨rfl, rfl⟩ | ⟨p9, y, ty, ps, rfl, rfl, hp9⟩
    · k_steps
      rename KtsTurn (outer.filterMap (·.frame)) _ _ => kT
      rename Below A₀ _ _ _ => kB
      rename Frag.In _ _ => kX
      rename Top _ _ _ _ _ _ => kP
      rename KtsDicts (outer.filterMap (·.frame)) _ => kD
      rename Fr _ L _ _ => kF
      rename News _ L _ _ => kN
      exact hret r us c' _ _ _ ⟨kT, kF, kN, kB, kX, kP, kD⟩ hrl hrP (by rw [segsOf_nil]; exact hus)
    · have hpz : p9.length ≤ 1000 := by rw [List.length_append] at hvl; omega
      k_steps
      · rename List.any _ _ = true => hc
        rename KtsTurn (outer.filterMap (·.frame)) _ _ => kT
        rename Below A₀ _ _ _ => kB
        rename Frag.In _ _ => kX
        rename Top _ _ _ _ _ _ => kP
        rename KtsDicts (outer.filterMap (·.frame)) _ => kD
        rename Fr _ L _ _ => kF
        rename News _ L _ _ => kN
        simp only [List.push_toArray] at kN
        refine hret r (us ++ [Value.str (Str.ofString "") _]) (c' + 1) _ _ _ ⟨kT, kF, cb_drop kN (fun q hq => List.mem_cons_of_mem _ hq), kB, kX, kP, kD⟩ hrl hrP ?_
        · rw [segsOf_dot hc]
          exact strsAre_snoc hus
      · rename List.any _ _ = false => hc
        rename KtsTurn (outer.filterMap (·.frame)) _ _ => kT
        rename Below A₀ _ _ _ => kB
        rename Frag.In _ _ => kX
        rename Top _ _ _ _ _ _ => kP
        rename KtsDicts (outer.filterMap (·.frame)) _ => kD
        rename Fr _ L _ _ => kF
        rename News _ L _ _ => kN
        refine hret r us c' _ _ _ ⟨kT, kF, fun q hq => kN q ?_, kB, kX, kP, kD⟩ hrl hrP ?_
        · simp only [List.mem_cons, List.not_mem_nil, or_false] at hq
          rcases hq with rfl | rfl | rfl <;> simp
        · rw [segsOf_plain hc]
          exact hus
end Mine

-- part STEPS
namespace Mine
local macro_rules | `(tactic| k_room) => `(tactic| first | ktr_room | ((simp only [depth_mark, depth_under_make, depth_under_kw, depth_in1, depth_deeper, depth_caller]); (try dsimp only [ktrTop]); omega))
local macro_rules | `(tactic| k_units) => `(tactic| ktr_units)
local macro_rules | `(tactic| walk_at "exec While Compare cons nil") => `(tactic| ((with_reducible show wpAny _ _ (exec (Stmt.While _ _ _ _) _) _ _ _); refine stop_here ?_))
theorem steps_ok {w : World} {mg mb : Str → Option Value} {p : Program} {loose : List Str} {mean : ExcName → Option Value} : StepsOk Challenge.rw_fe0369_01.row.prog w (hd.heap_39 w.params) p loose mean mg mb 140 := by
  w_top off
  k_fill
  unfold StepsOk
  intro dp un gd cn cs a ccd outer A₀ base h₀ L m s Q P oP x t Inv B F X N T hk hx hdp hu hI0 hIs hret
  refine wpAny_call ?_
  refine' code_def ?k1 ?k2 ?k3 ?k4 ?k5 ?kA ?kF ?kK ?k6 ?k7 ?k8 ?k9 ?kB ?_ ?c2 ?c3 ?c4 ?c5
  case kA => exact rfl
  case kF => exact rfl
  case kK => exact hk
  case k1 => exact B
  case k2 => exact F
  case k3 => exact X
  case k4 => exact N
  case k5 => exact T
  case k6 => k_dflt k_is
  case k7 => k_dflt k_is
  case k8 => ktr_room
  case k9 => exact BindsTo.of_eq rfl
  case c5 => decide
  case kB => exact locs rfl
  case c2 => exact rfl
  case c3 => exact rfl
  case c4 => exact rfl
  intro g' L' h' FG' F' N' B' X' T'
  (try dsimp only)
  refine wpAny_noRaise ?_
  k_steps
  show wpAny _ _ _ _ _ _
  rename Fr _ L' _ _ => F1
  rename News _ L' _ _ => N1
  refine' while_inv (fun n s' => ∃ g o tg to h tk m', s' = { s with heap := h, toks := tk } ∧ Fr g' L' h m' ∧ News g' L' h [(P, oP)] ∧ m' (Str.ofString "given") = some (.str g tg) ∧ m' (Str.ofString "out") = some (.str o to) ∧ n = g.length ∧ g.length + o.length ≤ x.length ∧ Inv g o) x.length ?h ?turn
  case h =>
    refine ⟨x, Str.ofString "", _, _, _, _, _, rfl, F1, N1, rfl, rfl, rfl, ?_, hI0⟩
    show x.length + 0 ≤ _
    omega
  case turn =>
    clear F1 N1
    rintro n s' ⟨g, o, tg, to, h, tk, m', rfl, F2, N2, hm1, hm2, rfl, hsum, hInv⟩
    replace F2 := fr_two hm1 hm2 F2
    clear hm1 hm2
    have hg : g.length ≤ 1000 := by omega
    have ho : o.length ≤ 1000 := by omega
    have fin : ∀ (g₂ o₂ : Str) (tg₂ to₂ : Tok) (h₂ : Heap) (tk₂ : Nat) (m₂ : Str → Option Value) (news : List (Addr × Obj)) (s₂ : Shared), g ≠ Str.ofString "" → s₂ = { s with heap := h₂, toks := tk₂ } → stepT g o = (g₂, o₂) → Fr g' L' h₂ m₂ → News g' L' h₂ news → (P, oP) ∈ news →
        m₂ (Str.ofString "given") = some (.str g₂ tg₂) → m₂ (Str.ofString "out") = some (.str o₂ to₂) →
        WhileEnd (fun n s' => ∃ g o tg to h tk m', s' = { s with heap := h, toks := tk } ∧ Fr g' L' h m' ∧ News g' L' h [(P, oP)] ∧ m' (Str.ofString "given") = some (.str g tg) ∧ m' (Str.ofString "out") = some (.str o to) ∧ n = g.length ∧ g.length + o.length ≤ x.length ∧ Inv g o) g.length .next s₂ := by
      intro g₂ o₂ tg₂ to₂ h₂ tk₂ m₂ news s₂ hne hs₂ hst F₂ N₂ hP h1 h2
      have q := stepT_less g o hne
      have q2 := hIs g o hne hInv
      rw [hst] at q q2
      exact while_close q.1 ⟨g₂, o₂, tg₂, to₂, h₂, tk₂, m₂, hs₂, F₂, fun p hp => N₂ p (by rw [List.mem_singleton.mp hp]; exact hP), h1, h2, rfl, by have := q.2; simp only at this; omega, q2⟩
    k_steps
    all_goals try (
      rename (g != Str.ofString "") = true => hne
      rename Fr g' L' _ _ => F9
      rename News g' L' _ _ => N9
      refine fin _ _ _ _ _ _ _ _ _ (by simpa using hne) rfl ?_ F9 N9 (by simp) rfl rfl
      simp only [stepT, cutAt, *, if_true, if_false, Bool.false_eq_true])
    rename (g != Str.ofString "") = false => hne
    have hge : g = Str.ofString "" := by simpa using hne
    subst hge
    rename Fr h₀ L _ _ => F9
    rename News h₀ L _ _ => N9
    exact hret o to _ _ hInv F9 N9
end Mine

-- part NP
namespace Mine
local macro_rules | `(tactic| k_room) => `(tactic| first | ktr_room | ((simp only [depth_mark, depth_under_make, depth_under_kw, depth_in1, depth_deeper, depth_caller]); (try dsimp only [ktrTop]); omega))
local macro_rules | `(tactic| k_units) => `(tactic| ktr_units)
local macro_rules | `(tactic| walk_at "call builtin:str.split") => `(tactic| (k_here; (with_reducible show wpAny _ _ (call (Value.builtin "str.split") _) _ _ _); k_dflt (refine KSpl.split1 (by k_asm) (by k_asm) (by decide) ?_ (by (rw [sizeLine_eq]; omega))); intro D' l' h' k' e' a' F' N' l1; (try k_lt l1)))
local macro_rules | `(tactic| walk_at "call ref") => `(tactic| ((with_reducible show wpAny _ _ (call (Value.ref 125) _) _ _ _); refine stop_here ?_))
local macro_rules | `(tactic| walk_at "call builtin:str.join") => `(tactic| (k_here; (with_reducible show wpAny _ _ (call (Value.builtin "str.join") [Value.str _ _, Value.ref _]) _ _ _); k_dflt (refine' join_news ?N ?m ?i ?z ?_; (case N => k_asm); (case i => assumption); (case m => k_mem); (case z => omega)); intro _ _))
theorem np_ok {w : World} {mg mb : Str → Option Value} {p : Program} {loose : List Str} {mean : ExcName → Option Value}
    (nps : NpsClaim Challenge.rw_fe0369_01.row.prog w (hd.heap_39 w.params) p loose mean mg mb 125) : NpOk Challenge.rw_fe0369_01.row.prog w (hd.heap_39 w.params) p loose mean mg mb 132 := by
  w_top off
  k_fill
  unfold NpOk
  intro dp un gd cn cs a ccd A₀ base h₀ L m s Q P oP x t B F X N T hk XB TB hx hdp hu hret
  refine wpAny_call ?_
  refine' code_defS0 ?k1 ?k2 ?k3 ?k4 ?k5 ?kA ?k6 ?k7 ?k8 ?k9 ?kB ?_ ?cK ?c2 ?c3 ?c4 ?c5
  case kA => exact rfl
  case k1 => exact B
  case k2 => exact F
  case k3 => exact X
  case k4 => exact N
  case k5 => exact T
  case k6 => k_dflt k_is
  case k7 => k_dflt k_is
  case k8 => ktr_room
  case k9 => exact BindsTo.of_eq rfl
  case kB => exact locs rfl
  case cK => exact hk
  case c2 => exact rfl
  case c3 => exact rfl
  case c4 => exact rfl
  case c5 => decide
  intro g' L' h' FG' F' N' B' X' T' D'
  (try dsimp only)
  refine wpAny_noRaise ?_
  k_steps
  all_goals (
    show wpAny _ _ _ _ _ _
    rename Fr _ L' _ _ => F9
    rename News _ L' _ _ => N9
    rename List.map _ _ = Txt.split _ _ => e9
    rename StrsAre _ _ => a9
    rw [e9] at a9
    rename P < _ => hPD
    obtain ⟨q1, q2, q3⟩ := segs_smallA a9 (by omega)
    refine nps _ _ _ _ _ _ _ _ _ _ _ _ _ _ _ _ P oP _ _ 0 B' F9 X' N9 T' rfl XB TB D' a9 ?_ ?_ ?_ (Nat.ne_of_gt hPD) ?_
    · rw [a9.length]; omega
    · show dp + 1 + 10 < recursionLimit
      omega
    · show un + 3 + 80 < cLine
      omega
    · clear F9 N9
      intro r us c' g₂ h₂ tk₂ Bk hrl hrP hus
      obtain ⟨GT, F8, N8, B8, X8, T8, D8⟩ := Bk
      k_steps
      rename Fr h₀ L _ _ => Fz
      rename News h₀ L _ _ => Nz
      (first
        | (rename (Txt.item x 0 == Str.ofString "/") = true => hi; rename (x.length : Int) ≠ 0 => hz; rw [npath_slash (by omega) hi] at hret)
        | (rename (Txt.item x 0 == Str.ofString "/") = false => hi; rename (x.length : Int) ≠ 0 => hz; rw [npath_plain (by omega) hi] at hret)
        | (rename (x.length : Int) = 0 => hz; rw [npath_nil (by omega)] at hret))
      exact hret _ _ _ Fz (cb_drop Nz (fun q hq => by rw [List.mem_singleton.mp hq]; simp)))
end Mine

-- part LAW
namespace Mine
local macro_rules | `(tactic| walk_at "CompSrc") => `(tactic| (k_here; (try k_fmods); (try kcf_lens); k_dflt (refine LCg.CompSrc.ledger (by rfl) (by k_asm) (by k_asm) (by k_mem) (by kcf_size) ?_; intro g'; (refine' kct_list pieceAt (by first | assumption | l_ints) (fun k' t' I' oI' C' oC' D' m' ys' h' tk' E' hk' hC' hx' F' N' off' ne' hMark' => ?_) ?_); (all_goals (try (simp only [LCg.Off3, and_true] at off'))); kcf_last)))
local macro_rules | `(tactic| walk_at "call ref") => `(tactic| ((first | (with_reducible show wpAny _ _ (call (Value.ref 125) _) _ _ _) | (with_reducible show wpAny _ _ (call (Value.ref 132) _) _ _ _) | (with_reducible show wpAny _ _ (call (Value.ref 140) _) _ _ _)); refine stop_here ?_))
local macro_rules | `(tactic| walk_at "KCtEl") => `(tactic| (with_unfolding_all exact kct_el (r' := pieceAt _) rfl rfl rfl))
local macro_rules | `(tactic| walk_at "call builtin:str.join") => `(tactic| (k_here; (with_reducible show wpAny _ _ (call (Value.builtin "str.join") [Value.str _ _, Value.ref _]) _ _ _); refine stop_here ?_))
local macro_rules | `(tactic| walk_at "eval ListComp") => `(tactic| ((with_reducible show wpAny _ _ (eval (Expr.ListComp _ (List.cons (Comprehension.mk _ _ (List.cons _ _) _) _) _ _) _) _ _ _); refine stop_here ?_))
local macro_rules | `(tactic| walk_at "CompSrcT") => `(tactic| ((with_reducible show LCt.CompSrcT _ _ _ _ _ _ _ _ _ _ _ _ _ _ _); refine stop_here ?_))
local macro_rules | `(tactic| walk_at "call builtin:str.split") => `(tactic| (k_here; (with_reducible show wpAny _ _ (call (Value.builtin "str.split") _) _ _ _); k_dflt (refine KSpl.split1 (by k_asm) (by k_asm) (by decide) ?_ (by (rw [sizeLine_eq]; omega))); intro D' l' h' k' e' a' F' N' l1; (try k_lt l1)))
local macro_rules | `(tactic| walk_at "call type:list") => `(tactic| (k_here; (with_reducible show wpAny _ _ (call (Value.type _) [Value.ref _]) _ _ _); k_dflt (refine' list_copyK ?k1 ?k2 ?k3 ?_ ?z; (case k1 => k_asm); (case k2 => k_asm); (case k3 => is_list); (case z => (rw [List.size_toArray, sizeLine_eq]; omega))); intro D' c' h' F' N' l1; (try k_lt l1)))
local macro_rules | `(tactic| walk_at "compareOp Eq ref ref") => `(tactic| ((with_reducible show wpAny _ _ (compareOp CmpOp.Eq (Value.ref _) (Value.ref _)) _ _ _); refine stop_here ?_))
local macro_rules | `(tactic| walk_at "eval ListComp") => `(tactic| ((with_reducible show wpAny _ _ (eval (Expr.ListComp _ (List.cons (Comprehension.mk _ _ (List.cons _ _) _) _) _ _) _) _ _ _); refine stop_here ?_))
local macro_rules | `(tactic| walk_at "CompEnd") => `(tactic| ((with_reducible show LCg.CompEnd _ _ _ _ _ _ _ _ _ (LCg.lst []) _ _ _ _); refine stop_here ?_))
local macro_rules | `(tactic| walk_at "compareOp NotEq ref ref") => `(tactic| (k_here; (with_reducible show wpAny _ _ (compareOp CmpOp.NotEq (Value.ref _) (Value.ref _)) _ _ _); k_dflt (refine' ne_texts ?ha ?hb ?hi StrsAre.nil ?oi fine_nil (by ke_room) ?_; (case ha => is_list); (case hb => is_list); (case hi => assumption); (case oi => assumption))))
theorem law_ok : PySem.Challenge.rw_fe0369_01.Holds := by
  refine hd ?_
  w_strict (k_go0; (all_goals try k_fold); k_steps)
  show wpAny _ _ _ _ _ _
  rename CarriedAll _ _ => hC
  obtain ⟨ps, hps, hS, hf, hw, hl⟩ : ∃ ps : List Str, ps = piecesOf _ ∧ StrsAre _ ps ∧ AllFree ps ∧ wt ps ≤ 48 ∧ ps.length ≤ 16 :=
    ⟨piecesOf _, rfl, StrsAre.ofCarried (by unfold piecesOf; rw [List.map_map]; exact hC), pieces_free _, pieces_wt _, pieces_len _⟩
  have hok : AllOk ps := hps ▸ pieces_fine _
  clear hps
  rename News _ _ _ _ => N9
  rename Fr _ _ _ _ => F9
  refine join_news (c := _) N9 (by with_unfolding_all exact List.mem_cons_self) hS (by omega) ?_
  intro tj kj
  have hpl := path_len hw hl
  have hdl := due_len hw hl
  have hsl := len_s
  have hcat : (Str.ofString "/" ++ Txt.join (Str.ofString "/") ps).length ≤ 65 := by rw [Str.length_append, hsl]; omega
  rename_i Dp hp tkp _
  have N8 := cb_drop (news := [(Dp, listOf ys.toArray ys.length)]) N9 (by intro q hq; rw [List.mem_singleton.mp hq]; exact List.mem_cons_self)
  clear N9 hC
  rename Below callerA _ _ _ => K0
  rename Frag.In _ _ => KX
  rename Top _ _ _ _ _ _ => TT
  k_steps
  show wpAny _ _ _ _ _ _
  rename Fr _ _ _ _ => F9
  rename News _ _ _ _ => N9
  refine wpAny_noRaise ?_
  refine steps_ok _ _ _ _ _ _ _ _ _ _ _ _ _ _ _ _ _ _ _ (StepInv (segsOf (Pof ps))) K0 F9 KX N9 TT rfl ?_ ?_ ?_ (inv_start hf) (fun g o hne h => step_inv hne h) ?_
  · omega
  · exact Nat.le_of_ble_eq_true rfl
  · exact Nat.le_of_ble_eq_true rfl
  clear F9 N9
  intro o to ho tko hInv F9 N9
  have hdue := inv_end hInv
  subst hdue
  clear hInv
  k_steps
  show wpAny _ _ _ _ _ _
  rename Fr _ _ _ _ => F9
  rename News _ _ _ _ => N9
  refine wpAny_noRaise ?_
  refine np_ok nps_ok _ _ _ _ _ _ _ _ _ _ _ _ _ _ _ _ _ _ K0 F9 KX N9 TT rfl KX TT ?_ ?_ ?_ ?_
  · omega
  · exact Nat.le_of_ble_eq_true rfl
  · exact Nat.le_of_ble_eq_true rfl
  clear F9 N9
  intro t2 h2 tk2 F9 N9
  rw [law_a hf]
  k_steps
  show wpAny _ _ _ _ _ _
  rename Fr _ _ _ _ => F9
  rename News _ _ _ _ => N9
  refine wpAny_noRaise ?_
  refine np_ok nps_ok _ _ _ _ _ _ _ _ _ _ _ _ _ _ _ _ _ _ K0 F9 KX N9 TT rfl KX TT ?_ ?_ ?_ ?_
  · omega
  · exact Nat.le_of_ble_eq_true rfl
  · exact Nat.le_of_ble_eq_true rfl
  clear F9 N9
  intro t3 h3 tk3 F9 N9
  rw [law_b hf]
  have hdt : (Txt.slice (dueT ps) (some 1) none).length ≤ 70 := by
    rw [due_tail hf]
    have h9 := hdl
    unfold dueT at h9
    rw [Str.length_append] at h9
    omega
  have hyl : ys.length = ps.length := hS.length
  k_steps
  show wpAny _ _ _ _ _ _
  rename Fr _ _ _ _ => F9
  rename News _ _ _ _ => N9
  refine LCt.ListComp_T (F₀ := F9) (by with_unfolding_all rfl) (by decide) (by rfl) (by decide) (by rfl) ?_
  k_steps
  show LCt.CompSrcT _ _ _ _ _ _ _ _ _ _ _ _ _ _ _
  rename Fr _ _ _ _ => F9
  rename News _ _ _ _ => N9
  rename List.map _ _ = Txt.split _ _ => e9
  rename StrsAre _ _ => a9
  rw [e9] at a9
  obtain ⟨q1, q2, q3⟩ := segs_smallA a9 (by omega)
  refine LCt.CompSrcT.ledger (by rfl) F9 N9 (by k_mem) ?_ ?_
  · rw [List.size_toArray, a9.length, sizeLine_eq]; omega
  intro g'
  clear F9 N9
  refine rest_no ?_ ?_ _ _
  · intro R i v I oI C oC D m₂ h tk E' hR hv hC hx F N off ne
    have off0 := off
    simp only [LCg.Off3, and_true] at off
    obtain ⟨y, ty, rfl, hy⟩ := a9.item i v (by simpa using hv)
    have hnd : ¬ Dot y := due_nodots hf y (List.mem_of_getElem? hy)
    k_steps
    · rename List.any _ _ = true => hc
      exact absurd (dot_any hc) hnd
    · show LCg.CompEnd _ _ _ _ _ _ _ _ _ _ _ _ _ _
      rename Fr _ _ _ _ => F9
      rename News _ _ _ _ => N9
      exact LCg.CompEnd.intro F9 N9 _ (fun q hq => List.mem_cons_of_mem _ hq) off0 (Or.inr ⟨_, List.mem_cons_self, rfl, _, rfl⟩) hR
  · unfold LCg.FinE
    intro D' h' tk' F' N' o1'
    simp only [LCg.Off1, and_true] at o1'
    (try simp only [List.nil_append, List.cons_append] at N')
    (try dsimp only)
    clear a9 e9
    k_steps
    focus (
      show wpAny _ _ _ _ _ _
      rename (Txt.slice _ none (some 1) != _) = true => hnq
      rename Fr _ _ _ _ => F9
      rename News _ _ _ _ => N9
      have N8 := cb_drop (news := [(Dp, listOf ys.toArray ys.length)]) N9 (by intro q hq; rw [List.mem_singleton.mp hq]; simp)
      clear N9
      refine wpAny_noRaise ?_
      refine np_ok nps_ok _ _ _ _ _ _ _ _ _ _ _ _ _ _ _ _ _ _ K0 F9 KX N8 TT rfl KX TT ?_ ?_ ?_ ?_
      · omega
      · exact Nat.le_of_ble_eq_true rfl
      · exact Nat.le_of_ble_eq_true rfl
      clear F9 N8
      intro t4 h4 tk4 F9 N9
      rw [law_d hf hnq]
      k_steps
      show wpAny _ _ _ _ _ _
      rename Fr _ _ _ _ => F9
      rename News _ _ _ _ => N9
      refine wpAny_noRaise ?_
      refine np_ok nps_ok _ _ _ _ _ _ _ _ _ _ _ _ _ _ _ _ _ _ K0 F9 KX N9 TT rfl KX TT ?_ ?_ ?_ ?_
      · omega
      · exact Nat.le_of_ble_eq_true rfl
      · exact Nat.le_of_ble_eq_true rfl
      clear F9 N9
      intro t5 h5 tk5 F9 N9
      rw [law_e hf]
      k_steps)
    all_goals (
      show wpAny _ _ _ _ _ _
      rename Fr _ _ _ _ => F9
      rename News _ _ _ _ => N9
      have N8 := news_two (a := Dp) (oa := listOf ys.toArray ys.length) N9 (by simp)
      clear N9
      refine wpAny_noRaise ?_
      refine nps_ok _ _ _ _ _ _ _ [] _ _ _ _ _ _ _ _ _ _ _ _ _ K0 F9 KX N8 TT rfl KX TT ktsDicts_nil hS ?_ ?_ ?_ ?_ ?_
      · omega
      · exact Nat.le_of_ble_eq_true rfl
      · exact Nat.le_of_ble_eq_true rfl
      · exact Nat.ne_of_lt (by omega)
      clear F9 N8
      intro r us c' g₂ h₂ tk₂ Bk hrl hrP hus
      obtain ⟨GT, F8, N8, B8, X8, T8, D8⟩ := Bk
      have F9 := fr_back GT F8
      have N9 := news_back GT N8
      clear F8 N8 B8 X8 T8 D8 GT
      have hok2 := segs_fine hok
      k_steps
      show wpAny _ _ _ _ _ _
      rename Fr _ _ _ _ => F9
      rename News _ _ _ _ => N9
      refine eq_texts_same (N9.isList (by k_mem)) (N9.isList (by k_mem)) hS hS hok (by ke_room) ?_
      k_steps
      · show wpAny _ _ _ _ _ _
        rename decide (ps = []) = true => hz
        rename Fr _ _ _ _ => F9
        rename News _ _ _ _ => N9
        have hz := of_decide_eq_true hz
        rw [hz, segsOf_nil] at hus
        refine eq_texts_same (N9.isList (by k_mem)) (N9.isList (by k_mem)) hus StrsAre.nil fine_nil (by ke_room) ?_
        k_steps
      · show wpAny _ _ _ _ _ _
        rename decide (ps = []) = false => hz
        rename Fr _ _ _ _ => F9
        rename News _ _ _ _ => N9
        have hz := of_decide_eq_false hz
        rename List.map _ _ = Txt.split _ _ => e9
        rename StrsAre (strValues _) _ => a9
        rw [e9, law_f hf hz] at a9
        refine eq_texts_same (N9.isList (by k_mem)) (N9.isList (by k_mem)) hus a9 hok2 (by ke_room) ?_
        k_steps)
end Mine

theorem PySem.Challenge.cw_fe0369_01_holds : PySem.Challenge.rw_fe0369_01.Holds := by
  exact Mine.law_ok
