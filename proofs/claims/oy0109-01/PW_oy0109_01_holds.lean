import PyProof.Rows.All
import Wide.All
import OpenK.AllK
import Wide.FinOn
import PySem.Challenge.RW_oy0109_01
set_option Elab.async false
set_option rowWalk.seconds 0
set_option compiler.extract_closed false
section
open PySem PySem.W PyProof.Rows
namespace Mine
set_option maxRecDepth 100000 in
set_option maxHeartbeats 8000000 in
open_top hd for PySem.Challenge.rw_oy0109_01
end Mine
end
section
open PySem PySem.W PyProof.Rows PySem.Calls PySem.Spec
set_option maxRecDepth 100000
namespace Mine
section
variable {M : Model} {A : Around} {E : Value → Shared → Prop} {s : Shared}
theorem noted_newW {base : Heap} {env : Env} {outer : List Env} {L e : Addr} {oe : Obj} {vs : Array Value} {a0 : Value} {Q : Unit → Shared → Prop}
    (hfr : A.frames = some (env :: outer)) (hl : s.heap.FunFrames base (env :: outer)) (hf : env.frame = some L)
    (he : s.heap.get? e = some oe) (hkb : base.StaysIn s.heap) (hen : base.get? e = none) (hd : oe.data = .fields vs) (h1 : vs[1]? = some .none) (h0 : vs[0]? = some a0)
    (h : ∀ h', Heap.HeldW base (env :: outer) e oe.cls a0 L h' → s.heap.UpToSlots h' → Q () { s with heap := h' }) : wpAny M A (noteFrame (.ref e) env) Q E s := by
  unfold noteFrame
  simp only [hf]
  refine wpAny_bind (wpAny_field he hd h1 ?_)
  rw [if_neg (by decide)]
  refine wpAny_entryW hfr hl hf he hkb hen hd (Array.getElem?_eq_some_iff.mp h1).1 h0 fun h' hN => ?_
  obtain ⟨k1, k2, k3, k4⟩ := hN
  exact h h' ⟨k1, hen, k2, k3⟩ k4
end

/-- an exception made anew: its traceback is none yet; its context may be told -/
structure NewExcG (h h' : Heap) (e : Addr) (cls : String) : Prop where
  keeps : ∀ b o, h.get? b = some o → h'.get? b = some o
  new : h.get? e = none
  there : ∃ ob vs t, h'.get? e = some ob ∧ ob.cls = .type cls ∧ ob.data = .fields vs ∧ vs[0]? = some t ∧ vs[1]? = some .none
theorem NewExcG.of {h h' : Heap} {e : Addr} {cls : String} (x : Heap.NewExc h h' e cls) : NewExcG h h' e cls := ⟨x.keeps, x.new, by
  obtain ⟨ob, t, h1, h2, h3⟩ := x.there
  exact ⟨ob, _, t, h1, h2, h3, rfl, rfl⟩⟩
section
variable {prog : Program} {w : World} {A₀ : Around} {E : Value → Shared → Prop} {s' : Shared} {base g h : Heap} {outer : List Env} {L a e : Addr} {m : Str → Option Value} {name : Str} {scope : Scope} {cd : Value}
  {n : Str} {b₀ : Stmt} {suite : List Stmt} {pos np : Pos} {rest : List ExceptHandler} {Q : Flow → Shared → Prop} {news : List (Addr × Obj)} {KF : Frag}
  {p : Program} {loose : List Str} {mean : ExcName → Option Value} {mg mb : Str → Option Value} {x : Str} {X T' : String}
/-- an exception that the frame itself has made, caught by the frame's own try, at any depth -/
theorem caught_ownG (hx : NewExcG h s'.heap e X) (F : Fr g L h m) (N : News g L h news) (K : Below A₀ base outer g) (XB : KF.In base) (TB : Top p loose mean mg mb base)
    (D : KtsDicts (outer.filterMap (·.frame)) g)
    (ex : nsIn KF mainGlobals x = some none) (hv : bootBuiltins x = some (.type T')) (hn' : x ≠ "__name__")
    (hexc : isSubtype (.type T') (.type "BaseException") = pure true) (hnt : isSubtype (.type ((Manifest.find? T').elim "type" fun y => y.metatype)) (.type "tuple") = pure false) (hsub : isSubtype (.type X) (.type T') = pure true)
    (k : ∀ h' g', KtsTurn (outer.filterMap (·.frame)) g g' → Fr g' L h' m → News g' L h' news → Below A₀ base outer g' → KF.In g' → Top p loose mean mg mb g' → KtsDicts (outer.filterMap (·.frame)) g' →
      wpAny (model prog w) ((A₀.deeper (envOf name scope L a cd)).mark (some (.ref e))) (execs (b₀ :: suite) (envOf name scope L a cd)) Q E { s' with heap := h' })
    (hk : scope.kind = .function := by rfl) (hxk : (envOf name scope L a cd).kindOf x = some .globalImplicit := by rfl) (hd : (x == ("__debug__" : Str)) = false := by decide)
    (hE : PassesOwnAt (model prog w) ((A₀.deeper (envOf name scope L a cd)).mark (some (.ref e))) (A₀.deeper (envOf name scope L a cd)) (envOf name scope L a cd) E := by passes_own) :
    wpAny (model prog w) (A₀.deeper (envOf name scope L a cd)) (noteFrame (.ref e) (envOf name scope L a cd))
      (fun _ s₂ => wpAny (model prog w) (A₀.deeper (envOf name scope L a cd)) (setFlight (.ref e) none) (fun _ s₃ =>
        wpAny (model prog w) (A₀.deeper (envOf name scope L a cd)) (handleBy (.ref e) (envOf name scope L a cd) (.ExceptHandler (some (.Name x np)) none (b₀ :: suite) pos :: rest)) Q E s₃) E s₂) E s' := by
  have K' := K.push (name := name) (a := a) (cd := cd) F hk
  have hin : ∀ env ∈ (envOf name scope L a cd :: outer), ∀ b, env.frame = some b → b ∈ (envOf name scope L a cd :: outer).filterMap (·.frame) := fun env he b hb => List.mem_filterMap.mpr ⟨env, he, hb⟩
  have hBG : ∀ b o, h.get? b = some o → b ∉ (envOf name scope L a cd :: outer).filterMap (·.frame) → (hideAll h ((envOf name scope L a cd :: outer).filterMap (·.frame))).get? b = some o := fun b o q nm => hideAll_get _ q nm
  have hLm : L ∈ (envOf name scope L a cd :: outer).filterMap (·.frame) := hin _ (.head _) L rfl
  have hl : ∀ q ∈ news, (hideAll h ((envOf name scope L a cd :: outer).filterMap (·.frame))).get? q.1 = some q.2 := fun q hq => by
    refine hideAll_get _ (N q hq).1 fun hm => ?_
    rcases kts_mem hm with z | z
    · exact (N q hq).2.1 z
    · obtain ⟨o, ho, _⟩ := (K.frames.mem z).2
      rw [(N q hq).2.2] at ho; cases ho
  obtain ⟨ob, vs9, tp, he, hcls, hdd, hv0, hv1⟩ := hx.there
  have hen : (hideAll h ((envOf name scope L a cd :: outer).filterMap (·.frame))).get? e = none := by
    cases q : (hideAll h ((envOf name scope L a cd :: outer).filterMap (·.frame))).get? e with
    | none => rfl
    | some o => have := of_hideAll _ q; rw [hx.new] at this; cases this
  refine noted_newW (a0 := tp) K'.stack ((funFrames_hide K'.frames hin).of_keeps fun b o hb _ => ⟨o, hx.keeps b o hb, rfl⟩) rfl he (fun b o hb => hx.keeps b o (of_hideAll _ hb)) hen hdd hv1 hv0 fun h₄ hheld₄ hsm₄ => ?_
  refine wpAny_landsW hheld₄ fun h₅ hheld hsm₅' => ?_
  have hsm : h.UpToSlots s'.heap := Heap.UpToSlots.of_keeps hx.keeps
  have hsm₅ := hsm.trans (hsm₄.trans hsm₅')
  obtain ⟨g₅, T₅, F₅, K₅⟩ := kts_ground K F hBG hheld.1 hsm₅
  have X₅ : KF.In g₅ := XB.keeps K₅.stays
  have P₅ : TopRead p loose mg mb g₅ := topRead_of (TB.keeps K₅.stays)
  obtain ⟨ob', hob, hobc⟩ := hheld.there
  refine wpAny_handleBy_builtin (X := X) (T := T') (b := true) hexc hnt hsub (name_B F₅ X₅ P₅ ex hv hn' ⟨rfl, ⟨ob', hob, hobc.trans hcls⟩, ?_⟩ hk hxk hd)
  refine lands_againW hheld fun h₆ hfl₆ hsm₆ => ?_
  obtain ⟨g₆, T₆, F₆, K₆⟩ := kts_ground K F hBG hfl₆.1 (hsm₅.trans hsm₆)
  have Nl : News g₆ L h₆ news := fun q hq => ⟨hfl₆.1 _ _ (hl q hq), (N q hq).2.1, T₆.none_ _ (N q hq).2.2⟩
  have X₆ : KF.In g₆ := XB.keeps K₆.stays
  have P₆ : Top p loose mean mg mb g₆ := TB.keeps K₆.stays
  have D₆ : KtsDicts (outer.filterMap (·.frame)) g₆ := D.turn T₆
  exact wpAny_passesOwnAt hE (k h₆ g₆ T₆ F₆ Nl K₆ X₆ P₆ D₆)
theorem caught_own (hx : Heap.NewExc h s'.heap e X) (F : Fr g L h m) (N : News g L h news) (K : Below A₀ base outer g) (XB : KF.In base) (TB : Top p loose mean mg mb base)
    (D : KtsDicts (outer.filterMap (·.frame)) g)
    (ex : nsIn KF mainGlobals x = some none) (hv : bootBuiltins x = some (.type T')) (hn' : x ≠ "__name__")
    (hexc : isSubtype (.type T') (.type "BaseException") = pure true) (hnt : isSubtype (.type ((Manifest.find? T').elim "type" fun y => y.metatype)) (.type "tuple") = pure false) (hsub : isSubtype (.type X) (.type T') = pure true)
    (k : ∀ h' g', KtsTurn (outer.filterMap (·.frame)) g g' → Fr g' L h' m → News g' L h' news → Below A₀ base outer g' → KF.In g' → Top p loose mean mg mb g' → KtsDicts (outer.filterMap (·.frame)) g' →
      wpAny (model prog w) ((A₀.deeper (envOf name scope L a cd)).mark (some (.ref e))) (execs (b₀ :: suite) (envOf name scope L a cd)) Q E { s' with heap := h' })
    (hk : scope.kind = .function := by rfl) (hxk : (envOf name scope L a cd).kindOf x = some .globalImplicit := by rfl) (hd : (x == ("__debug__" : Str)) = false := by decide)
    (hE : PassesOwnAt (model prog w) ((A₀.deeper (envOf name scope L a cd)).mark (some (.ref e))) (A₀.deeper (envOf name scope L a cd)) (envOf name scope L a cd) E := by passes_own) :
    wpAny (model prog w) (A₀.deeper (envOf name scope L a cd)) (noteFrame (.ref e) (envOf name scope L a cd))
      (fun _ s₂ => wpAny (model prog w) (A₀.deeper (envOf name scope L a cd)) (setFlight (.ref e) none) (fun _ s₃ =>
        wpAny (model prog w) (A₀.deeper (envOf name scope L a cd)) (handleBy (.ref e) (envOf name scope L a cd) (.ExceptHandler (some (.Name x np)) none (b₀ :: suite) pos :: rest)) Q E s₃) E s₂) E s' :=
  caught_ownG (NewExcG.of hx) F N K XB TB D ex hv hn' hexc hnt hsub k hk hxk hd hE
end

def LeaveG (fs : List Addr) (A₀ : Around) (base : Heap) (outer : List Env) (K : Frag) (p : Program) (loose : List Str) (mean : ExcName → Option Value) (mg mb : Str → Option Value) (h₀ : Heap) (L : Addr) (m : Str → Option Value) (g : Heap) (R : Result → Shared → Prop) (v : Value) (s' : Shared) : Prop :=
  ∃ g' L' m' news', KtsTurn fs g g' ∧ Fr g' L' s'.heap m' ∧ News g' L' s'.heap news' ∧ ∀ h₀', KtsTurn (outer.filterMap (·.frame)) h₀ h₀' → Fr h₀' L s'.heap m → News h₀' L s'.heap news' → Below A₀ base outer h₀' → K.In h₀' → Top p loose mean mg mb h₀' →
    KtsDicts (outer.filterMap (·.frame)) h₀' → R (.ok (.ret v)) s'

theorem frames_mem {env : Env} {L b : Addr} {outer : List Env} (hf : env.frame = some L) (hm : b ∈ (env :: outer).filterMap (·.frame)) : b = L ∨ b ∈ outer.filterMap (·.frame) := by
  obtain ⟨env', he, hf'⟩ := List.mem_filterMap.mp hm
  rcases List.mem_cons.mp he with rfl | he
  · rw [hf] at hf'; exact .inl (Option.some.inj hf').symm
  · exact .inr (List.mem_filterMap.mpr ⟨env', he, hf'⟩)

section
variable {prog : Program} {w : World} {A₀ A : Around} {s : Shared} {base h₀ : Heap} {outer : List Env} {L : Addr} {m : Str → Option Value} {env : Env} {news : List (Addr × Obj)} {K : Frag} {p : Program} {loose : List Str} {mean : ExcName → Option Value} {mg mb : Str → Option Value}
    {R : Result → Shared → Prop} {name qual : Str} {params : Arguments} {body : List Stmt} {scope : Scope} {dV kV doc pm cdv ct oc : Value} {an od : Option Addr} {osl : Array (Option Value)} {f : Addr} {args : Args} {binds : List (Str × Value)}
/-- a def entered from any frame; its own try may catch, the frames outside may come back with other slots -/
theorem enterS (B : Below A₀ base outer h₀) (F : Fr h₀ L s.heap m) (X₀ : K.In h₀) (N : News h₀ L s.heap news) (T : Top p loose mean mg mb h₀) (XB : K.In base) (TB : Top p loose mean mg mb base) (D : KtsDicts (outer.filterMap (·.frame)) h₀)
    (hA : A.frames = some (env :: outer)) (hf : env.frame = some L) (hke : env.scope.kind = .function)
    (ho : K.lookup f = some ⟨oc, od, .func (fnOf name qual params body scope dV kV doc pm an cdv ct), osl⟩) (hcd : codeIn K cdv qual = true) (hroom : A.depth < recursionLimit)
    (hbind : BindsTo s (fnOf name qual params body scope dV kV doc pm an cdv ct) args binds) (hloc : ∀ y ∈ binds, scope.names.lookup y.1 = some .local)
    (h : ∀ g L' h₁, Fr h₀ L g m → Fr g L' h₁ (fun y => binds.reverse.lookup y) → News g L' h₁ news → Below A base (env :: outer) g → K.In g → Top p loose mean mg mb g → KtsDicts ((env :: outer).filterMap (·.frame)) g → (∀ q ∈ news, q.1 < L') →
      wpAny (model prog w) (A.deeper (envOf qual scope L' f cdv)) (execs body (envOf qual scope L' f cdv))
        (fun fl s' => LeaveG ((env :: outer).filterMap (·.frame)) A₀ base outer K p loose mean mg mb h₀ L m g R (match fl with | .ret v => v | _ => .none) s')
        (fun _ _ => False)
        { s with heap := h₁, toks := s.toks + binds.length })
    (hco : scope.isCoroutine = false) (hgen : scope.isGenerator = false) (hk : scope.kind = .function)
    (hcell : ∀ x ∈ scope.names, x.2 ≠ .cell) : codeAny (model prog w) A (.call (.ref f) args) R s := by
  have X := X₀.keeps F.keep
  refine codeAny_call_def (fd := fnOf name qual params body scope dV kV doc pm an cdv ct) (body := body) (binds := binds) hroom (X _ _ ho) rfl (T.nolimit.keeps F.keep) (codeRec_of X hcd) rfl hbind hcell hloc (fun h₁ hns hk₁ => ?_) hco hgen hk
  obtain ⟨FG, B₂, st, _⟩ := groundX (R := R) B F N hA hf hke
  obtain ⟨oL, es, ep, hLg, hLd, hLk, hLf⟩ := FG.ns
  have hNs : ∀ (sl : Array (Option Value)) h', h'.get? L = some { oL with slots := sl } → Heap.Ns h' L m := fun sl h' e => ⟨_, es, ep, e, hLd, hLk, hLf⟩
  have nL₀ : h₀.get? L = none := kts_self F
  refine wpAny_mono (h _ s.heap.objs.size h₁ FG ⟨hns, fun b o e => hk₁ b o (of_hideAll _ e), Nat.le_of_eq (hideAll_size _ _)⟩
    (fun p hp => ⟨hk₁ _ _ (N p hp).1, Nat.ne_of_lt (Heap.lt_size (N p hp).1), hideAll_none _ (List.mem_map_of_mem hp)⟩) B₂ (X₀.keeps st) (T.keeps st) (fun b hb => by
      rcases frames_mem hf hb with rfl | hb
      · exact ⟨oL, es, ep, hLg, hLd⟩
      · obtain ⟨o, es', n', ho', hd'⟩ := D b hb
        exact ⟨o, es', n', st b o ho', hd'⟩) (fun q hq => Heap.lt_size (N q hq).1)) (fun fl s' hl => ?_) fun _ _ y => y.elim
  obtain ⟨g', L', m', news', T', F', N', k⟩ := hl
  obtain ⟨sl, hs⟩ := T'.up hLg
  obtain ⟨T₁, S₁⟩ := kts_turn_at (h := s'.heap) (fs := outer.filterMap (·.frame)) (g := h₀)
    (fun b hb => by
      obtain ⟨_, o, ho', _⟩ := B.frames.mem hb
      exact ⟨o, ho'⟩)
    (fun b o e nmem => F'.keep b o (T'.other b o (st b o e) (fun q => by
      rcases frames_mem hf q with z | z
      · rw [z, nL₀] at e
        cases e
      · exact nmem z)))
    (fun b o e hm => by
      obtain ⟨sl', hs'⟩ := T'.up (st b o e)
      exact ⟨sl', F'.keep _ _ hs'⟩)
  have B₃ : Below A₀ base outer (ktsHeap s'.heap (outer.filterMap (·.frame)) h₀) := ⟨B.stack, fun b o e => T₁.other b o (B.stays b o e) (fun hm => by
    rw [(B.frames.mem hm).1] at e
    cases e), B.frames.of_keeps fun b o e _ => by
    obtain ⟨sl', hs'⟩ := T₁.up e
    exact ⟨_, hs', rfl⟩⟩
  refine k _ T₁ ⟨hNs sl _ (F'.keep _ _ hs), S₁, by rw [T₁.size]; exact F.above⟩ (fun p hp => ⟨(N' p hp).1, fun q => ?_, ?_⟩) B₃ (XB.keeps B₃.stays) (TB.keeps B₃.stays) (D.turn T₁)
  · have := (N' p hp).2.2; rw [q, hs] at this; cases this
  · refine T₁.none_ _ ?_
    cases q : h₀.get? p.1 with
    | none => rfl
    | some o =>
      obtain ⟨sl', hs'⟩ := T'.up (st _ _ q)
      have := (N' p hp).2.2
      rw [hs'] at this
      cases this
end
/-- at the outermost frame nothing of the base turns -/
theorem turn_nil {g g' : Heap} (t : KtsTurn [] g g') : ∀ b o, g.get? b = some o → g'.get? b = some o := fun b o e => t.other b o e (fun h => nomatch h)
theorem fr_back {g g' h : Heap} {L : Addr} {m : Str → Option Value} (t : KtsTurn [] g g') (F : Fr g' L h m) : Fr g L h m := ⟨F.ns, fun b o e => F.keep b o (turn_nil t b o e), by rw [← t.size]; exact F.above⟩
theorem news_back {g g' h : Heap} {L : Addr} {news : List (Addr × Obj)} (t : KtsTurn [] g g') (N : News g' L h news) : News g L h news := fun p hp => ⟨(N p hp).1, (N p hp).2.1, by
  cases q : g.get? p.1 with
  | none => rfl
  | some o => have := (N p hp).2.2; rw [turn_nil t _ _ q] at this; cases this⟩
/-- a halt of the walk, to go on by hand -/
def Stop (P : Prop) : Prop := P
theorem Stop.mk {P : Prop} (h : Stop P) : P := h
theorem Stop.go {P : Prop} (h : P) : Stop P := h
theorem while_gen {prog : Program} {w : World} {A : Around} {E : Value → Shared → Prop} {Q : Flow → Shared → Prop} {s : Shared} {env : Env} {test : PySem.Expr} {body : List Stmt} {pos : Pos} (I : Nat → Shared → Prop) {n₀ : Nat} (h0 : I n₀ s)
    (turn : ∀ n s', I n s' → wpAny (model prog w) A (isTrue test env (eval test env)) (fun b s₂ =>
        if b = true then wpAny (model prog w) A (execs body env) (fun f s₃ => match f with | .next | .cont => ∃ n', n' < n ∧ I n' s₃ | .brk => Q .next s₃ | .ret v => Q (.ret v) s₃) E s₂ else Q .next s₂) E s')
    (hE : PassesOwn (model prog w) A env E := by passes_own) :
    wpAny (model prog w) A (exec (.While test body [] pos) env) Q E s := by
  refine wpAny_While (codeAny_whileLoop I ?_ n₀ h0)
  intro n s' hI
  refine wpAny_mono (turn n s' hI) (fun b s₂ h₂ => ?_) hE
  cases b with
  | false =>
    simp only [Bool.false_eq_true, if_false] at h₂ ⊢
    exact wpAny_execs_nil h₂
  | true =>
    simp only [if_true] at h₂ ⊢
    refine wpAny_mono h₂ (fun f s₃ h₃ => ?_) hE
    cases f with
    | next => exact h₃
    | cont => exact h₃
    | brk => exact h₃
    | ret v => exact h₃
theorem news_sub {h₀ h : Heap} {L : Addr} {l l' : List (Addr × Obj)} (N : News h₀ L h l) (hs : ∀ p ∈ l', p ∈ l) : News h₀ L h l' := fun p hp => N p (hs p hp)
theorem mid_news {h₀ h : Heap} {L : Addr} {l l' : List (Addr × Obj)} (N : News h₀ L h (l ++ l')) : News h₀ L h l' := news_sub N fun p hp => List.mem_append.mpr (.inr hp)
theorem units_ok {un k : Nat} (h : un + 100 < cLine) (hk : k ≤ 100) : un + k < cLine := by omega
theorem neg_nlt {a b : Addr} (h : a < b) : a ≠ b := Nat.ne_of_lt h
/-- what follows is laid aside under a name: the proof's terms stay small -/
theorem veil {α : Type} {M : Model} {A : Around} {cd : Sem α} {Q : α → Shared → Prop} {E : Value → Shared → Prop} {s : Shared} (h : ∀ Q0 E0, Q0 = Q → wpAny M A cd Q0 E0 s) : wpAny M A cd Q E s := h Q E rfl
theorem veilQ {α : Type} {M : Model} {A : Around} {cd : Sem α} {Q : α → Shared → Prop} {E : Value → Shared → Prop} {s : Shared} (h : ∀ Q0, Q0 = Q → wpAny M A cd Q0 E s) : wpAny M A cd Q E s := h Q rfl
theorem veilP {M : Model} {A : Around} {body : List Stmt} {env : Env} {Q : Flow → Shared → Prop} {E : Value → Shared → Prop} {s : Shared} (h : ∀ Q0 E0, Q0 = Q → E0 = E → PassesOwn M A env E0 → wpAny M A (execs body env) Q0 E0 s) (hp : PassesOwn M A env E := by passes_own) : wpAny M A (execs body env) Q E s := h Q E rfl rfl hp
theorem veilE {α : Type} {M : Model} {A : Around} {cd : Sem α} {Q : α → Shared → Prop} {E : Value → Shared → Prop} {s : Shared} (h : ∀ Q0 E0, Q0 = Q → E0 = E → wpAny M A cd Q0 E0 s) : wpAny M A cd Q E s := h Q E rfl rfl
theorem i63 {n : Nat} (h : n < 1000) : (n : Int) < 2 ^ 63 := by omega
theorem small_len {n : Nat} (h : n < 1000) : Builtin.Range.small 0 (n : Int) 1 = true := small_one (by decide) (by decide) (by omega) (by omega)
theorem b1000 {x n : Nat} (h : x = n) (hn : 4 ≤ n ∧ n ≤ 10) : x < 1000 := by omega
theorem b1000s {x n : Nat} (h : x = n + 1) (hn : 4 ≤ n ∧ n ≤ 10) : x < 1000 := by omega
theorem b100 {x n : Nat} (h : x = n) (hn : 4 ≤ n ∧ n ≤ 10) : x < 100 := by omega
theorem b100s {x n : Nat} (h : x = n + 1) (hn : 4 ≤ n ∧ n ≤ 10) : x < 100 := by omega
theorem b20 {x n : Nat} (h : x = n) (hn : 4 ≤ n ∧ n ≤ 10) : x ≤ 20 := by omega
theorem b20s {x n : Nat} (h : x = n + 1) (hn : 4 ≤ n ∧ n ≤ 10) : x ≤ 20 := by omega
theorem b10 {x n : Nat} (h : x = n) (hn : 4 ≤ n ∧ n ≤ 10) : x ≤ 10 := by omega
theorem bpos {x n : Nat} (h : x = n) (hn : 4 ≤ n ∧ n ≤ 10) : 0 < x := by omega
theorem bposs {x n : Nat} (h : x = n + 1) : 0 < x := by omega
theorem b11 {n : Nat} (hn : 4 ≤ n ∧ n ≤ 10) : n + 1 ≤ 0 + 11 := by omega
theorem klt {i n : Nat} (h : i < n + 1) (hn : 4 ≤ n ∧ n ≤ 10) : i < 1000 := by omega
theorem kle {k a b c : Nat} (h : k < a) (h1 : a = b + 1) (h2 : c = b) : k ≤ c := by omega
theorem k_zero {k : Nat} (h : (k : Int) = 0) : k = 0 := by omega
theorem mul_le {i n m : Nat} (h : i < n + 1) (hn : 4 ≤ n ∧ n ≤ 10) (e : m = n) : i * m ≤ 11 * 10 := Nat.mul_le_mul (by omega) (by omega)
theorem lvl_sum {a b i n m : Nat} (h1 : a ≤ 1 + i * m) (h2 : b ≤ m) (h : i * m ≤ 11 * 10) (hn : 4 ≤ n ∧ n ≤ 10) (e : m = n) : a + b < 1000 := by omega
theorem le_lt1000 {a m n : Nat} (h : a ≤ m) (hn : 4 ≤ n ∧ n ≤ 10) (e : m = n) : a < 1000 := by omega
theorem text_len {a s l n m : Nat} (h1 : a ≤ s + l) (h2 : s = m) (h3 : l = n + 1) (hn : 4 ≤ n ∧ n ≤ 10) (e : m = n) : a < 100 := by omega
theorem turn_lt {k l n : Nat} (hl : l = n + 1) (hn : 4 ≤ n ∧ n ≤ 10) : l - k + min k l < 1000 := by omega
theorem lt16 {k : Nat} (h : (k : Int) < 16) : k < 16 := by omega
theorem while_genV {prog : Program} {w : World} {A : Around} {E : Value → Shared → Prop} {Q : Flow → Shared → Prop} {s : Shared} {env : Env} {test : PySem.Expr} {body : List Stmt} {pos : Pos} (I : Nat → Shared → Prop) {n₀ : Nat} (h0 : I n₀ s)
    (turn : ∀ n s', I n s' → ∀ (K9 Q9 : Flow → Shared → Prop) (E9 : Value → Shared → Prop), PassesOwn (model prog w) A env E9 → (K9 = fun f s₃ => match f with | .next | .cont => ∃ n', n' < n ∧ I n' s₃ | .brk => Q .next s₃ | .ret v => Q (.ret v) s₃) → Q9 = Q → E9 = E → wpAny (model prog w) A (isTrue test env (eval test env)) (fun b s₂ =>
        if b = true then wpAny (model prog w) A (execs body env) K9 E9 s₂ else Q9 .next s₂) E9 s')
    (hE : PassesOwn (model prog w) A env E := by passes_own) :
    wpAny (model prog w) A (exec (.While test body [] pos) env) Q E s := while_gen I h0 (fun n s' h => turn n s' h _ _ _ hE rfl rfl rfl) hE
section
variable {M : Model} {A : Around} {E : Value → Shared → Prop} {s : Shared}
theorem stop_item {value slice : PySem.Expr} {a : Addr} {i : Int} {t : Tok} {Q : Value → Shared → Prop} (h : Stop (wpAny M A (subscriptTail value slice (.ref a) (.int i t)) Q E s)) : wpAny M A (subscriptTail value slice (.ref a) (.int i t)) Q E s := h
theorem stop_call (a : Addr) {vs : List Value} {Q : Value → Shared → Prop} (h : Stop (wpAny M A (call (.ref a) vs) Q E s)) : wpAny M A (call (.ref a) vs) Q E s := h
theorem stop_inpl {op : Operator} {a b : Addr} {Q : Value → Shared → Prop} (h : Stop (wpAny M A (inplaceOp op (.ref a) (.ref b)) Q E s)) : wpAny M A (inplaceOp op (.ref a) (.ref b)) Q E s := h
theorem stop_iterV {v : Value} {prog : Program} {w : World} {A' : Around} {h₀ : Heap} {env : Env} {x : Str} {body : List Stmt} {Q : Flow → Shared → Prop} {E' : Value → Shared → Prop} (h : Stop (wpAny M A (pyIter v) (fun it s₂ => LoopAtV prog w A' h₀ env x body Q E' it s₂) E s)) : wpAny M A (pyIter v) (fun it s₂ => LoopAtV prog w A' h₀ env x body Q E' it s₂) E s := h
theorem stop_iterC {v : Value} {M' : Model} {A' : Around} {c : Value → Shared → Code} {R : Value → Shared → Result → Shared → Prop} (h : Stop (wpAny M A (pyIter v) (fun it s₂ => codeAny M' A' (c it s₂) (R it s₂) s₂) E s)) : wpAny M A (pyIter v) (fun it s₂ => codeAny M' A' (c it s₂) (R it s₂) s₂) E s := h
theorem stop_ex {n : Nat} {q : Nat → Prop} (h : Stop (∃ n', n' < n ∧ q n')) : ∃ n', n' < n ∧ q n' := h
end
theorem p0 (i : Nat) : (0 : Int) ≤ (i : Int) + 1 := by omega
theorem i63s {n : Nat} (h : n < 1000) : (n : Int) + 1 < 2 ^ 63 := by omega
theorem toNat_s (i : Nat) : ((i : Int) + 1).toNat = i + 1 := by omega
theorem sub_lt {a i : Nat} (h : i < a) : a - (i + 1) < a - i := by omega
theorem le_s {a : Int} {i : Nat} (h : a ≤ (i : Int)) : a ≤ ((i + 1 : Nat) : Int) := by omega
theorem le_eq {a : Int} {i : Nat} (h : a = (i : Int) + 1) : a ≤ ((i + 1 : Nat) : Int) := by omega
theorem eq_of {j k : Nat} (h1 : j ≤ k) (h2 : k < j + 1) : k = j := by omega
theorem out_le {u a j : Nat} (h : u = a) (h3 : ¬j < a) : (u : Int) ≤ (j : Int) := by omega
theorem out_les {a i : Nat} (h3 : ¬i + 1 < a) : (a : Int) ≤ (i : Int) + 1 := by omega
theorem i63le {j a : Nat} (h : j ≤ a) (ha : a < 1000) : (j : Int) < 2 ^ 63 := by omega
theorem l1000 {a b : Nat} (h : a < b) (hb : b < 100) : a < 1000 := by omega
theorem ext1 {m w i : Nat} (h : m < 200) (hw : w < 100) : m + (w - i) ≤ 16777216 := by omega
theorem ext2 {m w i : Nat} (h : m < 200) (hw : w < 100) : m + (w - i) < 1000 := by omega
theorem ext3 {m : Nat} (h : m < 200) : m + 0 ≤ 16777216 := by omega
theorem ext4 {m : Nat} (h : m < 200) : m + 0 < 1000 := by omega
theorem m1000 {m : Nat} (h : m < 200) : m < 1000 := by omega
theorem le_is {a b : Int} {i : Nat} (h : a ≤ b) (hb : b ≤ (i : Int) + 1) : a ≤ ((i + 1 : Nat) : Int) := by omega
theorem next_lt {a b : Int} {i : Nat} (h : a ≤ b) (ha : (i : Int) + 1 < a) : ((i + 1 : Nat) : Int) < b := by omega
theorem row_lt {a : Int} {i w : Nat} (h : (i : Int) + 1 < a) (ha : a ≤ (w : Int)) : i + 1 < w := by omega
end Mine
end
section
open PySem PySem.W PyProof.Rows PySem.Calls PySem.Spec PySem.StrLaws Builtin.Str
namespace Mine
theorem forIn_yields {α β : Type} (g : α → β → β) (f : α → β → Id (ForInStep β)) (hf : ∀ a b, f a b = pure (ForInStep.yield (g a b))) : ∀ (l : List α) (b : β), (forIn l b f).run = l.foldl (fun b a => g a b) b
  | [], b => by simp
  | a :: l, b => by
    rw [List.forIn_cons, hf]
    simpa using forIn_yields g f hf l (g a b)
def occStep (x : Str) (c p limit : Nat) (i : Nat) (st : Array Nat × Nat) : Array Nat × Nat :=
  if st.1.size < limit ∧ st.2 ≤ i ∧ i + 1 ≤ p ∧ subAt x ⟨#[c]⟩ i = true then (st.1.push i, i + 1) else st
theorem occ_fold (x : Str) (c p limit : Nat) : occurrences x ⟨#[c]⟩ 0 p limit = ((List.range' 0 (p + 1)).foldl (fun st i => occStep x c p limit i st) (#[], 0)).1.toList := by
  rw [occ_eq, Nat.sub_zero]
  rw [forIn_yields (occStep x c p limit)]
  intro i st
  unfold occBody occStep
  show _ = _
  by_cases h : st.1.size < limit ∧ st.2 ≤ i ∧ i + 1 ≤ p ∧ subAt x ⟨#[c]⟩ i = true
  · rw [if_pos h, if_pos ⟨⟨⟨h.1, h.2.1⟩, h.2.2.1⟩, h.2.2.2⟩]; rfl
  · rw [if_neg h, if_neg (fun q => h ⟨q.1.1.1, q.1.1.2, q.1.2, q.2⟩)]
theorem subAt_at (x : Str) (c i : Nat) (h : i < x.length) : subAt x ⟨#[c]⟩ i = true ↔ x.cps.toList[i]? = some c := by
  rw [← subAt_one]
  exact ⟨fun q => ⟨h, q⟩, fun q => q.2⟩
theorem occ_inv (x : Str) (c p limit : Nat) (hp : p ≤ x.length) (hl : p < limit) : ∀ k, k ≤ p → 
    let st := (List.range' 0 k).foldl (fun st i => occStep x c p limit i st) (#[], 0)
    st.1.size = (x.cps.toList.take k).count c ∧ st.2 ≤ k ∧ st.1.size ≤ k := by
  intro k
  induction k with
  | zero => intro _; simp
  | succ k ih =>
    intro hk
    have ih := ih (by omega)
    dsimp only at ih ⊢
    rw [List.range'_concat, List.foldl_append]
    simp only [List.foldl_cons, List.foldl_nil, Nat.zero_add, Nat.one_mul]
    generalize (List.range' 0 k).foldl (fun st i => occStep x c p limit i st) (#[], 0) = st at ih
    obtain ⟨i1, i2, i3⟩ := ih
    have hkx : k < x.cps.toList.length := by simpa [Str.length] using (show k < x.length by omega)
    have hg : x.cps.toList[k]? = some x.cps.toList[k] := List.getElem?_eq_getElem hkx
    rw [List.take_add_one, hg, List.count_append]
    unfold occStep
    by_cases h : subAt x ⟨#[c]⟩ k = true
    · have e := (subAt_at x c k (by omega)).mp h
      rw [if_pos ⟨by omega, i2, by omega, h⟩]
      rw [hg] at e
      have e' := Option.some.inj e
      simp only [Array.size_push, e', Option.toList_some, List.count_singleton_self]
      omega
    · rw [if_neg (fun q => h q.2.2.2)]
      have e : x.cps.toList[k] ≠ c := fun q => h ((subAt_at x c k (by omega)).mpr (by rw [hg, q]))
      have : ([x.cps.toList[k]] : List Nat).count c = 0 := by rw [List.count_eq_zero]; simpa using fun q => e q.symm
      simp only [Option.toList_some, this]
      omega
theorem occ_count (x : Str) (c p limit : Nat) (hp : p ≤ x.length) (hl : p < limit) : (occurrences x ⟨#[c]⟩ 0 p limit).length = (x.cps.toList.take p).count c := by
  rw [occ_fold, List.range'_concat, List.foldl_append]
  have h := occ_inv x c p limit hp hl p (Nat.le_refl _)
  dsimp only at h
  simp only [List.foldl_cons, List.foldl_nil, Nat.zero_add, Nat.one_mul]
  generalize (List.range' 0 p).foldl (fun st i => occStep x c p limit i st) (#[], 0) = st at h
  unfold occStep
  rw [if_neg (fun q => by omega)]
  simpa using h.1
/-- how many signs stand behind the last c -/
def behind (c : Nat) (l : List Nat) : Nat := (l.reverse.takeWhile (· != c)).length
theorem takeWhile_all {α : Type} {p : α → Bool} : ∀ {l : List α}, (∀ y ∈ l, p y = true) → l.takeWhile p = l
  | [], _ => rfl
  | a :: l, h => by rw [List.takeWhile_cons, h a (.head _), if_pos rfl, takeWhile_all fun y hy => h y (.tail _ hy)]
theorem behind_none {c : Nat} {l : List Nat} (h : l.count c = 0) : behind c l = l.length := by
  unfold behind
  have : ∀ y ∈ l.reverse, (y != c) = true := fun y hy => by
    have := List.count_eq_zero.mp h
    simp only [bne_iff_ne, ne_eq]
    intro q; subst q
    exact this (List.mem_reverse.mp hy)
  rw [takeWhile_all this, List.length_reverse]
theorem behind_at {c : Nat} {pre post : List Nat} (h : c ∉ post) : behind c (pre ++ c :: post) = post.length := by
  unfold behind
  rw [List.reverse_append, List.reverse_cons, List.append_assoc]
  have h1 : ∀ y ∈ post.reverse, (y != c) = true := fun y hy => by
    simp only [bne_iff_ne, ne_eq]; intro q; subst q; exact h (List.mem_reverse.mp hy)
  rw [List.takeWhile_append_of_pos h1]
  simp
theorem last_at (x : Str) (c p : Nat) (hp : p ≤ x.length) (hc : (x.cps.toList.take p).count c ≠ 0) : ∃ i, lastOccurrence x ⟨#[c]⟩ 0 p = some i ∧ i < p ∧ p - i = behind c (x.cps.toList.take p) + 1 := by
  have h := last_run x ⟨#[c]⟩ p (List.range' 0 (p + 1)) [] none (fun i hi => nomatch hi) (fun i hi => nomatch hi) (List.pairwise_lt_range' (step := 1))
  have e := last_eq x ⟨#[c]⟩ 0 p
  rw [Nat.sub_zero] at e
  rw [← e] at h
  have hxl : x.cps.toList.length = x.length := by simp [Str.length]
  have hlen : (x.cps.toList.take p).length = p := by rw [List.length_take, hxl]; omega
  cases hq : lastOccurrence x ⟨#[c]⟩ 0 p with
  | none =>
    rw [hq] at h
    exfalso
    have hm : c ∈ x.cps.toList.take p := List.count_pos_iff.mp (Nat.pos_of_ne_zero hc)
    obtain ⟨i, hi, hv⟩ := List.mem_iff_getElem.mp hm
    have hi' : i < p := by omega
    refine h i (by simp; omega) ⟨hi', ?_⟩
    rw [subAt_at x c i (by omega)]
    rw [List.getElem_take] at hv
    rw [List.getElem?_eq_getElem (by omega), hv]
  | some i =>
    rw [hq] at h
    obtain ⟨⟨h1, h2⟩, h3⟩ := h
    have h1' : i < p := h1
    refine ⟨i, rfl, h1', ?_⟩
    rw [subAt_at x c i (by omega)] at h2
    have hi : i < (x.cps.toList.take p).length := by omega
    have hv : (x.cps.toList.take p)[i] = c := by
      rw [List.getElem_take]
      rw [List.getElem?_eq_getElem (by simp [Str.length] at hp; simp; omega)] at h2
      exact Option.some.inj h2
    have hs : x.cps.toList.take p = (x.cps.toList.take p).take i ++ c :: (x.cps.toList.take p).drop (i + 1) := by
      have := List.take_append_drop i (x.cps.toList.take p)
      rw [List.drop_eq_getElem_cons hi, hv] at this
      exact this.symm
    have hnot : c ∉ (x.cps.toList.take p).drop (i + 1) := by
      intro hm
      obtain ⟨j, hj, hw⟩ := List.mem_iff_getElem.mp hm
      rw [List.length_drop, hlen] at hj
      rw [List.getElem_drop, List.getElem_take] at hw
      refine h3 (i + 1 + j) (by simp; omega) (by omega) ⟨by show i + 1 + j + 1 ≤ p; omega, ?_⟩
      rw [subAt_at x c _ (by omega), List.getElem?_eq_getElem (by omega), hw]
    rw [hs, behind_at hnot, List.length_drop, hlen]
    omega
end Mine
end
section
open PySem PySem.W PyProof.Rows PySem.Calls PySem.Spec PySem.StrLaws Builtin Builtin.Str
set_option maxRecDepth 100000
namespace Mine
theorem gives_count4 (x y : PySem.Str) (i j : Int) (t u v z : Tok) : Gives («str.count» ⟨[.str x t, .str y u, .int i v, .int j z], []⟩) (.int (occurrences x y (fromIndex x.length i) (min (fromIndex x.length j) x.length) (x.length + 1)).length) := by
  exact .of_eq rfl
theorem gives_rindex4 (x y : PySem.Str) (i j : Int) (t u v z : Tok) (k : Nat) (h : lastOccurrence x y (fromIndex x.length i) (min (fromIndex x.length j) x.length) = some k) : Gives («str.rindex» ⟨[.str x t, .str y u, .int i v, .int j z], []⟩) (.int k) := by
  show Gives (match lastOccurrence x y (fromIndex x.length i) (min (fromIndex x.length j) x.length) with | some i => retInt i | none => (do rule "str.rindex.not-found"; raiseError "ValueError" "substring not found")) _
  rw [h]
  exact .of_eq rfl
section
variable {prog : Program} {w : World} {A : Around} {E : Value → Shared → Prop} {s : Shared} {x y : PySem.Str} {t u v z : Tok} {i j : Int} {Q : Value → Shared → Prop}
theorem call_count4 (hq : Q (.int (occurrences x y (fromIndex x.length i) (min (fromIndex x.length j) x.length) (x.length + 1)).length s.toks) { s with toks := s.toks + 1 }) :
    wpAny (model prog w) A (call (.builtin "str.count") [.str x t, .str y u, .int i v, .int j z]) Q E s :=
  call_gives F.slot_str_count (typeIs_str _ _ _) F.entry_str_count (F.args_str_count_4 _ _ _ _) (gives_count4 x y i j t u v z) hq
theorem call_rindex4 {k : Nat} (h : lastOccurrence x y (fromIndex x.length i) (min (fromIndex x.length j) x.length) = some k) (hq : Q (.int k s.toks) { s with toks := s.toks + 1 }) :
    wpAny (model prog w) A (call (.builtin "str.rindex") [.str x t, .str y u, .int i v, .int j z]) Q E s :=
  call_gives F.slot_str_rindex (typeIs_str _ _ _) F.entry_str_rindex (F.args_str_rindex_4 _ _ _ _) (gives_rindex4 x y i j t u v z k h) hq
end
theorem nl_one : (PySem.Str.ofString "\n") = ⟨#[10]⟩ := by decide +kernel
theorem fromIndex_nat (n p : Nat) : fromIndex n (p : Int) = p := by
  unfold fromIndex
  have : ¬ ((p : Int) < 0) := by omega
  rw [if_neg this]; omega
section
variable {prog : Program} {w : World} {A : Around} {E : Value → Shared → Prop} {s : Shared} {x : PySem.Str} {t u v z : Tok} {p : Nat} {Q : Value → Shared → Prop}
theorem call_count_nl (hp : p ≤ x.length) (hq : Q (.int (((x.cps.toList.take p).count 10 : Nat) : Int) s.toks) { s with toks := s.toks + 1 }) :
    wpAny (model prog w) A (call (.builtin "str.count") [.str x t, .str (PySem.Str.ofString "\n") u, .int 0 v, .int (p : Int) z]) Q E s := by
  refine call_count4 ?_
  rw [show fromIndex x.length 0 = 0 from fromIndex_nat _ 0, fromIndex_nat, Nat.min_eq_left hp, nl_one, occ_count x 10 p _ hp (by omega)]
  exact hq
theorem call_rindex_nl (hp : p ≤ x.length) (hc : (x.cps.toList.take p).count 10 ≠ 0) (hq : ∀ i : Nat, i < p → p - i = behind 10 (x.cps.toList.take p) + 1 → Q (.int (i : Int) s.toks) { s with toks := s.toks + 1 }) :
    wpAny (model prog w) A (call (.builtin "str.rindex") [.str x t, .str (PySem.Str.ofString "\n") u, .int 0 v, .int (p : Int) z]) Q E s := by
  obtain ⟨i, h1, h2, h3⟩ := last_at x 10 p hp hc
  refine call_rindex4 (k := i) ?_ (hq i h2 h3)
  rw [show fromIndex x.length 0 = 0 from fromIndex_nat _ 0, fromIndex_nat, Nat.min_eq_left hp, nl_one]
  exact h1
end
end Mine
end
section
open PySem PySem.W PyProof.Rows PySem.Calls PySem.Spec PySem.StrLaws Builtin Builtin.Str
set_option maxRecDepth 100000
namespace Mine
def joinL (c : Nat) : List (List Nat) → List Nat
  | [] => []
  | [a] => a
  | a :: r => a ++ c :: joinL c r
theorem joinL_cons2 (c : Nat) (a b : List Nat) (r : List (List Nat)) : joinL c (a :: b :: r) = a ++ c :: joinL c (b :: r) := rfl
theorem join_cps (c : Nat) : ∀ ps : List PySem.Str, (PySem.Str.join ⟨#[c]⟩ ps).cps.toList = joinL c (ps.map fun p => p.cps.toList)
  | [] => rfl
  | [a] => rfl
  | a :: b :: r => by
    show ((a ++ (⟨#[c]⟩ : PySem.Str) ++ PySem.Str.join ⟨#[c]⟩ (b :: r)).cps).toList = _
    rw [PySem.Str.cps_append, PySem.Str.cps_append, Array.toList_append, Array.toList_append, join_cps c (b :: r)]
    simp [joinL_cons2, joinL]
theorem cut_eq {c : Nat} : ∀ {a b x y : List Nat}, c ∉ a → c ∉ b → a ++ c :: x = b ++ c :: y → a = b ∧ x = y
  | [], [], _, _, _, _, h => ⟨rfl, by simpa using h⟩
  | [], b :: bs, _, _, _, hb, h => by simp at h; exact absurd (h.1 ▸ List.mem_cons_self) hb
  | a :: as, [], _, _, ha, _, h => by simp at h; exact absurd (h.1 ▸ List.mem_cons_self) ha
  | a :: as, b :: bs, _, _, ha, hb, h => by
    simp only [List.cons_append, List.cons.injEq] at h
    have := cut_eq (fun q => ha (.tail _ q)) (fun q => hb (.tail _ q)) h.2
    exact ⟨by rw [h.1, this.1], this.2⟩
theorem joinL_inj {c : Nat} : ∀ {ps qs : List (List Nat)}, ps ≠ [] → qs ≠ [] → (∀ p ∈ ps, c ∉ p) → (∀ q ∈ qs, c ∉ q) → joinL c ps = joinL c qs → ps = qs
  | [], _, h, _, _, _, _ => absurd rfl h
  | _, [], _, h, _, _, _ => absurd rfl h
  | [a], [b], _, _, _, _, h => by simpa [joinL] using h
  | [a], b :: b2 :: r, _, _, h1, _, h => by
    rw [joinL_cons2] at h
    have : c ∈ a := by rw [show a = b ++ c :: joinL c (b2 :: r) from h]; simp
    exact absurd this (h1 a (.head _))
  | a :: a2 :: r, [b], _, _, _, h2, h => by
    rw [joinL_cons2] at h
    have : c ∈ b := by rw [show b = a ++ c :: joinL c (a2 :: r) from h.symm]; simp
    exact absurd this (h2 b (.head _))
  | a :: a2 :: r, b :: b2 :: r', _, _, h1, h2, h => by
    rw [joinL_cons2, joinL_cons2] at h
    have e := cut_eq (h1 a (.head _)) (h2 b (.head _)) h
    rw [e.1, joinL_inj (by simp) (by simp) (fun p hp => h1 p (.tail _ hp)) (fun p hp => h2 p (.tail _ hp)) e.2]
theorem split_is {x : PySem.Str} {c : Nat} {qs : List PySem.Str} (hq : qs ≠ []) (hf : ∀ q ∈ qs, c ∉ q.cps.toList) (hj : PySem.Str.join ⟨#[c]⟩ qs = x) : Txt.split x ⟨#[c]⟩ = qs := by
  have h1 := join_split x ⟨#[c]⟩
  have h2 := split_free x c
  have hne : Txt.split x ⟨#[c]⟩ ≠ [] := by
    unfold Txt.split
    split
    · simp
    · split
      · simp
      · intro h
        obtain ⟨p, r, e⟩ := partsFrom_ne x (⟨#[c]⟩ : PySem.Str).length 0 (occurrences x ⟨#[c]⟩ 0 x.length (x.length + 1))
        rw [partsBetween_eq, e] at h
        cases h
  have h3 : joinL c ((Txt.split x ⟨#[c]⟩).map fun p => p.cps.toList) = joinL c (qs.map fun p => p.cps.toList) := by
    rw [← join_cps, ← join_cps, h1, hj]
  have h4 := joinL_inj (by simpa using hne) (by simpa using hq) (fun p hp => by
    obtain ⟨p', hp', rfl⟩ := List.mem_map.mp hp
    exact h2 p' hp') (fun p hp => by
    obtain ⟨p', hp', rfl⟩ := List.mem_map.mp hp
    exact hf p' hp') h3
  have inj : ∀ a b : PySem.Str, a.cps.toList = b.cps.toList → a = b := fun a b e => PySem.Str.ext' (by exact Array.toList_inj.mp e)
  exact (List.map_inj_right (f := fun p : PySem.Str => p.cps.toList) inj).mp h4
def errMsg (x : PySem.Str) (ln col : Int) : PySem.Str :=
  PySem.Str.empty ++ x ++ PySem.Str.ofString " (at " ++ (PySem.Str.empty ++ PySem.Str.ofString "line " ++ PySem.Str.ofString (toString ln) ++ PySem.Str.ofString ", column " ++ PySem.Str.ofString (toString col)) ++ PySem.Str.ofString ")"
abbrev dig (n : Nat) : PySem.Str := PySem.Str.ofString (toString (n : Int))
def errWords (x : PySem.Str) (ln col : Nat) : List PySem.Str := [x, PySem.Str.ofString "(at", PySem.Str.ofString "line", dig ln ++ PySem.Str.ofString ",", PySem.Str.ofString "column", dig col ++ PySem.Str.ofString ")"]
theorem dig_free : ∀ n : _root_.Fin 128, 32 ∉ (dig n.val).cps.toList := by decide +kernel
theorem dig_len : ∀ n : _root_.Fin 128, (dig n.val).length ≤ 3 ∧ 1 ≤ (dig n.val).length := by decide +kernel
theorem str_ext {a b : PySem.Str} (e : a.cps.toList = b.cps.toList) : a = b := PySem.Str.ext' (Array.toList_inj.mp e)
theorem err_join (x : PySem.Str) (ln col : Nat) : PySem.Str.join ⟨#[32]⟩ (errWords x ln col) = errMsg x ln col := by
  have e1 : PySem.Str.ofString " (at " = ⟨#[32, 40, 97, 116, 32]⟩ := by decide +kernel
  have e2 : PySem.Str.ofString "(at" = ⟨#[40, 97, 116]⟩ := by decide +kernel
  have e3 : PySem.Str.ofString "line " = ⟨#[108, 105, 110, 101, 32]⟩ := by decide +kernel
  have e4 : PySem.Str.ofString "line" = ⟨#[108, 105, 110, 101]⟩ := by decide +kernel
  have e5 : PySem.Str.ofString ", column " = ⟨#[44, 32, 99, 111, 108, 117, 109, 110, 32]⟩ := by decide +kernel
  have e6 : PySem.Str.ofString "column" = ⟨#[99, 111, 108, 117, 109, 110]⟩ := by decide +kernel
  have e7 : PySem.Str.ofString "," = ⟨#[44]⟩ := by decide +kernel
  refine str_ext ?_
  unfold errMsg errWords dig
  rw [join_cps, e1, e2, e3, e4, e5, e6, e7]
  simp only [PySem.Str.cps_append, Array.toList_append, List.map_cons, List.map_nil, joinL, PySem.Str.empty, List.append_assoc, List.nil_append, List.cons_append]
theorem err_split (x : PySem.Str) (ln col : Nat) (hx : 32 ∉ x.cps.toList) (h1 : ln < 128) (h2 : col < 128) : Txt.split (errMsg x ln col) (PySem.Str.ofString " ") = errWords x ln col := by
  rw [show PySem.Str.ofString " " = ⟨#[32]⟩ from by decide +kernel]
  refine split_is (by simp [errWords]) ?_ (err_join x ln col)
  have d1 := dig_free ⟨ln, h1⟩
  have d2 := dig_free ⟨col, h2⟩
  intro q hq
  simp only [errWords, List.mem_cons, List.not_mem_nil, or_false] at hq
  rcases hq with rfl | rfl | rfl | rfl | rfl | rfl
  · exact hx
  · decide +kernel
  · decide +kernel
  · rw [PySem.Str.cps_append, Array.toList_append, List.mem_append]
    rintro (h | h)
    · exact d1 h
    · exact absurd h (by decide +kernel)
  · decide +kernel
  · rw [PySem.Str.cps_append, Array.toList_append, List.mem_append]
    rintro (h | h)
    · exact d2 h
    · exact absurd h (by decide +kernel)
theorem map_cons_inv {α β : Type} {l : List (α × β)} {a : α} {r : List α} (h : l.map (·.1) = a :: r) : ∃ t l', l = (a, t) :: l' ∧ l'.map (·.1) = r := by
  obtain ⟨x, l', rfl, rfl, h2⟩ := List.map_eq_cons_iff.mp h
  exact ⟨x.2, l', rfl, h2⟩
theorem six {α β : Type} {l : List (α × β)} {a b c d e f : α} (h : l.map (·.1) = [a, b, c, d, e, f]) : ∃ t1 t2 t3 t4 t5 t6, l = [(a, t1), (b, t2), (c, t3), (d, t4), (e, t5), (f, t6)] := by
  obtain ⟨t1, l1, e1, h1⟩ := map_cons_inv h
  obtain ⟨t2, l2, e2, h2⟩ := map_cons_inv h1
  obtain ⟨t3, l3, e3, h3⟩ := map_cons_inv h2
  obtain ⟨t4, l4, e4, h4⟩ := map_cons_inv h3
  obtain ⟨t5, l5, e5, h5⟩ := map_cons_inv h4
  obtain ⟨t6, l6, e6, h6⟩ := map_cons_inv h5
  have h7 := List.map_eq_nil_iff.mp h6
  exact ⟨t1, t2, t3, t4, t5, t6, by rw [e1, e2, e3, e4, e5, e6, h7]⟩
theorem errMsg_len (x : PySem.Str) (ln col : Nat) (hx : x.length = 1) (h1 : ln < 128) (h2 : col < 128) : (errMsg x ln col).length + 2 ≤ sizeLine := by
  have d1 := dig_len ⟨ln, h1⟩
  have d2 := dig_len ⟨col, h2⟩
  unfold dig at d1 d2
  unfold errMsg
  simp only [PySem.Str.length_append, hx]
  have c1 : PySem.Str.empty.length = 0 := rfl
  have c2 : (PySem.Str.ofString " (at ").length = 5 := by decide +kernel
  have c3 : (PySem.Str.ofString "line ").length = 5 := by decide +kernel
  have c4 : (PySem.Str.ofString ", column ").length = 9 := by decide +kernel
  have c5 : (PySem.Str.ofString ")").length = 1 := by decide +kernel
  have c6 : sizeLine = 16777216 := by decide
  dsimp only at d1 d2
  omega
section
variable {prog : Program} {w : World} {A : Around} {E : Value → Shared → Prop} {s : Shared} {x : PySem.Str} {t u : Tok} {h₀ : Heap} {L : Addr} {m : PySem.Str → Option Value} {news : List (Addr × Obj)} {Q : Value → Shared → Prop} {ln col : Nat}
theorem call_split_err (F : Fr h₀ L s.heap m) (N : News h₀ L s.heap news) (hx : x.length = 1) (hs : 32 ∉ x.cps.toList) (h1 : ln < 128) (h2 : col < 128)
    (k : ∀ D h' tk t1 t2 t3 t4 t5 t6, Fr h₀ L h' m → News h₀ L h' ((D, W.listOf #[.str x t1, .str (PySem.Str.ofString "(at") t2, .str (PySem.Str.ofString "line") t3, .str (dig ln ++ PySem.Str.ofString ",") t4, .str (PySem.Str.ofString "column") t5, .str (dig col ++ PySem.Str.ofString ")") t6] 0) :: news) →
      (∀ p ∈ news, p.1 < D) → Q (.ref D) { s with heap := h', toks := tk }) :
    wpAny (model prog w) A (call (.builtin "str.split") [.str (errMsg x ln col) t, .str (PySem.Str.ofString " ") u]) Q E s := by
  refine splitN1A F N (by decide +kernel) ?_ (errMsg_len x ln col hx h1 h2)
  intro l h' tk e _ _ _ F' N'
  rw [err_split x ln col hs h1 h2] at e
  obtain ⟨t1, t2, t3, t4, t5, t6, rfl⟩ := six e
  exact k _ h' tk t1 t2 t3 t4 t5 t6 F' N' fun p hp => Heap.lt_size (N p hp).1
end
theorem slice_dig1 : ∀ n : _root_.Fin 128, Txt.slice (dig n.val ++ PySem.Str.ofString ",") none (some (-1)) = dig n.val := by decide +kernel
theorem slice_dig2 : ∀ n : _root_.Fin 128, Txt.slice (dig n.val ++ PySem.Str.ofString ")") none (some (-1)) = dig n.val := by decide +kernel
theorem int_dig : ∀ n : _root_.Fin 128, PySem.intText? (dig n.val) = some (n.val : Int) := by decide +kernel
section
variable {prog : Program} {w : World} {A : Around} {E : Value → Shared → Prop} {s : Shared} {x : PySem.Str} {t : Tok} {h₀ : Heap} {L : Addr} {m : PySem.Str → Option Value} {news : List (Addr × Obj)} {Q : Value → Shared → Prop} {n : Nat} {value slice : PySem.Expr} {uj : Tok}
theorem slice_err (hn : n < 128) (hx : x = PySem.Str.ofString "," ∨ x = PySem.Str.ofString ")") (hF : Fr h₀ L s.heap m) (hN : News h₀ L s.heap news) (h : ∀ h' t' k, Fr h₀ L h' m → News h₀ L h' news → Q (.str (dig n) t') { s with heap := h', toks := k })
    (hs : subscripted slice false (.str (dig n ++ x) t) (.ref s.heap.objs.size) = operate [.ref s.heap.objs.size, .str (dig n ++ x) t] (getItem (.str (dig n ++ x) t) (.ref s.heap.objs.size)) := by with_unfolding_all rfl)
    (ht : ∀ r, letTemporaryGo value (.str (dig n ++ x) t) r = pure () := by intro _; with_unfolding_all rfl) :
    wpAny (model prog w) A (subscriptTail value slice (.str (dig n ++ x) t) (.ref s.heap.objs.size)) Q E { s with heap := s.heap.push { cls := .type "slice", data := .fields #[.none, .int (-1) uj, .none] } } := by
  have hl := dig_len ⟨n, hn⟩
  have c6 : sizeLine = 16777216 := by decide
  have c7 : (PySem.Str.ofString ",").length = 1 := by decide +kernel
  have c8 : (PySem.Str.ofString ")").length = 1 := by decide +kernel
  dsimp only at hl
  refine slice_strN_ns hF hN ?_ hs ht (by rw [PySem.Str.length_append]; rcases hx with rfl | rfl <;> omega)
  intro h' t' k F' N'
  have e : Txt.slice (dig n ++ x) none (some (-1)) = dig n := by
    rcases hx with rfl | rfl
    · exact slice_dig1 ⟨n, hn⟩
    · exact slice_dig2 ⟨n, hn⟩
  rw [e]
  exact h h' t' k F' N'
end
theorem ok_dig1 : ∀ n : _root_.Fin 128, PyData.strOk (dig n.val ++ PySem.Str.ofString ",") = true := by decide +kernel
theorem ok_dig2 : ∀ n : _root_.Fin 128, PyData.strOk (dig n.val ++ PySem.Str.ofString ")") = true := by decide +kernel
theorem ok_one : ∀ n : _root_.Fin 128, PyData.strOk ⟨#[n.val]⟩ = true := by decide +kernel
section
variable {prog : Program} {w : World} {A : Around} {E : Value → Shared → Prop} {s : Shared} {x : PySem.Str} {h₀ : Heap} {L a b : Addr} {news : List (Addr × Obj)} {Q : Value → Shared → Prop} {ln col : Nat} {xs ys : List Value} {ka kb : Nat} {ds : List Dat}
theorem ne_dat_same (N : News h₀ L s.heap news) (ma : (a, W.listOf xs.toArray ka) ∈ news) (mb : (b, W.listOf ys.toArray kb) ∈ news) (Da : DatAll news xs ds) (Db : DatAll news ys ds) (ok : ∀ d ∈ ds, kqdOk 8 d = true) (hu : A.units + 64 < cLine)
    (h : Q (.bool false) s) : wpAny (model prog w) A (compareOp .NotEq (.ref a) (.ref b)) Q E s := by
  refine kqd_ne N ma rfl rfl Da (fun _ h => h) mb rfl rfl Db (fun _ h => h) ok ok hu ?_
  simpa using h
theorem ne_words {t1 t2 t3 t4 t5 t6 u1 u2 u3 u4 u5 u6 : Tok} (N : News h₀ L s.heap news)
    (ma : (a, W.listOf #[.str x t1, .str (PySem.Str.ofString "(at") t2, .str (PySem.Str.ofString "line") t3, .str (dig ln ++ PySem.Str.ofString ",") t4, .str (PySem.Str.ofString "column") t5, .str (dig col ++ PySem.Str.ofString ")") t6] ka) ∈ news)
    (mb : (b, W.listOf #[.str x u1, .str (PySem.Str.ofString "(at") u2, .str (PySem.Str.ofString "line") u3, .str (dig ln ++ PySem.Str.ofString ",") u4, .str (PySem.Str.ofString "column") u5, .str (dig col ++ PySem.Str.ofString ")") u6] kb) ∈ news)
    (hx : PyData.strOk x = true) (h1 : ln < 128) (h2 : col < 128) (hu : A.units + 64 < cLine) (h : Q (.bool false) s) : wpAny (model prog w) A (compareOp .NotEq (.ref a) (.ref b)) Q E s := by
  refine ne_dat_same (ds := [.str x, .str (PySem.Str.ofString "(at"), .str (PySem.Str.ofString "line"), .str (dig ln ++ PySem.Str.ofString ","), .str (PySem.Str.ofString "column"), .str (dig col ++ PySem.Str.ofString ")")]) N ma mb ?_ ?_ ?_ hu h
  · exact .cons (.str _ _) (.cons (.str _ _) (.cons (.str _ _) (.cons (.str _ _) (.cons (.str _ _) (.cons (.str _ _) .nil)))))
  · exact .cons (.str _ _) (.cons (.str _ _) (.cons (.str _ _) (.cons (.str _ _) (.cons (.str _ _) (.cons (.str _ _) .nil)))))
  · intro d hd
    simp only [List.mem_cons, List.not_mem_nil, or_false] at hd
    rcases hd with rfl | rfl | rfl | rfl | rfl | rfl
    · exact hx
    · decide +kernel
    · decide +kernel
    · exact ok_dig1 ⟨ln, h1⟩
    · decide +kernel
    · exact ok_dig2 ⟨col, h2⟩
end
end Mine
end
section
open PySem PySem.W PyProof.Rows PySem.Calls PySem.Spec
set_option maxRecDepth 100000
namespace Mine
section
variable {prog : Program} {w : World} {A : Around} {E : Value → Shared → Prop} {s : Shared} {h₀ : Heap} {L D : Addr} {m : Str → Option Value} {l l' : List (Addr × Obj)} {vs : List Value} {its : Array Value} {n : Nat} {k : Int} {u : Tok} {v x : Value} {Q : Value → Shared → Prop} {value slice : PySem.Expr}
theorem item_mem (N : News h₀ L s.heap l) (hm : (D, W.listOf vs.toArray n) ∈ l) (h0 : 0 ≤ k) (hhi : k < 2 ^ 63) (hx : vs[k.toNat]? = some v) (h : Q v s)
    (hs : subscripted slice false (.ref D) (.int k u) = operate [.ref D, .int k u] (getItem (.ref D) (.int k u)) := by with_unfolding_all rfl) :
    wpAny (model prog w) A (subscriptTail value slice (.ref D) (.int k u)) Q E s :=
  have hl : s.heap.IsList D vs.toArray := ⟨_, (N _ hm).1, rfl, _, rfl⟩
  tail_any hl.typeIs slot_list_getitem.lookup (wpAny_getItem_list hl h0 hhi (by simpa using hx) h) hs
theorem append_mem (F : Fr h₀ L s.heap m) (N : News h₀ L s.heap l) (hm : (D, W.listOf its n) ∈ l) (hl' : ∀ p ∈ l', p = (D, W.listOf (its.push x) (n + 1)) ∨ (p ∈ l ∧ p.1 ≠ D))
    (k : ∀ h', Fr h₀ L h' m → News h₀ L h' l' → Q .none { s with heap := h' }) (hsz : its.size ≤ sizeLine) : wpAny (model prog w) A (call (.builtin "list.append") [.ref D, x]) Q E s := by
  have z := N _ hm
  refine append_at (hsz := hsz) z.1 fun h' hs ho' => k h' (F.change hs z.2.1 z.2.2) (fun p hp => ?_)
  rcases hl' p hp with rfl | ⟨h1, h2⟩
  · exact ⟨ho', z.2⟩
  · exact ⟨(hs.2 _ h2).trans (N p h1).1, (N p h1).2⟩
theorem len_mem (N : News h₀ L s.heap l) (hm : (D, W.listOf vs.toArray n) ∈ l) (hfit : vs.length < 1000) (h : Q (.int (vs.length : Nat) (s.toks + 1)) { s with toks := s.toks + 1 + 1 }) : wpAny (model prog w) A (call (.builtin "len") [.ref D]) Q E s := by
  have hl : s.heap.IsList D vs.toArray := ⟨_, (N _ hm).1, rfl, _, rfl⟩
  have e : (List.toArray vs).size = vs.length := by rw [List.size_toArray]
  exact call_len_list hl (by rw [e]; omega) (by rw [e]; exact h)
end
end Mine
end
section
open PySem PySem.W PyProof.Rows PySem.Calls PySem.Spec
set_option maxRecDepth 100000
namespace Mine
/-- a thing of the tree: its list [v, [..]] at a, the inner list at c, the things in it -/
structure Nd where
  a : Addr
  c : Addr
  v : Value
  ch : List Addr
  ep : Nat
def Nd.led (n : Nd) : List (Addr × Obj) := [(n.a, W.listOf #[n.v, .ref n.c] 0), (n.c, W.listOf (n.ch.map Value.ref).toArray n.ep)]
def ledN (ns : List Nd) : List (Addr × Obj) := ns.flatMap Nd.led
theorem ledN_append (a b : List Nd) : ledN (a ++ b) = ledN a ++ ledN b := by unfold ledN; rw [List.flatMap_append]
theorem ledN_a {ns : List Nd} {n : Nd} (h : n ∈ ns) : (n.a, W.listOf #[n.v, .ref n.c] 0) ∈ ledN ns := List.mem_flatMap.mpr ⟨n, h, .head _⟩
theorem ledN_c {ns : List Nd} {n : Nd} (h : n ∈ ns) : (n.c, W.listOf (n.ch.map Value.ref).toArray n.ep) ∈ ledN ns := List.mem_flatMap.mpr ⟨n, h, .tail _ (.head _)⟩
theorem ledN_mem {ns : List Nd} {p : Addr × Obj} (h : p ∈ ledN ns) : ∃ n ∈ ns, p = (n.a, W.listOf #[n.v, .ref n.c] 0) ∨ p = (n.c, W.listOf (n.ch.map Value.ref).toArray n.ep) := by
  obtain ⟨n, hn, hp⟩ := List.mem_flatMap.mp h
  refine ⟨n, hn, ?_⟩
  rcases List.mem_cons.mp hp with h | h
  · exact .inl h
  · exact .inr (List.mem_singleton.mp h)
def Dist (ns : List Nd) : Prop := ∀ (i j : Nat) (ni nj : Nd), ns[i]? = some ni → ns[j]? = some nj → ni.a ≠ nj.c ∧ (i ≠ j → ni.a ≠ nj.a ∧ ni.c ≠ nj.c)
def Nd.more (b : Addr) (n : Nd) : Nd := { n with ch := n.ch ++ [b], ep := n.ep + 1 }
def addKid (ns : List Nd) (p : Nat) (b : Addr) : List Nd := ns.modify p (Nd.more b)
theorem addKid_get (ns : List Nd) (p : Nat) (b : Addr) (i : Nat) : (addKid ns p b)[i]? = if p = i then ns[i]?.map (Nd.more b) else ns[i]? := by
  unfold addKid
  rw [List.getElem?_modify]
  split <;> rename_i h
  · simp [h]
  · cases ns[i]? <;> simp
theorem addKid_length (ns : List Nd) (p : Nat) (b : Addr) : (addKid ns p b).length = ns.length := by unfold addKid; rw [List.length_modify]
theorem Dist.kid {ns : List Nd} {p : Nat} {b : Addr} (D : Dist ns) : Dist (addKid ns p b) := by
  intro i j ni nj hi hj
  rw [addKid_get] at hi hj
  have get : ∀ (k : Nat) (nk : Nd), (if p = k then ns[k]?.map (Nd.more b) else ns[k]?) = some nk → ∃ n0, ns[k]? = some n0 ∧ nk.a = n0.a ∧ nk.c = n0.c := by
    intro k nk hk
    by_cases h : p = k
    · rw [if_pos h] at hk
      cases h1 : ns[k]? with
      | none => rw [h1] at hk; cases hk
      | some n0 => rw [h1] at hk; cases hk; exact ⟨n0, rfl, rfl, rfl⟩
    · rw [if_neg h] at hk; exact ⟨nk, hk, rfl, rfl⟩
  obtain ⟨n1, g1, e1, e2⟩ := get i ni hi
  obtain ⟨n2, g2, e3, e4⟩ := get j nj hj
  rw [e1, e2, e3, e4]
  exact D i j n1 n2 g1 g2
theorem snoc_get {α : Type} {l : List α} {x y : α} {i : Nat} (h : (l ++ [x])[i]? = some y) : (i < l.length ∧ l[i]? = some y) ∨ (i = l.length ∧ x = y) := by
  rcases Nat.lt_trichotomy i l.length with h1 | h1 | h1
  · exact .inl ⟨h1, by rwa [List.getElem?_append_left h1] at h⟩
  · refine .inr ⟨h1, ?_⟩
    rw [h1, List.getElem?_append_right (Nat.le_refl _), Nat.sub_self] at h
    exact Option.some.inj h
  · rw [List.getElem?_eq_none (by rw [List.length_append, List.length_singleton]; exact h1)] at h; cases h
theorem Dist.snoc {ns : List Nd} {n : Nd} (D : Dist ns) (h1 : n.a ≠ n.c) (h2 : ∀ p ∈ ledN ns, p.1 ≠ n.a ∧ p.1 ≠ n.c) : Dist (ns ++ [n]) := by
  have old : ∀ (k : Nat) (nk : Nd), ns[k]? = some nk → (nk.a ≠ n.a ∧ nk.a ≠ n.c) ∧ (nk.c ≠ n.a ∧ nk.c ≠ n.c) := fun k nk hk => by
    have hm := List.mem_of_getElem? hk
    exact ⟨h2 _ (ledN_a hm), h2 _ (ledN_c hm)⟩
  intro i j ni nj hi hj
  rcases snoc_get hi with ⟨_, hi⟩ | ⟨ei, rfl⟩
  · rcases snoc_get hj with ⟨_, hj⟩ | ⟨_, rfl⟩
    · exact D i j ni nj hi hj
    · have o := old i ni hi
      exact ⟨o.1.2, fun _ => ⟨o.1.1, o.2.2⟩⟩
  · rcases snoc_get hj with ⟨_, hj⟩ | ⟨ej, rfl⟩
    · have o := old j nj hj
      exact ⟨fun z => o.2.1 z.symm, fun _ => ⟨fun z => o.1.1 z.symm, fun z => o.2.2 z.symm⟩⟩
    · exact ⟨h1, fun z => absurd (ei.trans ej.symm) z⟩
theorem kid_all {ns : List Nd} {p : Nat} {b : Addr} {nn : Nd} {P : Nat → Value → Prop} (V : ∀ q n, ns[q]? = some n → P q n.v) (h : P ns.length nn.v) : ∀ q n, (addKid ns p b ++ [nn])[q]? = some n → P q n.v := by
  intro q n hq
  rcases snoc_get hq with ⟨_, hq⟩ | ⟨e, rfl⟩
  · rw [addKid_get] at hq
    by_cases e : p = q
    · rw [if_pos e] at hq
      obtain ⟨n0, h0, rfl⟩ := Option.map_eq_some_iff.mp hq
      exact V q n0 h0
    · rw [if_neg e] at hq
      exact V q n hq
  · rw [e, addKid_length]; exact h
theorem getD_old {α : Type} {l : List α} {x d : α} {q : Nat} (h : q < l.length) : (l ++ [x]).getD q d = l.getD q d := by
  rw [List.getD_eq_getElem?_getD, List.getElem?_append_left h, ← List.getD_eq_getElem?_getD]
theorem getD_last {α : Type} {l : List α} {x d : α} : (l ++ [x]).getD l.length d = x := by
  rw [List.getD_eq_getElem?_getD, List.getElem?_append_right (Nat.le_refl _), Nat.sub_self]; rfl
theorem get_ltN {α : Type} {l : List α} {q : Nat} {x : α} (h : l[q]? = some x) : q < l.length := (List.getElem?_eq_some_iff.mp h).1
/-- the ledger behind an append to the inner list of thing p -/
theorem led_kid {ns : List Nd} {p : Nat} {b : Addr} {n : Nd} (D : Dist ns) (hp : ns[p]? = some n) : ∀ q ∈ ledN (addKid ns p b), q = (n.c, W.listOf ((n.ch.map Value.ref).toArray.push (.ref b)) (n.ep + 1)) ∨ (q ∈ ledN ns ∧ q.1 ≠ n.c) := by
  intro q hq
  obtain ⟨n', hn', hq'⟩ := ledN_mem hq
  obtain ⟨i, hi, hv⟩ := List.mem_iff_getElem.mp hn'
  have hg : (addKid ns p b)[i]? = some n' := by rw [List.getElem?_eq_getElem hi, hv]
  rw [addKid_get] at hg
  by_cases h : p = i
  · subst h
    rw [if_pos rfl, hp] at hg
    have e : Nd.more b n = n' := by simpa using hg
    subst e
    rcases hq' with rfl | rfl
    · exact .inr ⟨ledN_a (n := n) (List.mem_of_getElem? hp), (D p p n n hp hp).1⟩
    · left
      simp [Nd.more, List.map_append]
  · rw [if_neg h] at hg
    have hm := List.mem_of_getElem? hg
    have d := D i p n' n hg hp
    rcases hq' with rfl | rfl
    · exact .inr ⟨ledN_a hm, d.1⟩
    · exact .inr ⟨ledN_c hm, (d.2 (fun z => h z.symm)).2⟩
end Mine
end
section
open PySem PySem.W PyProof.Rows PySem.Calls PySem.Spec
set_option maxRecDepth 100000
namespace Mine
/-- the places of the things right below thing q: ps tells the parent of thing 1, 2, .. -/
def kidsOf (ps : List Nat) (q : Nat) : List Nat := ((List.range ps.length).filter fun j => ps.getD j 0 == q).map (· + 1)
theorem kidsOf_snoc (ps : List Nat) (p q : Nat) : kidsOf (ps ++ [p]) q = kidsOf ps q ++ (if p = q then [ps.length + 1] else []) := by
  unfold kidsOf
  rw [List.length_append, List.length_singleton, List.range_succ, List.filter_append, List.map_append]
  congr 1
  · congr 1
    refine List.filter_congr fun j hj => ?_
    rw [List.getD_eq_getElem?_getD, List.getD_eq_getElem?_getD, List.getElem?_append_left (by simpa using hj)]
  · have e : (ps ++ [p]).getD ps.length 0 = p := by rw [List.getD_eq_getElem?_getD]; simp
    by_cases h : p = q
    · have : ((ps ++ [p]).getD ps.length 0 == q) = true := by rw [e]; simpa using h
      rw [List.filter_cons, if_pos this, if_pos h]; rfl
    · have : ¬ ((ps ++ [p]).getD ps.length 0 == q) = true := by rw [e]; simpa using h
      rw [List.filter_cons, if_neg this, if_neg h]; rfl
theorem kidsOf_le {ps : List Nat} {q k : Nat} (h : k ∈ kidsOf ps q) : 1 ≤ k ∧ k ≤ ps.length := by
  unfold kidsOf at h
  obtain ⟨j, hj, rfl⟩ := List.mem_map.mp h
  have := (List.mem_filter.mp hj).1
  simp at this
  omega
structure Shape (ns : List Nd) (ps : List Nat) : Prop where
  len : ns.length = ps.length + 1
  par : ∀ j, j < ps.length → ps.getD j 0 ≤ j
  kids : ∀ (q : Nat) (n : Nd), ns[q]? = some n → n.ch = (kidsOf ps q).map fun k => (ns.map Nd.a).getD k 0
theorem kid_adrs (ns : List Nd) (p : Nat) (b : Addr) : (addKid ns p b).map Nd.a = ns.map Nd.a := by
  refine List.ext_getElem? fun i => ?_
  rw [List.getElem?_map, List.getElem?_map, addKid_get]
  split
  · cases ns[i]? <;> simp [Nd.more]
  · rfl
theorem Shape.step {ns : List Nd} {ps : List Nat} {p : Nat} {b c : Addr} {v : Value} {e : Nat} (S : Shape ns ps) (hp : p < ns.length) : Shape (addKid ns p b ++ [⟨b, c, v, [], e⟩]) (ps ++ [p]) := by
  have hl := S.len
  refine ⟨by rw [List.length_append, List.length_append, addKid_length, hl]; rfl, fun j hj => ?_, ?_⟩
  · rw [List.length_append, List.length_singleton] at hj
    by_cases h : j < ps.length
    · rw [List.getD_eq_getElem?_getD, List.getElem?_append_left h, ← List.getD_eq_getElem?_getD]; exact S.par j h
    · have e : j = ps.length := by omega
      subst e
      rw [List.getD_eq_getElem?_getD]; simp; omega
  have adr : ∀ k, k ≤ ps.length → ((addKid ns p b ++ [(⟨b, c, v, [], e⟩ : Nd)]).map Nd.a).getD k 0 = (ns.map Nd.a).getD k 0 := fun k hk => by
    rw [List.map_append, kid_adrs, List.getD_eq_getElem?_getD, List.getD_eq_getElem?_getD, List.getElem?_append_left (by rw [List.length_map]; omega)]
  have last : ((addKid ns p b ++ [(⟨b, c, v, [], e⟩ : Nd)]).map Nd.a).getD (ps.length + 1) 0 = b := by
    rw [List.map_append, kid_adrs, List.getD_eq_getElem?_getD, List.getElem?_append_right (by rw [List.length_map]; omega), List.length_map, hl]
    simp
  have old : ∀ q, (kidsOf ps q).map (fun k => ((addKid ns p b ++ [(⟨b, c, v, [], e⟩ : Nd)]).map Nd.a).getD k 0) = (kidsOf ps q).map fun k => (ns.map Nd.a).getD k 0 := fun q => List.map_congr_left fun k hk => adr k (kidsOf_le hk).2
  intro q n hq
  rw [kidsOf_snoc, List.map_append, old]
  rcases snoc_get hq with ⟨_, hq⟩ | ⟨eq, rfl⟩
  · rw [addKid_get] at hq
    by_cases h : p = q
    · subst h
      rw [if_pos rfl] at hq ⊢
      obtain ⟨n0, h0, rfl⟩ := Option.map_eq_some_iff.mp hq
      simp only [List.map_cons, List.map_nil, last, Nd.more]
      rw [S.kids p n0 h0]
    · rw [if_neg h] at hq ⊢
      simpa using S.kids q n hq
  · rw [addKid_length] at eq
    subst eq
    have hne : ¬ p = ns.length := by omega
    rw [if_neg hne]
    have hk : kidsOf ps ns.length = [] := by
      unfold kidsOf
      rw [List.filter_eq_nil_iff.mpr fun j hj => ?_]
      · rfl
      · have h1 := S.par j (by simpa using hj)
        have h2 : j < ps.length := by simpa using hj
        intro z
        have := beq_iff_eq.mp z
        omega
    rw [hk]; rfl
end Mine
end
section
open PySem PySem.W PyProof.Rows PySem.Calls PySem.Spec
set_option maxRecDepth 100000
namespace Mine
theorem kid_vals (ns : List Nd) (p : Nat) (b : Addr) : (addKid ns p b).map (fun n => Value.ref n.a) = ns.map fun n => Value.ref n.a := by
  have := congrArg (List.map Value.ref) (kid_adrs ns p b)
  rw [List.map_map, List.map_map] at this
  exact this
theorem kid_led_adr {ns : List Nd} {p : Nat} {b : Addr} {q : Addr × Obj} (h : q ∈ ledN (addKid ns p b)) : ∃ q' ∈ ledN ns, q'.1 = q.1 := by
  obtain ⟨n', hn', hq'⟩ := ledN_mem h
  obtain ⟨i, hi, hv⟩ := List.mem_iff_getElem.mp hn'
  have hg : (addKid ns p b)[i]? = some n' := by rw [List.getElem?_eq_getElem hi, hv]
  rw [addKid_get] at hg
  have : ∃ n0, ns[i]? = some n0 ∧ n'.a = n0.a ∧ n'.c = n0.c := by
    by_cases h : p = i
    · rw [if_pos h] at hg
      obtain ⟨n0, h0, rfl⟩ := Option.map_eq_some_iff.mp hg
      exact ⟨n0, h0, rfl, rfl⟩
    · rw [if_neg h] at hg; exact ⟨n', hg, rfl, rfl⟩
  obtain ⟨n0, h0, e1, e2⟩ := this
  have hm := List.mem_of_getElem? h0
  rcases hq' with rfl | rfl
  · exact ⟨_, ledN_a hm, e1.symm⟩
  · exact ⟨_, ledN_c hm, e2.symm⟩
theorem as_if {m : Str → Option Value} {k : Str} {v : Value} (h : m k = some v) : m = fun y => if y = k then some v else m y := by
  funext y
  by_cases h1 : y = k
  · rw [if_pos h1, h1, h]
  · rw [if_neg h1]
theorem size_okN {n : Nat} (h : n < 1000) : n ≤ sizeLine := by
  have c6 : sizeLine = 16777216 := by decide
  omega

/-- the step of a building loop: thing b, its list c, hung below thing p -/
structure Hang (ns : List Nd) (p : Nat) (n : Nd) (b c l3 : Addr) (ep : Nat) (rest own : List (Addr × Obj)) : Prop where
  D : Dist ns
  hg : ns[p]? = some n
  O1 : ∀ p ∈ ledN ns ++ rest, p.1 ≠ l3
  O2 : ∀ p ∈ ledN ns, ∀ q ∈ rest, q.1 ≠ p.1
  hoff : OwnOff own (((l3, W.listOf (ns.map fun n => Value.ref n.a).toArray ep) :: (ledN ns ++ rest)).map (·.1))
  lb : ∀ q ∈ ledN ns ++ (rest ++ own), @LT.lt Nat _ q.1 b
  lc : ∀ q ∈ ledN ns ++ (rest ++ own), @LT.lt Nat _ q.1 c
  cb : @LT.lt Nat _ c b
  l3c : @LT.lt Nat _ l3 c
abbrev ndB (b c : Addr) (v : Value) : Addr × Obj := (b, W.listOf #[v, .ref c] 0)
abbrev ndC (c : Addr) : Addr × Obj := (c, W.listOf #[] 0)
abbrev ndL (l3 : Addr) (ns : List Nd) (ep : Nat) : Addr × Obj := (l3, W.listOf (ns.map fun n => Value.ref n.a).toArray ep)
section
variable {ns : List Nd} {p : Nat} {n : Nd} {b c l3 : Addr} {ep : Nat} {rest own : List (Addr × Obj)} {v : Value}
theorem Hang.mc (H : Hang ns p n b c l3 ep rest own) : (n.c, W.listOf (n.ch.map Value.ref).toArray n.ep) ∈ ledN ns := ledN_c (List.mem_of_getElem? H.hg)
theorem Hang.led1 (H : Hang ns p n b c l3 ep rest own) : ∀ q ∈ ndB b c v :: ndC c :: ndL l3 ns ep :: (ledN (addKid ns p b) ++ (rest ++ own)), q = (n.c, W.listOf ((n.ch.map Value.ref).toArray.push (.ref b)) (n.ep + 1)) ∨ (q ∈ ndB b c v :: ndC c :: ndL l3 ns ep :: (ledN ns ++ (rest ++ own)) ∧ q.1 ≠ n.c) := by
  have hin : ∀ q ∈ ledN ns, q ∈ ledN ns ++ (rest ++ own) := fun q hq => List.mem_append.mpr (.inl hq)
  intro q hq
  rcases List.mem_cons.mp hq with rfl | hq
  · exact .inr ⟨.head _, fun e => Nat.ne_of_lt (H.lb _ (hin _ H.mc)) e.symm⟩
  · rcases List.mem_cons.mp hq with rfl | hq
    · exact .inr ⟨.tail _ (.head _), fun e => Nat.ne_of_lt (H.lc _ (hin _ H.mc)) e.symm⟩
    · rcases List.mem_cons.mp hq with rfl | hq
      · exact .inr ⟨.tail _ (.tail _ (.head _)), fun e => H.O1 _ (List.mem_append.mpr (.inl H.mc)) e.symm⟩
      · rcases List.mem_append.mp hq with hq | hq
        · rcases led_kid H.D H.hg q hq with h | ⟨h, h'⟩
          · exact .inl h
          · exact .inr ⟨.tail _ (.tail _ (.tail _ (List.mem_append.mpr (.inl h)))), h'⟩
        · refine .inr ⟨.tail _ (.tail _ (.tail _ (List.mem_append.mpr (.inr hq)))), ?_⟩
          rcases List.mem_append.mp hq with hq | hq
          · exact H.O2 _ H.mc _ hq
          · exact H.hoff q hq _ (List.mem_map.mpr ⟨_, .tail _ (List.mem_append.mpr (.inl H.mc)), rfl⟩)
theorem Hang.led2 (H : Hang ns p n b c l3 ep rest own) : ∀ q ∈ (l3, W.listOf ((ns.map fun n => Value.ref n.a).toArray.push (.ref b)) (ep + 1)) :: ndB b c v :: ndC c :: (ledN (addKid ns p b) ++ (rest ++ own)), q = (l3, W.listOf ((ns.map fun n => Value.ref n.a).toArray.push (.ref b)) (ep + 1)) ∨ (q ∈ ndB b c v :: ndC c :: ndL l3 ns ep :: (ledN (addKid ns p b) ++ (rest ++ own)) ∧ q.1 ≠ l3) := by
  intro q hq
  rcases List.mem_cons.mp hq with rfl | hq
  · exact .inl rfl
  · rcases List.mem_cons.mp hq with rfl | hq
    · exact .inr ⟨.head _, fun e => Nat.ne_of_lt (Nat.lt_trans H.l3c H.cb) e.symm⟩
    · rcases List.mem_cons.mp hq with rfl | hq
      · exact .inr ⟨.tail _ (.head _), fun e => Nat.ne_of_lt H.l3c e.symm⟩
      · refine .inr ⟨.tail _ (.tail _ (.tail _ hq)), ?_⟩
        rcases List.mem_append.mp hq with hq | hq
        · obtain ⟨q', h1, h2⟩ := kid_led_adr hq
          rw [← h2]; exact H.O1 q' (List.mem_append.mpr (.inl h1))
        · rcases List.mem_append.mp hq with hq | hq
          · exact H.O1 _ (List.mem_append.mpr (.inr hq))
          · exact H.hoff q hq _ (.head _)
def hung (ns : List Nd) (p : Nat) (b c : Addr) (v : Value) : List Nd := addKid ns p b ++ [(⟨b, c, v, [], 0⟩ : Nd)]
theorem hung_mem {q : Addr × Obj} (h : q ∈ ledN (hung ns p b c v)) : q ∈ ledN (addKid ns p b) ∨ q = ndB b c v ∨ q = ndC c := by
  unfold hung at h
  rw [ledN_append] at h
  rcases List.mem_append.mp h with hq | hq
  · exact .inl hq
  · rcases List.mem_cons.mp hq with hq | hq
    · exact .inr (.inl hq)
    · exact .inr (.inr (List.mem_singleton.mp hq))
theorem hung_arr : (l3, W.listOf ((hung ns p b c v).map fun n => Value.ref n.a).toArray (ep + 1)) = (l3, W.listOf ((ns.map fun n => Value.ref n.a).toArray.push (.ref b)) (ep + 1)) := by
  unfold hung
  rw [List.map_append, kid_vals]
  simp
theorem Hang.adr (H : Hang ns p n b c l3 ep rest own) {q : Addr × Obj} (h : q ∈ ledN (hung ns p b c v)) : (∃ q' ∈ ledN ns, q'.1 = q.1) ∨ q.1 = b ∨ q.1 = c := by
  rcases hung_mem h with h | rfl | rfl
  · exact .inl (kid_led_adr h)
  · exact .inr (.inl rfl)
  · exact .inr (.inr rfl)
theorem Hang.s1 (_ : Hang ns p n b c l3 ep rest own) : ∀ q ∈ ndL l3 (hung ns p b c v) (ep + 1) :: (ledN (hung ns p b c v) ++ rest), q ∈ (l3, W.listOf ((ns.map fun n => Value.ref n.a).toArray.push (.ref b)) (ep + 1)) :: ndB b c v :: ndC c :: (ledN (addKid ns p b) ++ (rest ++ own)) := by
  intro q hq
  rcases List.mem_cons.mp hq with rfl | hq
  · rw [ndL, hung_arr]; exact .head _
  · rcases List.mem_append.mp hq with hq | hq
    · rcases hung_mem hq with h | rfl | rfl
      · exact .tail _ (.tail _ (.tail _ (List.mem_append.mpr (.inl h))))
      · exact .tail _ (.head _)
      · exact .tail _ (.tail _ (.head _))
    · exact .tail _ (.tail _ (.tail _ (List.mem_append.mpr (.inr (List.mem_append.mpr (.inl hq))))))
theorem Hang.s2 (_ : Hang ns p n b c l3 ep rest own) : ∀ q ∈ own, q ∈ (l3, W.listOf ((ns.map fun n => Value.ref n.a).toArray.push (.ref b)) (ep + 1)) :: ndB b c v :: ndC c :: (ledN (addKid ns p b) ++ (rest ++ own)) := fun q hq => .tail _ (.tail _ (.tail _ (List.mem_append.mpr (.inr (List.mem_append.mpr (.inr hq))))))
theorem Hang.s3 (H : Hang ns p n b c l3 ep rest own) : OwnOff own ((ndL l3 (hung ns p b c v) (ep + 1) :: (ledN (hung ns p b c v) ++ rest)).map (·.1)) := by
  intro q hq b' hb'
  have mo : q ∈ ledN ns ++ (rest ++ own) := List.mem_append.mpr (.inr (List.mem_append.mpr (.inr hq)))
  obtain ⟨r, hr, rfl⟩ := List.mem_map.mp hb'
  rcases List.mem_cons.mp hr with rfl | hr
  · exact H.hoff q hq _ (.head _)
  · rcases List.mem_append.mp hr with hr | hr
    · rcases H.adr hr with ⟨q', h1, h2⟩ | h | h
      · rw [← h2]; exact H.hoff q hq _ (List.mem_map.mpr ⟨q', .tail _ (List.mem_append.mpr (.inl h1)), rfl⟩)
      · rw [h]; exact Nat.ne_of_lt (H.lb q mo)
      · rw [h]; exact Nat.ne_of_lt (H.lc q mo)
    · exact H.hoff q hq _ (List.mem_map.mpr ⟨r, .tail _ (List.mem_append.mpr (.inr hr)), rfl⟩)
theorem Hang.s6 (H : Hang ns p n b c l3 ep rest own) : Dist (hung ns p b c v) := by
  refine (H.D.kid).snoc (fun e => Nat.ne_of_lt H.cb e.symm) fun q hq => ?_
  obtain ⟨q', h1, h2⟩ := kid_led_adr hq
  rw [← h2]
  exact ⟨Nat.ne_of_lt (H.lb _ (List.mem_append.mpr (.inl h1))), Nat.ne_of_lt (H.lc _ (List.mem_append.mpr (.inl h1)))⟩
theorem Hang.s8 (H : Hang ns p n b c l3 ep rest own) : ∀ q ∈ ledN (hung ns p b c v) ++ rest, q.1 ≠ l3 := by
  intro q hq
  rcases List.mem_append.mp hq with hq | hq
  · rcases H.adr hq with ⟨q', h1, h2⟩ | h | h
    · rw [← h2]; exact H.O1 _ (List.mem_append.mpr (.inl h1))
    · rw [h]; exact fun e => Nat.ne_of_lt (Nat.lt_trans H.l3c H.cb) e.symm
    · rw [h]; exact fun e => Nat.ne_of_lt H.l3c e.symm
  · exact H.O1 _ (List.mem_append.mpr (.inr hq))
theorem Hang.s9 (H : Hang ns p n b c l3 ep rest own) : ∀ q ∈ ledN (hung ns p b c v), ∀ r ∈ rest, r.1 ≠ q.1 := by
  intro q hq r hr
  have mo : r ∈ ledN ns ++ (rest ++ own) := List.mem_append.mpr (.inr (List.mem_append.mpr (.inl hr)))
  rcases H.adr hq with ⟨q', h1, h2⟩ | h | h
  · rw [← h2]; exact H.O2 _ h1 _ hr
  · rw [h]; exact Nat.ne_of_lt (H.lb r mo)
  · rw [h]; exact Nat.ne_of_lt (H.lc r mo)
end
end Mine
end
section
open PySem PySem.W PyProof.Rows PySem.Calls PySem.Spec
open Sem (wp)
set_option maxRecDepth 100000
namespace Mine
section
variable {M : Model} {A : Around} {E E₁ E₂ : Value → Shared → Prop} {s : Shared}
/-- an exception noted for the first time and held: its record, but for the traceback, is as it was -/
theorem note_first {base : Heap} {env : Env} {outer : List Env} {L e : Addr} {oe : Obj} {vs : Array Value} {P : Prop} {Q : Unit → Shared → Prop}
    (hfr : A.frames = some (env :: outer)) (hl : s.heap.FunFrames base (env :: outer)) (hf : env.frame = some L)
    (he : s.heap.get? e = some oe) (hkb : base.StaysIn s.heap) (hen : base.get? e = none) (hd : oe.data = .fields vs) (h1 : vs[1]? = some .none) (hP : P)
    (h : ∀ h', base.StaysIn h' → h'.FunFrames base (env :: outer) → s.heap.UpToSlots h' → (∃ o1 vs1, h'.get? e = some o1 ∧ o1.data = .fields vs1 ∧ vs1[2]? = vs[2]?) → Q () { s with heap := h' }) :
    wpAny M A (noteFrame (.ref e) env) (fun _ s₂ => P ∧ wpAny M A (noteFrame (.ref e) env) (fun _ s₃ => wpAny M A (setFlight (.ref e) none) Q E s₃) E₁ s₂) E₂ s := by
  have hsz : 1 < vs.size := (Array.getElem?_eq_some_iff.mp h1).1
  have hene : e ∉ (env :: outer).filterMap (·.frame) := fun hm => by
    obtain ⟨_, o, ho, hnf⟩ := hl.mem hm
    rw [he] at ho; injection ho with ho; subst ho; exact hnf vs hd
  refine (?_ : ∀ K : Unit → Shared → Prop, (∀ x s₂, K x s₂ = (P ∧ wpAny M A (noteFrame (.ref e) env) (fun _ s₃ => wpAny M A (setFlight (.ref e) none) Q E s₃) E₁ s₂)) → wpAny M A (noteFrame (.ref e) env) K E₂ s) _ (fun _ _ => rfl)
  intro K hK
  unfold noteFrame
  simp only [hf]
  refine wpAny_bind (wpAny_field he hd h1 ?_)
  rw [if_neg (by decide)]
  refine wpAny_bind (wpAny_frameOf_fun hfr hl hf fun g1 hs1 => ?_)
  refine wpAny_bind (wpAny_entryPlaceOf fun pl hpl => ?_)
  unfold EntryCells.newEntry newFields
  refine wpAny_bind (wpAny_newObj_type ?_ (hpl.sizeOk5 _ _ _ _ _))
  generalize htb : ({ cls := .type "traceback", dict := none, data := .fields ([Value.none, .ref L, .none, rawInt L, .none] ++ (if pl.isEmpty then List.replicate 6 Value.none else pl)).toArray } : Obj) = tbo
  have htd : ∃ ts : Array Value, tbo.data = .fields ts ∧ ts[3]? = some (rawInt L) := ⟨_, by rw [← htb], by simp⟩
  obtain ⟨ts, hts, h3⟩ := htd
  have htz : tbo.isFreed = false := Obj.isFreed_of_fields hts
  have k1 : ∀ b o, base.get? b = some o → g1.get? b = some o := fun b o hb => (hs1.2.1 b fun hm => by rw [(hl.mem hm).1] at hb; cases hb).trans (hkb b o hb)
  have e1 : g1.get? e = some oe := (hs1.2.1 e hene).trans he
  have e2 := Heap.get?_push_of_some (h := g1) tbo e1
  have t2 : (g1.push tbo).get? g1.objs.size = some tbo := Heap.get?_push_size g1 htz
  have hTe : g1.objs.size ≠ e := Nat.ne_of_gt (Heap.lt_size e1)
  refine wpAny_setField e2 hd hsz ?_
  rw [hK]
  refine ⟨hP, ?_⟩
  have d3 := Obj.data_mapFields hd (·.setIfInBounds 1 (Value.ref g1.objs.size))
  have e3 := Heap.get?_update_self (Obj.mapFields (·.setIfInBounds 1 (Value.ref g1.objs.size))) e2 (Obj.isFreed_of_fields d3)
  have t3 := (Heap.get?_update_other (g1.push tbo) (Obj.mapFields (·.setIfInBounds 1 (Value.ref g1.objs.size))) (Ne.symm hTe)).trans t2
  have v1 : (vs.setIfInBounds 1 (Value.ref g1.objs.size))[1]? = some (.ref g1.objs.size) := by simp [hsz]
  refine wpAny_noteFrame_inFlight hf e3 d3 v1 t3 hts h3 ?_
  have keep : ∀ b o, b ≠ e → g1.get? b = some o → (((g1.push tbo).update e (Obj.mapFields (·.setIfInBounds 1 (Value.ref g1.objs.size)))).update g1.objs.size (Obj.mapFields (·.setIfInBounds 3 ((none : Option Addr).elim Value.none fun f => rawInt f)))).get? b = some o := fun b o hbe hb => by
    rw [Heap.get?_update_other _ _ (Nat.ne_of_gt (Heap.lt_size hb)), Heap.get?_update_other _ _ (Ne.symm hbe)]
    exact Heap.get?_push_of_some _ hb
  have nr : ∀ b o, s.heap.get? b = some o → (∀ vs, o.data ≠ .fields vs) → b ≠ e := fun b o hb hnf q => by
    rw [q, he] at hb; injection hb with hb; subst hb; exact hnf vs hd
  unfold setFlight
  refine wpAny_bind (wpAny_field e3 d3 v1 ?_)
  rw [if_pos (show (Value.ref g1.objs.size != Value.none) = true from by simp)]
  refine wpAny_setField t3 hts (Array.getElem?_eq_some_iff.mp h3).1 (h _ ?_ ?_ ?_ ?_)
  all_goals dsimp only at *
  · exact fun b o hb => keep b o (fun q => by rw [q, hen] at hb; cases hb) (k1 b o hb)
  · exact hl.of_keeps fun b o hb hnf => by
      obtain ⟨sl, hs⟩ := hs1.2.2 b o hb
      exact ⟨_, keep b _ (nr b o hb hnf) hs, rfl⟩
  · exact fun b o hb hnf => by
      obtain ⟨sl, hs⟩ := hs1.2.2 b o hb
      exact ⟨sl, keep b _ (nr b o hb hnf) hs⟩
  · exact ⟨_, _, (Heap.get?_update_other _ _ hTe).trans e3, d3, Array.getElem?_setIfInBounds_ne (by decide)⟩
end
section
variable {prog : Program} {w : World} {A : Around} {E : Value → Shared → Prop} {s : Shared}
theorem entry_unchain : entryFor table "proto.unchain" = some Builtin.«proto.unchain» := entryFor_of_fast (by kernel_rfl)
/-- an error raised while another is handled, whose own context is none -/
theorem raise_in {α : Type} {cls : String} {msg : Tok} {x : Str} {hh : Addr} {oh : Obj} {vh : Array Value} {Q : α → Shared → Prop} (hp : PlainExc cls) (hA : A.handled = some (.ref hh)) (ho : s.heap.get? hh = some oh) (hd : oh.data = .fields vh) (h2 : vh[2]? = some .none)
    (h : ∀ h' tk e, NewExcG s.heap h' e cls → E (.ref e) { s with heap := h', toks := tk }) :
    wpAny (model prog w) A (newExc (.type cls) [.str x msg] >>= fun e => (raiseNew e : Sem α)) Q E s := by
  refine wpAny_bind ?_
  unfold newExc newTuple
  refine wpAny_bind (wpAny_newObj_type ?_)
  refine wpAny_bind (m := firstArgMember _ _) (wpAny_of_eq (a := Value.none) (by simp only [firstArgMember, hp.first]; rfl) ?_)
  rw [hp.own]
  refine wpAny_newObj_type ?_
  unfold raiseNew
  refine wpAny_bind (wpAny_handled ?_)
  rw [hA]
  generalize ht : ({ cls := .type "tuple", dict := none, data := .seq [Value.str x msg].toArray } : Obj) = ot
  generalize he : ({ cls := .type cls, dict := none, data := .fields ([Value.ref s.heap.objs.size, .none, .none, .none, .bool false, .none].toArray ++ #[]) } : Obj) = oe
  have hte : ot.isFreed = false := by rw [← ht]; rfl
  have hee : oe.isFreed = false := by rw [← he]; rfl
  have hde : oe.cls = .type cls ∧ oe.data = .fields #[Value.ref s.heap.objs.size, .none, .none, .none, .bool false, .none] := by rw [← he]; exact ⟨rfl, rfl⟩
  clear ht he
  dsimp only
  have hsz : (s.heap.push ot).objs.size = s.heap.objs.size + 1 := by simp [Heap.push]
  have h3 := Heap.get?_push_of_some (h := s.heap.push ot) oe (Heap.get?_push_of_some (h := s.heap) ot ho)
  have h4 : ((s.heap.push ot).push oe).get? (s.heap.push ot).objs.size = some oe := Heap.get?_push_size _ hee
  have hne : hh ≠ (s.heap.push ot).objs.size := by have := Heap.lt_size ho; rw [hsz]; exact Nat.ne_of_lt (Nat.lt_succ_of_lt this)
  rw [if_pos (by simpa using hne)]
  refine wpAny_bind (wpAny_holding (wpAny_runValue (codeAny_builtin entry_unchain ?_)))
  unfold Builtin.«proto.unchain»
  dsimp only
  refine wpAny_bind (wpAny_field h3 hd h2 ?_)
  rw [if_pos (by rfl)]
  refine wpAny_pure ?_
  dsimp only
  refine wpAny_bind ?_
  unfold updateField
  refine wpAny_bind (wpAny_load h4 ?_)
  rw [hde.2]
  dsimp only
  rw [if_pos (by simp)]
  refine wpAny_update h4 (wpAny_throw ?_)
  have d5 := Obj.data_mapFields hde.2 (·.setIfInBounds 2 (Value.ref hh))
  refine h _ _ _ ⟨fun b o hb => ?_, ?_, _, _, _, Heap.get?_update_self _ h4 (Obj.isFreed_of_fields d5), (Obj.cls_mapFields _ _).trans hde.1, d5, rfl, rfl⟩
  · have hb2 := Heap.lt_size hb
    rw [Heap.get?_update_other _ _ (by rw [hsz]; exact Nat.ne_of_gt (Nat.lt_succ_of_lt hb2))]
    exact Heap.get?_push_of_some _ (Heap.get?_push_of_some _ hb)
  · exact Heap.get?_none_of_le (by rw [hsz]; exact Nat.le_succ _)
theorem list_out_in {l hh : Addr} {items : Array Value} {k : Int} {t : Tok} {oh : Obj} {vh : Array Value} {Q : Value → Shared → Prop} (hA : A.handled = some (.ref hh)) (hoh : s.heap.get? hh = some oh) (hdh : oh.data = .fields vh) (h2 : vh[2]? = some .none) (hl : s.heap.IsList l items)
    (hout : (items.size : Int) ≤ k) (hhi : k < 2 ^ 63) (hE : ∀ h' tk e, NewExcG s.heap h' e "IndexError" → E (.ref e) { s with heap := h', toks := tk }) :
    wpAny (model prog w) A (getItem (.ref l) (.int k t)) Q E s := by
  obtain ⟨o, ho, hc, ne, hd⟩ := id hl
  have h0 : -(2 ^ 63) ≤ k := by omega
  unfold getItem
  try with_reducible refine wpAny_holding ?_
  first | refine wpAny_bind (wpAny_pure ?_) | skip
  refine wpAny_bind (wpAny_sequenceKey hl.typeIs (by decide) ?_)
  refine wpAny_bind (wpAny_callSpecial?_slot (name := Str.ofString "__getitem__") hl.typeIs slot_list_getitem
    (wpAny_call_entry slot_list_getitem hl.typeIs entry_list_getitem ?_ (args_list_getitem _ _)))
  show wpAny _ _ (Builtin.List.listSubscript? (.int k t) >>= _) _ _ s
  refine wpAny_bind (wpAny_listSubscript_int (fitsIndex_both h0 hhi) ?_)
  clear h0 hhi
  cases k with
  | negSucc j => exact absurd hout (by have := Int.negSucc_lt_zero j; omega)
  | ofNat j =>
    have hx : items[j]? = none := Array.getElem?_eq_none (by have : (items.size : Int) ≤ (j : Int) := hout; omega)
    show wpAny _ _ ((seqItemAt l j >>= fun r => pure (r.map (j, ·))) >>= _) _ _ s
    refine wpAny_bind (wpAny_bind (wpAny_seqItemAt ho hd (wpAny_pure ?_)))
    rw [hx]
    have fin : ∀ {α : Type} {A' : Around} {Q : α → Shared → Prop}, A'.handled = some (.ref hh) → wpAny (model prog w) A' (raiseErrorWords "IndexError" "list index out of range" : Sem α) Q (fun e s' => E e s') s := by
      intro α A' Q hA'
      unfold raiseErrorWords
      refine wpAny_bind (wpAny_mkText ?_)
      exact raise_in plainExc_IndexError hA' hoh hdh h2 hE
    first
      | exact wpAny_bind (wpAny_rule (fin hA))
      | exact wpAny_bind (wpAny_rule (wpAny_bind (fin hA)))
      | exact wpAny_bind (wpAny_bind (wpAny_rule (fin hA)))
      | exact wpAny_rule (fin hA)
theorem item_out_in {l hh L : Addr} {h₀ : Heap} {news : List (Addr × Obj)} {value slice : PySem.Expr} {vs : List Value} {n : Nat} {k : Int} {u : Tok} {oh : Obj} {vh : Array Value} {Q : Value → Shared → Prop} (N : News h₀ L s.heap news) (hm : (l, W.listOf vs.toArray n) ∈ news) (hA : A.handled = some (.ref hh)) (hoh : (hh, oh) ∈ news) (hdh : oh.data = .fields vh) (h2 : vh[2]? = some .none)
    (hout : (vs.length : Int) ≤ k) (hhi : k < 2 ^ 63) (hE : ∀ h' tk e, NewExcG s.heap h' e "IndexError" → E (.ref e) { s with heap := h', toks := tk })
    (hs : subscripted slice false (.ref l) (.int k u) = operate [.ref l, .int k u] (getItem (.ref l) (.int k u)) := by with_unfolding_all rfl) :
    wpAny (model prog w) A (subscriptTail value slice (.ref l) (.int k u)) Q E s :=
  have hl : s.heap.IsList l vs.toArray := ⟨_, (N _ hm).1, rfl, _, rfl⟩
  tail_any hl.typeIs slot_list_getitem.lookup (list_out_in hA (N _ hoh).1 hdh h2 hl (by simpa using hout) hhi hE) hs
theorem item_out {l L : Addr} {h₀ : Heap} {news : List (Addr × Obj)} {value slice : PySem.Expr} {vs : List Value} {n : Nat} {k : Int} {u : Tok} {Q : Value → Shared → Prop} (N : News h₀ L s.heap news) (hm : (l, W.listOf vs.toArray n) ∈ news) (hA : A.handled = none)
    (hout : (vs.length : Int) ≤ k) (hhi : k < 2 ^ 63) (hE : ∀ h' tk e, Heap.NewExc s.heap h' e "IndexError" → E (.ref e) { s with heap := h', toks := tk })
    (hs : subscripted slice false (.ref l) (.int k u) = operate [.ref l, .int k u] (getItem (.ref l) (.int k u)) := by with_unfolding_all rfl) :
    wpAny (model prog w) A (subscriptTail value slice (.ref l) (.int k u)) Q E s :=
  have hl : s.heap.IsList l vs.toArray := ⟨_, (N _ hm).1, rfl, _, rfl⟩
  item_outK hA hl (.inr (by simpa using hout)) (by omega) hhi hE hs
end
section
variable {prog : Program} {w : World} {A₀ : Around} {E E₁ E₂ : Value → Shared → Prop} {s' : Shared} {base g h : Heap} {outer : List Env} {L a e : Addr} {m : Str → Option Value} {name : Str} {scope : Scope} {cd : Value}
  {P : Prop} {Q : Unit → Shared → Prop} {news : List (Addr × Obj)} {KF : Frag}
  {p : Program} {loose : List Str} {mean : ExcName → Option Value} {mg mb : Str → Option Value} {X : String}
/-- the frame's own exception on its way through the frame's own finally, at any depth: it goes onto the ledger -/
theorem fin_own (hx : Heap.NewExc h s'.heap e X) (F : Fr g L h m) (N : News g L h news) (K : Below A₀ base outer g) (XB : KF.In base) (TB : Top p loose mean mg mb base)
    (D : KtsDicts (outer.filterMap (·.frame)) g) (hP : P)
    (k : ∀ h' g' o1 vs1, KtsTurn (outer.filterMap (·.frame)) g g' → Fr g' L h' m → o1.data = .fields vs1 → vs1[2]? = some .none → News g' L h' ((e, o1) :: news) → Below A₀ base outer g' → KF.In g' → Top p loose mean mg mb g' → KtsDicts (outer.filterMap (·.frame)) g' → Q () { s' with heap := h' })
    (hk : scope.kind = .function := by rfl) :
    wpAny (model prog w) (A₀.deeper (envOf name scope L a cd)) (noteFrame (.ref e) (envOf name scope L a cd))
      (fun _ s₂ => P ∧ wpAny (model prog w) (A₀.deeper (envOf name scope L a cd)) (noteFrame (.ref e) (envOf name scope L a cd)) (fun _ s₃ => wpAny (model prog w) (A₀.deeper (envOf name scope L a cd)) (setFlight (.ref e) none) Q E s₃) E₁ s₂) E₂ s' := by
  have K' := K.push (name := name) (a := a) (cd := cd) F hk
  have hin : ∀ env ∈ (envOf name scope L a cd :: outer), ∀ b, env.frame = some b → b ∈ (envOf name scope L a cd :: outer).filterMap (·.frame) := fun env he b hb => List.mem_filterMap.mpr ⟨env, he, hb⟩
  have hBG : ∀ b o, h.get? b = some o → b ∉ (envOf name scope L a cd :: outer).filterMap (·.frame) → (hideAll h ((envOf name scope L a cd :: outer).filterMap (·.frame))).get? b = some o := fun b o q nm => hideAll_get _ q nm
  have hLm : L ∈ (envOf name scope L a cd :: outer).filterMap (·.frame) := hin _ (.head _) L rfl
  have hl : ∀ q ∈ news, (hideAll h ((envOf name scope L a cd :: outer).filterMap (·.frame))).get? q.1 = some q.2 := fun q hq => by
    refine hideAll_get _ (N q hq).1 fun hm => ?_
    rcases kts_mem hm with z | z
    · exact (N q hq).2.1 z
    · obtain ⟨o, ho, _⟩ := (K.frames.mem z).2
      rw [(N q hq).2.2] at ho; cases ho
  obtain ⟨ob, tp, he, hcls, hdd⟩ := hx.there
  have hen : (hideAll h ((envOf name scope L a cd :: outer).filterMap (·.frame))).get? e = none := by
    cases q : (hideAll h ((envOf name scope L a cd :: outer).filterMap (·.frame))).get? e with
    | none => rfl
    | some o => have := of_hideAll _ q; rw [hx.new] at this; cases this
  refine note_first K'.stack ((funFrames_hide K'.frames hin).of_keeps fun b o hb _ => ⟨o, hx.keeps b o hb, rfl⟩) rfl he (fun b o hb => hx.keeps b o (of_hideAll _ hb)) hen hdd rfl hP fun h₅ hst hff hsm₄ hrec => ?_
  have hsm₅ : h.UpToSlots h₅ := (Heap.UpToSlots.of_keeps hx.keeps).trans hsm₄
  obtain ⟨g₅, T₅, F₅, K₅⟩ := kts_ground K F hBG hst hsm₅
  obtain ⟨o1, vs1, h1, hd1, hv1⟩ := hrec
  have he0 : g.get? e = none := by
    cases q : g.get? e with
    | none => rfl
    | some o => have := F.keep _ _ q; rw [hx.new] at this; cases this
  have heL : e ≠ L := fun q => by
    obtain ⟨o, _, _, ho, _⟩ := F.ns
    rw [← q, hx.new] at ho; cases ho
  refine k h₅ g₅ o1 vs1 T₅ F₅ hd1 (by rw [hv1]; rfl) (fun q hq => ?_) K₅ (XB.keeps K₅.stays) (TB.keeps K₅.stays) (D.turn T₅)
  rcases List.mem_cons.mp hq with rfl | hq
  · exact ⟨h1, heL, T₅.none_ _ he0⟩
  · exact ⟨hst _ _ (hl q hq), (N q hq).2.1, T₅.none_ _ (N q hq).2.2⟩
end
end Mine
end
section
open PySem PySem.W PyProof.Rows PySem.Calls PySem.Spec
open Sem (wp)
open Builtin Builtin.Str
set_option maxRecDepth 100000
namespace Mine
section
variable {prog : Program} {w : World} {A : Around} {E : Value → Shared → Prop} {s : Shared}
theorem next_tup {it l : Addr} {i : Nat} {items : Array Value} {x : Value} {Q : Value → Shared → Prop} (hit : s.heap.IsTupleIter it l i) (hl : s.heap.IsTuple l items) (hx : items[i]? = some x)
    (hQ : ∀ h', h'.IsTupleIter it l (i + 1) → Heap.SameBut it s.heap h' → Q x { s with heap := h' }) : wpAny (model prog w) A (Builtin.SmallTypes.nextOf (.ref it)) Q E s := by
  obtain ⟨o, ho, hc, hd⟩ := id hit
  obtain ⟨ol, hol, _, nl, hdl⟩ := hl
  unfold Builtin.SmallTypes.nextOf
  refine wpAny_bind (wpAny_callSpecial?_slot (name := Str.ofString "__next__") hit.typeIs F.slot_tuple_iterator_next (wpAny_call_entry F.slot_tuple_iterator_next hit.typeIs F.entry_tuple_iterator_next ?_ (F.args_tuple_iterator_next_1 _)))
  show wpAny _ _ (field (.ref it) 0 >>= _) _ _ s
  refine wpAny_bind (wpAny_field ho hd (x := .ref l) rfl ?_)
  show wpAny _ _ (if (Value.ref l == Value.none) = true then _ else _) _ _ s
  rw [if_neg (show ¬ ((Value.ref l == Value.none) = true) from Bool.false_ne_true)]
  show wpAny _ _ (field (.ref it) 1 >>= _) _ _ s
  refine wpAny_bind (wpAny_field ho hd (x := .int i 0) rfl ?_)
  show wpAny _ _ (seqItems? (.ref l) >>= _) _ _ s
  refine wpAny_bind (wpAny_seqItems hol hdl ?_)
  simp only [Int.toNat_natCast, hx]
  refine wpAny_bind (wpAny_setField ho hd (by simp) (wpAny_pure ⟨x, rfl, wpAny_pure (hQ _ ⟨_, Heap.get?_update_self _ ho (Obj.isFreed_of_fields (Obj.data_mapFields hd _)), (Obj.cls_mapFields ..).trans hc, ?_⟩ (Heap.SameBut.update ..))⟩))
  rw [Obj.data_mapFields hd]; simp [rawInt]
theorem next_tup_end {it l : Addr} {i : Nat} {items : Array Value} {Q : Value → Shared → Prop} (hh : A.handled = none) (hit : s.heap.IsTupleIter it l i) (hl : s.heap.IsTuple l items) (hx : items[i]? = none)
    (hE : ∀ h' e, Heap.ExtBut it s.heap h' → (∃ o, h'.get? e = some o ∧ o.cls = .type "StopIteration") → E (.ref e) { s with heap := h' }) : wpAny (model prog w) A (Builtin.SmallTypes.nextOf (.ref it)) Q E s := by
  obtain ⟨o, ho, hc, hd⟩ := id hit
  obtain ⟨ol, hol, _, nl, hdl⟩ := hl
  unfold Builtin.SmallTypes.nextOf
  refine wpAny_bind (wpAny_callSpecial?_slot (name := Str.ofString "__next__") hit.typeIs F.slot_tuple_iterator_next (wpAny_call_entry F.slot_tuple_iterator_next hit.typeIs F.entry_tuple_iterator_next ?_ (F.args_tuple_iterator_next_1 _)))
  show wpAny _ _ (field (.ref it) 0 >>= _) _ _ s
  refine wpAny_bind (wpAny_field ho hd (x := .ref l) rfl ?_)
  show wpAny _ _ (if (Value.ref l == Value.none) = true then _ else _) _ _ s
  rw [if_neg (show ¬ ((Value.ref l == Value.none) = true) from Bool.false_ne_true)]
  show wpAny _ _ (field (.ref it) 1 >>= _) _ _ s
  refine wpAny_bind (wpAny_field ho hd (x := .int i 0) rfl ?_)
  show wpAny _ _ (seqItems? (.ref l) >>= _) _ _ s
  refine wpAny_bind (wpAny_seqItems hol hdl ?_)
  simp only [Int.toNat_natCast, hx]
  refine wpAny_bind (wpAny_rule (wpAny_bind (wpAny_setField ho hd (by simp) ?_)))
  show wpAny _ _ (newExc (.type "StopIteration") [] >>= _) _ _ _
  refine wpAny_bind ?_
  simp only [newExc, newTuple]
  refine wpAny_bind (wpAny_newObj_type ?_ (by size_fits))
  refine wpAny_bind (m := firstArgMember _ _) (wpAny_of_eq (a := Value.none) (by first | rfl | (simp only [firstArgMember]; rfl)) ?_)
  refine wpAny_newObj_type ?_ (by size_fits)
  simp only [raiseNew]
  refine wpAny_bind (wpAny_handled ?_)
  first | rw [show A.in1.handled = none from hh] | rw [hh]
  refine wpAny_bind (wpAny_pure (wpAny_throw ?_))
  exact hE _ _ (((Heap.SameBut.update ..).extBut.push _).push _) ⟨_, Heap.get?_push_size _ rfl, rfl⟩
end
theorem draws_tup {prog : Program} {w : World} {A : Around} (hh : A.handled = none) (it l : Addr) (hne : l ≠ it) (items : Array Value) :
    Draws prog w A it [it, l] items.size (fun i v => items[i]? = some v) (fun i h => h.IsTupleIter it l i ∧ h.IsTuple l items) where
  live := fun _ _ st => let ⟨o, ho, _⟩ := st.1; ⟨o, ho⟩
  frame := fun _ _ _ st hk => ⟨st.1.at fun o e => hk it (by simp) o e, let ⟨o, ho, r⟩ := st.2; ⟨o, hk l (by simp) o ho, r⟩⟩
  item := fun i s Q E hi st hQ => by
    refine next_tup st.1 st.2 (x := items[i]) (by simp [hi]) fun h' hit' hs' => ?_
    exact hQ _ h' s.toks (by simp [hi]) ⟨hit', st.2.extBut hs'.extBut hne⟩ hs'
  done := fun s Q E st hE => next_tup_end hh st.1 st.2 (by simp) hE
theorem enum_new_tup (l : Addr) (items : Array Value) (n : Nat) (dct : Option Addr) (sl : Array (Option Value)) :
    Meets (Builtin.«enumerate.__new__» ⟨[.type "enumerate", .ref l], []⟩) (fun _ R s => s.heap.get? l = some { cls := .type "tuple", dict := dct, data := .seq items n, slots := sl } ∧
      R (.ok (.ret (.ref (s.heap.push { cls := .type "tuple_iterator", data := .fields #[.ref l, .int 0 0] }).objs.size)))
        { s with heap := (s.heap.push { cls := .type "tuple_iterator", data := .fields #[.ref l, .int 0 0] }).push { cls := .type "enumerate", data := .fields #[.none, .bool false, .ref s.heap.objs.size, rawInt 0, .none, .none] } }) :=
  .of_wp fun prog w A R s h => by
    obtain ⟨hp, g, d, tk, os⟩ := s; obtain ⟨hl, h⟩ := h
    have hsub := sub_enumerate
    have hL : Heap.IsTuple (Shared.heap ⟨hp, g, d, tk, os⟩) l items := ⟨_, hl, rfl, n, rfl⟩
    wp_walk
    refine wpAny_stack_any fun st => wpAny_pure ?_
    split
    · rename_i c _ _ _ _ _
      cases (c == Value.type "enumerate")
      · wp_walk using wpAny_pyIter_tuple hL
        exact ⟨_, rfl, h⟩
      · wp_walk using wpAny_pyIter_tuple hL
        exact ⟨_, rfl, h⟩
    · wp_walk using wpAny_pyIter_tuple hL
      exact ⟨_, rfl, h⟩
section
variable {prog : Program} {w : World} {A : Around} {E : Value → Shared → Prop} {s : Shared}
theorem call_enum_tup {l : Addr} {items : Array Value} {Q : Value → Shared → Prop} (hL : s.heap.IsTuple l items)
    (h : ∀ h', IsEnum h' (s.heap.objs.size + 1) s.heap.objs.size 0 .none → h'.IsTupleIter s.heap.objs.size l 0 → h'.objs.size = s.heap.objs.size + 2 →
      (∀ b o, s.heap.get? b = some o → h'.get? b = some o) → Q (.ref (s.heap.objs.size + 1)) { s with heap := h' }) :
    wpAny (model prog w) A (call (.type "enumerate") [.ref l]) Q E s := by
  obtain ⟨⟨c, dct, dt, sl⟩, hl, hc, n, hd⟩ := hL
  replace hc : c = .type "tuple" := hc
  replace hd : dt = .seq items n := hd
  subst hc hd
  refine callType_new F.called_enumerate (by decide) (F.typeCall_enumerate_1 _) (F.newCall_enumerate_1 _) (fun obj => F.args_object_init_2 obj _) F.entry_enumerate_new (enum_new_tup l items n dct sl) ⟨hl, ?_⟩
  have hz : (s.heap.push { cls := .type "tuple_iterator", data := .fields #[.ref l, .int 0 0] }).objs.size = s.heap.objs.size + 1 := Heap.size_push ..
  show _ ∧ _
  rw [hz]
  have he : IsEnum ((s.heap.push { cls := .type "tuple_iterator", data := .fields #[.ref l, .int 0 0] }).push
      { cls := .type "enumerate", data := .fields #[.none, .bool false, .ref s.heap.objs.size, rawInt 0, .none, .none] }) (s.heap.objs.size + 1) s.heap.objs.size 0 .none := by
    have := Heap.get?_push_size (s.heap.push { cls := .type "tuple_iterator", data := .fields #[.ref l, .int 0 0] })
      (o := { cls := .type "enumerate", data := .fields #[.none, .bool false, .ref s.heap.objs.size, rawInt 0, .none, .none] }) rfl
    rw [hz] at this; exact this
  refine ⟨⟨_, he, rfl⟩, h _ he ⟨_, Heap.get?_push_of_some _ (Heap.get?_push_size _ rfl), rfl, rfl⟩ (by rw [Heap.size_push, hz]) fun b o x => Heap.get?_push_of_some _ (Heap.get?_push_of_some _ x)⟩
end
section
variable {prog : Program} {w : World} {A : Around} {E : Value → Shared → Prop} {s : Shared} {env : Env} {h₀ : Heap} {K : Frag} {ax : Addr} {lo : Obj} {vs : List Value} {n : Nat} {m : Str → Option Value} {news : List (Addr × Obj)}
  {target : PySem.Expr} {body orelse : List Stmt} {Q : Flow → Shared → Prop} {xi xc : Str}
/-- a for with an else over a tuple of the program's own -/
inductive TupI (s : Shared) (I ax : Addr) (vs : List Value) (h₀ : Heap) (L : Addr) (J : Nat → (Str → Option Value) → List (Addr × Obj) → Prop) (k : Nat) (s' : Shared) : Prop
  | mk (h' : Heap) (tk : Nat) (m' : Str → Option Value) (nx : List (Addr × Obj)) (i : Nat) (e1 : s' = { s with heap := h', toks := tk }) (e2 : h'.IsTupleIter I ax i) (e3 : Fr h₀ L h' m') (e4 : News h₀ L h' nx) (e5 : ∀ p ∈ nx, p.1 ≠ I) (e6 : J i m' nx) (e7 : i ≤ vs.length) (e8 : k = vs.length + 1 - i) : TupI s I ax vs h₀ L J k s'
theorem tup_else (J : Nat → (Str → Option Value) → List (Addr × Obj) → Prop) (hh : A.handled = none) (F : Fr h₀ env.locals s.heap m) (N : News h₀ env.locals s.heap news) (X₀ : K.In h₀) (hk : K.lookup ax = some lo) (hc : lo.cls = .type "tuple") (hd : lo.data = .seq vs.toArray n) (hj : J 0 m news)
    (turn : ∀ i v m₁ nx h tk own, vs[i]? = some v → OwnOff own (nx.map (·.1)) → J i m₁ nx → Fr h₀ env.locals h m₁ → News h₀ env.locals h (nx ++ own) →
      ∀ K9 E9, K9 = InvPostG h₀ env.locals (J (i + 1)) own { s with heap := h, toks := tk } Q → wpAny (model prog w) A (assign target env v) (fun _ s₃ => wpAny (model prog w) A (execs body env) K9 E9 s₃) E9 { s with heap := h, toks := tk })
    (done : ∀ m₁ nx h tk, J vs.length m₁ nx → Fr h₀ env.locals h m₁ → News h₀ env.locals h nx → wpAny (model prog w) A (execs orelse env) Q E { s with heap := h, toks := tk })
    (hE : PassesOwn (model prog w) A env E := by passes_own) :
    wpAny (model prog w) A (pyIter (.ref ax)) (fun it s₂ => codeAny (model prog w) A (.forLoop target it body orelse env) (fun r s' => match r with | .ok f => Q f s' | .error e => cameBackBy (model prog w) A env E e s') s₂) E s := by
  have hg : h₀.get? ax = some lo := X₀ _ _ hk
  have hax : s.heap.get? ax = some lo := F.keep _ _ hg
  have hl : s.heap.IsTuple ax vs.toArray := ⟨lo, hax, hc, n, hd⟩
  have hI0 : h₀.get? s.heap.objs.size = none := next_is_new F
  have hIL : s.heap.objs.size ≠ env.locals := Nat.ne_of_gt F.ns.lt
  refine wpAny_pyIter_tuple hl ?_
  generalize hI : s.heap.objs.size = I at *
  refine codeAny_forLoop_any (TupI s I ax vs h₀ env.locals J) ?_ (vs.length + 1)
    ⟨_, s.toks, m, news, 0, rfl, ⟨_, by rw [← hI]; exact Heap.get?_push_size _ rfl, rfl, rfl⟩, F.push _, fun p hp => ⟨Heap.get?_push_of_some _ (N p hp).1, (N p hp).2⟩, fun p hp => by rw [← hI]; exact Nat.ne_of_lt (Heap.lt_size (N p hp).1), hj, Nat.zero_le _, rfl⟩
  rintro k s' ⟨h', tk, m', nx, i, rfl, hit, F', N', hoff, hJ, hi, rfl⟩
  have ht : h'.IsTuple ax vs.toArray := ⟨lo, F'.keep _ _ hg, hc, n, hd⟩
  have move : ∀ h1 : Heap, (∀ b o, b ≠ I → h'.get? b = some o → h1.get? b = some o) → Fr h₀ env.locals h1 m' ∧ News h₀ env.locals h1 nx := fun h1 hk1 =>
    ⟨⟨F'.ns.at' fun o e => hk1 _ o (Ne.symm hIL) e, fun b o e => hk1 b o (fun q => by rw [q, hI0] at e; cases e) (F'.keep b o e), F'.above⟩, fun p hp => ⟨hk1 _ _ (hoff p hp) (N' p hp).1, (N' p hp).2⟩⟩
  by_cases hlt : i < vs.length
  · have hx : vs.toArray[i]? = some vs[i] := by simp [hlt]
    refine wpAny_pyNext_tuple_item hit ht hx fun h1 hit1 hs1 => ?_
    obtain ⟨F1, N1⟩ := move h1 fun b o hb e => hs1.extBut b o hb e
    refine letGo_tupleiter hit1 ?_
    obtain ⟨oI, hoI, hcI, hdI⟩ := id hit1
    have hown : OwnOff [(I, oI)] (nx.map (·.1)) := by
      intro p hp b hb
      rw [List.mem_singleton.mp hp]
      obtain ⟨q, hq, rfl⟩ := List.mem_map.mp hb
      exact fun e => hoff q hq e.symm
    have N2 : News h₀ env.locals h1 (nx ++ [(I, oI)]) := fun p hp => by
      rcases List.mem_append.mp hp with hp | hp
      · exact N1 p hp
      · rw [List.mem_singleton.mp hp]; exact ⟨hoI, hIL, hI0⟩
    refine wpAny_mono (wpAny_passesOwn hE (turn i vs[i] m' nx h1 tk [(I, oI)] (List.getElem?_eq_getElem hlt) hown hJ F1 N2 _ _ rfl)) (fun _ s2 h2 => wpAny_mono (wpAny_passesOwn hE h2) (fun f s3 h3 => ?_) fun _ _ e => e) fun _ _ e => e
    have fin : InvEndG h₀ env.locals (J (i + 1)) [(I, oI)] { s with heap := h1, toks := tk } s3 → ∃ m9, m9 < vs.length + 1 - i ∧ TupI s I ax vs h₀ env.locals J m9 s3 := by
      rintro ⟨h4, tk4, m4, news4, nx4, rfl, F4, N4, hn4, ho4, hf4, hJ4⟩
      refine ⟨vs.length + 1 - (i + 1), by omega, h4, tk4, m4, nx4, i + 1, rfl, ⟨oI, (N4 _ (ho4 _ (.head _))).1, hcI, hdI⟩, F4, fun p hp => N4 p (hn4 p hp), fun p hp e => hf4 _ (.head _) p.1 (List.mem_map.mpr ⟨p, hp, rfl⟩) e.symm, hJ4, hlt, rfl⟩
    cases f with
    | ret v => exact h3
    | brk => exact h3
    | next => exact fin h3
    | cont => exact fin h3
  · have hin : i = vs.length := by omega
    subst hin
    refine wpAny_pyNext_tuple_end hh hit ht (by simp) fun h1 he1 => ?_
    obtain ⟨F1, N1⟩ := move h1 fun b o hb e => he1 b o hb e
    exact wpAny_passesOwn hE (done m' nx h1 tk hJ F1 N1)
/-- a for over enumerate of a tuple of the program's own -/
theorem enum_tup (J : Nat → (Str → Option Value) → List (Addr × Obj) → Prop) (hh : A.handled = none) (F : Fr h₀ env.locals s.heap m) (N : News h₀ env.locals s.heap news) (X₀ : K.In h₀) (hk : K.lookup ax = some lo) (hc : lo.cls = .type "tuple") (hd : lo.data = .seq vs.toArray n) (hj : J 0 m news) (hJm : ∀ i m₁ nx, J i m₁ nx → nx.map (·.1) = news.map (·.1))
    (turn : ∀ (i : Nat) t v m₁ nx h tk own, vs[i]? = some v → OwnOff own (nx.map (·.1)) → J i m₁ nx → Fr h₀ env.locals h (fun y => if y = xc then some v else if y = xi then some (.int (i : Int) t) else m₁ y) → News h₀ env.locals h (nx ++ own) →
      wpAny (model prog w) A (execs body env) (InvPostG h₀ env.locals (J (i + 1)) own { s with heap := h, toks := tk } Q) E { s with heap := h, toks := tk })
    (done : ∀ m₁ nx h tk, J vs.length m₁ nx → Fr h₀ env.locals h m₁ → News h₀ env.locals h nx → Q .next { s with heap := h, toks := tk }) :
    wpAny (model prog w) A (call (.type "enumerate") [.ref ax]) (fun xv s₁ => wpAny (model prog w) A (pyIter xv) (fun it s₂ => PairAt3 prog w A h₀ env xi xc body Q E it s₂) E s₁) E s := by
  have hg : h₀.get? ax = some lo := X₀ _ _ hk
  have hax : s.heap.get? ax = some lo := F.keep _ _ hg
  have hl : s.heap.IsTuple ax vs.toArray := ⟨lo, hax, hc, n, hd⟩
  have hlt0 : ax < h₀.objs.size := Heap.lt_size hg
  have hLs : env.locals < s.heap.objs.size := F.ns.lt
  have hab : h₀.objs.size ≤ env.locals := F.above
  have hl2 : ax < s.heap.objs.size := Heap.lt_size hax
  have hnew : ∀ b, s.heap.objs.size ≤ b → h₀.get? b = none := fun b hb => Heap.get?_none_of_le (Nat.le_trans hab (Nat.le_trans (Nat.le_of_lt hLs) hb))
  refine call_enum_tup hl fun h' he hit hsz hkk => ?_
  have F' : Fr h₀ env.locals h' m := ⟨F.ns.keeps hkk, fun b o e => hkk b o (F.keep b o e), F.above⟩
  have N' : News h₀ env.locals h' news := fun p hp => ⟨hkk _ _ (N p hp).1, (N p hp).2⟩
  refine wpAny_pyIter_enum he ?_
  refine ⟨s.heap.objs.size + 1, (s.heap.objs.size + 1) :: [s.heap.objs.size, ax], [s.heap.objs.size + 1, s.heap.objs.size], vs.toArray.size, _, _, _, (fun i v0 v1 => ∃ t, v0 = .int (i : Int) t ∧ vs.toArray[i]? = some v1), m, news, J, rfl,
    WalksT.enumerateD (draws_tup (A := A.in1) hh s.heap.objs.size ax (Nat.ne_of_lt hl2) vs.toArray) (s.heap.objs.size + 1) (Nat.succ_ne_self _) ?_ (by simp), ?_, ?_, ?_, ?_, ⟨⟨_, by simpa using he⟩, hit, hl.at fun o e => hkk ax o e⟩, F', N', hj, ?_, ?_⟩
  · intro hm
    rcases List.mem_cons.mp hm with e | hm
    · exact Nat.succ_ne_self _ e
    · exact Nat.ne_of_gt (Nat.lt_succ_of_lt hl2) (List.mem_singleton.mp hm)
  · rintro i vals ⟨t, x, hPx, rfl⟩
    exact ⟨_, _, rfl, t, rfl, hPx⟩
  · intro hm
    rcases List.mem_cons.mp hm with e | hm
    · exact Nat.ne_of_lt (Nat.lt_succ_of_lt hLs) e
    · rcases List.mem_cons.mp hm with e | hm
      · exact Nat.ne_of_lt hLs e
      · have e := List.mem_singleton.mp hm
        exact absurd hlt0 (Nat.not_lt.mpr (e ▸ hab))
  · intro b hb
    rcases List.mem_cons.mp hb with rfl | hb
    · exact hnew _ (Nat.le_succ _)
    · rw [List.mem_singleton.mp hb]; exact hnew _ (Nat.le_refl _)
  · intro p hp hb
    have hlp := Heap.lt_size (N p hp).1
    rcases List.mem_cons.mp hb with e | hb
    · exact Nat.ne_of_lt (Nat.lt_succ_of_lt hlp) e
    · exact Nat.ne_of_lt hlp (List.mem_singleton.mp hb)
  · rintro i v0 v1 m₁ news₁ s₁ own ⟨h1, tk1, rfl⟩ _ ⟨t, rfl, hPx⟩ hJ ha hsub F₁ N₁
    have hown : OwnOff own (news₁.map (·.1)) := by
      intro p hp b hb e
      rw [ha] at hb
      obtain ⟨q, hq, rfl⟩ := List.mem_map.mp hb
      have hlp := Heap.lt_size (N q hq).1
      have h0p := (N₁ p (List.mem_append.mpr (.inl hp))).2.2
      rcases List.mem_cons.mp (hsub p hp) with e1 | h1
      · rw [e1] at e; exact Nat.ne_of_lt (Nat.lt_succ_of_lt hlp) e.symm
      · rcases List.mem_cons.mp h1 with e1 | h1
        · rw [e1] at e; exact Nat.ne_of_lt hlp e.symm
        · rw [List.mem_singleton.mp h1, hg] at h0p; cases h0p
    have fin : ∀ s3, InvEndG h₀ env.locals (J (i + 1)) own { s with heap := h1, toks := tk1 } s3 → LoopStep2 h₀ env.locals own news₁ (J (i + 1)) { s with heap := h1, toks := tk1 } .next s3 := by
      rintro s3 ⟨h4, tk4, m4, news4, nx4, rfl, F4, N4, hn4, ho4, hf4, hJ4⟩
      exact ⟨rfl, h4, tk4, m4, nx4, rfl, F4, fun p hp => (List.mem_append.mp hp).elim (fun hp => N4 p (ho4 p hp)) fun hp => N4 p (hn4 p hp), (hJm _ _ _ hJ4).trans ha.symm, hJ4⟩
    refine wpAny_mono (turn i t v1 m₁ news₁ h1 tk1 own (by simpa using hPx) hown hJ F₁ (fun p hp => N₁ p ((List.mem_append.mp hp).elim (fun h => List.mem_append.mpr (.inr h)) fun h => List.mem_append.mpr (.inl h)))) (fun f s3 h3 => ?_) fun _ _ e => e
    cases f with
    | ret v => exact h3
    | brk => exact h3
    | next => exact fin _ h3
    | cont => exact fin _ h3
  · intro h1 tk1 m1 news1 F1 N1 _ hJ
    exact done m1 news1 h1 tk1 (by simpa using hJ) F1 N1
end
end Mine
end
section
open PySem PySem.W PyProof.Rows PySem.Calls PySem.Spec
set_option maxRecDepth 100000
namespace Mine
theorem glue_fold (g : Array Nat) : ∀ (ps : List Str) (acc : Array Nat), (ps.foldl (fun a p => a ++ g ++ p.cps) acc).toList = acc.toList ++ (ps.map fun p => g.toList ++ p.cps.toList).flatten
  | [], acc => by simp
  | p :: ps, acc => by
    rw [List.foldl_cons, glue_fold g ps]
    simp
theorem join_list_eq (sep : Str) (y : Str) (ys : List Str) : (Txt.join sep (y :: ys)).cps.toList = y.cps.toList ++ (ys.map fun p => sep.cps.toList ++ p.cps.toList).flatten := by
  unfold Txt.join Builtin.Str.glued
  exact glue_fold sep.cps ys y.cps
theorem join_none (ys : List Str) : (Txt.join (Str.ofString "") ys).cps.toList = (ys.map fun p => p.cps.toList).flatten := by
  cases ys with
  | nil => rfl
  | cons y ys => rw [join_list_eq]; rfl
theorem str_of_list {x : Str} {l : List Nat} (h : x.cps.toList = l) : x = ⟨l.toArray⟩ := by
  obtain ⟨c⟩ := x
  congr 1
  exact Array.toList_inj.mp (by rw [h])
theorem join_chs (cs : List Nat) : Txt.join (Str.ofString "") (cs.map fun c => (⟨#[c]⟩ : Str)) = ⟨cs.toArray⟩ := by
  refine str_of_list ?_
  rw [join_none, List.map_map]
  induction cs with
  | nil => rfl
  | cons c cs ih => rw [List.map_cons, List.flatten_cons, ih]; rfl
end Mine
end
section
open PySem PySem.W PyProof.Rows PySem.Calls PySem.Spec
open Sem (wp)
set_option maxRecDepth 100000
namespace Mine
section
variable {prog : Program} {w : World} {A : Around} {E : Value → Shared → Prop} {s : Shared} {env : Env} {h₀ : Heap} {ax : Addr} {vs : List Value} {n : Nat} {m : Str → Option Value} {news : List (Addr × Obj)}
  {target : PySem.Expr} {body : List Stmt} {Q : Flow → Shared → Prop}
/-- a for over a list of the ledger, its target any -/
inductive LstI (s : Shared) (I ax : Addr) (vs : List Value) (n : Nat) (h₀ : Heap) (L : Addr) (J : Nat → (Str → Option Value) → List (Addr × Obj) → Prop) (k : Nat) (s' : Shared) : Prop
  | mk (h' : Heap) (tk : Nat) (m' : Str → Option Value) (nx : List (Addr × Obj)) (i : Nat) (e1 : s' = { s with heap := h', toks := tk }) (e2 : h'.IsListIter I ax i) (e3 : Fr h₀ L h' m') (e4 : News h₀ L h' nx) (e5 : ∀ p ∈ nx, p.1 ≠ I) (e6 : (ax, W.listOf vs.toArray n) ∈ nx) (e7 : J i m' nx) (e8 : i ≤ vs.length) (e9 : k = vs.length + 1 - i) : LstI s I ax vs n h₀ L J k s'
theorem list_for (J : Nat → (Str → Option Value) → List (Addr × Obj) → Prop) (hh : A.handled = none) (hm : (ax, W.listOf vs.toArray n) ∈ news) (F : Fr h₀ env.locals s.heap m) (N : News h₀ env.locals s.heap news) (hj : J 0 m news)
    (turn : ∀ i v m₁ nx h tk own, vs[i]? = some v → OwnOff own (nx.map (·.1)) → (ax, W.listOf vs.toArray n) ∈ nx → J i m₁ nx → Fr h₀ env.locals h m₁ → News h₀ env.locals h (nx ++ own) →
      ∀ K9 E9, K9 = InvPostG h₀ env.locals (fun m' nx' => (ax, W.listOf vs.toArray n) ∈ nx' ∧ J (i + 1) m' nx') own { s with heap := h, toks := tk } Q → wpAny (model prog w) A (assign target env v) (fun _ s₃ => wpAny (model prog w) A (execs body env) K9 E9 s₃) E9 { s with heap := h, toks := tk })
    (done : ∀ m₁ nx h tk, (ax, W.listOf vs.toArray n) ∈ nx → J vs.length m₁ nx → Fr h₀ env.locals h m₁ → News h₀ env.locals h nx → Q .next { s with heap := h, toks := tk })
    (hE : PassesOwn (model prog w) A env E := by passes_own) :
    wpAny (model prog w) A (pyIter (.ref ax)) (fun it s₂ => codeAny (model prog w) A (.forLoop target it body [] env) (fun r s' => match r with | .ok f => Q f s' | .error e => cameBackBy (model prog w) A env E e s') s₂) E s := by
  have hax : s.heap.get? ax = some (W.listOf vs.toArray n) := (N _ hm).1
  have hl : s.heap.IsList ax vs.toArray := ⟨_, hax, rfl, n, rfl⟩
  have hI0 : h₀.get? s.heap.objs.size = none := next_is_new F
  have hIL : s.heap.objs.size ≠ env.locals := Nat.ne_of_gt F.ns.lt
  refine wpAny_pyIter_list hl ?_
  generalize hI : s.heap.objs.size = I at *
  refine codeAny_forLoop_any (LstI s I ax vs n h₀ env.locals J) ?_ (vs.length + 1)
    ⟨_, s.toks, m, news, 0, rfl, ⟨_, by rw [← hI]; exact Heap.get?_push_size _ rfl, rfl, rfl⟩, F.push _, fun p hp => ⟨Heap.get?_push_of_some _ (N p hp).1, (N p hp).2⟩, fun p hp => by rw [← hI]; exact Nat.ne_of_lt (Heap.lt_size (N p hp).1), hm, hj, Nat.zero_le _, rfl⟩
  rintro k s' ⟨h', tk, m', nx, i, rfl, hit, F', N', hoff, hm', hJ, hi, rfl⟩
  have ht : h'.IsList ax vs.toArray := ⟨_, (N' _ hm').1, rfl, n, rfl⟩
  have move : ∀ h1 : Heap, (∀ b o, b ≠ I → h'.get? b = some o → h1.get? b = some o) → Fr h₀ env.locals h1 m' ∧ News h₀ env.locals h1 nx := fun h1 hk1 =>
    ⟨⟨F'.ns.at' fun o e => hk1 _ o (Ne.symm hIL) e, fun b o e => hk1 b o (fun q => by rw [q, hI0] at e; cases e) (F'.keep b o e), F'.above⟩, fun p hp => ⟨hk1 _ _ (hoff p hp) (N' p hp).1, (N' p hp).2⟩⟩
  by_cases hlt : i < vs.length
  · have hx : vs.toArray[i]? = some vs[i] := by simp [hlt]
    refine wpAny_pyNext_list_item hit ht hx fun h1 hit1 hs1 => ?_
    obtain ⟨F1, N1⟩ := move h1 fun b o hb e => hs1.extBut b o hb e
    refine letGo_listiter hit1 ?_
    obtain ⟨oI, hoI, hcI, hdI⟩ := id hit1
    have hown : OwnOff [(I, oI)] (nx.map (·.1)) := by
      intro p hp b hb
      rw [List.mem_singleton.mp hp]
      obtain ⟨q, hq, rfl⟩ := List.mem_map.mp hb
      exact fun e => hoff q hq e.symm
    have N2 : News h₀ env.locals h1 (nx ++ [(I, oI)]) := fun p hp => by
      rcases List.mem_append.mp hp with hp | hp
      · exact N1 p hp
      · rw [List.mem_singleton.mp hp]; exact ⟨hoI, hIL, hI0⟩
    refine wpAny_mono (wpAny_passesOwn hE (turn i vs[i] m' nx h1 tk [(I, oI)] (List.getElem?_eq_getElem hlt) hown hm' hJ F1 N2 _ _ rfl)) (fun _ s2 h2 => wpAny_mono (wpAny_passesOwn hE h2) (fun f s3 h3 => ?_) fun _ _ e => e) fun _ _ e => e
    have fin : InvEndG h₀ env.locals (fun m' nx' => (ax, W.listOf vs.toArray n) ∈ nx' ∧ J (i + 1) m' nx') [(I, oI)] { s with heap := h1, toks := tk } s3 → ∃ m9, m9 < vs.length + 1 - i ∧ LstI s I ax vs n h₀ env.locals J m9 s3 := by
      rintro ⟨h4, tk4, m4, news4, nx4, rfl, F4, N4, hn4, ho4, hf4, hm4, hJ4⟩
      refine ⟨vs.length + 1 - (i + 1), by omega, h4, tk4, m4, nx4, i + 1, rfl, ⟨oI, (N4 _ (ho4 _ (.head _))).1, hcI, hdI⟩, F4, fun p hp => N4 p (hn4 p hp), fun p hp e => hf4 _ (.head _) p.1 (List.mem_map.mpr ⟨p, hp, rfl⟩) e.symm, hm4, hJ4, hlt, rfl⟩
    cases f with
    | ret v => exact h3
    | brk => exact h3
    | next => exact fin h3
    | cont => exact fin h3
  · have hin : i = vs.length := by omega
    subst hin
    refine wpAny_pyNext_list_end hh hit ht (by simp) fun h1 he1 => ?_
    obtain ⟨F1, N1⟩ := move h1 fun b o hb e => he1 b o hb e
    exact wpAny_execs_nil (done m' nx h1 tk hm' hJ F1 N1)
end
end Mine
end
section
open PySem PySem.W PyProof.Rows PySem.Calls PySem.Spec
open Sem (wp)
set_option maxRecDepth 100000
namespace Mine
section
variable {prog : Program} {w : World} {A : Around} {E : Value → Shared → Prop} {s : Shared} {h₀ : Heap} {L D b : Addr} {m : Str → Option Value} {l : List (Addr × Obj)} {vs ws : List Value} {n n2 : Nat} {Q : Value → Shared → Prop}
theorem iadd_fill : fillsInplaceSlot (.type "list") "add" (Operator.Add == .Add) = pure false := by
  unfold fillsInplaceSlot
  show (typeLookup (.type "list") (dunderI "add") >>= fun fi => pure (fi.isSome && !isSeqSlot fi)) = pure false
  rw [PySem.F.slot_list_iadd.lookup]
  have e : (Option.isSome (some (Value.builtin "list.__iadd__")) && !isSeqSlot (some (Value.builtin "list.__iadd__"))) = false := by decide +kernel
  show (pure (Option.isSome (some (Value.builtin "list.__iadd__")) && !isSeqSlot (some (Value.builtin "list.__iadd__"))) : Sem Bool) = pure false
  rw [e]
theorem iadd_seq : seqSlot? (.type "list") (dunderI "add") = pure (some (.builtin "list.__iadd__")) := PySem.seqSlot_of PySem.F.slot_list_iadd.lookup (by decide +kernel)
/-- xs += ys, two lists of the ledger -/
theorem iadd_mem (F : Fr h₀ L s.heap m) (N : News h₀ L s.heap l) (hm : (D, W.listOf vs.toArray n) ∈ l) (hb : (b, W.listOf ws.toArray n2) ∈ l) (hz : vs.length + ws.length < 1000)
    (k : ∀ h' n', Fr h₀ L h' m → (∀ p ∈ l, p.1 ≠ D → h'.get? p.1 = some p.2) → h'.get? D = some (W.listOf (vs ++ ws).toArray n') → Q (.ref D) { s with heap := h' }) :
    wpAny (model prog w) A (inplaceOp .Add (.ref D) (.ref b)) Q E s := by
  have c6 : sizeLine = 16777216 := by decide
  have ha : s.heap.IsList D vs.toArray := ⟨_, (N _ hm).1, rfl, _, rfl⟩
  have hb' : s.heap.IsList b ws.toArray := ⟨_, (N _ hb).1, rfl, _, rfl⟩
  unfold inplaceOp
  refine wpAny_holding ?_
  refine wpAny_bind (wpAny_typeOf ha.typeIs (wpAny_bind (wpAny_of_eq iadd_fill ?_)))
  show wpAny _ A (if false = true then _ else _) Q E s
  rw [if_neg Bool.false_ne_true]
  refine wpAny_bind (wpAny_binaryOp1_none (nm := "add") ha.typeIs hb'.typeIs noFill_list_add ?_)
  refine wpAny_bind (wpAny_of_eq iadd_seq ?_)
  refine wpAny_bind (wpAny_rule ?_)
  have hd : ¬(!(vs.toArray).isEmpty && Builtin.List.listTooLong (vs.toArray.size + ws.toArray.size)) = true := by
    unfold Builtin.List.listTooLong
    rw [List.size_toArray, List.size_toArray]
    simp; omega
  refine call_meets PySem.F.slot_list_iadd ha.typeIs PySem.F.entry_list_iadd (PySem.F.args_list_iadd_2 _ _) (PySem.AutoSeq1.list___iadd___list_list_0 D vs.toArray n b ws.toArray n2 hd (by rw [List.size_toArray]; omega) (by rw [List.size_toArray, List.size_toArray]; omega)) ⟨(N _ hm).1, (N _ hb).1, ?_⟩
  have z := N _ hm
  have up := IsL.update (items := vs.toArray) (n := n) z.1 (fun x => x ++ ws.toArray)
  have hs : Heap.SameBut D s.heap (s.heap.update D (Obj.mapSeq fun x => x ++ ws.toArray)) := Heap.SameBut.update ..
  refine k _ (if (vs.toArray ++ ws.toArray).size == vs.toArray.size then n else n + 1) (F.change hs z.2.1 z.2.2) (fun p hp hne => (hs.2 _ hne).trans (N p hp).1) ?_
  rw [show (vs ++ ws).toArray = vs.toArray ++ ws.toArray by simp]
  exact up
end
section
variable {prog : Program} {w : World} {A : Around} {E : Value → Shared → Prop} {s : Shared} {env : Env} {h₀ : Heap} {x : Str} {body : List Stmt} {Q : Flow → Shared → Prop}
/-- a for over a range from zero -/
theorem range_iter {r : Addr} {b₀ : Int} {t₀ u₀ v₀ : Tok} {n : Nat} {m₀ : Str → Option Value} {news : List (Addr × Obj)} (J : Nat → (Str → Option Value) → List (Addr × Obj) → Prop)
    (hh : A.handled = none) (hr : IsRange s.heap r 0 b₀ 1 t₀ u₀ v₀) (hsmall : Builtin.Range.small 0 b₀ 1 = true) (hsz : Builtin.Range.rangeSize 0 b₀ 1 = (n : Int)) (F : Fr h₀ env.locals s.heap m₀) (N : News h₀ env.locals s.heap news) (hj : J 0 m₀ news)
    (turn : ∀ (i : Nat) t m₁ nx h tk own, i < n → OwnOff own (nx.map (·.1)) → J i m₁ nx → Fr h₀ env.locals h (fun y => if y = x then some (.int (i : Int) t) else m₁ y) → News h₀ env.locals h (nx ++ own) →
      wpAny (model prog w) A (execs body env) (InvPostG h₀ env.locals (J (i + 1)) own { s with heap := h, toks := tk } Q) E { s with heap := h, toks := tk })
    (done : ∀ m₁ nx h tk, J n m₁ nx → Fr h₀ env.locals h m₁ → News h₀ env.locals h nx → Q .next { s with heap := h, toks := tk }) :
    wpAny (model prog w) A (pyIter (.ref r)) (fun it s₂ => LoopAtV prog w A h₀ env x body Q E it s₂) E s := by
  refine wpAny_pyIter_range hr hsmall ?_
  have W : Walks prog w A s.heap.objs.size [s.heap.objs.size] [s.heap.objs.size] n (fun i v => i < n ∧ ∃ t, v = .int (0 + i * 1) t)
      (fun i h => IsRangeIter h s.heap.objs.size (0 + (i : Nat) * 1) ((n : Int) - (i : Nat)) 1) := (Walks.range hh _ 0 1 n).bound
  refine kdr_loop (news := news) J W (fun _ h => h) (fun _ h => h) ?_ ?_ ?_ ?_ (by show IsRangeIter _ _ _ _ _; rw [hsz]; simpa using Heap.get?_push_size _ rfl) (F.push _) (fun p hp => ⟨Heap.get?_push_of_some _ (N p hp).1, (N p hp).2⟩) hj ?_ ?_
  · intro i h hi b hb
    rw [List.mem_singleton.mp hb]
    exact ⟨_, hi⟩
  · intro hm
    exact absurd F.ns.lt ((List.mem_singleton.mp hm) ▸ Nat.lt_irrefl _)
  · intro b hb
    rw [List.mem_singleton.mp hb]
    exact next_is_new F
  · intro p hp hI
    exact absurd (Heap.lt_size (N p hp).1) ((List.mem_singleton.mp hI) ▸ Nat.lt_irrefl _)
  · rintro i v m₁ nx h tk own hi ⟨_, t, rfl⟩ hoff hJ F₁ N₁
    have e1 : 0 + (i : Int) * 1 = (i : Int) := by omega
    rw [e1] at F₁
    exact turn i t m₁ nx h tk own hi hoff hJ F₁ N₁
  · rintro m₁ nx h tk hJ F₁ N₁
    exact done m₁ nx h tk hJ F₁ N₁
end
end Mine
end
section
open PySem PySem.W PyProof.Rows PySem.Calls PySem.Spec
open Sem (wp)
set_option maxRecDepth 100000
set_option maxHeartbeats 2000000
namespace Mine
section
variable {prog : Program} {w : World} {A : Around} {E : Value → Shared → Prop} {s : Shared} {h₀ : Heap} {L : Addr} {m : Str → Option Value} {env : Env}
/-- three names bound from a tuple -/
theorem assign3 {x1 x2 x3 : Str} {p1 p2 p3 tp : Pos} {kk : Nat} {T : Addr} {v1 v2 v3 : Value} {m : Str → Option Value} {Q : Unit → Shared → Prop} (hh : A.handled = none) (ht : s.heap.IsTuple T #[v1, v2, v3])
    (h1 : env.kindOf x1 = some .local) (h2 : env.kindOf x2 = some .local) (h3 : env.kindOf x3 = some .local) (hp : (env.scope.kind == .class || (env.scope.kind == .module && env.locals != env.globals)) = false) (hn : s.heap.Ns env.locals m)
    (h : ∀ (h' : Heap) (tk : Nat), h'.Ns env.locals (fun z => if z = x3 then some v3 else if z = x2 then some v2 else if z = x1 then some v1 else m z) → (∀ c o, c ≠ env.locals → s.heap.get? c = some o → h'.get? c = some o) → Q () { s with heap := h', toks := tk }) :
    wpAny (model prog w) A (assign (.Tuple [.Name x1 p1, .Name x2 p2, .Name x3 p3] kk tp) env (.ref T)) Q E s := by
  refine wpAny_assign_Tuple hh ht rfl rfl fun g1 he1 => ?_
  have hL : env.locals ≠ s.heap.objs.size := Nat.ne_of_lt hn.lt
  have hn1 : g1.Ns env.locals m := hn.at' fun o e => he1 _ o hL e
  show wpAny _ _ (assignInOrder [assign (.Name x1 p1) env, assign (.Name x2 p2) env, assign (.Name x3 p3) env] [v1, v2, v3]) _ _ _
  refine assignInOrder_cons (wpAny_assign_Name (wpAny_storeName_local h1 hn1 (fun g2 hn2 hs2 => ?_) hp))
  refine assignInOrder_cons (wpAny_assign_Name (wpAny_storeName_local h2 hn2 (fun g3 hn3 hs3 => ?_) hp))
  refine assignInOrder_cons (wpAny_assign_Name (wpAny_storeName_local h3 hn3 (fun g4 hn4 hs4 => ?_) hp))
  refine assignInOrder_nil ?_
  exact h g4 _ hn4 fun c o hc e => hs4.extBut c o hc (hs3.extBut c o hc (hs2.extBut c o hc (he1 c o (Nat.ne_of_lt (Heap.lt_size e)) e)))
structure Src3 (h₀ : Heap) (L : Addr) (m : Str → Option Value) (A : Around) (R : Nat → Value → Value → Value → Prop) (pick : Value → Value → Value → Value) (Q : Value → Shared → Prop) (xv : Value) (s₁ : Shared) : Prop where
  ex : ∃ (ax : Addr) (vs : List Value) (nn : Nat) (l : List (Addr × Obj)), xv = .ref ax ∧ A.handled = none ∧ Fr h₀ L s₁.heap m ∧ News h₀ L s₁.heap l ∧ (ax, W.listOf vs.toArray nn) ∈ l ∧ vs.length < 1000 ∧
    (∀ (i : Nat) v, vs[i]? = some v → ∃ t v1 v2 v3 n, v = .ref t ∧ (t, ({ cls := .type "tuple", data := .seq #[v1, v2, v3] n } : Obj)) ∈ l ∧ R i v1 v2 v3) ∧
    ∀ D ys h tk, Fr h₀ L h m → News h₀ L h ((D, LCg.lst ys) :: l) → (∀ p ∈ l, p.1 ≠ D) → ys.length = vs.length → (∀ i, i < vs.length → ∃ v1 v2 v3, R i v1 v2 v3 ∧ ys[i]? = some (pick v1 v2 v3)) → Q (.ref D) { s₁ with heap := h, toks := tk }
/-- [y for x1, x2, x3 in told] -/
inductive C3I (s₁ : Shared) (vs : List Value) (ax I C D : Addr) (h₀ : Heap) (L : Addr) (m : Str → Option Value) (l : List (Addr × Obj)) (R : Nat → Value → Value → Value → Prop) (pick : Value → Value → Value → Value) (k : Nat) (s' : Shared) : Prop
  | mk (h' : Heap) (tk i : Nat) (ys : List Value) (m' : Str → Option Value) (e1 : s' = { s₁ with heap := h', toks := tk }) (e2 : i ≤ vs.length) (e3 : k = vs.length + 1 - i) (e4 : h'.IsListIter I ax i) (e5 : Fr h₀ L h' m) (e6 : h'.Ns C m') (e7 : h'.get? D = some (LCg.lst ys)) (e8 : News h₀ L h' l) (e9 : ys.length = i)
      (e10 : ∀ j, j < i → ∃ v1 v2 v3, R j v1 v2 v3 ∧ ys[j]? = some (pick v1 v2 v3)) : C3I s₁ vs ax I C D h₀ L m l R pick k s'
theorem comp3 {iter : PySem.Expr} {x1 x2 x3 y : Str} {p1 p2 p3 tp py : Pos} {kk : Nat} {scope : Scope} {cl : List (Str × Addr)} {pos : Pos} {Q : Value → Shared → Prop} (_F₀ : Fr h₀ L s.heap m) (R : Nat → Value → Value → Value → Prop) (pick : Value → Value → Value → Value)
    (hclos : closureFor scope env = pure cl) (hcell : ∀ y ∈ scope.names, y.2 ≠ .cell) (hkind : scope.kind = .function)
    (hnames : ∀ y ∈ scope.names, y.2 = .local → scope.names.lookup y.1 = some .local) (hx1 : scope.names.lookup x1 = some .local) (hx2 : scope.names.lookup x2 = some .local) (hx3 : scope.names.lookup x3 = some .local) (hy : scope.names.lookup y = some .local)
    (hpick : ∀ (v1 v2 v3 : Value) (m : Str → Option Value), (fun z => if z = x3 then some v3 else if z = x2 then some v2 else if z = x1 then some v1 else m z) y = some (pick v1 v2 v3))
    (h : wpAny (model prog w) A (eval iter env) (Src3 h₀ L m A R pick Q) E s)
    (hs : ∀ x, foldedSetIterable iter env x = pure x := by intro _; rfl) (hd : (y == ("__debug__" : Str)) = false := by decide) :
    wpAny (model prog w) A (eval (.ListComp (.Name y py) [⟨.Tuple [.Name x1 p1, .Name x2 p2, .Name x3 p3] kk tp, iter, [], 0⟩] scope pos) env) Q E s := by
  rw [eval_ListComp]
  refine wpAny_comprehension_free (use := none) rfl hs hclos hkind hnames (wpAny_mono h (fun xv s₁ h₁ => ?_) fun _ _ e => e)
  obtain ⟨ax, vs, nn, l, rfl, hh, F, N, hm, hlen, items, fin⟩ := h₁
  have c6 : sizeLine = 16777216 := by decide
  have hl : s₁.heap.IsList ax vs.toArray := ⟨_, (N _ hm).1, rfl, _, rfl⟩
  refine wpAny_pyIter_list hl ?_
  generalize hI : s₁.heap.objs.size = I
  have hI0 : h₀.get? I = none := hI ▸ next_is_new F
  have hIL : I ≠ L := by rw [← hI]; exact Nat.ne_of_gt F.ns.lt
  have hIl : ∀ p ∈ l, p.1 ≠ I := fun p hp => by rw [← hI]; exact Nat.ne_of_lt (Heap.lt_size (N p hp).1)
  generalize hH1 : s₁.heap.push { cls := .type "list_iterator", data := .fields #[.ref ax, .int 0 0] } = H1
  have up1 : ∀ b o, s₁.heap.get? b = some o → H1.get? b = some o := fun b o e => hH1 ▸ Heap.get?_push_of_some _ e
  have hit0 : H1.IsListIter I ax 0 := ⟨_, by rw [← hH1, ← hI]; exact Heap.get?_push_size _ rfl, rfl, rfl⟩
  have F1 : Fr h₀ L H1 m := F.keeps up1
  have N1 : News h₀ L H1 l := fun p hp => ⟨up1 _ _ (N p hp).1, (N p hp).2⟩
  have hI1 : I < H1.objs.size := by obtain ⟨o, e, _⟩ := hit0; exact Heap.lt_size e
  refine wpAny_newObj_type (wpAny_newFunctionEnv hcell (by intro y hy; simp at hy) (fun h₁ hns₁ hsb₁ => ?_) hkind)
  dsimp only at hns₁ hsb₁ ⊢
  generalize hD : H1.objs.size = D at *
  generalize hH2 : H1.push { cls := .type "list", dict := none, data := .seq ([] : List Value).toArray } = H2 at hns₁ hsb₁ ⊢
  have hC : H2.objs.size = D + 1 := by rw [← hH2, Heap.size_push, hD]
  generalize hCC : H2.objs.size = C at *
  have hfreshD : H1.get? D = none := Heap.get?_none_of_le (by rw [hD]; exact Nat.le_refl _)
  have hfreshC : H1.get? C = none := Heap.get?_none_of_le (by rw [hD, hC]; exact Nat.le_succ _)
  have old : ∀ b o, H1.get? b = some o → h₁.get? b = some o := fun b o e => hsb₁.extBut b o (fun q => by rw [q, hfreshC] at e; cases e) (Heap.get?_push_of_some _ (hH2 ▸ Heap.get?_push_of_some _ e))
  have hDC : D ≠ C := by rw [hC]; exact Nat.ne_of_lt (Nat.lt_succ_self _)
  have hacc : h₁.get? D = some (LCg.lst []) := hsb₁.extBut _ _ hDC (Heap.get?_push_of_some _ (by rw [← hH2, ← hD]; exact Heap.get?_push_size _ rfl))
  have fr0 : ∀ b, H1.get? b = none → h₀.get? b = none := fun b hb => by
    cases e : h₀.get? b with
    | none => rfl
    | some o => have := F1.keep b o e; rw [hb] at this; cases this
  have hD0 := fr0 D hfreshD
  have hC0 := fr0 C hfreshC
  have ltL : L < D := by rw [← hD]; exact F1.ns.lt
  have hDL : D ≠ L := Nat.ne_of_gt ltL
  have hCL : C ≠ L := by rw [hC]; exact Nat.ne_of_gt (Nat.lt_succ_of_lt ltL)
  have hlD : ∀ p ∈ l, p.1 ≠ D ∧ p.1 ≠ C := fun p hp => by
    have : p.1 < D := by rw [← hD]; exact Heap.lt_size (N1 p hp).1
    exact ⟨Nat.ne_of_lt this, by rw [hC]; exact Nat.ne_of_lt (Nat.lt_succ_of_lt this)⟩
  have hID : I ≠ D ∧ I ≠ C := ⟨Nat.ne_of_lt hI1, by rw [hC]; exact Nat.ne_of_lt (Nat.lt_succ_of_lt hI1)⟩
  have loop : ∀ s₃ : Shared, s₃ = { s₁ with heap := h₁, toks := s₁.toks + ([] : List (Str × Value)).length } →
      codeAny (model prog w) A (.compLoop (.ListComp (.Name y py) [⟨.Tuple [.Name x1 p1, .Name x2 p2, .Name x3 p3] kk tp, iter, [], 0⟩] scope pos) 0 (.ref I) (.ref D) (compEnvC scope cl C env)) (compPost (model prog w) A E none Q (.ref D) C) s₃ := by
    rintro s₃ rfl
    refine LCp.codeAny_compLoop_pair
      (C3I s₁ vs ax I C D h₀ L m l R pick) ?_ (vs.length + 1)
      ⟨h₁, _, 0, [], _, rfl, Nat.zero_le _, rfl, ⟨_, old _ _ hit0.choose_spec.1, hit0.choose_spec.2⟩, F1.keeps old, hns₁, hacc, fun p hp => ⟨old _ _ (N1 p hp).1, (N1 p hp).2⟩, rfl, fun j hj => absurd hj (Nat.not_lt_zero j)⟩
    rintro k s' ⟨h', tk, i, ys, m', rfl, hi, rfl, hit, F', hn', hD', N', hyl, hys⟩
    have hl' : h'.IsList ax vs.toArray := ⟨_, (N' _ hm).1, rfl, _, rfl⟩
    by_cases hlt : i < vs.length
    · refine wpAny_pyNext_list_item hit hl' (x := vs[i]) (by simp [hlt]) fun g1 hit1 hs1 => ?_
      refine letGo_listiter hit1 ?_
      obtain ⟨t, v1, v2, v3, n, hv, ht, hR⟩ := items i vs[i] (List.getElem?_eq_getElem hlt)
      rw [hv]
      have k1 : ∀ b o, b ≠ I → h'.get? b = some o → g1.get? b = some o := fun b o hb e => hs1.extBut b o hb e
      have hn1 : g1.Ns C m' := hn'.at' fun o e => k1 _ o (Ne.symm hID.2) e
      have ht1 : g1.IsTuple t #[v1, v2, v3] := ⟨_, k1 _ _ (hIl _ ht) (N' _ ht).1, rfl, _, rfl⟩
      refine assign3 (env := compEnvC scope cl C env) hh ht1 (lookup_relabel_local hx1) (lookup_relabel_local hx2) (lookup_relabel_local hx3) (by simp [compEnvC, relabel, hkind]) hn1 fun g2 tk2 hn2 k2 => ?_
      refine ldVarK hn2 (hpick v1 v2 v3 m') ?_ (by simp [compEnvC, relabel, hkind]) (lookup_relabel_local hy) hd
      have kk2 : ∀ b o, b ≠ I → b ≠ C → h'.get? b = some o → g2.get? b = some o := fun b o hb hc e => k2 b o hc (k1 b o hb e)
      refine append_at (hsz := by show ys.toArray.size ≤ sizeLine; rw [List.size_toArray]; omega) (kk2 _ _ (Ne.symm hID.1) hDC hD') fun g3 hs3 hD3 => ?_
      have k3 : ∀ b o, b ≠ I → b ≠ C → b ≠ D → h'.get? b = some o → g3.get? b = some o := fun b o hb hc hd e => hs3.extBut b o hd (kk2 b o hb hc e)
      have g2I : g3.IsListIter I ax (i + 1) := by
        obtain ⟨o, ho, r⟩ := hit1
        exact ⟨o, hs3.extBut _ _ hID.1 (k2 _ _ hID.2 ho), r⟩
      refine ⟨vs.length + 1 - (i + 1), by omega, g3, tk2, i + 1, ys ++ [pick v1 v2 v3], _, rfl, hlt, rfl, g2I, ⟨F'.ns.at' fun o e => k3 _ o (Ne.symm hIL) (Ne.symm hCL) (Ne.symm hDL) e, fun b o e => k3 b o (fun q => by rw [q, hI0] at e; cases e) (fun q => by rw [q, hC0] at e; cases e) (fun q => by rw [q, hD0] at e; cases e) (F'.keep b o e), F'.above⟩,
        hn2.sameBut hs3 (Ne.symm hDC), hD3.trans (congrArg some (LCg.lst_snoc ys _)), fun p hp => ⟨k3 _ _ (hIl p hp) (hlD p hp).2 (hlD p hp).1 (N' p hp).1, (N' p hp).2⟩, by rw [List.length_append, hyl]; rfl, fun j hj => ?_⟩
      by_cases hj2 : j < i
      · obtain ⟨a1, a2, a3, r1, r2⟩ := hys j hj2
        exact ⟨a1, a2, a3, r1, by rw [List.getElem?_append_left (by omega)]; exact r2⟩
      · have : j = i := by omega
        subst this
        exact ⟨v1, v2, v3, hR, by rw [List.getElem?_append_right (by omega), hyl, Nat.sub_self]; rfl⟩
    · obtain rfl : i = vs.length := Nat.le_antisymm hi (Nat.not_lt.mp hlt)
      refine wpAny_pyNext_list_end hh hit hl' (by simp) fun g1 he1 => ?_
      have k1 : ∀ b o, b ≠ I → h'.get? b = some o → g1.get? b = some o := fun b o hb e => he1 b o hb e
      have F2 : Fr h₀ L g1 m := ⟨F'.ns.at' fun o e => k1 _ o (Ne.symm hIL) e, fun b o e => k1 b o (fun q => by rw [q, hI0] at e; cases e) (F'.keep b o e), F'.above⟩
      refine ⟨m', hn'.at' fun o e => k1 _ o (Ne.symm hID.2) e, fun g2 hs2 => ?_⟩
      refine fin D ys g2 _ (F2.change hs2 hCL hC0) (fun p hp => ?_) (fun p hp => (hlD p hp).1) hyl hys
      rcases List.mem_cons.mp hp with rfl | hp
      · exact ⟨hs2.extBut _ _ hDC (k1 _ _ (Ne.symm hID.1) hD'), hDL, hD0⟩
      · exact ⟨hs2.extBut _ _ (hlD p hp).2 (k1 _ _ (hIl p hp) (N' p hp).1), (N' p hp).2⟩
  exact codeAny_compStart_list (loop _ rfl) (by
    have W := Walks.list (prog := prog) (w := w) (A := A) hh I ax (hIl _ hm) vs.toArray
    exact W.self 0 _ _ _ ⟨⟨_, old _ _ hit0.choose_spec.1, hit0.choose_spec.2⟩, ⟨_, old _ _ (N1 _ hm).1, rfl, _, rfl⟩⟩ (loop _ rfl))
end
end Mine
end
section
open PySem PySem.W PyProof.Rows PySem.Calls PySem.Spec
set_option maxRecDepth 100000
namespace Mine
/-- the things level by level, as far as k of them are laid out -/
def lvl (ps : List Nat) : Nat → List Nat
  | 0 => [0]
  | k + 1 => lvl ps k ++ kidsOf ps ((lvl ps k).getD k 0)
def nodeAt (ps : List Nat) (k : Nat) : Nat := (lvl ps k).getD k 0
def rowOf (ps cs : List Nat) (k : Nat) : List Nat := (kidsOf ps (nodeAt ps k)).map fun q => cs.getD q 0
theorem kids_len (ps : List Nat) (q : Nat) : (kidsOf ps q).length ≤ ps.length := by
  unfold kidsOf
  rw [List.length_map]
  exact Nat.le_trans (List.length_filter_le _ _) (by simp)
theorem lvl_len (ps : List Nat) : ∀ k, (lvl ps k).length ≤ 1 + k * ps.length
  | 0 => by simp [lvl]
  | k + 1 => by
    rw [lvl, List.length_append]
    have h1 := lvl_len ps k
    have h2 := kids_len ps ((lvl ps k).getD k 0)
    rw [Nat.add_mul]
    omega
theorem lvl_le (ps : List Nat) : ∀ k q, q ∈ lvl ps k → q ≤ ps.length
  | 0, q, h => by simp [lvl] at h; omega
  | k + 1, q, h => by
    rw [lvl] at h
    rcases List.mem_append.mp h with h | h
    · exact lvl_le ps k q h
    · exact (kidsOf_le h).2
theorem lvl_pre (ps : List Nat) (k : Nat) : ∀ j, ∃ t, lvl ps (k + j) = lvl ps k ++ t
  | 0 => ⟨[], by simp⟩
  | j + 1 => by
    obtain ⟨t, h⟩ := lvl_pre ps k j
    exact ⟨t ++ kidsOf ps ((lvl ps (k + j)).getD (k + j) 0), by rw [← Nat.add_assoc, lvl, h, List.append_assoc]⟩
theorem kids_mem {ps : List Nat} {j : Nat} (hj : j < ps.length) : j + 1 ∈ kidsOf ps (ps.getD j 0) := by
  unfold kidsOf
  exact List.mem_map.mpr ⟨j, List.mem_filter.mpr ⟨by simpa using hj, by simp⟩, rfl⟩
theorem range_cover : ∀ (n : Nat) (l : List Nat), (∀ q, q < n → q ∈ l) → n ≤ l.length
  | 0, _, _ => Nat.zero_le _
  | n + 1, l, h => by
    have h1 := range_cover n (l.erase n) fun q hq => (List.mem_erase_of_ne (by omega)).mpr (h q (by omega))
    have h2 := List.length_erase_of_mem (h n (by omega))
    have h3 : 0 < l.length := List.length_pos_of_mem (h n (by omega))
    omega
/-- level by level none is lacking -/
theorem lvl_has {ps : List Nat} (hp : ∀ j, j < ps.length → ps.getD j 0 ≤ j) : ∀ k, k ≤ ps.length → k < (lvl ps k).length
  | 0, _ => by simp [lvl]
  | k + 1, hk => by
    have ih := lvl_has hp k (by omega)
    have h1 : k + 1 ≤ (lvl ps (k + 1)).length := by rw [lvl, List.length_append]; omega
    by_cases hc : k + 1 < (lvl ps (k + 1)).length
    · exact hc
    · have hl : (lvl ps (k + 1)).length = k + 1 := by omega
      have cov : ∀ q, q < ps.length + 1 → q ∈ lvl ps (k + 1) := by
        intro q
        induction q using Nat.strongRecOn with
        | ind q ih2 =>
          intro hq
          cases q with
          | zero =>
            obtain ⟨t, e⟩ := lvl_pre ps 0 (k + 1)
            rw [Nat.zero_add] at e
            rw [e]; simp [lvl]
          | succ j =>
            have hj : j < ps.length := by omega
            have hm := ih2 (ps.getD j 0) (by have := hp j hj; omega) (by have := hp j hj; omega)
            obtain ⟨i, hi, hv⟩ := List.mem_iff_getElem.mp hm
            rw [hl] at hi
            obtain ⟨t, e⟩ := lvl_pre ps (i + 1) (k - i)
            rw [show i + 1 + (k - i) = k + 1 by omega] at e
            obtain ⟨t2, e2⟩ := lvl_pre ps i (k + 1 - i)
            rw [show i + (k + 1 - i) = k + 1 by omega] at e2
            have hil := lvl_has hp i (by omega)
            have hn : (lvl ps i).getD i 0 = ps.getD j 0 := by
              rw [← hv, List.getD_eq_getElem?_getD, List.getElem?_eq_getElem hil]
              simp only [Option.getD_some]
              have : (lvl ps (k + 1))[i]? = some (lvl ps i)[i] := by rw [e2, List.getElem?_append_left hil, List.getElem?_eq_getElem hil]
              rw [List.getElem?_eq_getElem (by omega)] at this
              exact (Option.some.inj this).symm
            rw [e]
            refine List.mem_append.mpr (.inl ?_)
            rw [lvl, hn]
            exact List.mem_append.mpr (.inr (kids_mem hj))
      have := range_cover (ps.length + 1) (lvl ps (k + 1)) cov
      omega
end Mine
end
section
open PySem PySem.W PyProof.Rows PySem.Calls PySem.Spec
namespace Mine
local macro_rules | `(tactic| k_room) => `(tactic| ktr_room)
local macro_rules | `(tactic| k_all) => `(tactic| assumption)
section
open PySem PySem.W PyProof.Rows PySem.Calls PySem.Spec
theorem calmSK {prog : Program} {w : World} {A : Around} {Q : Bool → Shared → Prop} {E : Value → Shared → Prop} {s : Shared} (h : Q true s) : wpAny (model prog w) A (truthy (.bool true)) Q E s := by
  w_top off
  walk1
  exact h
end
section
open PySem PySem.W PyProof.Rows PySem.Calls PySem.Spec
set_option maxRecDepth 100000
set_option maxHeartbeats 8000000
theorem item_at (x : Str) (p : Nat) (h : (p : Int) < x.length) : Txt.item x (p : Int) = ⟨#[x.cps[p]'(by simpa [Str.length] using h)]⟩ := by
  have h' : p < x.cps.size := by simpa [Str.length] using h
  have e : Txt.charAt x (p : Int) = some x.cps[p] := by
    have q : seqIndex? (p : Int) x.length = some p := by
      unfold seqIndex?
      simp only [Str.length] at h ⊢
      have h1 : ¬ (p : Int) < 0 := by omega
      simp [h1, h']
    unfold Txt.charAt
    rw [q]
    exact Array.getElem?_eq_getElem h'
  unfold Txt.item
  rw [e]; rfl
inductive SkI (text : Str) (t1 t3 : Tok) (pos : Nat) (news : List (Addr × Obj)) (n : Nat) (m₁ : Str → Option Value) (nx : List (Addr × Obj)) : Prop
  | mk (p : Nat) (t : Tok) (e1 : n = text.length - p) (e2 : pos ≤ p) (e3 : p ≤ text.length) (e4 : ∀ q, pos ≤ q → q < p → text.cps[q]? = some 10) (e5 : nx = news)
      (e6 : m₁ = (fun y => if y = Str.ofString "pos" then some (Value.int (p : Int) t) else List.lookup y [(Str.ofString "chars", Value.str (Str.ofString "\n") t3), (Str.ofString "src", Value.str text t1)])) : SkI text t1 t3 pos news n m₁ nx
theorem skip_ok {w : World} {mean : ExcName → Option Value} {mg mb : Str → Option Value}
  {dp un : Nat} {gd : Option (List Code)} {cn : Str} {cs : Scope} {a : Addr} {ccd : Value} {cl : List (Str × Addr)} {outer : List Env} {A₀ : Around} {base h₀ : Heap} {L : Addr} {m : Str → Option Value} {news : List (Addr × Obj)} {s : Shared}
  {Q E : Value → Shared → Prop}
  (B : Below A₀ base outer h₀) (F : Fr h₀ L s.heap m) (X : (Mine.hd.heap_39 w.params).In h₀) (N : News h₀ L s.heap news)
  (T : Top topProg (looseW Mine.hd.view_39 [Str.ofString "_filemode_table"] ++ List.map (fun x => x.name) (recsOf Mine.hd.view_39) ++
        List.map (fun x => x.fst) (litsOf Mine.hd.view_39) ++
      List.map (fun x => x.name) (clssOf Mine.hd.view_39 (looseW Mine.hd.view_39 [Str.ofString "_filemode_table"]))) mean mg mb h₀)
  (hk : cs.kind = .function) (hd : dp + 5 < recursionLimit) (hu : un + 80 < cLine)
  (XB : (Mine.hd.heap_39 w.params).In base)
  (TB : Top topProg (looseW Mine.hd.view_39 [Str.ofString "_filemode_table"] ++ List.map (fun x => x.name) (recsOf Mine.hd.view_39) ++
        List.map (fun x => x.fst) (litsOf Mine.hd.view_39) ++
      List.map (fun x => x.name) (clssOf Mine.hd.view_39 (looseW Mine.hd.view_39 [Str.ofString "_filemode_table"]))) mean mg mb base)
  (D : KtsDicts (outer.filterMap (·.frame)) h₀)
  (text : Str) (t1 t2 t3 : Tok) (pi : Int) (pos : Nat) (hpi : pi = (pos : Int)) (hp : pos ≤ text.length) (hl : text.length < 1000)
  (hret : ∀ (r : Nat) t h' tk' h₀', pos ≤ r → r ≤ text.length → (∀ q, pos ≤ q → q < r → text.cps[q]? = some 10) → (r < text.length → text.cps[r]? ≠ some 10) →
    KtsTurn (outer.filterMap (·.frame)) h₀ h₀' → Fr h₀' L h' m → News h₀' L h' news → Below A₀ base outer h₀' → (Mine.hd.heap_39 w.params).In h₀' → Top topProg (looseW Mine.hd.view_39 [Str.ofString "_filemode_table"] ++ List.map (fun x => x.name) (recsOf Mine.hd.view_39) ++ List.map (fun x => x.fst) (litsOf Mine.hd.view_39) ++ List.map (fun x => x.name) (clssOf Mine.hd.view_39 (looseW Mine.hd.view_39 [Str.ofString "_filemode_table"]))) mean mg mb h₀' → KtsDicts (outer.filterMap (·.frame)) h₀' → Q (.int r t) { s with heap := h', toks := tk' }) :
  wpAny (model PySem.Challenge.rw_oy0109_01.row.prog w) (ktrTop dp un gd cn cs L a ccd cl outer) (call (.ref 34) [.str text t1, .int pi t2, .str (Str.ofString "\n") t3]) Q E s := by
  have hk0 : (PySem.Challenge.rw_oy0109_01 = PySem.Challenge.rw_oy0109_01) ∧ (Mine.hd.heap_39 = Mine.hd.heap_39) := by (k_fill; exact ⟨rfl, rfl⟩)
  clear hk0
  subst hpi
  refine wpAny_call ?_
  k_dflt (refine' enterS ?k1 ?k2 ?k3 ?k4 ?k5 ?XB ?TB ?D ?kA ?kF ?kK ?k6 ?k7 ?k8 ?k9 ?kB ?_ ?c2 ?c3 ?c4 ?c5; (case kA => exact rfl); (case kF => exact rfl); (case kK => assumption); (case XB => assumption); (case TB => assumption); (case D => assumption); (case k1 => k_asm); (case k2 => k_asm); (case k3 => k_asm); (case k4 => k_asm); (case k5 => k_asm); (case k6 => k_is); (case k7 => k_is); (case k8 => ktr_room); (case k9 => exact BindsTo.of_eq rfl); (case c5 => decide); (case kB => exact locs rfl); (case c2 => exact rfl); (case c3 => exact rfl); (case c4 => exact rfl); k_whole)
  intro g' L' h' FG' F' N' B' X' T' D' lt'
  dsimp only
  k_fold
  change Fr g' L' h' (fun y => List.lookup y [(Str.ofString "chars", Value.str (Str.ofString "\n") t3), (Str.ofString "pos", Value.int (pos : Int) t2), (Str.ofString "src", Value.str text t1)]) at F'
  walk1
  walk1
  walk1
  walk1
  refine While_inv2 (J := SkI text t1 t3 pos news) (n₀ := text.length - pos) F' N' ?init ?turn ?hE
  case init => 
    refine ⟨pos, t2, rfl, Nat.le_refl _, hp, fun q h1 h2 => absurd h2 (by omega), rfl, ?_⟩
    funext y
    by_cases h1 : y = Str.ofString "pos"
    · subst h1; rfl
    · simp only [List.lookup, h1, if_false]
      have : (y == Str.ofString "pos") = false := by simpa using h1
      rw [this]
  case hE => passes_own
  case turn =>
    rintro n m₁ nx h₁ tk₁ F₁ N₁ ⟨p, t, rfl, hp1, hp2, hnl, rfl, rfl⟩
    dsimp only
    k_steps
    · rename_i hout h2 tk2 e hx
      have hpe : p = text.length := by omega
      subst hpe
      k_dflt (refine' caught_own (T' := "IndexError") hx F₁ N₁ B' ?XB ?TB ?D ?ex PyProof.Rows.Boot.«IndexError» ?hn PySem.F.isExc_IndexError PySem.F.notTuple_IndexError ?hs ?_; (case XB => assumption); (case TB => assumption); (case D => assumption); (case hs => kts_sub); (case ex => k_is); (case hn => decide))
      intro h3 g3 KT3 F3 N3 B3 X3 T3 D3
      k_steps
      dsimp only
      k_unfold
      refine ⟨g3, L', _, _, KT3, F3, N3, fun h₀' k1 k2 k3 k4 k5 k6 k7 => ?_⟩
      exact hret text.length _ _ _ h₀' hp1 (Nat.le_refl _) hnl (fun h => absurd h (Nat.lt_irrefl _)) k1 k2 k3 k4 k5 k6 k7
    · rename_i h1 h2 hocc
      dsimp only
      k_unfold
      refine ⟨g', L', _, _, KtsTurn.refl, F₁, N₁, fun h₀' k1 k2 k3 k4 k5 k6 k7 => ?_⟩
      refine hret p _ _ _ h₀' hp1 hp2 hnl (fun h => ?_) k1 k2 k3 k4 k5 k6 k7
      rw [item_at text p h2, nl_one] at hocc
      have z := StrLaws.found_one ⟨#[10]⟩ (text.cps[p]'(by simpa [Str.length] using h2))
      have hocc' : (Builtin.Str.occurrences ⟨#[10]⟩ ⟨#[text.cps[p]'(by simpa [Str.length] using h2)]⟩ 0 (Str.length ⟨#[10]⟩) 1).isEmpty = true := hocc
      rw [hocc'] at z
      intro e9
      have : text.cps[p]'(by simpa [Str.length] using h2) = 10 := by
        have := Array.getElem?_eq_getElem (xs := text.cps) (i := p) (by simpa [Str.length] using h2)
        rw [this] at e9
        exact Option.some.inj e9
      rw [this] at z
      simp at z
    · rename_i h1 h2 hocc h9 F9 N9
      have hlt : p < text.length := by omega
      refine ⟨h9, _, _, _, text.length - (p + 1), rfl, F9, N9, by omega, p + 1, ?t9, rfl, by omega, hlt, ?nl9, rfl, ?mp9⟩
      case nl9 =>
        intro q h1 h2'
        by_cases hq : q < p
        · exact hnl q h1 hq
        · have : q = p := by omega
          subst this
          rw [item_at text q h2, nl_one] at hocc
          have z := StrLaws.found_one ⟨#[10]⟩ (text.cps[q]'(by simpa [Str.length] using hlt))
          have hocc' : (Builtin.Str.occurrences ⟨#[10]⟩ ⟨#[text.cps[q]'(by simpa [Str.length] using hlt)]⟩ 0 (Str.length ⟨#[10]⟩) 1).isEmpty = false := hocc
          rw [hocc'] at z
          have e : text.cps[q]'(by simpa [Str.length] using hlt) = 10 := by simpa using z
          rw [Array.getElem?_eq_getElem (by simpa [Str.length] using hlt), e]
      case mp9 =>
        funext y
        by_cases h1 : y = Str.ofString "pos"
        · simp only [h1, if_true]
          rfl
        · simp only [h1, if_false]
end
section
open PySem PySem.W PyProof.Rows PySem.Calls PySem.Spec
theorem calmER {prog : Program} {w : World} {A : Around} {Q : Bool → Shared → Prop} {E : Value → Shared → Prop} {s : Shared} (h : Q true s) : wpAny (model prog w) A (truthy (.bool true)) Q E s := by
  w_top off
  walk1
  exact h
end
section
open PySem PySem.W PyProof.Rows PySem.Calls PySem.Spec
set_option maxRecDepth 100000
set_option maxHeartbeats 8000000
abbrev errObj (tp : Addr) : Obj := { cls := .ref 24, data := .fields #[.ref tp, .none, .none, .none, .bool false, .none] }
abbrev tupObj (vs : List Value) : Obj := { cls := .type "tuple", data := .seq vs.toArray }
theorem make_err {w : World} {mean : ExcName → Option Value} {mg mb : Str → Option Value} {A : Around} {h₀ : Heap} {L : Addr} {m : Str → Option Value} {news : List (Addr × Obj)} {s : Shared} {Q E : Value → Shared → Prop} {x : Str} {t : Tok}
    (F : Fr h₀ L s.heap m) (X : (Mine.hd.heap_39 w.params).In h₀) (N : News h₀ L s.heap news) (T : Top topProg (looseW Mine.hd.view_39 [Str.ofString "_filemode_table"] ++ List.map (fun x => x.name) (recsOf Mine.hd.view_39) ++ List.map (fun x => x.fst) (litsOf Mine.hd.view_39) ++ List.map (fun x => x.name) (clssOf Mine.hd.view_39 (looseW Mine.hd.view_39 [Str.ofString "_filemode_table"]))) mean mg mb h₀)
    (k : ∀ h' e tp, Fr h₀ L h' m → News h₀ L h' ((e, errObj tp) :: (tp, tupObj [.str x t]) :: news) → (∀ p ∈ news, p.1 ≠ e) → (∀ p ∈ news, p.1 ≠ tp) → e ≠ tp → Q (.ref e) { s with heap := h' }) :
    wpAny (model PySem.Challenge.rw_oy0109_01.row.prog w) A (call (.ref 24) [.str x t]) Q E s := by
  have hk0 : (PySem.Challenge.rw_oy0109_01 = PySem.Challenge.rw_oy0109_01) ∧ (Mine.hd.heap_39 = Mine.hd.heap_39) := by (k_fill; exact ⟨rfl, rfl⟩)
  clear hk0
  have O : OwnCls (Str.ofString "TOMLDecodeError") 24 [.type "ValueError", .type "Exception", .type "BaseException", .type "object"] "ValueError.__new__" mg h₀ := own_of_in X (topRead_of T) (by k_is) (by k_exc)
  obtain ⟨_, bm, Ns, nm, q, bs, hdct, sn, sub, ab, col, dd, k0, k1, k2, k3, k5, mN, hC, hN, hni, TL⟩ := O
  have TL' := TL.keeps F.keep
  obtain ⟨hh, g, d, tk, os⟩ := s
  refine wpAny_call_exc_subT PySem.F.excBase_ValueError TL' (F.keep _ _ hC) (hN.keeps F.keep) hni (fun h' e hx => ?_)
  obtain ⟨hkeep, hnew, tp, h1, h2, h3⟩ := hx
  have ne : ∀ p ∈ news, p.1 ≠ e := fun p hp q => by have := (N p hp).1; rw [q] at this; rw [show hh.get? e = none from hnew] at this; cases this
  have nt : ∀ p ∈ news, p.1 ≠ tp := fun p hp q => by have := (N p hp).1; rw [q] at this; rw [show hh.get? tp = none from h2] at this; cases this
  have het : e ≠ tp := fun q => by rw [q, h3] at h1; cases h1
  obtain ⟨oL, es, ep, hL, hr⟩ := id F.ns
  have fresh : ∀ b, hh.get? b = none → h₀.get? b = none := fun b hb => by
    cases q : h₀.get? b with
    | none => rfl
    | some o => have := F.keep _ _ q; rw [show hh.get? b = none from hb] at this; cases this
  have neL : ∀ b, hh.get? b = none → b ≠ L := fun b hb q => by rw [q, hL] at hb; cases hb
  refine k h' e tp ⟨⟨oL, es, ep, hkeep _ _ hL, hr⟩, fun b o e => hkeep _ _ (F.keep _ _ e), F.above⟩ (fun p hp => ?_) ne nt het
  rcases List.mem_cons.mp hp with rfl | hp
  · exact ⟨h1, neL _ hnew, fresh _ hnew⟩
  · rcases List.mem_cons.mp hp with rfl | hp
    · exact ⟨h3, neL _ h2, fresh _ h2⟩
    · exact ⟨hkeep _ _ (N p hp).1, (N p hp).2⟩
end
section
open PySem PySem.W PyProof.Rows PySem.Calls PySem.Spec
theorem calmSF {prog : Program} {w : World} {A : Around} {Q : Bool → Shared → Prop} {E : Value → Shared → Prop} {s : Shared} (h : Q true s) : wpAny (model prog w) A (truthy (.bool true)) Q E s := by
  w_top off
  walk1
  exact h
end
section
open PySem PySem.W PyProof.Rows PySem.Calls PySem.Spec
set_option maxRecDepth 100000
set_option maxHeartbeats 8000000
/-- what suffixed_err's inner def has left in its code's table -/
inductive TabSt : List (Addr × Obj) → Prop
  | empty : TabSt [(36, tabObj #[])]
  | full (c : Addr) (oc : Obj) (vs : Array Value) (t : Tok) (hd : oc.data = .fields vs) (hv : vs[1]? = some (.str (Str.ofString "suffixed_err.<locals>.coord_repr") t)) : TabSt [(36, tabObj #[rawInt 13, rawInt 4, .ref c]), (c, oc)]
def lineAt (cps : List Nat) (pos : Nat) : Nat := (cps.take pos).count 10 + 1
def colAt (cps : List Nat) (pos : Nat) : Nat := behind 10 (cps.take pos) + 1
theorem cnt_zero {n : Nat} (h : (n : Int) + 1 = 1) : n = 0 := by omega
theorem endE {h₀ h : Heap} {L e tp c f : Addr} {fo oc : Obj} {tv : List Value} {vs : Array Value} {q : Str} {t : Tok} {news : List (Addr × Obj)} {P : Prop}
    (_ : News h₀ L h ((e, errObj tp) :: (tp, tupObj tv) :: (f, fo) :: (c, oc) :: (36, tabObj (#[] ++ #[rawInt 13, rawInt 4, Value.ref c])) :: news))
    (ne1 : ∀ p ∈ (f, fo) :: (c, oc) :: (36, tabObj (#[] ++ #[rawInt 13, rawInt 4, Value.ref c])) :: news, p.1 ≠ e) (ne2 : ∀ p ∈ (f, fo) :: (c, oc) :: (36, tabObj (#[] ++ #[rawInt 13, rawInt 4, Value.ref c])) :: news, p.1 ≠ tp)
    (d1 : oc.data = .fields vs) (d2 : vs[1]? = some (.str q t)) (l1 : 36 < c ∧ AllLt c news) (off36 : ∀ p ∈ news, p.1 ≠ 36) (hq : q = Str.ofString "suffixed_err.<locals>.coord_repr")
    (k : TabSt [(36, tabObj #[rawInt 13, rawInt 4, .ref c]), (c, oc)] → (∀ p ∈ news, ∀ q ∈ [(36, tabObj #[rawInt 13, rawInt 4, .ref c]), (c, oc)], p.1 ≠ q.1) → (∀ p ∈ news, p.1 ≠ e ∧ p.1 ≠ tp) →
      (∀ p ∈ ((e, errObj tp) :: (tp, tupObj tv) :: ([(36, tabObj #[rawInt 13, rawInt 4, .ref c]), (c, oc)] ++ news)), p ∈ ((e, errObj tp) :: (tp, tupObj tv) :: (f, fo) :: (c, oc) :: (36, tabObj (#[] ++ #[rawInt 13, rawInt 4, Value.ref c])) :: news)) → P) : P := by
  have lt : ∀ p ∈ news, p.1 < c := tb_ltOf l1.2
  subst hq
  refine k (.full c oc vs t d1 d2) (fun p hp q hq => ?_) (fun p hp => ⟨ne1 p (.tail _ (.tail _ (.tail _ hp))), ne2 p (.tail _ (.tail _ (.tail _ hp)))⟩) (fun p hp => ?_)
  · rcases List.mem_cons.mp hq with rfl | hq
    · exact off36 p hp
    · rw [List.mem_singleton.mp hq]
      exact Nat.ne_of_lt (lt p hp)
  · simp only [Array.empty_append]
    rcases List.mem_cons.mp hp with rfl | hp
    · exact .head _
    · rcases List.mem_cons.mp hp with rfl | hp
      · exact .tail _ (.head _)
      · rcases List.mem_cons.mp hp with rfl | hp
        · exact .tail _ (.tail _ (.tail _ (.tail _ (.head _))))
        · rcases List.mem_cons.mp hp with rfl | hp
          · exact .tail _ (.tail _ (.tail _ (.head _)))
          · exact .tail _ (.tail _ (.tail _ (.tail _ (.tail _ hp))))
theorem endF {h₀ h : Heap} {L e tp f : Addr} {fo : Obj} {tv : List Value} {c : Addr} {o1 o2 : Obj} {news : List (Addr × Obj)} {P : Prop}
    (_ : News h₀ L h ((e, errObj tp) :: (tp, tupObj tv) :: (f, fo) :: (36, o1) :: (c, o2) :: news))
    (ne1 : ∀ p ∈ (f, fo) :: (36, o1) :: (c, o2) :: news, p.1 ≠ e) (ne2 : ∀ p ∈ (f, fo) :: (36, o1) :: (c, o2) :: news, p.1 ≠ tp)
    (k : (∀ p ∈ news, p.1 ≠ e ∧ p.1 ≠ tp) → (∀ p ∈ ((e, errObj tp) :: (tp, tupObj tv) :: ([(36, o1), (c, o2)] ++ news)), p ∈ ((e, errObj tp) :: (tp, tupObj tv) :: (f, fo) :: (36, o1) :: (c, o2) :: news)) → P) : P := by
  refine k (fun p hp => ⟨ne1 p (.tail _ (.tail _ (.tail _ hp))), ne2 p (.tail _ (.tail _ (.tail _ hp)))⟩) (fun p hp => ?_)
  rcases List.mem_cons.mp hp with rfl | hp
  · exact .head _
  · rcases List.mem_cons.mp hp with rfl | hp
    · exact .tail _ (.head _)
    · exact .tail _ (.tail _ (.tail _ hp))
local macro_rules | `(tactic| walk_at "call builtin:str.count") => `(tactic| (refine call_count_nl (by omega) ?_))
local macro_rules | `(tactic| walk_at "call builtin:str.rindex") => `(tactic| (refine call_rindex_nl (by omega) (by omega) ?_; intro ri hr1 hr2))
local macro_rules | `(tactic| walk_at "call ref") => `(tactic| (k_dflt (refine make_err (by k_asm) (by k_asm) (by k_asm) (by k_asm) ?_); intro h' e' tp' F' N' ne1 ne2 ne3))
set_option pp.deepTerms false
set_option pp.deepTerms.threshold 8
theorem sfx_ok {w : World} {mean : ExcName → Option Value} {mg mb : Str → Option Value}
  {dp un : Nat} {gd : Option (List Code)} {cn : Str} {cs : Scope} {a : Addr} {ccd : Value} {cl : List (Str × Addr)} {outer : List Env} {A₀ : Around} {base h₀ : Heap} {L : Addr} {m : Str → Option Value} {news : List (Addr × Obj)} {s : Shared}
  {Q E : Value → Shared → Prop}
  (B : Below A₀ base outer h₀) (F : Fr h₀ L s.heap m) (X : (Mine.hd.heap_39 w.params).In h₀) (N : News h₀ L s.heap news)
  (T : Top topProg (looseW Mine.hd.view_39 [Str.ofString "_filemode_table"] ++ List.map (fun x => x.name) (recsOf Mine.hd.view_39) ++
        List.map (fun x => x.fst) (litsOf Mine.hd.view_39) ++
      List.map (fun x => x.name) (clssOf Mine.hd.view_39 (looseW Mine.hd.view_39 [Str.ofString "_filemode_table"]))) mean mg mb h₀)
  (hk : cs.kind = .function) (hd : dp + 5 < recursionLimit) (hu : un + 80 < cLine)
  (CH : CodeHd base 40 36) (tab : List (Addr × Obj)) (TS : TabSt tab) (Nt : News h₀ L s.heap (tab ++ news)) (off : ∀ p ∈ news, ∀ q ∈ tab, p.1 ≠ q.1)
  (text : Str) (t1 t2 t3 : Tok) (pos : Nat) (hp : pos < text.length) (hl : text.length < 100) (x : Str) (hx : x.length = 1)
  (hret : ∀ e tp tab' h' tk' t', TabSt tab' → (∀ p ∈ news, ∀ q ∈ tab', p.1 ≠ q.1) → (∀ p ∈ news, p.1 ≠ e ∧ p.1 ≠ tp) → Fr h₀ L h' m →
     News h₀ L h' ((e, errObj tp) :: (tp, tupObj [.str (errMsg x (lineAt text.cps.toList pos) (colAt text.cps.toList pos)) t']) :: (tab' ++ news)) → Q (.ref e) { s with heap := h', toks := tk' }) :
  wpAny (model PySem.Challenge.rw_oy0109_01.row.prog w) (ktrTop dp un gd cn cs L a ccd cl outer) (call (.ref 41) [.str text t1, .int (pos : Int) t2, .str x t3]) Q E s := by
  have hk0 : (PySem.Challenge.rw_oy0109_01 = PySem.Challenge.rw_oy0109_01) ∧ (Mine.hd.heap_39 = Mine.hd.heap_39) := by (k_fill; exact ⟨rfl, rfl⟩)
  clear hk0
  clear N
  have hcnt : (text.cps.toList.take pos).count 10 ≤ pos := Nat.le_trans List.count_le_length (by rw [List.length_take]; omega)
  have hxl : text.cps.toList.length = text.length := by simp [Str.length]
  have hlp : (text.cps.toList.take pos).length = pos := by rw [List.length_take]; omega
  have fin1 : ∀ (n : Int) (e tp : Addr) (tab' l : List (Addr × Obj)) (h' : Heap) (tk' t' : Nat), TabSt tab' → (∀ p ∈ news, ∀ q ∈ tab', p.1 ≠ q.1) → (∀ p ∈ news, p.1 ≠ e ∧ p.1 ≠ tp) → Fr h₀ L h' m →
      (text.cps.toList.take pos).count 10 = 0 → News h₀ L h' l → (∀ p ∈ ((e, errObj tp) :: (tp, tupObj [.str (errMsg x ((((text.cps.toList.take pos).count 10 : Nat) : Int) + 1) ((pos : Int) + 1)) t']) :: (tab' ++ news)), p ∈ l) → Q (.ref e) { s with heap := h', toks := tk' } := by
    intro n e tp tab' l h' tk' t' h1 h2 h3 F9 hc N9 hs
    refine hret e tp tab' h' tk' t' h1 h2 h3 F9 ?_
    have e1 : (lineAt text.cps.toList pos : Int) = (((text.cps.toList.take pos).count 10 : Nat) : Int) + 1 := by unfold lineAt; omega
    have e2 : (colAt text.cps.toList pos : Int) = (pos : Int) + 1 := by unfold colAt; rw [behind_none hc, hlp]; omega
    rw [e1, e2]
    exact news_sub N9 hs
  have fin2 : ∀ (ri : Nat) (e tp : Addr) (tab' l : List (Addr × Obj)) (h' : Heap) (tk' t' : Nat), TabSt tab' → (∀ p ∈ news, ∀ q ∈ tab', p.1 ≠ q.1) → (∀ p ∈ news, p.1 ≠ e ∧ p.1 ≠ tp) → Fr h₀ L h' m →
      ri < pos → pos - ri = behind 10 (text.cps.toList.take pos) + 1 → News h₀ L h' l → (∀ p ∈ ((e, errObj tp) :: (tp, tupObj [.str (errMsg x ((((text.cps.toList.take pos).count 10 : Nat) : Int) + 1) ((pos : Int) - (ri : Int))) t']) :: (tab' ++ news)), p ∈ l) → Q (.ref e) { s with heap := h', toks := tk' } := by
    intro ri e tp tab' l h' tk' t' h1 h2 h3 F9 hr1 hr2 N9 hs
    refine hret e tp tab' h' tk' t' h1 h2 h3 F9 ?_
    have e1 : (lineAt text.cps.toList pos : Int) = (((text.cps.toList.take pos).count 10 : Nat) : Int) + 1 := by unfold lineAt; omega
    have e2 : (colAt text.cps.toList pos : Int) = (pos : Int) - (ri : Int) := by unfold colAt; omega
    rw [e1, e2]
    exact news_sub N9 hs
  cases TS with
  | empty =>
    have off36 : ∀ p ∈ news, p.1 ≠ 36 := fun p hp => off p hp _ (.head _)
    simp only [List.cons_append, List.nil_append] at Nt
    refine wpAny_call ?_
    k_dflt ktr_enter
    k_steps
    · simp only [Str.length_append, hx]; decide
    · rename_i ne1 ne2 ne3 kF kN Tc kX
      rename (_ : Int) + 1 = 1 => hc1
      have hc2 : (text.cps.toList.take pos).count 10 = 0 := cnt_zero hc1
      exact endE kN ne1 ne2 (by assumption) (by assumption) (by assumption) off36 rfl fun h1 h2 h3 hs => fin1 0 _ _ _ _ _ _ _ h1 h2 h3 kF hc2 kN hs
    · rename_i ne1 ne2 ne3 kF kN Tc kX
      exact endE kN ne1 ne2 (by assumption) (by assumption) (by assumption) off36 rfl fun h1 h2 h3 hs => fin2 _ _ _ _ _ _ _ _ h1 h2 h3 kF (by assumption) (by assumption) kN hs
  | full c oc vs t hd9 hv9 =>
    simp only [List.cons_append, List.nil_append] at Nt
    refine wpAny_call ?_
    k_dflt ktr_enter
    k_steps
    · simp only [Str.length_append, hx]; decide
    · rename_i ne1 ne2 ne3 kF kN Tc kX
      rename (_ : Int) + 1 = 1 => hc1
      have hc2 : (text.cps.toList.take pos).count 10 = 0 := cnt_zero hc1
      exact endF kN ne1 ne2 fun h3 hs => fin1 0 _ _ _ _ _ _ _ (TabSt.full _ _ _ _ hd9 hv9) off h3 kF hc2 kN hs
    · rename_i ne1 ne2 ne3 kF kN Tc kX
      exact endF kN ne1 ne2 fun h3 hs => fin2 _ _ _ _ _ _ _ _ (TabSt.full _ _ _ _ hd9 hv9) off h3 kF (by assumption) (by assumption) kN hs
end
section
open PySem PySem.W PyProof.Rows PySem.Calls PySem.Spec
theorem calmES {prog : Program} {w : World} {A : Around} {Q : Bool → Shared → Prop} {E : Value → Shared → Prop} {s : Shared} (h : Q true s) : wpAny (model prog w) A (truthy (.bool true)) Q E s := by
  w_top off
  walk1
  exact h
end
section
open PySem PySem.W PyProof.Rows PySem.Calls PySem.Spec
set_option maxRecDepth 100000
set_option maxHeartbeats 8000000
section
variable {w : World} {A : Around} {E : Value → Shared → Prop} {s : Shared} {e t0 : Addr} {m : Str} {tk : Tok}
open Builtin Builtin.Str Builtin.BaseException Builtin.Exceptions in
theorem bexcArgs_own {oe : Obj} {vs : Array Value} {items : List Value} {Q : Value × List Value → Shared → Prop}
    (he : s.heap.get? e = some oe) (hd : oe.data = .fields vs) (h0 : vs[0]? = some (.ref t0)) (ht : s.heap.TupAt t0 items) (hq : Q (.ref t0, items) s) :
    wpAny (model PySem.Challenge.rw_oy0109_01.row.prog w) A (bexcArgs (.ref e)) Q E s := by
  obtain ⟨ot, k, hto, _, htd⟩ := ht
  unfold bexcArgs
  refine wpAny_bind (wpAny_field he hd h0 (wpAny_bind (wpAny_seqItems hto htd ?_)))
  have : items.toArray.toList = items := by simp
  show wpAny _ A (pure (Value.ref t0, items.toArray.toList)) Q E s
  rw [this]; exact wpAny_pure hq
open Builtin Builtin.Str Builtin.BaseException Builtin.Exceptions in
theorem bexcStr_own {oe : Obj} {vs : Array Value} {Q : PySem.Fin → Shared → Prop}
    (he : s.heap.get? e = some oe) (hd : oe.data = .fields vs) (h0 : vs[0]? = some (.ref t0)) (ht : s.heap.TupAt t0 [.str m tk]) (hq : Q (.done (.ret (.str m tk))) s) :
    wpAny (model PySem.Challenge.rw_oy0109_01.row.prog w) A (Builtin.«BaseException.__str__» ⟨[.ref e], []⟩) Q E s := by
  unfold Builtin.«BaseException.__str__»
  repeat (first | with_reducible refine bexcArgs_own he hd h0 ht ?_ | wp_step)
  exact hq
open Builtin Builtin.Str in
theorem str_err {Q : Value → Shared → Prop} (hu : A.in1.in1.units < cLine) (X : (Mine.hd.heap_39 w.params).In s.heap) (he : s.heap.get? e = some (errObj t0)) (ht : s.heap.TupAt t0 [.str m tk]) (hq : Q (.str m tk) s) :
    wpAny (model PySem.Challenge.rw_oy0109_01.row.prog w) A (call (.type "str") [.ref e]) Q E s := by
  have hk0 : (PySem.Challenge.rw_oy0109_01 = PySem.Challenge.rw_oy0109_01) ∧ (Mine.hd.heap_39 = Mine.hd.heap_39) := by (k_fill; exact ⟨rfl, rfl⟩)
  clear hk0
  have I : InstAt s.heap e (errObj t0) 24 none := ⟨he, rfl, rfl, trivial⟩
  have hs : findIn (Mine.hd.heap_39 w.params) (.ref 24) "__str__" = some (some (.builtin "BaseException.__str__")) := by k_is
  have hm : mroIn (Mine.hd.heap_39 w.params) 24 (.type "BaseException") = some true := by k_is
  refine callType_codes (T := "str") (Bi := Builtin.«object.__init__») (Q₁ := fun r s₁ => ∃ y u, r = .str y u ∧ Q r s₁) PySem.F.called_str (PySem.F.typeCall_str_1 _) PySem.F.entry_object_init ?_ ?_
  · refine codeAny_of_tree ?_
    show wpAny _ A.in1.in1 (do checkBuiltinCall "str.__new__" ⟨[.type "str", .ref e], []⟩; again (.builtin "str.__new__" ⟨[.type "str", .ref e], []⟩)) _ _ s
    refine wpAny_bind (wpAny_of_eq (PySem.F.newCall_str_1 _) (wpAny_pure ⟨plainId_quiet (by decide +kernel) _, codeAny_builtin PySem.F.entry_str_new ?_⟩))
    rw [Around.under_plainId (by decide +kernel) _]
    rw [str_new_tree]
    refine wpAny_bind (wpAny_pure ?_)
    refine wpAny_bind (wpAny_of_eq isSubtype_str_str ?_)
    have key : wpAny (model PySem.Challenge.rw_oy0109_01.row.prog w) A.in1.in1 (PySem.Builtin.Str.strOf (.ref e)) (fun r s₁ => ∃ y u, r = .str y u ∧ Q r s₁) E s := by
      unfold PySem.Builtin.Str.strOf
      rw [show isExactStr (.ref e) = false from rfl]
      refine wpAny_bind (m := cRoomFor _ _) (wpAny_cRoomFor hu ?_)
      refine wpAny_bind (m := callSpecial? (.ref e) (Str.ofString "__str__")) (kfo_special X I hs PySem.F.excStr_ValueError.str.bind ?_)
      refine wpAny_call (codeAny_call_builtin PySem.F.excStr_ValueError.str.plain PySem.F.entry_bexc_str (check_slot (i := "BaseException.__str__") (owner := "BaseException") (n := "__str__") (by decide +kernel) (by decide +kernel) (I.type.andThen (looks_mroIn X hm)) (PySem.F.args_bexc_str _) ?_))
      refine bexcStr_own he rfl rfl ht ?_
      exact wpAny_pure ⟨_, _, rfl, hq⟩
    exact wpAny_bind (wpAny_mono key (fun r s₁ hr => wpAny_pure hr) fun _ _ y => y)
  · rintro obj s₁ ⟨y, u, rfl, hq⟩
    exact ⟨typeIs_str _ _ _, PySem.F.args_object_init_2 _ _, object_init_meets PySem.F.called_str.init.lookup PySem.F.called_str.made (by decide) _ w A.in1 _ s₁ ⟨typeIs_str _ _ _, rfl, hq⟩⟩
end
theorem str_errN {w : World} {A : Around} {E : Value → Shared → Prop} {s : Shared} {e tp L : Addr} {m : Str} {tk : Tok} {h₀ : Heap} {mm : Str → Option Value} {news : List (Addr × Obj)} {Q : Value → Shared → Prop} (F : Fr h₀ L s.heap mm) (N : News h₀ L s.heap news) (X : (Mine.hd.heap_39 w.params).In h₀)
    (h1 : (e, errObj tp) ∈ news) (h2 : (tp, tupObj [.str m tk]) ∈ news) (hu : A.units + 2 < cLine) (hq : Q (.str m tk) s) : wpAny (model PySem.Challenge.rw_oy0109_01.row.prog w) A (call (.type "str") [.ref e]) Q E s :=
  str_err (show A.units + 1 + 1 < cLine from hu) (X.keeps F.keep) (N _ h1).1 ⟨_, _, (N _ h2).1, rfl, rfl⟩ hq
theorem isi_err {w : World} {A : Around} {E : Value → Shared → Prop} {s : Shared} {e tp L : Addr} {h₀ : Heap} {mm : Str → Option Value} {news : List (Addr × Obj)} {Q : Value → Shared → Prop} (F : Fr h₀ L s.heap mm) (N : News h₀ L s.heap news) (X : (Mine.hd.heap_39 w.params).In h₀)
    (h1 : (e, errObj tp) ∈ news) (hq : Q (.bool true) s) : wpAny (model PySem.Challenge.rw_oy0109_01.row.prog w) A (call (.builtin "isinstance") [.ref e, .ref 24]) Q E s := by
  have hk0 : (PySem.Challenge.rw_oy0109_01 = PySem.Challenge.rw_oy0109_01) ∧ (Mine.hd.heap_39 = Mine.hd.heap_39) := by (k_fill; exact ⟨rfl, rfl⟩)
  clear hk0
  exact isi_call (X.keeps F.keep) (fun M => InstAt.type (C := 24) (od := none) ⟨(N _ h1).1, rfl, rfl, trivial⟩) (by k_is) (fun h => by cases h) hq
end
section
open PySem PySem.W PyProof.Rows PySem.Calls PySem.Spec
theorem calmTD {prog : Program} {w : World} {A : Around} {Q : Bool → Shared → Prop} {E : Value → Shared → Prop} {s : Shared} (h : Q true s) : wpAny (model prog w) A (truthy (.bool true)) Q E s := by
  w_top off
  walk1
  exact h
end
section
open PySem PySem.W PyProof.Rows PySem.Calls PySem.Spec
set_option maxRecDepth 100000
set_option maxHeartbeats 8000000
local macro_rules | `(tactic| walk_at "call ref") => `(tactic| refine stop_call 34 ?_)
local macro_rules | `(tactic| walk_at "call ref") => `(tactic| refine stop_call 41 ?_)
local macro_rules | `(tactic| walk_at "call type:str") => `(tactic| (k_dflt (refine str_errN (by k_asm) (by k_asm) (by k_asm) (by k_mem) (by k_mem) (units_ok (k := 5) (by assumption) (by decide)) ?_)))
local macro_rules | `(tactic| walk_at "call builtin:str.split") => `(tactic| (k_dflt (refine call_split_err (by k_asm) (by k_asm) rfl (by assumption) (by assumption) (by assumption) ?_); intro l' h' tk' ta tb tc td te tf F' N' l1; (try k_lt l1); (try k_sweep)))
local macro_rules | `(tactic| walk_at "call builtin:isinstance") => `(tactic| (k_dflt (refine isi_err (by k_asm) (by k_asm) (by k_asm) (by k_mem) ?_)))
local macro_rules | `(tactic| walk_at "subscriptTail") => `(tactic| ((with_reducible show wpAny _ _ (subscriptTail _ (PySem.Expr.Slice none (some _) none _) (Value.str (_ ++ _) _) (Value.ref _)) _ _ _); k_dflt (refine slice_err (s := ⟨_, _, _, _, _⟩) (by assumption) (by first | exact Or.inl rfl | exact Or.inr rfl) (by k_asm) (by k_asm) ?_ (by with_unfolding_all rfl) (by (intro _; with_unfolding_all rfl))); intro h' t' k' F' N'; (try k_sweep)))
local macro_rules | `(tactic| walk_at "compareOp NotEq ref ref") => `(tactic| (k_dflt (refine ne_words (by k_asm) (by k_mem) (by k_mem) (by assumption) (by assumption) (by assumption) (units_ok (k := 67) (by assumption) (by decide)) ?_)))
theorem size_of {xs : List Value} (h : xs.length < 200) : xs.toArray.size ≤ sizeLine := by
  have c6 : sizeLine = 16777216 := by decide
  rw [List.size_toArray]; omega
local macro_rules | `(tactic| walk_at "call builtin:list.append") => `(tactic| (k_dflt (refine append_K (by k_asm) (by k_asm) (by k_upd) ?_ (size_of (by assumption))); intro h' F' N'; (try k_sweep)))
local macro_rules | `(tactic| walk_at "Exists") => `(tactic| refine stop_ex ?_)
local macro_rules | `(tactic| walk_at "exec While Compare cons nil") => `(tactic| refine Stop.mk ?_)
/-- the places of the signs ahead of p, in order, as they are told -/
def toldAt (cps : List Nat) (q : Nat) : Nat × Nat × Nat := (lineAt cps q, colAt cps q, cps.getD q 0)
def toldTo (cps : List Nat) (p : Nat) : List (Nat × Nat × Nat) := ((List.range p).filter fun q => cps.getD q 0 != 10).map (toldAt cps)
def tripD (d : Nat × Nat × Nat) : Dat := .tuple [.int d.1, .int d.2.1, .str ⟨#[d.2.2]⟩]
theorem all_cons {l : List (Addr × Obj)} {vs : List Value} {d : Dat} {ds : List Dat} (h : DatAll l vs (d :: ds)) : ∃ v vs', vs = v :: vs' ∧ DatIn l v d ∧ DatAll l vs' ds := by
  cases h with | cons a b => exact ⟨_, _, rfl, a, b⟩
theorem all_nil {l : List (Addr × Obj)} {vs : List Value} (h : DatAll l vs []) : vs = [] := by cases h; rfl
theorem in_int {l : List (Addr × Obj)} {v : Value} {i : Int} (h : DatIn l v (.int i)) : ∃ t, v = .int i t := by cases h; exact ⟨_, rfl⟩
theorem in_str {l : List (Addr × Obj)} {v : Value} {x : Str} (h : DatIn l v (.str x)) : ∃ t, v = .str x t := by cases h; exact ⟨_, rfl⟩
theorem in_tuple {l : List (Addr × Obj)} {v : Value} {ds : List Dat} (h : DatIn l v (.tuple ds)) : ∃ a vs n, v = .ref a ∧ (a, ({ cls := .type "tuple", data := .seq vs.toArray n } : Obj)) ∈ l ∧ DatAll l vs ds := by
  cases h with | tuple a b => exact ⟨_, _, _, rfl, a, b⟩
theorem trip_inv {l : List (Addr × Obj)} {v : Value} {d : Nat × Nat × Nat} (h : DatIn l v (tripD d)) : ∃ a n t1 t2 t3, v = .ref a ∧ (a, ({ cls := .type "tuple", data := .seq #[.int ((d.1 : Nat) : Int) t1, .int ((d.2.1 : Nat) : Int) t2, .str ⟨#[d.2.2]⟩ t3] n } : Obj)) ∈ l := by
  obtain ⟨a, vs, n, e0, hm, k0⟩ := in_tuple h
  obtain ⟨v1, vs1, e1, h1, k1⟩ := all_cons k0
  obtain ⟨v2, vs2, e2, h2, k2⟩ := all_cons k1
  obtain ⟨v3, vs3, e3, h3, k3⟩ := all_cons k2
  rw [e1, e2, e3, all_nil k3] at hm
  obtain ⟨t1, f1⟩ := in_int h1
  obtain ⟨t2, f2⟩ := in_int h2
  obtain ⟨t3, f3⟩ := in_str h3
  rw [f1, f2, f3] at hm
  exact ⟨a, n, t1, t2, t3, e0, hm⟩
theorem lineAt_lt {cps : List Nat} {p n : Nat} (h : p < n) : lineAt cps p < n + 1 := by
  unfold lineAt
  have h1 := List.count_le_length (a := 10) (l := cps.take p)
  rw [List.length_take] at h1
  omega
theorem colAt_lt {cps : List Nat} {p n : Nat} (h : p < n) : colAt cps p < n + 1 := by
  unfold colAt behind
  have h1 := (List.takeWhile_sublist (fun x => x != 10) (l := (cps.take p).reverse)).length_le
  rw [List.length_reverse, List.length_take] at h1
  omega
theorem told_perm {a : Addr × Obj} {tab l : List (Addr × Obj)} {q : Addr × Obj} (h : q ∈ tab ++ a :: l) : q ∈ a :: (tab ++ l) := by
  rcases List.mem_append.mp h with h | h
  · exact .tail _ (List.mem_append.mpr (.inl h))
  · rcases List.mem_cons.mp h with rfl | h
    · exact .head _
    · exact .tail _ (List.mem_append.mpr (.inr h))
theorem told_perm2 {a b c : Addr × Obj} {tab l : List (Addr × Obj)} {q : Addr × Obj} (h : q ∈ a :: b :: c :: (tab ++ l)) : q ∈ a :: b :: (tab ++ c :: l) := by
  rcases List.mem_cons.mp h with rfl | h
  · exact .head _
  · rcases List.mem_cons.mp h with rfl | h
    · exact .tail _ (.head _)
    · refine .tail _ (.tail _ ?_)
      rcases List.mem_cons.mp h with rfl | h
      · exact List.mem_append.mpr (.inr (.head _))
      · exact (List.mem_append.mp h).elim (fun h => List.mem_append.mpr (.inl h)) fun h => List.mem_append.mpr (.inr (.tail _ h))
theorem toldTo_len (cps : List Nat) (p : Nat) : (toldTo cps p).length ≤ p := by
  unfold toldTo
  rw [List.length_map]
  exact Nat.le_trans (List.length_filter_le _ _) (by simp)
theorem toldTo_none {cps : List Nat} {p : Nat} (h : ∀ q, q < p → cps.getD q 0 = 10) : toldTo cps p = [] := by
  unfold toldTo
  rw [List.filter_eq_nil_iff.mpr (fun q hq => by rw [h q (by simpa using hq)]; simp)]
  rfl
theorem toldTo_step {cps : List Nat} {p : Nat} (h1 : cps.getD p 0 ≠ 10) : ∀ (k : Nat), (∀ q, p + 1 ≤ q → q < p + 1 + k → cps.getD q 0 = 10) → toldTo cps (p + 1 + k) = toldTo cps p ++ [toldAt cps p]
  | 0, _ => by
    unfold toldTo
    rw [Nat.add_zero, List.range_succ, List.filter_append, List.map_append]
    have : (cps.getD p 0 != 10) = true := by rw [bne_iff_ne]; exact h1
    rw [List.filter_cons, if_pos this]; rfl
  | k + 1, h => by
    rw [← toldTo_step h1 k (fun q a b => h q a (by omega))]
    unfold toldTo
    rw [show p + 1 + (k + 1) = (p + 1 + k) + 1 from rfl, List.range_succ, List.filter_append, List.map_append]
    have : ¬ (cps.getD (p + 1 + k) 0 != 10) = true := by rw [h (p + 1 + k) (by omega) (by omega)]; simp
    rw [List.filter_cons, if_neg this]; simp
theorem getD_of {l : Array Nat} {q : Nat} {v : Nat} (h : l[q]? = some v) : l.toList.getD q 0 = v := by
  rw [List.getD_eq_getElem?_getD, Array.getElem?_toList, h]; rfl
inductive ToldI (text : Str) (t1 : Tok) (fs : List Addr) (A : Around) (base : Heap) (fr : List Env) (w : World) (mean : ExcName → Option Value) (mg mb : Str → Option Value) (s : Shared) (g : Heap) (L' : Addr) (news : List (Addr × Obj)) (n : Nat) (s' : Shared) : Prop
  | mk (g1 h : Heap) (tk : Nat) (u : Str → Option Value) (lt : Addr) (vs : List Value) (ep : Nat) (tab tl : List (Addr × Obj)) (p : Nat) (t2 : Tok) (e1 : s' = { s with heap := h, toks := tk }) (e2 : n = text.length - p) (e3 : p ≤ text.length) (e4 : (p < text.length → text.cps.toList.getD p 0 ≠ 10)) (e5 : KtsTurn fs g g1) (e6 : Fr g1 L' h (fun y => if y = Str.ofString "pos" then some (.int (p : Int) t2) else if y = Str.ofString "told" then some (.ref lt) else if y = Str.ofString "text" then some (.str text t1) else u y)) (e7 : News g1 L' h ((lt, W.listOf vs.toArray ep) :: (tab ++ (tl ++ news)))) (e8 : TabSt tab) (e9 : (∀ p ∈ (lt, W.listOf vs.toArray ep) :: (tl ++ news), ∀ q ∈ tab, p.1 ≠ q.1)) (e10 : (∀ p ∈ tl ++ news, p.1 ≠ lt)) (e11 : DatAll tl vs ((toldTo text.cps.toList p).map tripD)) (e12 : (∀ q ∈ tl, ∃ vs n, q.2.data = .seq vs n)) (e13 : Below A base fr g1) (e14 : (Mine.hd.heap_39 w.params).In g1) (e15 : Top topProg (looseW Mine.hd.view_39 [Str.ofString "_filemode_table"] ++ List.map (fun x => x.name) (recsOf Mine.hd.view_39) ++ List.map (fun x => x.fst) (litsOf Mine.hd.view_39) ++ List.map (fun x => x.name) (clssOf Mine.hd.view_39 (looseW Mine.hd.view_39 [Str.ofString "_filemode_table"]))) mean mg mb g1) (e16 : KtsDicts fs g1) : ToldI text t1 fs A base fr w mean mg mb s g L' news n s'
theorem told_map {g h : Heap} {L : Addr} {m : Str → Option Value} {v1 v2 v3 : Value} (F : Fr g L h m) (e1 : m (Str.ofString "pos") = some v1) (e2 : m (Str.ofString "told") = some v2) (e3 : m (Str.ofString "text") = some v3) :
    Fr g L h (fun y => if y = Str.ofString "pos" then some v1 else if y = Str.ofString "told" then some v2 else if y = Str.ofString "text" then some v3 else m y) := by
  have e : (fun y => if y = Str.ofString "pos" then some v1 else if y = Str.ofString "told" then some v2 else if y = Str.ofString "text" then some v3 else m y) = m := by
    funext y
    by_cases h1 : y = Str.ofString "pos"
    · rw [if_pos h1, h1, e1]
    · rw [if_neg h1]
      by_cases h2 : y = Str.ofString "told"
      · rw [if_pos h2, h2, e2]
      · rw [if_neg h2]
        by_cases h3 : y = Str.ofString "text"
        · rw [if_pos h3, h3, e3]
        · rw [if_neg h3]
  rw [e]; exact F
theorem told_next {text : Str} {t1 : Tok} {fs : List Addr} {A : Around} {base : Heap} {fr : List Env} {w : World} {mean : ExcName → Option Value} {mg mb : Str → Option Value} {s : Shared} {g g2 g5 h9 : Heap} {L' : Addr} {news tl tab3 l9 : List (Addr × Obj)} {p p5 tk : Nat} {t5 ta tb tc : Tok} {m9 : Str → Option Value} {lt2 D9 : Addr} {vs : List Value} {ep ep9 : Nat}
    (F9 : Fr g5 L' h9 m9) (N9 : News g5 L' h9 l9) (e1 : m9 (Str.ofString "pos") = some (.int (p5 : Int) t5)) (e2 : m9 (Str.ofString "told") = some (.ref lt2)) (e3 : m9 (Str.ofString "text") = some (.str text t1))
    (hs : ∀ q ∈ (lt2, W.listOf (vs.toArray.push (.ref D9)) ep9) :: (D9, ({ cls := .type "tuple", data := .seq #[.int (lineAt text.cps.toList p : Int) ta, .int (colAt text.cps.toList p : Int) tb, .str (Txt.item text (p : Int)) tc] } : Obj)) :: (tab3 ++ (tl ++ news)), q ∈ l9)
    (hplt : p < text.length) (hn : text.cps.toList.getD p 0 ≠ 10) (hp5 : p + 1 ≤ p5) (hp5l : p5 ≤ text.length) (hnl5 : ∀ q, p + 1 ≤ q → q < p5 → text.cps[q]? = some 10) (hst5 : p5 < text.length → text.cps[p5]? ≠ some 10)
    (KT2 : KtsTurn fs g g2) (KT5 : KtsTurn fs g2 g5) (TS3 : TabSt tab3) (off3 : ∀ p ∈ (lt2, W.listOf vs.toArray ep) :: (tl ++ news), ∀ q ∈ tab3, p.1 ≠ q.1) (offl : ∀ p ∈ tl ++ news, p.1 ≠ lt2) (l1 : AllLt D9 (tab3 ++ (tl ++ news))) (l2 : @LT.lt Nat _ lt2 D9)
    (DA : DatAll tl vs ((toldTo text.cps.toList p).map tripD)) (TU : ∀ q ∈ tl, ∃ vs n, q.2.data = .seq vs n) (B5 : Below A base fr g5) (X5 : (Mine.hd.heap_39 w.params).In g5) (T5 : Top topProg (looseW Mine.hd.view_39 [Str.ofString "_filemode_table"] ++ List.map (fun x => x.name) (recsOf Mine.hd.view_39) ++ List.map (fun x => x.fst) (litsOf Mine.hd.view_39) ++ List.map (fun x => x.name) (clssOf Mine.hd.view_39 (looseW Mine.hd.view_39 [Str.ofString "_filemode_table"]))) mean mg mb g5) (D5 : KtsDicts fs g5) :
    ∃ n', n' < text.length - p ∧ ToldI text t1 fs A base fr w mean mg mb s g L' news n' { s with heap := h9, toks := tk } := by
  have lt := tb_ltOf l1
  refine ⟨text.length - p5, by omega, ⟨g5, h9, tk, m9, lt2, vs ++ [.ref D9], ep9, tab3, (D9, ({ cls := .type "tuple", data := .seq #[.int (lineAt text.cps.toList p : Int) ta, .int (colAt text.cps.toList p : Int) tb, .str (Txt.item text (p : Int)) tc] } : Obj)) :: tl, p5, t5, rfl, rfl, hp5l, ?_, KT2.trans KT5, told_map F9 e1 e2 e3, news_sub N9 (fun q hq => hs q ?_), TS3, ?_, ?_, ?_, (fun q hq => (List.mem_cons.mp hq).elim (fun e => e ▸ ⟨_, _, rfl⟩) (TU q)), B5, X5, T5, D5⟩⟩
  · intro h
    have h1 := hst5 h
    have h2 : p5 < text.cps.size := h
    rw [Array.getElem?_eq_getElem h2] at h1
    rw [List.getD_eq_getElem?_getD, Array.getElem?_toList, Array.getElem?_eq_getElem h2]
    intro h3; exact h1 (by simpa using h3)
  · rcases List.mem_cons.mp hq with rfl | hq
    · simp only [List.push_toArray]; exact .head _
    · refine .tail _ ?_
      rcases List.mem_append.mp hq with hq | hq
      · exact .tail _ (List.mem_append.mpr (.inl hq))
      · rcases List.mem_cons.mp hq with rfl | hq
        · exact .head _
        · exact .tail _ (List.mem_append.mpr (.inr hq))
  · intro p hp q hq
    rcases List.mem_cons.mp hp with rfl | hp
    · exact off3 (lt2, _) (.head _) q hq
    · rcases List.mem_cons.mp hp with rfl | hp
      · exact fun e => Nat.ne_of_lt (lt q (List.mem_append.mpr (.inl hq))) e.symm
      · exact off3 p (.tail _ hp) q hq
  · intro p hp
    rcases List.mem_cons.mp hp with rfl | hp
    · exact fun e => Nat.ne_of_lt l2 e.symm
    · exact offl p hp
  · have e : p5 = p + 1 + (p5 - (p + 1)) := by omega
    rw [e, toldTo_step hn (p5 - (p + 1)) (fun q a b => getD_of (hnl5 q a (by omega))), List.map_append]
    refine (DA.mono fun q hq => .tail _ hq).append (DatAll.one ?_)
    have hps : p < text.cps.size := hplt
    have e9 : Txt.item text (p : Int) = ⟨#[text.cps.toList.getD p 0]⟩ := by
      rw [item_at text p (by omega), List.getD_eq_getElem?_getD, Array.getElem?_toList, Array.getElem?_eq_getElem hps]; rfl
    rw [e9]
    exact DatIn.tuple (vs := [.int (lineAt text.cps.toList p : Int) ta, .int (colAt text.cps.toList p : Int) tb, .str ⟨#[text.cps.toList.getD p 0]⟩ tc]) (.head _) (.cons (.int _ _) (.cons (.int _ _) (.cons (.str _ _) .nil)))
set_option pp.deepTerms false
set_option pp.deepTerms.threshold 8
theorem told_ok {w : World} {mean : ExcName → Option Value} {mg mb : Str → Option Value}
  {dp un : Nat} {gd : Option (List Code)} {cn : Str} {cs : Scope} {a : Addr} {ccd : Value} {cl : List (Str × Addr)} {outer : List Env} {A₀ : Around} {base h₀ : Heap} {L : Addr} {m : Str → Option Value} {news : List (Addr × Obj)} {s : Shared}
  {Q E : Value → Shared → Prop}
  (B : Below A₀ base outer h₀) (F : Fr h₀ L s.heap m) (X : (Mine.hd.heap_39 w.params).In h₀) (N : News h₀ L s.heap news)
  (T : Top topProg (looseW Mine.hd.view_39 [Str.ofString "_filemode_table"] ++ List.map (fun x => x.name) (recsOf Mine.hd.view_39) ++
        List.map (fun x => x.fst) (litsOf Mine.hd.view_39) ++
      List.map (fun x => x.name) (clssOf Mine.hd.view_39 (looseW Mine.hd.view_39 [Str.ofString "_filemode_table"]))) mean mg mb h₀)
  (hk : cs.kind = .function) (hd : dp + 10 < recursionLimit) (hu : un + 100 < cLine)
  (XB : (Mine.hd.heap_39 w.params).In base)
  (TB : Top topProg (looseW Mine.hd.view_39 [Str.ofString "_filemode_table"] ++ List.map (fun x => x.name) (recsOf Mine.hd.view_39) ++
        List.map (fun x => x.fst) (litsOf Mine.hd.view_39) ++
      List.map (fun x => x.name) (clssOf Mine.hd.view_39 (looseW Mine.hd.view_39 [Str.ofString "_filemode_table"]))) mean mg mb base)
  (D : KtsDicts (outer.filterMap (·.frame)) h₀)
  (CH : CodeHd base 40 36) (tab : List (Addr × Obj)) (TS : TabSt tab) (Nt : News h₀ L s.heap (tab ++ news)) (off : ∀ p ∈ news, ∀ q ∈ tab, p.1 ≠ q.1)
  (text : Str) (t1 : Tok) (hl : text.length < 100) (h32 : ∀ c ∈ text.cps.toList, c ≠ 32 ∧ c < 128)
  (hret : ∀ lt vs ep tab' tl h' tk' h₀', TabSt tab' → (∀ p ∈ (lt, W.listOf vs.toArray ep) :: (tl ++ news), ∀ q ∈ tab', p.1 ≠ q.1) → (∀ p ∈ tl ++ news, p.1 ≠ lt) → DatAll tl vs ((toldTo text.cps.toList text.length).map tripD) → (∀ q ∈ tl, ∃ vs n, q.2.data = .seq vs n) →
     KtsTurn (outer.filterMap (·.frame)) h₀ h₀' → Fr h₀' L h' m → News h₀' L h' ((lt, W.listOf vs.toArray ep) :: (tab' ++ (tl ++ news))) → Below A₀ base outer h₀' → (Mine.hd.heap_39 w.params).In h₀' → Top topProg (looseW Mine.hd.view_39 [Str.ofString "_filemode_table"] ++ List.map (fun x => x.name) (recsOf Mine.hd.view_39) ++ List.map (fun x => x.fst) (litsOf Mine.hd.view_39) ++ List.map (fun x => x.name) (clssOf Mine.hd.view_39 (looseW Mine.hd.view_39 [Str.ofString "_filemode_table"]))) mean mg mb h₀' → KtsDicts (outer.filterMap (·.frame)) h₀' → Q (.ref lt) { s with heap := h', toks := tk' }) :
  wpAny (model PySem.Challenge.rw_oy0109_01.row.prog w) (ktrTop dp un gd cn cs L a ccd cl outer) (call (.ref 102) [.str text t1]) Q E s := by
  have hk0 : (PySem.Challenge.rw_oy0109_01 = PySem.Challenge.rw_oy0109_01) ∧ (Mine.hd.heap_39 = Mine.hd.heap_39) := by (k_fill; exact ⟨rfl, rfl⟩)
  clear hk0
  clear N
  refine wpAny_call ?_
  k_dflt (refine' enterS ?k1 ?k2 ?k3 ?k4 ?k5 ?XB ?TB ?D ?kA ?kF ?kK ?k6 ?k7 ?k8 ?k9 ?kB ?_ ?c2 ?c3 ?c4 ?c5; (case kA => exact rfl); (case kF => exact rfl); (case kK => assumption); (case XB => assumption); (case TB => assumption); (case D => assumption); (case k1 => k_asm); (case k2 => k_asm); (case k3 => k_asm); (case k4 => k_asm); (case k5 => k_asm); (case k6 => k_is); (case k7 => k_is); (case k8 => ktr_room); (case k9 => exact BindsTo.of_eq rfl); (case c5 => decide); (case kB => exact locs rfl); (case c2 => exact rfl); (case c3 => exact rfl); (case c4 => exact rfl); k_whole)
  intro g' L' h' FG' F' N' B' X' T' D' lt'
  dsimp only
  k_fold
  change Fr g' L' h' (fun y => List.lookup y [(Str.ofString "text", Value.str text t1)]) at F'
  k_steps
  rename_i lt hA l1 hB F2 N2
  refine Stop.go ?_
  k_dflt (refine' skip_ok ?B ?F ?X ?N ?T ?hk ?hd ?hu ?XB ?TB ?D _ _ _ _ _ 0 rfl ?hp ?hl ?_; (case B => k_asm); (case F => k_asm); (case X => k_asm); (case N => k_asm); (case T => k_asm); (case hk => exact rfl); (case hd => ktr_room); (case hu => (show un + 3 + 80 < cLine; omega)); (case XB => assumption); (case TB => assumption); (case D => assumption); (case hp => omega); (case hl => omega))
  intro p0 tp0 h0 tk0 g1 _ hp0 hnl0 hst0 KT1 F1 N1 B1 X1 T1 D1
  (try clear F'); (try clear N'); clear B' X' T' D' F2 N2
  k_steps
  refine Stop.go ?_
  refine while_genV (ToldI text t1 ((envX cn cs L a ccd cl :: outer).filterMap (·.frame)) (ktrTop dp un gd cn cs L a ccd cl outer) base (envX cn cs L a ccd cl :: outer) w mean mg mb s g' L' news) (n₀ := text.length - p0) ?init ?turn ?hE
  case hE => passes_own
  case init =>
    rename_i h3 F3 N3
    refine ⟨g1, h3, _, _, lt, [], 0, tab, [], p0, tp0, rfl, rfl, hp0, ?_, KT1, told_map F3 rfl rfl rfl, N3, TS, ?_, ?_, ?_, (fun _ h => nomatch h), B1, X1, T1, D1⟩
    · intro h
      have h1 := hst0 h
      have h2 : p0 < text.cps.size := h
      rw [Array.getElem?_eq_getElem h2] at h1
      rw [List.getD_eq_getElem?_getD, Array.getElem?_toList, Array.getElem?_eq_getElem h2]
      intro h3; exact h1 (by simpa using h3)
    · intro p hp q hq
      rcases List.mem_cons.mp hp with rfl | hp
      · exact fun e => Nat.ne_of_lt (l1 q (List.mem_append.mpr (.inl hq))) e.symm
      · exact off p hp q hq
    · intro p hp
      exact Nat.ne_of_lt (l1 p (List.mem_append.mpr (.inr hp)))
    · rw [toldTo_none fun q hq => getD_of (hnl0 q (Nat.zero_le _) hq)]
      exact .nil
  case turn =>
    rintro n s' ⟨g2, h2, tk2, u, lt2, vs, ep, tab2, tl, p, t2, rfl, rfl, hp, hnl, KT2, F2, N2, TS2, off2, offl, DA, TU, B2, X2, T2, D2⟩ K9 Q9 E9 hP9 hK9 hQ9 hE9
    clear hE9
    k_steps
    · refine Stop.go ?_
      have hplt : p < text.length := by omega
      k_dflt (refine' sfx_ok (news := (lt2, W.listOf vs.toArray ep) :: (tl ++ news)) ?B ?F ?X ?N ?T ?hk ?hd ?hu ?CH tab2 TS2 ?Nt off2 _ _ _ _ p hplt hl _ ?hx ?_; (case B => k_asm); (case F => k_asm); (case X => k_asm); (case T => k_asm); (case hk => exact rfl); (case CH => assumption); (case Nt => exact news_sub N2 (fun q hq => told_perm hq)); (case N => exact news_sub N2 (fun q hq => (List.mem_cons.mp hq).elim (fun e => e ▸ .head _) fun h => .tail _ (List.mem_append.mpr (.inr h)))); (case hx => exact rfl); (case hd => ktr_room); (case hu => (show un + 3 + 80 < cLine; omega)))
      intro e tp tab3 h3 tk3 t3 TS3 off3 ne3 F3 N3
      replace N3 := news_sub (l' := (e, errObj tp) :: (tp, tupObj [.str (errMsg (Txt.item text ↑p) (lineAt text.cps.toList p) (colAt text.cps.toList p)) t3]) :: (lt2, W.listOf vs.toArray ep) :: (tab3 ++ (tl ++ news))) N3 (fun q hq => told_perm2 hq)
      have ne_e : @Ne Nat lt2 e := (ne3 _ (.head _)).1
      have ne_tp : @Ne Nat lt2 tp := (ne3 _ (.head _)).2
      have hvl : vs.length < 200 := by
        have q1 := DA.length
        have q2 := toldTo_len text.cps.toList p
        rw [List.length_map] at q1
        omega
      have offs : ∀ q ∈ tab3 ++ (tl ++ news), q.1 ≠ lt2 := fun q hq => (List.mem_append.mp hq).elim (fun h => (off3 _ (.head _) q h).symm) (offl q)
      clear F2 N2
      have hx32 : 32 ∉ (Txt.item text ↑p).cps.toList := by
        rw [item_at text p (by omega)]
        intro h
        have hps : p < text.cps.size := hplt
        have h9 : 32 = text.cps[p]'hps := by simpa using h
        exact (h32 _ (Array.getElem_mem_toList hps)).1 h9.symm
      have hxok : PyData.strOk (Txt.item text ↑p) = true := by
        rw [item_at text p (by omega)]
        have hps : p < text.cps.size := hplt
        exact ok_one ⟨_, (h32 _ (Array.getElem_mem_toList hps)).2⟩
      have hln := lineAt_lt (cps := text.cps.toList) (p := p) (n := 127) (by omega)
      have hcl := colAt_lt (cps := text.cps.toList) (p := p) (n := 127) (by omega)
      k_steps
      refine Stop.go ?_
      rename_i D9 h9 l9 hA F9 N9
      k_dflt (refine' skip_ok ?B ?F ?X ?N ?T ?hk ?hd ?hu ?XB ?TB ?D _ _ _ _ _ (p + 1) ?hpi ?hp ?hl ?_; (case B => k_asm); (case F => k_asm); (case X => k_asm); (case N => k_asm); (case T => k_asm); (case hk => exact rfl); (case hd => ktr_room); (case hu => (show un + 3 + 80 < cLine; omega)); (case XB => assumption); (case TB => assumption); (case D => assumption); (case hp => omega); (case hl => omega); (case hpi => omega))
      intro p5 t5 h5 tk5 g5 hp5 hp5l hnl5 hst5 KT5 F5 N5 B5 X5 T5 D5
      clear F9 N9 B2 X2 T2 D2
      k_steps
      subst hK9
      rename_i h9 F9 N9
      exact told_next F9 N9 rfl rfl rfl (fun q hq => by
        rcases List.mem_cons.mp hq with rfl | hq
        · exact .tail _ (.tail _ (.tail _ (.tail _ (.tail _ (.tail _ (.head _))))))
        · rcases List.mem_cons.mp hq with rfl | hq
          · exact .head _
          · exact .tail _ (.tail _ (.tail _ (.tail _ (.tail _ (.tail _ (.tail _ hq))))))) hplt (hnl hplt) hp5 hp5l hnl5 hst5 KT2 KT5 TS3 off3 offl l9.2.2.2.2.2.2 l9.2.2.2.2.2.1 DA TU B5 X5 T5 D5
    · subst hQ9
      k_steps
      have hpe : p = text.length := by omega
      subst hpe
      (try dsimp only)
      (try k_unfold)
      refine ⟨g2, L', _, _, KT2, F2, N2, fun h₀' k1 k2 k3 k4 k5 k6 k7 => ?_⟩
      exact hret lt2 vs ep tab2 tl _ _ h₀' TS2 off2 offl DA TU k1 k2 k3 k4 k5 k6 k7
end
section
open PySem PySem.W PyProof.Rows PySem.Calls PySem.Spec
theorem calmHG {prog : Program} {w : World} {A : Around} {Q : Bool → Shared → Prop} {E : Value → Shared → Prop} {s : Shared} (h : Q true s) : wpAny (model prog w) A (truthy (.bool true)) Q E s := by
  w_top off
  walk1
  exact h
end
section
open PySem PySem.W PyProof.Rows PySem.Calls PySem.Spec
set_option maxRecDepth 100000
set_option maxHeartbeats 8000000
def parL (nums : List Int) : List Nat := (List.range nums.length).map fun j => (Int.fmod (nums.getD j 0) ((j + 1 : Nat) : Int)).toNat
def kinL (nums : List Int) : List Int := 4 :: (List.range nums.length).map fun j => Int.fmod (Int.fdiv (nums.getD j 0) ((j + 1 : Nat) : Int)) 16
theorem map_range_snoc {α : Type} (f : Int → Nat → α) (xs : List Int) (x : Int) : (List.range (xs ++ [x]).length).map (fun j => f ((xs ++ [x]).getD j 0) j) = (List.range xs.length).map (fun j => f (xs.getD j 0) j) ++ [f x xs.length] := by
  rw [List.length_append, List.length_singleton, List.range_succ, List.map_append]
  congr 1
  · refine List.map_congr_left fun j hj => ?_
    rw [List.getD_eq_getElem?_getD, List.getD_eq_getElem?_getD, List.getElem?_append_left (by simpa using hj)]
  · simp [List.getD_eq_getElem?_getD]
theorem parL_snoc (xs : List Int) (x : Int) : parL (xs ++ [x]) = parL xs ++ [(Int.fmod x ((xs.length + 1 : Nat) : Int)).toNat] := map_range_snoc (fun x j => (Int.fmod x ((j + 1 : Nat) : Int)).toNat) xs x
theorem kinL_snoc (xs : List Int) (x : Int) : kinL (xs ++ [x]) = kinL xs ++ [Int.fmod (Int.fdiv x ((xs.length + 1 : Nat) : Int)) 16] := by
  unfold kinL
  rw [map_range_snoc (fun x j => Int.fmod (Int.fdiv x ((j + 1 : Nat) : Int)) 16) xs x]; rfl
theorem parL_len (xs : List Int) : (parL xs).length = xs.length := by simp [parL]
theorem kinL_len (xs : List Int) : (kinL xs).length = xs.length + 1 := by simp [kinL]
def ValsAre (ns : List Nd) (ks : List Int) : Prop := ∀ (q : Nat) (n : Nd), ns[q]? = some n → ∃ t, n.v = .int (ks.getD q 0) t
theorem ValsAre.step {ns : List Nd} {ks : List Int} {p : Nat} {b c : Addr} {k : Int} {t : Tok} {e : Nat} (V : ValsAre ns ks) (hl : ns.length = ks.length) : ValsAre (addKid ns p b ++ [⟨b, c, .int k t, [], e⟩]) (ks ++ [k]) := by
  refine kid_all (P := fun q v => ∃ t, v = .int ((ks ++ [k]).getD q 0) t) (fun q n hq => ?_) ⟨t, by rw [hl, getD_last]⟩
  obtain ⟨t0, h0⟩ := V q n hq
  exact ⟨t0, by rw [h0, getD_old (hl ▸ get_ltN hq)]⟩
local macro_rules | `(tactic| walk_at "call builtin:len") => `(tactic| (k_dflt (refine len_mem (by k_asm) (by k_mem) (by assumption) ?_)))
local macro_rules | `(tactic| walk_at "subscriptTail") => `(tactic| refine stop_item ?_)
local macro_rules | `(tactic| walk_at "call builtin:list.append") => `(tactic| refine Stop.mk ?_)
set_option pp.deepTerms false
set_option pp.deepTerms.threshold 8
inductive HgI (l3 ln : Addr) (ws : List Value) (e0 : Nat) (rest : List (Addr × Obj)) (nums : List Int) (i : Nat) (m₁ : Str → Option Value) (nx : List (Addr × Obj)) : Prop
  | mk (ns : List Nd) (ep : Nat) (u : Str → Option Value) (e1 : nx = (l3, W.listOf (ns.map fun n => Value.ref n.a).toArray ep) :: (ledN ns ++ ((ln, W.listOf ws.toArray e0) :: rest))) (e2 : m₁ = (fun y => if y = Str.ofString "things" then some (.ref l3) else u y))
      (e3 : Shape ns (parL (nums.take i))) (e4 : Dist ns) (e5 : ValsAre ns (kinL (nums.take i))) (e6 : ∀ p ∈ ledN ns ++ ((ln, W.listOf ws.toArray e0) :: rest), p.1 ≠ l3) (e7 : ∀ p ∈ ledN ns, ∀ q ∈ ((ln, W.listOf ws.toArray e0) :: rest), q.1 ≠ p.1) : HgI l3 ln ws e0 rest nums i m₁ nx
theorem hung_ok {w : World} {mean : ExcName → Option Value} {mg mb : Str → Option Value}
  {dp un : Nat} {gd : Option (List Code)} {cn : Str} {cs : Scope} {a : Addr} {ccd : Value} {cl : List (Str × Addr)} {outer : List Env} {A₀ : Around} {base h₀ : Heap} {L : Addr} {m : Str → Option Value} {news : List (Addr × Obj)} {s : Shared}
  {Q E : Value → Shared → Prop}
  (B : Below A₀ base outer h₀) (F : Fr h₀ L s.heap m) (X : (Mine.hd.heap_39 w.params).In h₀) (N : News h₀ L s.heap news)
  (T : Top topProg (looseW Mine.hd.view_39 [Str.ofString "_filemode_table"] ++ List.map (fun x => x.name) (recsOf Mine.hd.view_39) ++
        List.map (fun x => x.fst) (litsOf Mine.hd.view_39) ++
      List.map (fun x => x.name) (clssOf Mine.hd.view_39 (looseW Mine.hd.view_39 [Str.ofString "_filemode_table"]))) mean mg mb h₀)
  (hk : cs.kind = .function) (hd : dp + 10 < recursionLimit) (hu : un + 100 < cLine)
  (ln : Addr) (ws : List Value) (e0 : Nat) (nums : List Int) (Nn : News h₀ L s.heap ((ln, W.listOf ws.toArray e0) :: news)) (IA : IntsAre ws nums) (hlen : nums.length ≤ 20)
  (hret : ∀ (ns : List Nd) n0 h' tk', ns[0]? = some n0 → Shape ns (parL nums) → Dist ns → ValsAre ns (kinL nums) → (∀ p ∈ ledN ns, ∀ q ∈ (ln, W.listOf ws.toArray e0) :: news, q.1 ≠ p.1) → Fr h₀ L h' m → News h₀ L h' (ledN ns ++ ((ln, W.listOf ws.toArray e0) :: news)) → Q (.ref n0.a) { s with heap := h', toks := tk' }) :
  wpAny (model PySem.Challenge.rw_oy0109_01.row.prog w) (ktrTop dp un gd cn cs L a ccd cl outer) (call (.ref 109) [.ref ln]) Q E s := by
  have hk0 : (PySem.Challenge.rw_oy0109_01 = PySem.Challenge.rw_oy0109_01) ∧ (Mine.hd.heap_39 = Mine.hd.heap_39) := by (k_fill; exact ⟨rfl, rfl⟩)
  clear hk0
  clear N
  refine wpAny_call ?_
  k_dflt ktr_enter
  k_steps
  rename IntsAre _ _ => IA
  rename_i l1 h1 lt1 l2 h2 lt2 l3 h3 lt3 h4 FF NN
  refine kdl_iter (HgI l3 ln ws e0 news nums) rfl (by k_mem) FF NN ?init ?turn ?done
  case init => 
    refine ⟨[⟨l2, l1, .int 4 _, [], 0⟩], 0, _, rfl, as_if rfl, ⟨rfl, fun j hj => absurd hj (Nat.not_lt_zero _), ?_⟩, ?_, ?_, ?_, ?_⟩
    · intro q n hq
      cases q with
      | zero => cases hq; rfl
      | succ q => cases hq
    · intro i j ni nj hi hj
      cases i with
      | succ i => cases hi
      | zero =>
        cases j with
        | succ j => cases hj
        | zero => cases hi; cases hj; exact ⟨fun e => Nat.ne_of_lt lt2.1 e.symm, fun z => absurd rfl z⟩
    · intro q n hq
      cases q with
      | zero => cases hq; exact ⟨_, rfl⟩
      | succ q => cases hq
    · intro p hp
      have l9 := tb_ltOf lt3.2.2.2
      rcases List.mem_cons.mp hp with rfl | hp
      · exact Nat.ne_of_lt lt3.1
      · rcases List.mem_cons.mp hp with rfl | hp
        · exact Nat.ne_of_lt lt3.2.1
        · rcases List.mem_cons.mp hp with rfl | hp
          · exact Nat.ne_of_lt lt3.2.2.1
          · exact Nat.ne_of_lt (l9 p hp)
    · intro p hp q hq
      have l8 := tb_ltOf lt1.2
      have l9 := tb_ltOf lt2.2.2
      rcases List.mem_cons.mp hp with rfl | hp
      · rcases List.mem_cons.mp hq with rfl | hq
        · exact Nat.ne_of_lt lt2.2.1
        · exact Nat.ne_of_lt (l9 q hq)
      · rw [List.mem_singleton.mp hp]
        rcases List.mem_cons.mp hq with rfl | hq
        · exact Nat.ne_of_lt lt1.1
        · exact Nat.ne_of_lt (l8 q hq)
  case turn =>
    rintro i v m₁ nx h tk own hv hoff hmem ⟨ns, ep, u, rfl, rfl, S, D, V, O1, O2⟩ F₁ N₁
    have hi : i < nums.length := by rw [← IA.length]; exact (List.getElem?_eq_some_iff.mp hv).1
    obtain ⟨tv, hx⟩ := IA.get i (nums[i]'hi) (List.getElem?_eq_getElem hi)
    have ev : v = .int (nums[i]'hi) tv := by rw [hx] at hv; exact (Option.some.inj hv).symm
    subst ev
    simp only [List.cons_append, List.append_assoc] at N₁
    clear FF NN
    refine veil fun Q0 E0 hQ0 => ?_
    have hnl0 : ns.length = i + 1 := by rw [S.len, parL_len, List.length_take]; omega
    have hnl : (ns.map fun n => Value.ref n.a).length < 1000 := by rw [List.length_map]; omega
    have hpos : 0 < (ns.map fun n => Value.ref n.a).length := by rw [List.length_map]; omega
    k_steps
    refine Stop.go ?_
    rename_i c h5 lt5 b h6 F6 N6 lt6 h7 F7 N7
    obtain ⟨tq, N7⟩ : ∃ tq, News _ _ h7 ((b, W.listOf #[Value.int ((nums[i].fdiv ((ns.map fun n => Value.ref n.a).length : Int)).fmod 16) tq, Value.ref c] 0) :: (c, W.listOf #[] 0) :: (l3, W.listOf (ns.map fun n => Value.ref n.a).toArray ep) :: (ledN ns ++ (ln, W.listOf ws.toArray e0) :: (news ++ own))) := ⟨_, N7⟩
    have em : (nums[i].fmod ((ns.map fun n => Value.ref n.a).length : Int)) = nums[i].fmod ((i + 1 : Nat) : Int) := by rw [List.length_map, hnl0]
    have hm0 : 0 ≤ nums[i].fmod ((i + 1 : Nat) : Int) := Int.fmod_nonneg_of_pos _ (by omega)
    have hm1 : nums[i].fmod ((i + 1 : Nat) : Int) < ((i + 1 : Nat) : Int) := Int.fmod_lt_of_pos _ (by omega)
    obtain ⟨p, hp⟩ : ∃ p : Nat, nums[i].fmod ((i + 1 : Nat) : Int) = (p : Int) := ⟨_, (Int.toNat_of_nonneg hm0).symm⟩
    have hpl : p < ns.length := by omega
    have hg : ns[p]? = some ns[p] := List.getElem?_eq_getElem hpl
    have hnm := List.mem_of_getElem? hg
    rw [em, hp]
    refine item_mem (v := .ref ns[p].a) N7 (.tail _ (.tail _ (.head _))) (Int.natCast_nonneg _) (i63 (Nat.lt_trans hpl (by rw [List.length_map] at hnl; exact hnl))) (by rw [Int.toNat_natCast, List.getElem?_map, hg]; rfl) ?_
    k_steps
    refine Stop.go ?_
    refine item_mem (vs := [ns[p].v, .ref ns[p].c]) (v := .ref ns[p].c) N7 (.tail _ (.tail _ (.tail _ (List.mem_append.mpr (.inl (ledN_a hnm)))))) (by decide) (by decide) rfl ?_
    refine listMethod_K N7 (.tail _ (.tail _ (.tail _ (List.mem_append.mpr (.inl (ledN_c hnm)))))) PySem.F.slot_list_append PySem.F.type_list_append ?_
    k_steps
    refine Stop.go ?_
    have hkl : ns[p].ch.length < 1000 := by
      rw [S.kids p ns[p] hg, List.length_map, kidsOf, List.length_map]
      refine Nat.lt_of_le_of_lt (List.length_filter_le _ _) ?_
      rw [List.length_range, parL_len, List.length_take]; omega
    have H : Hang ns p ns[p] b c l3 ep ((ln, W.listOf ws.toArray e0) :: news) own := ⟨D, hg, O1, O2, hoff, tb_ltOf lt6.2.2, tb_ltOf lt5.2, lt6.1, lt5.1⟩
    refine append_mem F7 N7 (.tail _ (.tail _ (.tail _ (List.mem_append.mpr (.inl (ledN_c hnm)))))) H.led1 ?_ (by rw [List.size_toArray, List.length_map]; exact size_okN hkl)
    intro h8 F8 N8
    k_steps
    refine Stop.go ?_
    refine append_mem F8 N8 (.tail _ (.tail _ (.head _))) H.led2 ?_ (by rw [List.size_toArray]; exact size_okN hnl)
    intro h9 F9 N9
    k_steps
    have et : nums.take (i + 1) = nums.take i ++ [nums[i]] := by rw [List.take_add_one, List.getElem?_eq_getElem hi]; rfl
    have elt : (nums.take i).length = i := by rw [List.length_take]; omega
    have ep' : parL (nums.take (i + 1)) = parL (nums.take i) ++ [p] := by rw [et, parL_snoc, elt, hp, Int.toNat_natCast]
    have ek' : kinL (nums.take (i + 1)) = kinL (nums.take i) ++ [(nums[i].fdiv ((ns.map fun n => Value.ref n.a).length : Int)).fmod 16] := by rw [et, kinL_snoc, elt, List.length_map, hnl0]
    subst hQ0
    refine ⟨_, _, _, _, ndL l3 (hung ns p b c _) (ep + 1) :: (ledN (hung ns p b c _) ++ ((ln, W.listOf ws.toArray e0) :: news)), rfl, F9, N9, H.s1, H.s2, H.s3, .tail _ (List.mem_append.mpr (.inr (.head _))), _, _, _, rfl, as_if rfl, ?s5, H.s6, ?s7, H.s8, H.s9⟩
    case s5 => rw [ep']; exact S.step hpl
    case s7 => rw [ek']; exact V.step (by rw [kinL_len, elt]; exact hnl0)
  case done =>
    rintro m₁ nx h tk ⟨ns, ep, u, rfl, rfl, S, D, V, O1, O2⟩ F₁ N₁
    clear FF NN
    k_steps
    refine Stop.go ?_
    have hn0 : 0 < ns.length := by rw [S.len]; omega
    have hg : ns[0]? = some ns[0] := List.getElem?_eq_getElem hn0
    refine item_mem (v := .ref ns[0].a) N₁ (.head _) (by omega) (by omega) (by rw [List.getElem?_map]; show (ns[0]?).map _ = _; rw [hg]; rfl) ?_
    k_steps
    rename_i kF kN kT kX
    rw [List.take_of_length_le (by rw [IA.length]; exact Nat.le_refl _)] at S V
    exact hret ns _ _ _ hg S D V O2 kF (news_sub kN fun q hq => .tail _ hq)
end
section
open PySem PySem.W PyProof.Rows PySem.Calls PySem.Spec
theorem calmNM {prog : Program} {w : World} {A : Around} {Q : Bool → Shared → Prop} {E : Value → Shared → Prop} {s : Shared} (h : Q true s) : wpAny (model prog w) A (truthy (.bool true)) Q E s := by
  w_top off
  walk1
  exact h
end
section
open PySem PySem.W PyProof.Rows PySem.Calls PySem.Spec
set_option maxRecDepth 100000
set_option maxHeartbeats 8000000
set_option pp.deepTerms false
set_option pp.deepTerms.threshold 6
theorem comp_grow {prog : Program} {w : World} {A : Around} {h₀ : Heap} {L : Addr} {m : Str → Option Value} {env : Env} {elt : PySem.Expr} {x : Str} {scope : Scope} {cl : List (Str × Addr)} {s : Shared} {S : List (Addr × Obj) → Prop} {P : Nat → Value → Prop} {Fin : List Value → List (Addr × Obj) → Prop} {news : List (Addr × Obj)} {n : Nat}
    (J : Nat → List Value → List (Addr × Obj) → Prop) (h0 : J 0 [] news)
    (turn : ∀ i v I oI C oC D m₂ ys nw h tk (E' : Value → Shared → Prop), i < n → P i v → J i ys nw → LCg.NsObj oC m₂ → m₂ x = some v → Fr h₀ L h m → News h₀ L h ((I, oI) :: (C, oC) :: (D, LCg.lst ys) :: nw) → LCg.Off3 I C D nw → ((@Ne Nat I C) ∧ (@Ne Nat I D) ∧ (@Ne Nat C D)) →
      wpAny (model prog w) A (eval elt (compEnvC scope cl C env)) (LCg.CompEnd h₀ L m { s with heap := h, toks := tk } I oI C oC D (LCg.lst ys) S (fun y nw' => J (i + 1) (ys ++ [y]) nw')) E' { s with heap := h, toks := tk })
    (fin : ∀ ys nw, J n ys nw → Fin ys nw) : LCg.CompRest prog w A h₀ L m env elt x scope cl s S P Fin n 0 [] news := by
  have key : ∀ (j i : Nat) (ys : List Value) (nw : List (Addr × Obj)), i + j = n → J i ys nw → LCg.CompRest prog w A h₀ L m env elt x scope cl s S P Fin j i ys nw := by
    intro j
    induction j with
    | zero =>
      intro i ys nw hi hy
      have e : i = n := by omega
      subst e
      exact LCg.CompRest.zero (fin ys nw hy)
    | succ j ih =>
      intro i ys nw hi hy
      refine LCg.CompRest.succ ?_
      intro v I oI C oC D m₂ h tk E' hv hC hx F N off ne
      refine wpAny_mono (turn i v I oI C oC D m₂ ys nw h tk E' (by omega) hv hy hC hx F N off ne) (fun y s₂ hq => ?_) fun _ _ e => e
      obtain ⟨h', tk', nw', e, F', N', off', hS, hn⟩ := hq
      exact ⟨h', tk', nw', e, F', N', off', hS, ih (i + 1) _ nw' (by omega) hn⟩
  exact key n 0 [] news (by omega) h0
/-- the datum of thing q of a tree: its sign, and those below -/
def treeD (ps : List Nat) (cs : List Nat) : Nat → Nat → Dat
  | 0, _ => .none
  | f + 1, q => .list [.str ⟨#[cs.getD q 0]⟩, .list ((kidsOf ps q).map (treeD ps cs f))]
def signOf (k : Int) : Nat := (Str.ofString "?pc?d?b?-?l?s???").cps.toList.getD k.toNat 0
def ValsAre' (ns : List Nd) (ks : List Int) : Prop := ∀ (q : Nat) (n : Nd), ns[q]? = some n → ∃ t, n.v = .int (ks.getD q 0) t
theorem kids_gt {ps : List Nat} {q k : Nat} (h : ∀ j, j < ps.length → ps.getD j 0 ≤ j) (hk : k ∈ kidsOf ps q) : q < k := by
  unfold kidsOf at hk
  obtain ⟨j, hj, rfl⟩ := List.mem_map.mp hk
  obtain ⟨h1, h2⟩ := List.mem_filter.mp hj
  have := h j (by simpa using h1)
  have := beq_iff_eq.mp h2
  omega
theorem sign_item {k : Int} (h0 : 0 ≤ k) (h1 : k < 16) : Txt.item (Str.ofString "?pc?d?b?-?l?s???") k = ⟨#[signOf k]⟩ := by
  obtain ⟨p, rfl⟩ := Int.eq_ofNat_of_zero_le h0
  have hl : (Str.ofString "?pc?d?b?-?l?s???").length = 16 := by decide
  rw [item_at _ p (by rw [hl]; omega)]
  unfold signOf
  rw [List.getD_eq_getElem?_getD, Array.getElem?_toList, Int.toNat_natCast, Array.getElem?_eq_getElem (by rw [show (Str.ofString "?pc?d?b?-?l?s???").cps.size = 16 from hl]; omega)]
  rfl
theorem off1_mem {D : Addr} : ∀ {l : List (Addr × Obj)}, LCg.Off1 D l → ∀ p ∈ l, p.1 ≠ D
  | [], _, _, h => nomatch h
  | _ :: _, x, p, h => by
    rcases List.mem_cons.mp h with rfl | h
    · exact x.1
    · exact off1_mem x.2 p h
def NamedT (f : Nat) : Prop := ∀ {w : World} {mean : ExcName → Option Value} {mg mb : Str → Option Value}
  {dp un : Nat} {gd : Option (List Code)} {cn : Str} {cs : Scope} {a : Addr} {ccd : Value} {cl : List (Str × Addr)} {outer : List Env} {A₀ : Around} {base h₀ : Heap} {L : Addr} {m : Str → Option Value} {news : List (Addr × Obj)} {s : Shared}
  {Q E : Value → Shared → Prop}
  (B : Below A₀ base outer h₀) (F : Fr h₀ L s.heap m) (X : (Mine.hd.heap_39 w.params).In h₀) (N : News h₀ L s.heap news)
  (T : Top topProg (looseW Mine.hd.view_39 [Str.ofString "_filemode_table"] ++ List.map (fun x => x.name) (recsOf Mine.hd.view_39) ++
        List.map (fun x => x.fst) (litsOf Mine.hd.view_39) ++
      List.map (fun x => x.name) (clssOf Mine.hd.view_39 (looseW Mine.hd.view_39 [Str.ofString "_filemode_table"]))) mean mg mb h₀)
  (hk : cs.kind = .function)
  (ns : List Nd) (ps : List Nat) (ks : List Int) (Sh : Shape ns ps) (V : ValsAre' ns ks) (hks : ∀ k ∈ ks, 0 ≤ k ∧ k < 16) (hkl : ks.length = ns.length) (hm : ∀ p ∈ ledN ns, p ∈ news) (q : Nat) (n : Nd) (hq : ns[q]? = some n) (hf : ns.length ≤ q + f) (hnl : ns.length < 1000)
  (hd : dp + 5 + f < recursionLimit) (hu : un + 80 + 20 * f < cLine)
  (hret : ∀ v tl h' tk', DatIn tl v (treeD ps (ks.map signOf) f q) → Fr h₀ L h' m → News h₀ L h' (tl ++ news) → (∀ p ∈ tl, ∀ q ∈ news, p.1 ≠ q.1) → Q v { s with heap := h', toks := tk' }),
  wpAny (model PySem.Challenge.rw_oy0109_01.row.prog w) (ktrTop dp un gd cn cs L a ccd cl outer) (call (.ref 114) [.ref n.a]) Q E s
local macro_rules | `(tactic| walk_at "subscriptTail") => `(tactic| refine stop_item ?_)
local macro_rules | `(tactic| walk_at "eval ListComp") => `(tactic| refine Stop.mk ?_)
local macro_rules | `(tactic| walk_at "CompSrc") => `(tactic| refine Stop.mk ?_)
local macro_rules | `(tactic| walk_at "call ref") => `(tactic| refine stop_call 114 ?_)
theorem named_step (f : Nat) (ih : NamedT f) : NamedT (f + 1) := by
  intro w mean mg mb dp un gd cn cs a ccd cl outer A₀ base h₀ L m news s Q E B F X N T hk ns ps ks Sh V hks hkl hm q n hq hf hnl hd hu hret
  have hk0 : (PySem.Challenge.rw_oy0109_01 = PySem.Challenge.rw_oy0109_01) ∧ (Mine.hd.heap_39 = Mine.hd.heap_39) := by (k_fill; exact ⟨rfl, rfl⟩)
  clear hk0
  refine wpAny_call ?_
  k_dflt ktr_enter
  have hnm := List.mem_of_getElem? hq
  have hql : q < ns.length := (List.getElem?_eq_some_iff.mp hq).1
  obtain ⟨tv, hv⟩ := V q n hq
  have hkq : ks.getD q 0 ∈ ks := by
    rw [List.getD_eq_getElem?_getD, List.getElem?_eq_getElem (by omega)]
    exact List.getElem_mem _
  have hk0 := (hks _ hkq).1
  have hk1 := (hks _ hkq).2
  have me_a := hm _ (ledN_a hnm)
  have me_c := hm _ (ledN_c hnm)
  rw [hv] at me_a
  generalize hkg : ks.getD q 0 = kq at *
  k_steps
  refine Stop.go ?_
  rename News _ _ _ _ => N1
  refine item_mem (vs := [.int kq tv, .ref n.c]) N1 me_a (by omega) (by omega) rfl ?_
  k_steps
  refine Stop.go ?_
  refine LCg.ListComp_U (F₀ := by k_asm) (by with_unfolding_all rfl) (by decide) (by rfl) (by decide) (by rfl) ?_
  k_steps
  refine Stop.go ?_
  rename News _ _ _ _ => N2
  refine item_mem (vs := [.int kq tv, .ref n.c]) N2 me_a (by omega) (by omega) rfl ?_
  k_steps
  refine Stop.go ?_
  rename News _ _ _ _ => N3
  rename Fr _ _ _ _ => F3
  have hch := Sh.kids q n hq
  have hsz : (n.ch.map Value.ref).toArray.size ≤ sizeLine := by
    rw [List.size_toArray, List.length_map, hch, List.length_map, kidsOf, List.length_map]
    refine size_okN (Nat.lt_of_le_of_lt (List.length_filter_le _ _) ?_)
    rw [List.length_range]
    have := Sh.len
    omega
  refine LCg.CompSrc.ledger rfl F3 N3 me_c hsz ?_
  intro g2
  refine comp_grow (fun i ys nw => ∃ tl, nw = tl ++ news ∧ DatAll tl ys (((kidsOf ps q).take i).map (treeD ps (ks.map signOf) f)) ∧ (∀ p ∈ tl, ∀ r ∈ news, p.1 ≠ r.1)) ⟨[], rfl, .nil, fun _ h => nomatch h⟩ ?turn ?fin
  case turn =>
    rintro i v I oI C oC D m₂ ys nw h4 tk4 E' hi hPv ⟨tl, rfl, DA, fr⟩ hC hx F4 N4 off4 ne4
    have hil : i < (kidsOf ps q).length := by
      rw [List.size_toArray, List.length_map, hch, List.length_map] at hi; exact hi
    have hkm := List.getElem_mem hil
    generalize hkd : (kidsOf ps q)[i] = kd at hkm
    have hkl2 := (kidsOf_le hkm).2
    have hSl := Sh.len
    have hkdl : kd < ns.length := by omega
    have hqk : q < kd := kids_gt Sh.par hkm
    have hgk : ns[kd]? = some ns[kd] := List.getElem?_eq_getElem hkdl
    have hve : v = .ref ns[kd].a := by
      have e1 : (n.ch.map Value.ref)[i]? = some v := by simpa using hPv
      rw [hch, List.getElem?_map, List.getElem?_map, List.getElem?_eq_getElem hil, hkd] at e1
      rw [← Option.some.inj e1]
      show Value.ref ((List.map Nd.a ns).getD kd 0) = _
      rw [List.getD_eq_getElem?_getD, List.getElem?_map, hgk]; rfl
    subst hve
    k_steps
    refine Stop.go ?_
    rename Fr _ _ _ _ => F5
    rename News _ _ _ _ => N5
    refine' ih ?B F5 ?X N5 ?T ?hk ns ps ks Sh V hks hkl ?hm kd ns[kd] hgk (by omega) hnl ?hd ?hu ?_
    case B => k_asm
    case X => k_asm
    case T => k_asm
    case hk => exact rfl
    case hd => show dp + 1 + 5 + f < recursionLimit; omega
    case hu => show un + 3 + 80 + 20 * f < cLine; omega
    case hm => exact fun p hp => .tail _ (.tail _ (.tail _ (List.mem_append.mpr (.inr (hm p hp)))))
    intro v tl' h6 tk6 Dv F6 N6 fr6
    refine LCg.CompEnd.intro F6 N6 (tl' ++ (tl ++ news)) ?sub ?off (.inr ⟨_, List.mem_append.mpr (.inr (List.mem_append.mpr (.inr me_c))), rfl, _, rfl⟩) ⟨tl' ++ tl, by rw [List.append_assoc], ?da, ?fr⟩
    case sub =>
      intro p hp
      rcases List.mem_cons.mp hp with rfl | hp
      · exact List.mem_append.mpr (.inr (.head _))
      · rcases List.mem_cons.mp hp with rfl | hp
        · exact List.mem_append.mpr (.inr (.tail _ (.head _)))
        · rcases List.mem_cons.mp hp with rfl | hp
          · exact List.mem_append.mpr (.inr (.tail _ (.tail _ (.head _))))
          · rcases List.mem_append.mp hp with hp | hp
            · exact List.mem_append.mpr (.inl hp)
            · exact List.mem_append.mpr (.inr (.tail _ (.tail _ (.tail _ hp))))
    case off =>
      refine LCg.Off3.of fun p hp => ?_
      rcases List.mem_append.mp hp with hp | hp
      · exact ⟨fr6 p hp _ (.head _), fr6 p hp _ (.tail _ (.head _)), fr6 p hp _ (.tail _ (.tail _ (.head _)))⟩
      · exact off4.mem p hp
    case da =>
      rw [List.take_add_one, List.getElem?_eq_getElem hil, hkd, List.map_append]
      exact (DA.mono fun p hp => List.mem_append.mpr (.inr hp)).append (DatAll.one (Dv.mono fun p hp => List.mem_append.mpr (.inl hp)))
    case fr =>
      intro p hp r hr
      rcases List.mem_append.mp hp with hp | hp
      · exact fr6 p hp r (.tail _ (.tail _ (.tail _ (List.mem_append.mpr (.inr hr)))))
      · exact fr p hp r hr
  case fin =>
    rintro ys nw ⟨tl, rfl, DA, fr⟩
    k_steps
    rename LCg.Off1 _ _ => o1
    rename _ ∧ AllLt _ _ => l9
    rename_i kF kN kT kX
    refine hret _ ((_, W.listOf #[.str (Txt.item (Str.ofString "?pc?d?b?-?l?s???") kq) _, .ref _] 0) :: (_, LCg.lst ys) :: tl) _ _ ?d kF kN ?fr
    case d =>
      rw [sign_item hk0 hk1]
      have eq0 : (ks.map signOf).getD q 0 = signOf kq := by
        rw [List.getD_eq_getElem?_getD, List.getElem?_map, List.getElem?_eq_getElem (by omega : q < ks.length)]
        rw [← hkg, List.getD_eq_getElem?_getD, List.getElem?_eq_getElem (by omega : q < ks.length)]
        rfl
      unfold treeD
      rw [eq0]
      have eT : (kidsOf ps q).take (List.map Value.ref n.ch).toArray.size = kidsOf ps q := List.take_of_length_le (by rw [List.size_toArray, List.length_map, hch, List.length_map]; exact Nat.le_refl _)
      rw [eT] at DA
      exact DatIn.list (vs := [.str ⟨#[signOf kq]⟩ _, .ref _]) (.head _) (.cons (.str _ _) (.cons (DatIn.list (.tail _ (.head _)) (DA.mono fun p hp => .tail _ (.tail _ hp))) .nil))
    case fr =>
      intro p hp r hr
      rcases List.mem_cons.mp hp with rfl | hp
      · exact fun e => Nat.ne_of_lt (tb_ltOf l9.2 r (List.mem_append.mpr (.inr hr))) e.symm
      · rcases List.mem_cons.mp hp with rfl | hp
        · exact fun e => off1_mem o1 r (List.mem_append.mpr (.inr hr)) e.symm
        · exact fr p hp r hr
theorem named_zero : NamedT 0 := by
  intro w mean mg mb dp un gd cn cs a ccd cl outer A₀ base h₀ L m news s Q E B F X N T hk ns ps ks Sh V hks hkl hm q n hq hf hnl hd hu hret
  have := (List.getElem?_eq_some_iff.mp hq).1
  omega
theorem named_ok (f : Nat) : NamedT f := by
  induction f with
  | zero => exact named_zero
  | succ f ih => exact named_step f ih
end
section
open PySem PySem.W PyProof.Rows PySem.Calls PySem.Spec
theorem calmGR {prog : Program} {w : World} {A : Around} {Q : Bool → Shared → Prop} {E : Value → Shared → Prop} {s : Shared} (h : Q true s) : wpAny (model prog w) A (truthy (.bool true)) Q E s := by
  w_top off
  walk1
  exact h
end
section
open PySem PySem.W PyProof.Rows PySem.Calls PySem.Spec
set_option maxRecDepth 100000
set_option maxHeartbeats 8000000
def StrsV (ns : List Nd) (cs : List Nat) : Prop := ∀ (q : Nat) (n : Nd), ns[q]? = some n → ∃ t, n.v = .str ⟨#[cs.getD q 0]⟩ t
theorem StrsV.step {ns : List Nd} {cs : List Nat} {p : Nat} {b c : Addr} {k : Nat} {t : Tok} {e : Nat} (V : StrsV ns cs) (hl : ns.length = cs.length) : StrsV (addKid ns p b ++ [⟨b, c, .str ⟨#[k]⟩ t, [], e⟩]) (cs ++ [k]) := by
  refine kid_all (P := fun q v => ∃ t, v = .str ⟨#[(cs ++ [k]).getD q 0]⟩ t) (fun q n hq => ?_) ⟨t, by rw [hl, getD_last]⟩
  obtain ⟨t0, h0⟩ := V q n hq
  exact ⟨t0, by rw [h0, getD_old (hl ▸ get_ltN hq)]⟩
def parT (ts : List (Nat × Nat × Nat)) : List Nat := ts.map fun d => d.1 - 1
def sgnT (ts : List (Nat × Nat × Nat)) : List Nat := 100 :: ts.map fun d => d.2.2
local macro_rules | `(tactic| walk_at "subscriptTail") => `(tactic| refine stop_item ?_)
local macro_rules | `(tactic| walk_at "call builtin:list.append") => `(tactic| refine Stop.mk ?_)
local macro_rules | `(tactic| walk_at "exec For") => `(tactic| ((with_reducible show wpAny _ _ (exec (Stmt.For (Expr.Tuple _ _ _) _ _ [] _) _) _ _ _); refine wpAny_For ?_ (by intro _; rfl)))
local macro_rules | `(tactic| walk_at "pyIter ref") => `(tactic| refine stop_iterC ?_)
set_option pp.deepTerms false
set_option pp.deepTerms.threshold 6
inductive GrI (l3 ln : Addr) (ws : List Value) (e0 : Nat) (rest : List (Addr × Obj)) (ts : List (Nat × Nat × Nat)) (i : Nat) (m₁ : Str → Option Value) (nx : List (Addr × Obj)) : Prop
  | mk (ns : List Nd) (ep : Nat) (u : Str → Option Value) (e1 : nx = (l3, W.listOf (ns.map fun n => Value.ref n.a).toArray ep) :: (ledN ns ++ ((ln, W.listOf ws.toArray e0) :: rest))) (e2 : m₁ = (fun y => if y = Str.ofString "things" then some (.ref l3) else u y))
      (e3 : Shape ns (parT (ts.take i))) (e4 : Dist ns) (e5 : StrsV ns (sgnT (ts.take i))) (e6 : ∀ p ∈ ledN ns ++ ((ln, W.listOf ws.toArray e0) :: rest), p.1 ≠ l3) (e7 : ∀ p ∈ ledN ns, ∀ q ∈ ((ln, W.listOf ws.toArray e0) :: rest), q.1 ≠ p.1) : GrI l3 ln ws e0 rest ts i m₁ nx
theorem grown_ok {w : World} {mean : ExcName → Option Value} {mg mb : Str → Option Value}
  {dp un : Nat} {gd : Option (List Code)} {cn : Str} {cs : Scope} {a : Addr} {ccd : Value} {cl : List (Str × Addr)} {outer : List Env} {A₀ : Around} {base h₀ : Heap} {L : Addr} {m : Str → Option Value} {news : List (Addr × Obj)} {s : Shared}
  {Q E : Value → Shared → Prop}
  (B : Below A₀ base outer h₀) (F : Fr h₀ L s.heap m) (X : (Mine.hd.heap_39 w.params).In h₀) (N : News h₀ L s.heap news)
  (T : Top topProg (looseW Mine.hd.view_39 [Str.ofString "_filemode_table"] ++ List.map (fun x => x.name) (recsOf Mine.hd.view_39) ++
        List.map (fun x => x.fst) (litsOf Mine.hd.view_39) ++
      List.map (fun x => x.name) (clssOf Mine.hd.view_39 (looseW Mine.hd.view_39 [Str.ofString "_filemode_table"]))) mean mg mb h₀)
  (hk : cs.kind = .function) (hd : dp + 10 < recursionLimit) (hu : un + 100 < cLine)
  (ln : Addr) (ws : List Value) (e0 : Nat) (ts : List (Nat × Nat × Nat)) (rest : List (Addr × Obj)) (hnews : news = (ln, W.listOf ws.toArray e0) :: rest) (DA : DatAll rest ws (ts.map tripD)) (hlen : ts.length ≤ 20) (hpar : ∀ j, j < ts.length → 1 ≤ (ts.getD j (0, 0, 0)).1 ∧ (ts.getD j (0, 0, 0)).1 ≤ j + 1)
  (hret : ∀ (ns : List Nd) n0 h' tk', ns[0]? = some n0 → Shape ns (parT ts) → Dist ns → StrsV ns (sgnT ts) → (∀ p ∈ ledN ns, ∀ q ∈ news, q.1 ≠ p.1) → Fr h₀ L h' m → News h₀ L h' (ledN ns ++ news) → Q (.ref n0.a) { s with heap := h', toks := tk' }) :
  wpAny (model PySem.Challenge.rw_oy0109_01.row.prog w) (ktrTop dp un gd cn cs L a ccd cl outer) (call (.ref 121) [.ref ln]) Q E s := by
  subst hnews
  have hk0 : (PySem.Challenge.rw_oy0109_01 = PySem.Challenge.rw_oy0109_01) ∧ (Mine.hd.heap_39 = Mine.hd.heap_39) := by (k_fill; exact ⟨rfl, rfl⟩)
  clear hk0
  refine wpAny_call ?_
  k_dflt ktr_enter
  k_steps
  refine Stop.go ?_
  rename_i l1 h1 lt1 l2 h2 lt2 l3 h3 lt3 h4 FF NN
  have hwl : ws.length = ts.length := by have := DA.length; rw [List.length_map] at this; exact this
  refine list_for (GrI l3 ln ws e0 rest ts) rfl (by k_mem) FF NN ?init ?turn ?done
  case init => 
    refine ⟨[⟨l2, l1, .str (Str.ofString "d") _, [], 0⟩], 0, _, rfl, as_if rfl, ⟨rfl, fun j hj => absurd hj (Nat.not_lt_zero _), ?_⟩, ?_, ?_, ?_, ?_⟩
    · intro q n hq
      cases q with
      | zero => cases hq; rfl
      | succ q => cases hq
    · intro i j ni nj hi hj
      cases i with
      | succ i => cases hi
      | zero =>
        cases j with
        | succ j => cases hj
        | zero => cases hi; cases hj; exact ⟨fun e => Nat.ne_of_lt lt2.1 e.symm, fun z => absurd rfl z⟩
    · intro q n hq
      cases q with
      | zero => cases hq; exact ⟨_, rfl⟩
      | succ q => cases hq
    · intro p hp
      have l9 := tb_ltOf lt3.2.2.2
      rcases List.mem_cons.mp hp with rfl | hp
      · exact Nat.ne_of_lt lt3.1
      · rcases List.mem_cons.mp hp with rfl | hp
        · exact Nat.ne_of_lt lt3.2.1
        · rcases List.mem_cons.mp hp with rfl | hp
          · exact Nat.ne_of_lt lt3.2.2.1
          · exact Nat.ne_of_lt (l9 p hp)
    · intro p hp q hq
      have l8 := tb_ltOf lt1.2
      have l9 := tb_ltOf lt2.2.2
      rcases List.mem_cons.mp hp with rfl | hp
      · rcases List.mem_cons.mp hq with rfl | hq
        · exact Nat.ne_of_lt lt2.2.1
        · exact Nat.ne_of_lt (l9 q hq)
      · rw [List.mem_singleton.mp hp]
        rcases List.mem_cons.mp hq with rfl | hq
        · exact Nat.ne_of_lt lt1.1
        · exact Nat.ne_of_lt (l8 q hq)
  case done =>
    rintro m₁ nx h tk _ ⟨ns, ep, u, rfl, rfl, S, D, V, O1, O2⟩ F₁ N₁
    clear FF NN
    k_steps
    refine Stop.go ?_
    have hn0 : 0 < ns.length := by rw [S.len]; omega
    have hg : ns[0]? = some ns[0] := List.getElem?_eq_getElem hn0
    refine item_mem (v := .ref ns[0].a) N₁ (.head _) (by omega) (by omega) (by rw [List.getElem?_map]; show (ns[0]?).map _ = _; rw [hg]; rfl) ?_
    k_steps
    rename_i kF kN kT kX
    rw [List.take_of_length_le (by rw [hwl]; exact Nat.le_refl _)] at S V
    exact hret ns _ _ _ hg S D V O2 kF (news_sub kN fun q hq => .tail _ hq)
  case turn =>
    rintro i v m₁ nx h tk own hv hoff _ ⟨ns, ep, u, rfl, rfl, S, D, V, O1, O2⟩ F₁ N₁ K9 E9 hK9
    have hi : i < ts.length := by rw [← hwl]; exact (List.getElem?_eq_some_iff.mp hv).1
    obtain ⟨v2, hv2, Dv⟩ := DA.get (k := i) (by rw [List.length_map]; exact hi)
    have ev : v = v2 := by rw [hv] at hv2; exact Option.some.inj hv2
    subst ev
    rw [List.getElem_map] at Dv
    have hgd : ts.getD i (0, 0, 0) = ts[i] := by rw [List.getD_eq_getElem?_getD, List.getElem?_eq_getElem hi]; rfl
    have hpi := hpar i hi
    rw [hgd] at hpi
    obtain ⟨aT, nT, t1, t2, t3, rfl, hT⟩ := trip_inv Dv
    clear Dv
    generalize hti : ts[i] = d at *
    obtain ⟨li, co, sg⟩ := d
    simp only [List.cons_append, List.append_assoc] at N₁
    clear FF NN
    have hTup : IsTup h aT #[.int ((li : Nat) : Int) t1, .int ((co : Nat) : Int) t2, .str ⟨#[sg]⟩ t3] := ⟨_, (N₁ _ (.tail _ (List.mem_append.mpr (.inr (.tail _ (List.mem_append.mpr (.inl hT)))))) ).1, rfl, _, rfl⟩
    have hnl0 : ns.length = i + 1 := by rw [S.len, parT, List.length_map, List.length_take]; omega
    have hnl : (ns.map fun n => Value.ref n.a).length < 1000 := by rw [List.length_map]; omega
    k_steps
    refine Stop.go ?_
    rename_i hz tz c h5 lt5 b h6 lt6 h7 F7 N7
    have hpl : li - 1 < ns.length := by omega
    obtain ⟨p, hp⟩ : ∃ p : Nat, p = li - 1 := ⟨_, rfl⟩
    have hpI : ((li : Nat) : Int) - 1 = (p : Int) := by omega
    rw [← hp] at hpl
    have hg : ns[p]? = some ns[p] := List.getElem?_eq_getElem hpl
    have hnm := List.mem_of_getElem? hg
    rw [hpI]
    obtain ⟨tq, N7⟩ : ∃ tq, News _ _ h7 ((b, W.listOf #[Value.str ⟨#[sg]⟩ tq, Value.ref c] 0) :: (c, W.listOf #[] 0) :: (l3, W.listOf (ns.map fun n => Value.ref n.a).toArray ep) :: (ledN ns ++ (ln, W.listOf ws.toArray e0) :: (rest ++ own))) := ⟨_, N7⟩
    refine item_mem (v := .ref ns[p].a) N7 (.tail _ (.tail _ (.head _))) (Int.natCast_nonneg _) (i63 (Nat.lt_trans hpl (by rw [List.length_map] at hnl; exact hnl))) (by rw [Int.toNat_natCast, List.getElem?_map, hg]; rfl) ?_
    k_steps
    refine Stop.go ?_
    refine item_mem (vs := [ns[p].v, .ref ns[p].c]) (v := .ref ns[p].c) N7 (.tail _ (.tail _ (.tail _ (List.mem_append.mpr (.inl (ledN_a hnm)))))) (by decide) (by decide) rfl ?_
    refine listMethod_K N7 (.tail _ (.tail _ (.tail _ (List.mem_append.mpr (.inl (ledN_c hnm)))))) PySem.F.slot_list_append PySem.F.type_list_append ?_
    k_steps
    refine Stop.go ?_
    have hkl : ns[p].ch.length < 1000 := by
      rw [S.kids p ns[p] hg, List.length_map, kidsOf, List.length_map]
      refine Nat.lt_of_le_of_lt (List.length_filter_le _ _) ?_
      rw [List.length_range, parT, List.length_map, List.length_take]; omega
    have H : Hang ns p ns[p] b c l3 ep ((ln, W.listOf ws.toArray e0) :: rest) own := ⟨D, hg, O1, O2, hoff, tb_ltOf lt6.2.2, tb_ltOf lt5.2, lt6.1, lt5.1⟩
    refine append_mem F7 N7 (.tail _ (.tail _ (.tail _ (List.mem_append.mpr (.inl (ledN_c hnm)))))) H.led1 ?_ (by rw [List.size_toArray, List.length_map]; exact size_okN hkl)
    intro h8 F8 N8
    k_steps
    refine Stop.go ?_
    refine append_mem F8 N8 (.tail _ (.tail _ (.head _))) H.led2 ?_ (by rw [List.size_toArray]; exact size_okN hnl)
    intro h9 F9 N9
    k_steps
    have et : ts.take (i + 1) = ts.take i ++ [(li, co, sg)] := by rw [List.take_add_one, List.getElem?_eq_getElem hi, hti]; rfl
    have elt : (ts.take i).length = i := by rw [List.length_take]; omega
    have ep' : parT (ts.take (i + 1)) = parT (ts.take i) ++ [p] := by rw [et, hp]; unfold parT; rw [List.map_append]; rfl
    have ek' : sgnT (ts.take (i + 1)) = sgnT (ts.take i) ++ [sg] := by rw [et]; unfold sgnT; rw [List.map_append]; rfl
    subst hK9
    refine ⟨_, _, _, _, ndL l3 (hung ns p b c _) (ep + 1) :: (ledN (hung ns p b c _) ++ ((ln, W.listOf ws.toArray e0) :: rest)), rfl, F9, N9, H.s1, H.s2, H.s3, .tail _ (List.mem_append.mpr (.inr (.head _))), _, _, _, rfl, as_if rfl, ?s5, H.s6, ?s7, H.s8, H.s9⟩
    case s5 => rw [ep']; exact S.step hpl
    case s7 => rw [ek']; exact V.step (by rw [hnl0]; unfold sgnT; rw [List.length_cons, List.length_map, elt])
end
section
open PySem PySem.W PyProof.Rows PySem.Calls PySem.Spec
theorem calmFM {prog : Program} {w : World} {A : Around} {Q : Bool → Shared → Prop} {E : Value → Shared → Prop} {s : Shared} (h : Q true s) : wpAny (model prog w) A (truthy (.bool true)) Q E s := by
  w_top off
  walk1
  exact h
end
section
open PySem PySem.W PyProof.Rows PySem.Calls PySem.Spec
set_option maxRecDepth 100000
set_option maxHeartbeats 8000000
set_option pp.deepTerms false
set_option pp.deepTerms.threshold 6
local macro_rules | `(tactic| walk_at "call type:enumerate") => `(tactic| refine Stop.mk ?_)
local macro_rules | `(tactic| walk_at "exec For") => `(tactic| ((with_reducible show wpAny _ _ (exec (Stmt.For (Expr.Tuple _ _ _) _ _ (_ :: _) _) _) _ _ _); refine wpAny_For ?_ (by intro _; rfl)))
local macro_rules | `(tactic| walk_at "pyIter ref") => `(tactic| refine stop_iterC ?_)
theorem size_ofF {xs : List Value} (h : xs.length < 200) : xs.toArray.size ≤ sizeLine := by
  have c6 : sizeLine = 16777216 := by decide
  rw [List.size_toArray]; omega
local macro_rules | `(tactic| walk_at "call builtin:list.append") => `(tactic| (k_dflt (refine append_K (by k_asm) (by k_asm) (by k_upd) ?_ (size_ofF (by assumption))); intro h' F' N'; (try k_sweep)))
local macro_rules | `(tactic| walk_at "call builtin:str.join") => `(tactic| refine Stop.mk ?_)
def permL (k : Nat) : List Nat := ((Str.ofString "?pc?d?b?-?l?s???").cps.toList.getD k 0) :: (Str.ofString "rw-r--r--").cps.toList
def ChsAre (vs : List Value) (cs : List Nat) : Prop := StrsAre vs (cs.map fun c => (⟨#[c]⟩ : Str))
theorem permL_len (k : Nat) : (permL k).length = 10 := rfl
theorem fm_weight (k : Nat) : ((permL k).map ((fun x => x.length) ∘ fun c => (⟨#[c]⟩ : Str))).sum + ((permL k).map fun c => (⟨#[c]⟩ : Str)).length ≤ 1048576 := by
  rw [List.length_map, permL_len]
  unfold permL
  rw [List.map_cons]
  show 1 + _ + 10 ≤ _
  decide
theorem strs_snoc {vs : List Value} {xs : List Str} {x : Str} {t : Tok} (h : StrsAre vs xs) : StrsAre (vs ++ [.str x t]) (xs ++ [x]) := by
  induction h with
  | nil => exact .cons _ _ .nil
  | cons y t _ ih => exact .cons _ _ ih
theorem strs_len {vs : List Value} {xs : List Str} (h : StrsAre vs xs) : vs.length = xs.length := by
  induction h with
  | nil => rfl
  | cons y t _ ih => rw [List.length_cons, List.length_cons, ih]
theorem chs_snoc {vs : List Value} {k i c : Nat} {x : Str} {t : Tok} (hi : i < 10) (C : ChsAre vs ((permL k).take i)) (hx : x = ⟨#[c]⟩) (hc : (permL k).getD i 0 = c) : ChsAre (vs ++ [.str x t]) ((permL k).take (i + 1)) := by
  have e : (permL k).take (i + 1) = (permL k).take i ++ [c] := by
    rw [List.take_add_one]
    have h9 : (permL k)[i]? = some ((permL k)[i]'(by rw [permL_len]; exact hi)) := List.getElem?_eq_getElem _
    rw [List.getD_eq_getElem?_getD, h9] at hc
    rw [h9, show (permL k)[i]'(by rw [permL_len]; exact hi) = c from hc]; rfl
  unfold ChsAre at C ⊢
  rw [e, List.map_append, hx]
  exact strs_snoc C
def fmT : List (List (Int × Nat)) := [[(40960, 108), (49152, 115), (32768, 45), (24576, 98), (16384, 100), (8192, 99), (4096, 112)], [(256, 114)], [(128, 119)], [(2112, 115), (2048, 83), (64, 120)], [(32, 114)], [(16, 119)], [(1032, 115), (1024, 83), (8, 120)], [(4, 114)], [(2, 119)], [(513, 116), (512, 84), (1, 120)]]
def bitOf (i j : Nat) : Int := ((fmT.getD i []).getD j (0, 0)).1
def chOf (i j : Nat) : Nat := ((fmT.getD i []).getD j (0, 0)).2
def lenOf (i : Nat) : Nat := (fmT.getD i []).length
def hitZ (mi : Int) (q : Nat) : Bool := decide (Builtin.bitAnd mi 61440 = bitOf 0 q)
def hitR (mi : Int) (i q : Nat) : Bool := decide (Builtin.bitAnd mi (bitOf i q) = bitOf i q)
theorem fm_hitZ {k j : Nat} (hk : k < 16) (hj : j < 7) (h : hitZ (4096 * (k : Int) + 420) j = true) : (permL k).getD 0 0 = chOf 0 j := (by decide +kernel : ∀ k, k < 16 → ∀ j, j < 7 → hitZ (4096 * ((k : Nat) : Int) + 420) j = true → (permL k).getD 0 0 = chOf 0 j) k hk j hj h
theorem fm_noZ {k : Nat} (hk : k < 16) (h : ∀ q, q < 7 → hitZ (4096 * (k : Int) + 420) q = false) : (permL k).getD 0 0 = 63 := (by decide +kernel : ∀ k, k < 16 → (∀ q, q < 7 → hitZ (4096 * ((k : Nat) : Int) + 420) q = false) → (permL k).getD 0 0 = 63) k hk h
set_option synthInstance.maxSize 2000 in
set_option synthInstance.maxHeartbeats 400000 in
theorem fm_hitR {k i j : Nat} (hk : k < 16) (hi : i < 10) (h0 : 0 < i) (hj : j < lenOf i) (hn : ∀ q, q < j → hitR (4096 * (k : Int) + 420) i q = false) (h : hitR (4096 * (k : Int) + 420) i j = true) : (permL k).getD i 0 = chOf i j :=
  (by decide +kernel : ∀ k, k < 16 → ∀ i, i < 10 → 0 < i → ∀ j, j < lenOf i → (∀ q, q < j → hitR (4096 * ((k : Nat) : Int) + 420) i q = false) → hitR (4096 * ((k : Nat) : Int) + 420) i j = true → (permL k).getD i 0 = chOf i j) k hk i hi h0 j hj hn h
set_option synthInstance.maxSize 2000 in
set_option synthInstance.maxHeartbeats 400000 in
theorem fm_noR {k i : Nat} (hk : k < 16) (hi : i < 10) (h0 : 0 < i) (hn : ∀ q, q < lenOf i → hitR (4096 * (k : Int) + 420) i q = false) : (permL k).getD i 0 = 45 :=
  (by decide +kernel : ∀ k, k < 16 → ∀ i, i < 10 → 0 < i → (∀ q, q < lenOf i → hitR (4096 * ((k : Nat) : Int) + 420) i q = false) → (permL k).getD i 0 = 45) k hk i hi h0 hn
theorem upto10 {i : Nat} (h : i < 10) : i = 0 ∨ i = 1 ∨ i = 2 ∨ i = 3 ∨ i = 4 ∨ i = 5 ∨ i = 6 ∨ i = 7 ∨ i = 8 ∨ i = 9 := (by decide : ∀ i, i < 10 → (i = 0 ∨ i = 1 ∨ i = 2 ∨ i = 3 ∨ i = 4 ∨ i = 5 ∨ i = 6 ∨ i = 7 ∨ i = 8 ∨ i = 9)) i h
theorem nil_get {α : Type} {l : List α} {j : Nat} {x : α} {P : Prop} (h : l[j]? = some x) (hl : l.length ≤ j) : P := by
  rw [List.getElem?_eq_none hl] at h; cases h
def PairOK (K : Frag) (i j : Nat) (u : Value) : Prop := ∃ (pa : Addr) (lo2 : Obj) (n2 : Nat) (b : Int) (x : Str) (tb tc : Tok), u = .ref pa ∧ K.lookup pa = some lo2 ∧ lo2.cls = .type "tuple" ∧ lo2.data = .seq #[.int b tb, .str x tc] n2 ∧ b = bitOf i j ∧ x = ⟨#[chOf i j]⟩
def TabOK (K : Frag) (i : Nat) (v : Value) : Prop := ∃ (ta : Addr) (lo : Obj) (n : Nat) (items : List Value), v = .ref ta ∧ K.lookup ta = some lo ∧ lo.cls = .type "tuple" ∧ lo.data = .seq items.toArray n ∧ items.length = lenOf i ∧ ∀ j u, items[j]? = some u → PairOK K i j u
theorem pair_mk {K : Frag} {i j : Nat} {pa : Addr} {lo2 : Obj} {n2 : Nat} {b : Int} {x : Str} {tb tc : Tok} (hk : K.lookup pa = some lo2) (hc : lo2.cls = .type "tuple") (hd : lo2.data = .seq #[.int b tb, .str x tc] n2) (hb : b = bitOf i j) (hx : x = ⟨#[chOf i j]⟩) : PairOK K i j (.ref pa) := ⟨pa, lo2, n2, b, x, tb, tc, rfl, hk, hc, hd, hb, hx⟩
theorem tab_mk {K : Frag} {i : Nat} {ta : Addr} {lo : Obj} {n : Nat} {items : List Value} (hk : K.lookup ta = some lo) (hc : lo.cls = .type "tuple") (hd : lo.data = .seq items.toArray n) (hl : items.length = lenOf i) (h : ∀ j u, items[j]? = some u → PairOK K i j u) : TabOK K i (.ref ta) := ⟨ta, lo, n, items, rfl, hk, hc, hd, hl, h⟩
inductive FmJ (pl : Addr) (news : List (Addr × Obj)) (mi : Int) (t1 : Tok) (k i : Nat) (m₁ : Str → Option Value) (nx : List (Addr × Obj)) : Prop
  | mk (ep : Nat) (vs : List Value) (u : Str → Option Value) (e1 : nx = (pl, W.listOf vs.toArray ep) :: news) (e2 : m₁ = (fun y => if y = Str.ofString "perm" then some (.ref pl) else if y = Str.ofString "mode" then some (.int mi t1) else u y)) (e3 : ChsAre vs ((permL k).take i)) : FmJ pl news mi t1 k i m₁ nx
inductive FmI (pl : Addr) (lst : List (Addr × Obj)) (mi : Int) (t1 t2 : Tok) (k i : Nat) (hit : Nat → Bool) (j : Nat) (m₁ : Str → Option Value) (nx : List (Addr × Obj)) : Prop
  | mk (u : Str → Option Value) (e1 : nx = lst) (e2 : m₁ = (fun y => if y = Str.ofString "perm" then some (.ref pl) else if y = Str.ofString "mode" then some (.int mi t1) else if y = Str.ofString "index" then some (.int (i : Int) t2) else u y)) (e3 : ∀ q, q < j → hit q = false) : FmI pl lst mi t1 t2 k i hit j m₁ nx
theorem fm_map2 {m : Str → Option Value} {v1 v2 : Value} (e1 : m (Str.ofString "perm") = some v1) (e2 : m (Str.ofString "mode") = some v2) : m = fun y => if y = Str.ofString "perm" then some v1 else if y = Str.ofString "mode" then some v2 else m y := by
  funext y
  repeat' split
  all_goals first | rfl | (subst_vars; first | exact e1 | exact e2)
theorem fm_map3 {m : Str → Option Value} {v1 v2 v3 : Value} (e1 : m (Str.ofString "perm") = some v1) (e2 : m (Str.ofString "mode") = some v2) (e3 : m (Str.ofString "index") = some v3) : m = fun y => if y = Str.ofString "perm" then some v1 else if y = Str.ofString "mode" then some v2 else if y = Str.ofString "index" then some v3 else m y := by
  funext y
  repeat' split
  all_goals first | rfl | (subst_vars; first | exact e1 | exact e2 | exact e3)
theorem no_succ {hit : Nat → Bool} {j : Nat} (h : ∀ q, q < j → hit q = false) (h1 : hit j = false) : ∀ q, q < j + 1 → hit q = false := fun q hq => by
  by_cases e : q < j
  · exact h q e
  · rw [show q = j by omega]; exact h1
section
variable {g h : Heap} {L pl : Addr} {m9 : Str → Option Value} {news own own2 l : List (Addr × Obj)} {mi : Int} {t1 t2 : Tok} {k i j ep tk : Nat} {hit : Nat → Bool} {o : Obj} {vs : List Value} {x : Value} {s1 : Shared}
theorem fm_in (F9 : Fr g L h m9) (N9 : News g L h ((pl, o) :: (news ++ own ++ own2))) (e1 : m9 (Str.ofString "perm") = some (.ref pl)) (e2 : m9 (Str.ofString "mode") = some (.int mi t1)) (e3 : m9 (Str.ofString "index") = some (.int (i : Int) t2))
    (hoff : OwnOff own2 (((pl, o) :: (news ++ own)).map (·.1))) (hno : ∀ q, q < j + 1 → hit q = false) : InvEndG g L (FmI pl ((pl, o) :: (news ++ own)) mi t1 t2 k i hit (j + 1)) own2 s1 { s1 with heap := h, toks := tk } :=
  ⟨h, tk, m9, _, _, rfl, F9, N9, fun p hp => (List.mem_cons.mp hp).elim (fun e => e ▸ .head _) fun h => .tail _ (List.mem_append.mpr (.inl h)), fun p hp => .tail _ (List.mem_append.mpr (.inr hp)), hoff, ⟨m9, rfl, fm_map3 e1 e2 e3, hno⟩⟩
theorem fm_out (F9 : Fr g L h m9) (N9 : News g L h ((pl, W.listOf (vs.toArray.push x) (ep + 1)) :: l)) (e1 : m9 (Str.ofString "perm") = some (.ref pl)) (e2 : m9 (Str.ofString "mode") = some (.int mi t1))
    (hoff : OwnOff own (((pl, o) :: news).map (·.1))) (hs : ∀ p ∈ news ++ own, p ∈ l) (C : ChsAre (vs ++ [x]) ((permL k).take (i + 1))) : InvEndG g L (FmJ pl news mi t1 k (i + 1)) own s1 { s1 with heap := h, toks := tk } :=
  ⟨h, tk, m9, _, (pl, W.listOf (vs ++ [x]).toArray (ep + 1)) :: news, rfl, F9, N9, fun p hp => (List.mem_cons.mp hp).elim (fun e => by rw [e]; simp) fun h => .tail _ (hs p (List.mem_append.mpr (.inl h))), fun p hp => .tail _ (hs p (List.mem_append.mpr (.inr hp))), hoff, ⟨ep + 1, vs ++ [x], m9, rfl, fm_map2 e1 e2, C⟩⟩
end
theorem fm_ok {w : World} {mean : ExcName → Option Value} {mg mb : Str → Option Value}
  {dp un : Nat} {gd : Option (List Code)} {cn : Str} {cs : Scope} {a : Addr} {ccd : Value} {cl : List (Str × Addr)} {outer : List Env} {A₀ : Around} {base h₀ : Heap} {L : Addr} {m : Str → Option Value} {news : List (Addr × Obj)} {s : Shared}
  {Q E : Value → Shared → Prop}
  (B : Below A₀ base outer h₀) (F : Fr h₀ L s.heap m) (X : (Mine.hd.heap_39 w.params).In h₀) (N : News h₀ L s.heap news)
  (T : Top topProg (looseW Mine.hd.view_39 [Str.ofString "_filemode_table"] ++ List.map (fun x => x.name) (recsOf Mine.hd.view_39) ++
        List.map (fun x => x.fst) (litsOf Mine.hd.view_39) ++
      List.map (fun x => x.name) (clssOf Mine.hd.view_39 (looseW Mine.hd.view_39 [Str.ofString "_filemode_table"]))) mean mg mb h₀)
  (hk : cs.kind = .function) (hd : dp + 5 < recursionLimit) (hu : un + 80 < cLine)
  (k : Nat) (hk16 : k < 16) (mi : Int) (hmi : mi = 4096 * (k : Int) + 420) (t1 : Tok) 
  (hret : ∀ t h' tk', Fr h₀ L h' m → News h₀ L h' news → Q (.str ⟨(permL k).toArray⟩ t) { s with heap := h', toks := tk' }) :
  wpAny (model PySem.Challenge.rw_oy0109_01.row.prog w) (ktrTop dp un gd cn cs L a ccd cl outer) (call (.ref 88) [.int mi t1]) Q E s := by
  have hk0 : (PySem.Challenge.rw_oy0109_01 = PySem.Challenge.rw_oy0109_01) ∧ (Mine.hd.heap_39 = Mine.hd.heap_39) := by (k_fill; exact ⟨rfl, rfl⟩)
  clear hk0
  refine wpAny_call ?_
  k_dflt ktr_enter
  k_steps
  refine Stop.go ?_
  rename_i g' L' h1 FG B' X' T' tk1 pl h2 l1 h3 F2 N2
  refine enum_tup (FmJ pl news mi t1 k) rfl F2 N2 X' (by k_is) rfl rfl ⟨0, [], _, rfl, fm_map2 rfl rfl, StrsAre.nil⟩ ?hJm ?turn ?done
  case hJm =>
    rintro i m₁ nx ⟨ep, vs, u, rfl, _⟩
    rfl
  case done =>
    rintro m₁ nx h tk ⟨ep, vs, u, rfl, rfl, C⟩ F3 N3
    k_steps
    refine Stop.go ?_
    have C' : ChsAre vs (permL k) := by
      have e : (permL k).take 10 = permL k := List.take_of_length_le (Nat.le_of_eq (permL_len k))
      rw [← e]; exact C
    refine join_listW (items := vs.toArray) ⟨_, (N3 _ (.head _)).1, rfl, _, rfl⟩ (by rw [List.toList_toArray]; exact C') (by decide) (by rw [List.map_map]; exact fm_weight k) ?_
    intro t9 k9
    rw [join_chs]
    k_steps
    rename_i kF kN kT kX
    exact hret _ _ _ kF (news_sub kN fun p hp => .tail _ hp)
  case turn =>
    rintro i t v m₁ nx h tk own hv hoff ⟨ep, vs, u, rfl, rfl, C⟩ F3 N3
    have hi10 : i < 10 := (List.getElem?_eq_some_iff.mp hv).1
    have hvl : vs.length < 200 := by
      rw [strs_len C, List.length_map, List.length_take, permL_len]; exact Nat.lt_of_le_of_lt (Nat.min_le_right _ _) (by decide)
    simp only [List.cons_append] at N3
    have offs : ∀ q ∈ news ++ own, q.1 ≠ pl := fun q hq => (List.mem_append.mp hq).elim (fun h => Nat.ne_of_lt (l1 q h)) fun h => hoff q h _ (.head _)
    obtain ⟨ta, lo, n, items, rfl, hk, hc, hd, hlen, hit⟩ : TabOK (Mine.hd.heap_39 w.params) i v := by
      clear hoff C F3 N3 offs
      rcases upto10 hi10 with rfl | rfl | rfl | rfl | rfl | rfl | rfl | rfl | rfl | rfl
      all_goals
        obtain rfl := Option.some.inj hv
        refine tab_mk (by k_is) rfl rfl rfl ?_
        intro j u hu
        repeat (first | exact nil_get hu (Nat.le_add_left _ _) | (rcases j with _ | j; (focus (obtain rfl := Option.some.inj hu; exact pair_mk (by k_is) rfl rfl rfl (by decide)))))
    refine veilQ fun Qa hQa => ?_
    dsimp only
    k_steps
    refine Stop.go ?_
    by_cases hi0 : i = 0
    · subst hi0
      refine tup_else (FmI pl ((pl, W.listOf vs.toArray ep) :: (news ++ own)) mi t1 t k 0 (hitZ mi)) rfl F3 N3 X' hk hc hd ⟨_, rfl, fm_map3 rfl rfl rfl, fun q hq => absurd hq (Nat.not_lt_zero q)⟩ ?turn2 ?done2
      case done2 =>
        rintro m₁ nx h tk ⟨u2, rfl, rfl, hno⟩ F4 N4
        dsimp only
        k_steps
        subst hQa
        rename Fr _ _ _ _ => F9
        rename News _ _ _ _ => N9
        exact fm_out F9 N9 rfl rfl hoff (fun p hp => hp) (chs_snoc (by decide) C rfl (fm_noZ hk16 (fun q hq => by have z := hno q (by rw [hlen]; exact hq); rw [hmi] at z; exact z)))
      case turn2 =>
        rintro j v m₁ nx h tk own2 hv2 hoff2 ⟨u2, rfl, rfl, hno⟩ F4 N4 K9 E9 hK9
        dsimp only
        simp only [List.cons_append] at N4
        have offs2 : ∀ q ∈ news ++ own ++ own2, q.1 ≠ pl := fun q hq => (List.mem_append.mp hq).elim (offs q) fun h => hoff2 q h _ (.head _)
        obtain ⟨pa, lo2, n2, b, x, tb, tc, rfl, hk2, hc2, hd2, hb, hx⟩ := hit j v hv2
        refine unpackK F4 N4 X' hk2 hc2 hd2 rfl rfl rfl ?_
        intro h5 F5 N5
        clear F4 N4
        k_steps
        · subst hK9
          k_steps
          subst hQa
          rename Fr _ _ _ _ => F9
          rename News _ _ _ _ => N9
          have hz : hitZ (4096 * (k : Int) + 420) j = true := by rw [← hmi]; exact decide_eq_true (by rw [← hb]; assumption)
          exact fm_out F9 N9 rfl rfl hoff (fun p hp => List.mem_append.mpr (.inl hp)) (chs_snoc (by decide) C hx (fm_hitZ hk16 (by have z := get_ltN hv2; rw [hlen] at z; exact z) hz))
        · subst hK9
          rename Fr _ _ _ _ => F9
          rename News _ _ _ _ => N9
          exact fm_in F9 N9 rfl rfl rfl hoff2 (no_succ hno (decide_eq_false (by rw [← hb]; assumption)))
    · refine tup_else (FmI pl ((pl, W.listOf vs.toArray ep) :: (news ++ own)) mi t1 t k i (hitR mi i)) rfl F3 N3 X' hk hc hd ⟨_, rfl, fm_map3 rfl rfl rfl, fun q hq => absurd hq (Nat.not_lt_zero q)⟩ ?turn2 ?done2
      case done2 =>
        rintro m₁ nx h tk ⟨u2, rfl, rfl, hno⟩ F4 N4
        dsimp only
        k_steps
        · exfalso; omega
        · subst hQa
          rename Fr _ _ _ _ => F9
          rename News _ _ _ _ => N9
          exact fm_out F9 N9 rfl rfl hoff (fun p hp => hp) (chs_snoc hi10 C rfl (fm_noR hk16 hi10 (Nat.pos_of_ne_zero hi0) (fun q hq => by have z := hno q (by rw [hlen]; exact hq); rw [hmi] at z; exact z)))
      case turn2 =>
        rintro j v m₁ nx h tk own2 hv2 hoff2 ⟨u2, rfl, rfl, hno⟩ F4 N4 K9 E9 hK9
        dsimp only
        simp only [List.cons_append] at N4
        have offs2 : ∀ q ∈ news ++ own ++ own2, q.1 ≠ pl := fun q hq => (List.mem_append.mp hq).elim (offs q) fun h => hoff2 q h _ (.head _)
        obtain ⟨pa, lo2, n2, b, x, tb, tc, rfl, hk2, hc2, hd2, hb, hx⟩ := hit j v hv2
        refine unpackK F4 N4 X' hk2 hc2 hd2 rfl rfl rfl ?_
        intro h5 F5 N5
        clear F4 N4
        k_steps
        all_goals try (exfalso; omega)
        · subst hK9
          k_steps
          subst hQa
          rename Fr _ _ _ _ => F9
          rename News _ _ _ _ => N9
          have hz : hitR (4096 * (k : Int) + 420) i j = true := by rw [← hmi]; exact decide_eq_true (by rw [← hb]; assumption)
          exact fm_out F9 N9 rfl rfl hoff (fun p hp => List.mem_append.mpr (.inl hp)) (chs_snoc hi10 C hx (fm_hitR hk16 hi10 (Nat.pos_of_ne_zero hi0) (by have z := get_ltN hv2; rw [hlen] at z; exact z) (by rw [hmi] at hno; exact hno) hz))
        · subst hK9
          rename Fr _ _ _ _ => F9
          rename News _ _ _ _ => N9
          exact fm_in F9 N9 rfl rfl rfl hoff2 (no_succ hno (decide_eq_false (by rw [← hb]; assumption)))
end
section
open PySem PySem.W PyProof.Rows PySem.Calls PySem.Spec
theorem calmSL {prog : Program} {w : World} {A : Around} {Q : Bool → Shared → Prop} {E : Value → Shared → Prop} {s : Shared} (h : Q true s) : wpAny (model prog w) A (truthy (.bool true)) Q E s := by
  w_top off
  walk1
  exact h
end
section
open PySem PySem.W PyProof.Rows PySem.Calls PySem.Spec
set_option maxRecDepth 100000
set_option maxHeartbeats 8000000
set_option pp.deepTerms false
set_option pp.deepTerms.threshold 6
local macro_rules | `(tactic| walk_at "exec While Compare cons nil") => `(tactic| refine Stop.mk ?_)
local macro_rules | `(tactic| walk_at "exec While Constant cons nil") => `(tactic| refine Stop.mk ?_)
local macro_rules | `(tactic| walk_at "subscriptTail") => `(tactic| refine stop_item ?_)
theorem get_nat {vs : List Value} {i : Nat} {v : Value} (h : vs[i]? = some v) : vs[((i : Int)).toNat]? = some v := h
theorem size_ofS {xs : List Value} (h : xs.length < 200) : xs.toArray.size ≤ sizeLine := by
  have c6 : sizeLine = 16777216 := by decide
  rw [List.size_toArray]; omega
local macro_rules | `(tactic| walk_at "call builtin:list.append") => `(tactic| (k_dflt (refine append_K (by k_asm) (by k_asm) (by k_upd) ?_ (size_ofS (by assumption))); intro h' F' N'; (try k_sweep)))
theorem sl_map {g h : Heap} {L : Addr} {m : Str → Option Value} {v1 v2 v3 v4 v5 v6 : Value} (F : Fr g L h m) (e1 : m (Str.ofString "j") = some v1) (e2 : m (Str.ofString "i") = some v2) (e3 : m (Str.ofString "missing") = some v3) (e4 : m (Str.ofString "unexpected") = some v4) (e5 : m (Str.ofString "expected") = some v5) (e6 : m (Str.ofString "actual") = some v6) :
    Fr g L h (fun y => if y = Str.ofString "j" then some v1 else if y = Str.ofString "i" then some v2 else if y = Str.ofString "missing" then some v3 else if y = Str.ofString "unexpected" then some v4 else if y = Str.ofString "expected" then some v5 else if y = Str.ofString "actual" then some v6 else m y) := by
  have e : (fun y => if y = Str.ofString "j" then some v1 else if y = Str.ofString "i" then some v2 else if y = Str.ofString "missing" then some v3 else if y = Str.ofString "unexpected" then some v4 else if y = Str.ofString "expected" then some v5 else if y = Str.ofString "actual" then some v6 else m y) = m := by
    funext y
    repeat' split
    all_goals first | rfl | (subst_vars; first | exact e1.symm | exact e2.symm | exact e3.symm | exact e4.symm | exact e5.symm | exact e6.symm)
  rw [e]; exact F
local macro_rules | `(tactic| walk_at "Exists") => `(tactic| refine stop_ex ?_)
def missL (acts : List Int) (i : Nat) : List Int := ((List.range i).map fun k => ((k : Nat) : Int) + 1).filter fun e => !acts.contains e
theorem miss_succ (acts : List Int) (i : Nat) : missL acts (i + 1) = missL acts i ++ (if acts.contains ((i : Int) + 1) then [] else [(i : Int) + 1]) := by
  unfold missL
  rw [List.range_succ, List.map_append, List.filter_append]
  congr 1
  simp only [List.map_cons, List.map_nil, List.filter_cons, List.filter_nil]
  cases acts.contains ((i : Int) + 1) <;> rfl
theorem not_in {acts : List Int} {x : Int} (h : ∀ k, k < acts.length → acts.getD k 0 ≠ x) : acts.contains x = false := by
  cases q : acts.contains x with
  | false => rfl
  | true =>
    have := List.contains_iff_mem.mp q
    obtain ⟨k, hk, e⟩ := List.mem_iff_getElem.mp this
    exact absurd (by rw [List.getD_eq_getElem?_getD, List.getElem?_eq_getElem hk]; exact e) (h k hk)
theorem is_in {acts : List Int} {x : Int} {k : Nat} (hk : k < acts.length) (h : acts.getD k 0 = x) : acts.contains x = true := by
  refine List.contains_iff_mem.mpr (List.mem_iff_getElem.mpr ⟨k, hk, ?_⟩)
  rw [List.getD_eq_getElem?_getD, List.getElem?_eq_getElem hk] at h
  exact h
/-- all that is left of the expected ones is missing -/
theorem miss_all {acts : List Int} {i : Nat} : ∀ (k : Nat), (∀ q, q < acts.length → acts.getD q 0 ≤ (i : Int)) → missL acts (i + k) = missL acts i ++ (List.range k).map fun q => ((i + q : Nat) : Int) + 1
  | 0, _ => by simp
  | k + 1, h => by
    rw [← Nat.add_assoc, miss_succ, miss_all k h, not_in fun q hq e => by have := h q hq; omega, List.range_succ, List.map_append, List.append_assoc]
    rfl
/-- the state at the head of the loop -/
inductive SlI (s : Shared) (lx la mi un : Addr) (g : Heap) (L' : Addr) (news : List (Addr × Obj)) (N : Nat) (acts : List Int) (n : Nat) (s' : Shared) : Prop
  | mk (h : Heap) (tk i j ep : Nat) (ti tj : Tok) (u : Str → Option Value) (ms : List Value) (e1 : s' = { s with heap := h, toks := tk }) (e2 : n = N - i) (e3 : i < N) (e4 : j < acts.length) (e5 : Fr g L' h (fun y => if y = Str.ofString "j" then some (.int (j : Int) tj) else if y = Str.ofString "i" then some (.int (i : Int) ti) else if y = Str.ofString "missing" then some (.ref mi) else if y = Str.ofString "unexpected" then some (.ref un) else if y = Str.ofString "expected" then some (.ref lx) else if y = Str.ofString "actual" then some (.ref la) else u y)) (e6 : News g L' h ((mi, W.listOf ms.toArray ep) :: (un, W.listOf #[] 0) :: news)) (e7 : IntsAre ms (missL acts i)) (e8 : (∀ k, k < j → acts.getD k 0 ≤ (i : Int))) (e9 : (∀ k, j ≤ k → k < acts.length → (i : Int) < acts.getD k 0)) : SlI s lx la mi un g L' news N acts n s'
/-- the state in the loop over the actual ones that are alike -/
inductive SlJ (s : Shared) (lx la mi un : Addr) (g : Heap) (L' : Addr) (l : List (Addr × Obj)) (i j : Nat) (ti : Tok) (va : Value) (acts : List Int) (n : Nat) (s' : Shared) : Prop
  | mk (h : Heap) (tk j' : Nat) (tj : Tok) (u : Str → Option Value) (e1 : s' = { s with heap := h, toks := tk }) (e2 : n = acts.length - j') (e3 : j < j') (e4 : j' ≤ acts.length) (e5 : (∀ k, j ≤ k → k < j' → acts.getD k 0 = (i : Int) + 1)) (e6 : Fr g L' h (fun y => if y = Str.ofString "j" then some (.int (j' : Int) tj) else if y = Str.ofString "i" then some (.int ((i : Int) + 1) ti) else if y = Str.ofString "missing" then some (.ref mi) else if y = Str.ofString "unexpected" then some (.ref un) else if y = Str.ofString "expected" then some (.ref lx) else if y = Str.ofString "actual" then some (.ref la) else if y = Str.ofString "a" then some va else u y)) (e7 : News g L' h l) : SlJ s lx la mi un g L' l i j ti va acts n s'
theorem sl_map7 {g h : Heap} {L : Addr} {m : Str → Option Value} {v1 v2 v3 v4 v5 v6 v7 : Value} (F : Fr g L h m) (e1 : m (Str.ofString "j") = some v1) (e2 : m (Str.ofString "i") = some v2) (e3 : m (Str.ofString "missing") = some v3) (e4 : m (Str.ofString "unexpected") = some v4) (e5 : m (Str.ofString "expected") = some v5) (e6 : m (Str.ofString "actual") = some v6) (e7 : m (Str.ofString "a") = some v7) :
    Fr g L h (fun y => if y = Str.ofString "j" then some v1 else if y = Str.ofString "i" then some v2 else if y = Str.ofString "missing" then some v3 else if y = Str.ofString "unexpected" then some v4 else if y = Str.ofString "expected" then some v5 else if y = Str.ofString "actual" then some v6 else if y = Str.ofString "a" then some v7 else m y) := by
  have e : (fun y => if y = Str.ofString "j" then some v1 else if y = Str.ofString "i" then some v2 else if y = Str.ofString "missing" then some v3 else if y = Str.ofString "unexpected" then some v4 else if y = Str.ofString "expected" then some v5 else if y = Str.ofString "actual" then some v6 else if y = Str.ofString "a" then some v7 else m y) = m := by
    funext y
    repeat' split
    all_goals first | rfl | (subst_vars; first | exact e1.symm | exact e2.symm | exact e3.symm | exact e4.symm | exact e5.symm | exact e6.symm | exact e7.symm)
  rw [e]; exact F
section
variable {prog : Program} {w : World} {A : Around} {E : Value → Shared → Prop} {s : Shared} {h₀ : Heap} {L l : Addr} {m : Str → Option Value} {news : List (Addr × Obj)} {value slice : PySem.Expr} {vs : List Value} {x : Int} {t : Tok} {n : Nat} {Q : Value → Shared → Prop}
theorem pick_from (h0 : 0 ≤ x) (h1 : x ≤ (vs.length : Int)) : kms_pick vs (some x) none = vs.drop x.toNat := by
  unfold kms_pick kms_lo kms_hi
  simp only
  rw [if_neg (by omega), show min x.toNat vs.length = x.toNat by omega]
  exact List.take_of_length_le (by rw [List.length_drop]; exact Nat.le_refl _)
theorem slice_from (F : Fr h₀ L s.heap m) (N : News h₀ L s.heap news) (hm : (l, W.listOf vs.toArray n) ∈ news) (h0 : 0 ≤ x) (h1 : x ≤ (vs.length : Int)) (h2 : vs.length < 200)
    (h : ∀ D h', Fr h₀ L h' m → News h₀ L h' ((D, W.listOf (vs.drop x.toNat).toArray 0) :: news) → (∀ p ∈ news, p.1 < D) → Q (.ref D) { s with heap := h' })
    (hs : subscripted slice false (.ref l) (.ref s.heap.objs.size) = operate [.ref s.heap.objs.size, .ref l] (getItem (.ref l) (.ref s.heap.objs.size))) (ht : ∀ r, letTemporaryGo value (.ref l) r = pure ()) :
    wpAny (model prog w) A (subscriptTail value slice (.ref l) (.ref s.heap.objs.size)) Q E { s with heap := s.heap.push { cls := .type "slice", data := .fields #[.int x t, .none, .none] } } := by
  have c6 : sizeLine = 16777216 := by decide
  exact kms_slice_lit (its := vs.toArray) F N ⟨_, (N _ hm).1, rfl, _, rfl⟩ (.int _ _) .none (by simpa using pick_from h0 h1) h hs ht (by rw [List.size_toArray]; omega)
end
local macro_rules | `(tactic| walk_at "subscriptTail Name Slice ref ref") => `(tactic| (k_here; (with_reducible show wpAny _ _ (subscriptTail _ (PySem.Expr.Slice (some _) none none _) (Value.ref _) (Value.ref _)) _ _ _); k_dflt (refine slice_from (s := ⟨_, _, _, _, _⟩) (by k_asm) (by k_asm) (by (repeat (first | assumption | apply List.Mem.tail))) (by omega) (by omega) (by omega) ?_ (by with_unfolding_all rfl) (by kmk_pure)); intro D' h' F' N' l1; (try k_lt l1); (try k_sweep)))
local macro_rules | `(tactic| walk_at "call builtin:list.extend") => `(tactic| (refine Stop.mk ?_))
theorem not_long {n k : Nat} (b : Bool) (h : n + k ≤ 16777216) : ¬(b && Builtin.List.listTooLong (n + k)) = true := by
  have c6 : sizeLine = 16777216 := by decide
  unfold Builtin.List.listTooLong
  simp; omega
theorem miss_end {ws ms : List Value} {acts : List Int} {i : Nat} (IX : IntsAre ws ((List.range ws.length).map fun i => ((i : Nat) : Int) + 1)) (IM : IntsAre ms (missL acts i)) (hi : i ≤ ws.length) (h : ∀ q, q < acts.length → acts.getD q 0 ≤ (i : Int)) : IntsAre (ms ++ ws.drop i) (missL acts ws.length) := by
  have e : ws.length = i + (ws.length - i) := by omega
  have z := IX.drop i
  rw [e, miss_all _ h]
  refine IM.append ?_
  have : ((List.range ws.length).map fun i => ((i : Nat) : Int) + 1).drop i = (List.range (ws.length - i)).map fun q => ((i + q : Nat) : Int) + 1 := by
    refine List.ext_getElem? fun k => ?_
    rw [List.getElem?_drop, List.getElem?_map, List.getElem?_map]
    by_cases hk : k < ws.length - i
    · rw [List.getElem?_range (by omega), List.getElem?_range hk]; rfl
    · rw [List.getElem?_eq_none (by rw [List.length_range]; omega), List.getElem?_eq_none (by rw [List.length_range]; omega)]; rfl
  rw [← this]; exact z
theorem sl_ok {w : World} {mean : ExcName → Option Value} {mg mb : Str → Option Value}
  {dp un : Nat} {gd : Option (List Code)} {cn : Str} {cs : Scope} {a : Addr} {ccd : Value} {cl : List (Str × Addr)} {outer : List Env} {A₀ : Around} {base h₀ : Heap} {L : Addr} {m : Str → Option Value} {news : List (Addr × Obj)} {s : Shared}
  {Q E : Value → Shared → Prop}
  (B : Below A₀ base outer h₀) (F : Fr h₀ L s.heap m) (X : (Mine.hd.heap_39 w.params).In h₀) (N : News h₀ L s.heap news)
  (T : Top topProg (looseW Mine.hd.view_39 [Str.ofString "_filemode_table"] ++ List.map (fun x => x.name) (recsOf Mine.hd.view_39) ++
        List.map (fun x => x.fst) (litsOf Mine.hd.view_39) ++
      List.map (fun x => x.name) (clssOf Mine.hd.view_39 (looseW Mine.hd.view_39 [Str.ofString "_filemode_table"]))) mean mg mb h₀)
  (hk : cs.kind = .function) (hd : dp + 5 < recursionLimit) (hu : un + 80 < cLine)
  (XB : (Mine.hd.heap_39 w.params).In base)
  (TB : Top topProg (looseW Mine.hd.view_39 [Str.ofString "_filemode_table"] ++ List.map (fun x => x.name) (recsOf Mine.hd.view_39) ++
        List.map (fun x => x.fst) (litsOf Mine.hd.view_39) ++
      List.map (fun x => x.name) (clssOf Mine.hd.view_39 (looseW Mine.hd.view_39 [Str.ofString "_filemode_table"]))) mean mg mb base)
  (D : KtsDicts (outer.filterMap (·.frame)) h₀)
  (lx la : Addr) (ws us : List Value) (e0 e1 : Nat) (acts : List Int) (mx : (lx, W.listOf ws.toArray e0) ∈ news) (ma : (la, W.listOf us.toArray e1) ∈ news) (IX : IntsAre ws ((List.range ws.length).map fun i => ((i : Nat) : Int) + 1)) (IA : IntsAre us acts)
  (hlx : 0 < ws.length) (hlx2 : ws.length < 100) (hla : 0 < us.length) (hla2 : us.length < 100) (hb : ∀ k, k < acts.length → 1 ≤ acts.getD k 0 ∧ acts.getD k 0 ≤ (ws.length : Int)) (hs : ∀ i j, i ≤ j → j < acts.length → acts.getD i 0 ≤ acts.getD j 0)
  (hret : ∀ tup mi un ms ep h' tk' h₀', IntsAre ms (missL acts ws.length) →
    KtsTurn (outer.filterMap (·.frame)) h₀ h₀' → Fr h₀' L h' m → News h₀' L h' ((tup, ({ cls := .type "tuple", data := .seq #[.ref mi, .ref un] } : Obj)) :: (mi, W.listOf ms.toArray ep) :: (un, W.listOf #[] 0) :: news) → Below A₀ base outer h₀' → (Mine.hd.heap_39 w.params).In h₀' → Top topProg (looseW Mine.hd.view_39 [Str.ofString "_filemode_table"] ++ List.map (fun x => x.name) (recsOf Mine.hd.view_39) ++ List.map (fun x => x.fst) (litsOf Mine.hd.view_39) ++ List.map (fun x => x.name) (clssOf Mine.hd.view_39 (looseW Mine.hd.view_39 [Str.ofString "_filemode_table"]))) mean mg mb h₀' → KtsDicts (outer.filterMap (·.frame)) h₀' → Q (.ref tup) { s with heap := h', toks := tk' }) :
  wpAny (model PySem.Challenge.rw_oy0109_01.row.prog w) (ktrTop dp un gd cn cs L a ccd cl outer) (call (.ref 95) [.ref lx, .ref la]) Q E s := by
  have hk0 : (PySem.Challenge.rw_oy0109_01 = PySem.Challenge.rw_oy0109_01) ∧ (Mine.hd.heap_39 = Mine.hd.heap_39) := by (k_fill; exact ⟨rfl, rfl⟩)
  clear hk0
  have hul : us.length = acts.length := IA.length
  refine wpAny_call ?_
  k_dflt (refine' enterS ?k1 ?k2 ?k3 ?k4 ?k5 ?XB ?TB ?D ?kA ?kF ?kK ?k6 ?k7 ?k8 ?k9 ?kB ?_ ?c2 ?c3 ?c4 ?c5; (case kA => exact rfl); (case kF => exact rfl); (case kK => assumption); (case XB => assumption); (case TB => assumption); (case D => assumption); (case k1 => k_asm); (case k2 => k_asm); (case k3 => k_asm); (case k4 => k_asm); (case k5 => k_asm); (case k6 => k_is); (case k7 => k_is); (case k8 => ktr_room); (case k9 => exact BindsTo.of_eq rfl); (case c5 => decide); (case kB => exact locs rfl); (case c2 => exact rfl); (case c3 => exact rfl); (case c4 => exact rfl); k_whole)
  intro g' L' h' FG' F' N' B' X' T' D' lt'
  dsimp only
  k_fold
  k_steps
  rename_i mi h2 l1 h3 tk1 un h4 l2 h5 F2 N2
  refine Stop.go ?_
  refine while_genV (SlI s lx la mi un g' L' news ws.length acts) (n₀ := ws.length) ?init ?turn ?hE
  case hE => passes_own
  case init =>
    exact ⟨h5, tk, 0, 0, 0, _, _, _, [], rfl, rfl, hlx, by omega, sl_map F2 rfl rfl rfl rfl rfl rfl, news_sub N2 (fun q hq => by
      rcases List.mem_cons.mp hq with rfl | hq
      · exact .tail _ (.head _)
      · rcases List.mem_cons.mp hq with rfl | hq
        · exact .head _
        · exact .tail _ (.tail _ hq)), IntsAre.nil, fun k hk => absurd hk (Nat.not_lt_zero k), fun k _ hk => by have := (hb k hk).1; omega⟩
  case turn =>
    rintro n s' ⟨h6, tk6, i, j, ep, ti, tj, u, ms, rfl, rfl, hi, hj, F6, N6, IM, hlo, hhi⟩ K9 Q9 E9 hP9 hK9 hQ9 hE9
    clear hQ9
    clear F2 N2
    have hnx : ∀ k : Nat, k < ws.length → ∃ te, ws[k]? = some (.int ((k : Int) + 1) te) := fun k hk => IX.get k _ (by simp [hk])
    obtain ⟨te, hx1⟩ := IX.get i ((i : Int) + 1) (by simp [hi])
    obtain ⟨ta, hx2⟩ := IA.get j (acts.getD j 0) (by rw [List.getD_eq_getElem?_getD, List.getElem?_eq_getElem hj]; rfl)
    have ha1 := hhi j (Nat.le_refl _) hj
    have ha2 := (hb j hj).2
    have hmsl : ms.length < 200 := by
      rw [IM.length, missL]
      refine Nat.lt_of_le_of_lt (List.length_filter_le _ _) ?_
      rw [List.length_map, List.length_range]; omega
    have hi9 : i < 1000 := l1000 hi hlx2
    have hj9' : acts.length < 1000 := hul ▸ Nat.lt_trans hla2 (by decide)
    iterate 6 walk1
    refine veilP fun Qt Et hQt hEt hPt => ?_
    k_steps
    refine Stop.go ?_
    refine item_mem N6 (.tail _ (.tail _ mx)) (Int.natCast_nonneg _) (i63 hi9) (get_nat hx1) ?_
    k_steps
    refine Stop.go ?_
    rename_i h7 F7 N7
    refine item_mem N7 (.tail _ (.tail _ ma)) (Int.natCast_nonneg _) (i63 (Nat.lt_trans hj hj9')) (get_nat hx2) ?_
    k_steps
    · refine Stop.go ?_
      refine while_gen (fun n s' => n = 0 ∧ s' = _) (n₀ := 0) ⟨rfl, rfl⟩ ?tu ?he
      case he => passes_own
      case tu =>
        rintro n s' ⟨_, rfl⟩
        k_steps
        refine Stop.go ?_
        rename News _ _ _ _ => N9
        obtain ⟨te2, hx3⟩ : ∃ te2, ws[i + 1]? = some (.int ((i : Int) + 1 + 1) te2) := hnx (i + 1) (by omega)
        refine item_mem N9 (.tail _ (.tail _ mx)) (p0 _) (i63s hi9) (by rw [toNat_s]; exact hx3) ?_
        k_steps
        · exfalso; omega
        subst hQt
        k_steps
        subst hK9
        rename Fr _ _ _ _ => F9
        rename News _ _ _ _ => N9
        have hnin : acts.contains ((i : Int) + 1) = false := not_in fun k hk e => by
          by_cases hkj : k < j
          · have := hlo k hkj; omega
          · have := hs j k (by omega) hk; omega
        refine ⟨ws.length - (i + 1), sub_lt hi, ⟨_, _, i + 1, j, ep + 1, _, _, _, ms ++ [.int ((i : Int) + 1) te], rfl, rfl, by omega, hj, sl_map F9 rfl rfl rfl rfl rfl rfl, by simpa using N9, ?_, fun k hk => le_s (hlo k hk), fun k h1 h2 => next_lt (hs j k h1 h2) (by first | assumption | omega)⟩⟩
        rw [miss_succ, hnin]
        exact IM.append (.cons _ _ .nil)
    · refine Stop.go ?_
      have ha3 : acts.getD j 0 = (i : Int) + 1 := by omega
      by_cases hN : i + 1 < ws.length
      · refine while_gen (fun n s' => n = 0 ∧ s' = _) (n₀ := 0) ⟨rfl, rfl⟩ ?tu ?he
        case he => passes_own
        case tu =>
          rintro n s' ⟨_, rfl⟩
          k_steps
          refine Stop.go ?_
          rename News _ _ _ _ => N9
          obtain ⟨te2, hx3⟩ : ∃ te2, ws[i + 1]? = some (.int ((i : Int) + 1 + 1) te2) := hnx (i + 1) hN
          refine item_mem N9 (.tail _ (.tail _ mx)) (p0 _) (i63s hi9) (by rw [toNat_s]; exact hx3) ?_
          k_steps
          · exfalso; omega
          refine Stop.go ?_
          rename Fr _ _ _ _ => F9
          rename News _ _ _ _ => N9
          refine while_gen (SlJ s lx la mi un g' L' _ i j _ _ acts) (n₀ := acts.length - (j + 1)) ⟨_, _, j + 1, _, _, rfl, rfl, Nat.lt_succ_self _, hj, fun k h1 h2 => (by rw [eq_of h1 h2]; exact ha3), sl_map7 F9 rfl rfl rfl rfl rfl rfl rfl, N9⟩ ?tu2 ?he2
          case he2 => passes_own
          case tu2 =>
            rintro n s' ⟨h10, tk10, j', tj', u', rfl, rfl, hj1, hj2, hal, F10, N10⟩
            by_cases hj3 : j' < acts.length
            · obtain ⟨ta2, hx4⟩ := IA.get j' (acts.getD j' 0) (by rw [List.getD_eq_getElem?_getD, List.getElem?_eq_getElem hj3]; rfl)
              have ha4 := hs j j' (Nat.le_of_lt hj1) hj3
              k_steps
              refine Stop.go ?_
              rename News _ _ _ _ => N11
              refine item_mem N11 (.tail _ (.tail _ ma)) (Int.natCast_nonneg _) (i63 (Nat.lt_trans hj3 hj9')) (get_nat hx4) ?_
              k_steps
              · refine Stop.go ?_
                rename Fr _ _ _ _ => F12
                rename News _ _ _ _ => N12
                refine ⟨acts.length - (j' + 1), sub_lt hj3, ⟨_, _, j' + 1, _, _, rfl, rfl, Nat.lt_succ_of_lt hj1, hj3, fun k h1 h2 => ?_, sl_map7 F12 rfl rfl rfl rfl rfl rfl rfl, N12⟩⟩
                by_cases hk2 : k < j'
                · exact hal k h1 hk2
                · rw [eq_of (Nat.le_of_not_lt hk2) h2]; omega
              · subst hQt
                k_steps
                subst hK9
                rename Fr _ _ _ _ => F12
                rename News _ _ _ _ => N12
                refine ⟨ws.length - (i + 1), sub_lt hi, ⟨_, _, i + 1, j', ep, _, _, _, ms, rfl, rfl, hN, hj3, sl_map F12 rfl rfl rfl rfl rfl rfl, N12, ?_, fun k hk => ?_, fun k h1 h2 => ?_⟩⟩
                · rw [miss_succ, is_in hj ha3]; simpa using IM
                · by_cases hkj : k < j
                  · exact le_s (hlo k hkj)
                  · exact le_eq (hal k (Nat.le_of_not_lt hkj) hk)
                · have := hs j' k h1 h2; omega
            · k_steps
              refine Stop.go ?_
              rename News _ _ _ _ => N11
              rename Fr _ _ _ _ => F11
              refine item_out N11 (.tail _ (.tail _ ma)) rfl (out_le hul hj3) (i63le hj2 hj9') (fun h12 tk12 e hx => ?_)
              subst hEt
              subst hE9
              refine wpAny_look_again (SameStack.refl _) ?_
              k_dflt (refine' caught_own (T' := "IndexError") hx F11 N11 B' ?XB ?TB ?D ?ex PyProof.Rows.Boot.«IndexError» ?hn PySem.F.isExc_IndexError PySem.F.notTuple_IndexError ?hs ?_; (case XB => assumption); (case TB => assumption); (case D => assumption); (case hs => kts_sub); (case ex => k_is); (case hn => decide))
              intro h13 g13 KT13 F13 N13 B13 X13 T13 D13
              k_steps
              refine Stop.go ?_
              have hj9 : j' = acts.length := Nat.le_antisymm hj2 (Nat.le_of_not_lt hj3)
              have hall : ∀ q, q < acts.length → acts.getD q 0 ≤ ((i + 1 : Nat) : Int) := fun q hq => by
                by_cases hqj : q < j
                · exact le_s (hlo q hqj)
                · exact le_eq (hal q (Nat.le_of_not_lt hqj) (by rw [hj9]; exact hq))
              rename Fr _ _ _ _ => F14
              rename News _ _ _ _ => N14
              rename _ ∧ _ ∧ AllLt _ _ => l14
              have ne14 := neg_nlt l14.1
              have hdl : (ws.drop ((i : Int) + 1).toNat).length = ws.length - (i + 1) := by rw [List.length_drop, toNat_s]
              refine kl_extend (its := ms.toArray) (its2 := (ws.drop ((i : Int) + 1).toNat).toArray) F14 N14 (.head _) rfl (by rw [List.toList_toArray, hdl]; exact Nat.sub_ne_zero_of_lt hN) (by k_upd) (not_long _ (by rw [List.size_toArray, List.size_toArray, hdl]; exact ext1 hmsl hlx2)) (by rw [List.toList_toArray]; exact size_okN (m1000 hmsl)) (by rw [List.size_toArray, List.size_toArray, hdl]; exact Nat.le_succ_of_le (size_okN (ext2 hmsl hlx2))) ?_
              intro h15 F15 N15
              k_steps
              refine Stop.go ?_
              rename Fr _ _ _ _ => F16
              rename News _ _ _ _ => N16
              rename _ ∧ _ ∧ _ ∧ AllLt _ _ => l16
              have ne16 := neg_nlt l16.2.2.1
              have ne17 := neg_nlt l14.2.1
              have hdn : us.drop ((j' : Int)).toNat = [] := List.drop_eq_nil_of_le (by rw [Int.toNat_natCast, hul]; exact Nat.le_of_not_lt hj3)
              refine kxn_extend (its := #[]) (its2 := (us.drop ((j' : Int)).toNat).toArray) F16 N16 (.head _) (by rw [List.toList_toArray, hdn]) (by k_upd) (not_long _ (by rw [List.size_toArray, hdn]; decide)) (size_okN (by decide)) (by rw [List.size_toArray, hdn]; decide) ?_
              intro h17 F17 N17
              k_steps
              subst hK9
              k_steps
              rename Fr _ _ _ _ => F18
              rename News _ _ _ _ => N18
              (try dsimp only)
              (try k_unfold)
              refine ⟨g13, L', _, _, KT13, F18, N18, fun h₀' k1 k2 k3 k4 k5 k6 k7 => ?_⟩
              refine hret _ mi un (ms ++ ws.drop (i + 1)) (ep + 1) _ _ h₀' ?im k1 k2 (news_sub k3 ?ns) k4 k5 k6 k7
              case im => exact miss_end IX (by rw [miss_succ, is_in hj ha3]; simpa using IM) hi hall
              case ns =>
                intro q hq
                rcases List.mem_cons.mp hq with rfl | hq
                · exact .head _
                · exact .tail _ (.tail _ (.tail _ hq))
      · refine while_gen (fun n s' => n = 0 ∧ s' = _) (n₀ := 0) ⟨rfl, rfl⟩ ?tu ?he
        case he => passes_own
        case tu =>
          rintro n s' ⟨_, rfl⟩
          k_steps
          refine Stop.go ?_
          rename Fr _ _ _ _ => F9
          rename News _ _ _ _ => N9
          refine item_out N9 (.tail _ (.tail _ mx)) rfl (out_les hN) (i63s hi9) (fun h10 tk10 e hx => ?_)
          have nem : @Ne Nat mi e := fun q => by have z := (N9 _ (.head _)).1; rw [q] at z; rw [hx.new] at z; cases z
          have neu : @Ne Nat un e := fun q => by have z := (N9 _ (.tail _ (.head _))).1; rw [q] at z; rw [hx.new] at z; cases z
          refine fin_own hx F9 N9 B' XB TB D' (ref_ne_byPass _) ?_
          intro h11 g11 o1 vs1 KT11 F11 hd1 hv1 N11 B11 X11 T11 D11
          k_steps
          refine Stop.go ?_
          rename Fr _ _ _ _ => F9
          rename News _ _ _ _ => N9
          have hall : ∀ q, q < acts.length → acts.getD q 0 ≤ ((i + 1 : Nat) : Int) := fun q hq => by
            have := (hb q hq).2; omega
          refine while_gen (SlJ s lx la mi un g11 L' _ i j _ _ acts) (n₀ := acts.length - (j + 1)) ⟨_, _, j + 1, _, _, rfl, rfl, Nat.lt_succ_self _, hj, fun k h1 h2 => (by rw [eq_of h1 h2]; exact ha3), sl_map7 F9 rfl rfl rfl rfl rfl rfl rfl, N9⟩ ?tu2 ?he2
          case he2 => passes_own
          case tu2 =>
            rintro n s' ⟨h10, tk10, j', tj', u', rfl, rfl, hj1, hj2, hal, F10, N10⟩
            by_cases hj3 : j' < acts.length
            · obtain ⟨ta2, hx4⟩ := IA.get j' (acts.getD j' 0) (by rw [List.getD_eq_getElem?_getD, List.getElem?_eq_getElem hj3]; rfl)
              have ha4 := hs j j' (Nat.le_of_lt hj1) hj3
              have ha5 := (hb j' hj3).2
              k_steps
              refine Stop.go ?_
              rename News _ _ _ _ => N11
              refine item_mem N11 (.tail _ (.tail _ (.tail _ ma))) (Int.natCast_nonneg _) (i63 (Nat.lt_trans hj3 hj9')) (get_nat hx4) ?_
              k_steps
              · refine Stop.go ?_
                rename Fr _ _ _ _ => F12
                rename News _ _ _ _ => N12
                refine ⟨acts.length - (j' + 1), sub_lt hj3, ⟨_, _, j' + 1, _, _, rfl, rfl, Nat.lt_succ_of_lt hj1, hj3, fun k h1 h2 => ?_, sl_map7 F12 rfl rfl rfl rfl rfl rfl rfl, N12⟩⟩
                by_cases hk2 : k < j'
                · exact hal k h1 hk2
                · rw [eq_of (Nat.le_of_not_lt hk2) h2]; omega
              · exfalso; omega
            · k_steps
              refine Stop.go ?_
              rename News _ _ _ _ => N11
              rename Fr _ _ _ _ => F11
              refine item_out_in N11 (.tail _ (.tail _ (.tail _ ma))) rfl (.head _) hd1 hv1 (out_le hul hj3) (i63le hj2 hj9') (fun h12 tk12 e hx => ?_)
              subst hEt
              subst hE9
              refine wpAny_look_again (SameStack.mark _ _) ?_
              k_dflt (refine' caught_ownG (T' := "IndexError") hx F11 N11 B11 ?XB ?TB ?D ?ex PyProof.Rows.Boot.«IndexError» ?hn PySem.F.isExc_IndexError PySem.F.notTuple_IndexError ?hs ?_; (case XB => assumption); (case TB => assumption); (case D => assumption); (case hs => kts_sub); (case ex => k_is); (case hn => decide))
              intro h13 g13 KT13 F13 N13 B13 X13 T13 D13
              k_steps
              refine Stop.go ?_
              rename Fr _ _ _ _ => F14
              rename News _ _ _ _ => N14
              rename _ ∧ _ ∧ _ ∧ AllLt _ _ => l14
              have ne14 := neg_nlt l14.2.1
              have hdl : ws.drop ((i : Int) + 1).toNat = [] := List.drop_eq_nil_of_le (by rw [toNat_s]; exact Nat.le_of_not_lt hN)
              refine kxn_extend (its := ms.toArray) (its2 := (ws.drop ((i : Int) + 1).toNat).toArray) F14 N14 (.head _) (by rw [List.toList_toArray, hdl]) (by k_upd) (not_long _ (by rw [List.size_toArray, List.size_toArray, hdl]; exact ext3 hmsl)) (by rw [List.toList_toArray]; exact size_okN (m1000 hmsl)) (by rw [List.size_toArray, List.size_toArray, hdl]; exact Nat.le_succ_of_le (size_okN (ext4 hmsl))) ?_
              intro h15 F15 N15
              k_steps
              refine Stop.go ?_
              rename Fr _ _ _ _ => F16
              rename News _ _ _ _ => N16
              rename _ ∧ _ ∧ _ ∧ _ ∧ AllLt _ _ => l16
              have ne16 := neg_nlt l16.2.2.2.1
              have ne17 := neg_nlt l14.2.2.1
              have hdn : us.drop ((j' : Int)).toNat = [] := List.drop_eq_nil_of_le (by rw [Int.toNat_natCast, hul]; exact Nat.le_of_not_lt hj3)
              refine kxn_extend (its := #[]) (its2 := (us.drop ((j' : Int)).toNat).toArray) F16 N16 (.head _) (by rw [List.toList_toArray, hdn]) (by k_upd) (not_long _ (by rw [List.size_toArray, hdn]; decide)) (size_okN (by decide)) (by rw [List.size_toArray, hdn]; decide) ?_
              intro h17 F17 N17
              k_steps
              subst hK9
              k_steps
              rename Fr _ _ _ _ => F18
              rename News _ _ _ _ => N18
              (try dsimp only)
              (try k_unfold)
              refine ⟨g13, L', _, _, KT11.trans KT13, F18, N18, fun h₀' k1 k2 k3 k4 k5 k6 k7 => ?_⟩
              refine hret _ mi un ms ep _ _ h₀' ?im k1 k2 (news_sub k3 ?ns) k4 k5 k6 k7
              case im =>
                have e9 : ws.drop (i + 1) = [] := hdl
                have z := miss_end (i := i + 1) (ms := ms) IX (by rw [miss_succ, is_in hj ha3]; simpa using IM) hi hall
                rw [e9, List.append_nil] at z
                exact z
              case ns =>
                intro q hq
                rcases List.mem_cons.mp hq with rfl | hq
                · exact .head _
                · exact .tail _ (.tail _ (.tail _ (.tail _ hq)))
end
end Mine
end
section
open PySem PySem.W PyProof.Rows PySem.Calls PySem.Spec
set_option maxRecDepth 100000
namespace Mine
def linesL (ps cs : List Nat) : List (List Nat) := (List.range (ps.length + 1)).map (rowOf ps cs)
def turnL (ls : List (List Nat)) (k : Nat) : List (List Nat) := ls.drop k ++ ls.take k
def textL : List (List Nat) → List Nat
  | [] => []
  | y :: ys => y ++ (ys.map fun l => 10 :: l).flatten
/-- what is told of a row from column j on -/
def rowTold (l : Nat) : Nat → List Nat → List (Nat × Nat × Nat)
  | _, [] => []
  | j, c :: cs => (l, j + 1, c) :: rowTold l (j + 1) cs
def toldFrom : Nat → List (List Nat) → List (Nat × Nat × Nat)
  | _, [] => []
  | l, r :: rs => rowTold l 0 r ++ toldFrom (l + 1) rs
def toldL (ls : List (List Nat)) : List (Nat × Nat × Nat) := toldFrom 1 ls
theorem join_text (ls : List (List Nat)) : (Txt.join (Str.ofString "\n") (ls.map fun l => (⟨l.toArray⟩ : Str))).cps.toList = textL ls := by
  cases ls with
  | nil => rfl
  | cons y ys =>
    rw [List.map_cons, join_list_eq, List.map_map]
    have : (Str.ofString "\n").cps.toList = [10] := by decide
    unfold textL
    rw [this]; rfl
/-- told of the text behind a part of it -/
def toldB (pre : List Nat) : List Nat → List (Nat × Nat × Nat)
  | [] => []
  | c :: cs => (if c != 10 then [(pre.count 10 + 1, behind 10 pre + 1, c)] else []) ++ toldB (pre ++ [c]) cs
theorem toldTo_succ (cps : List Nat) (p : Nat) : toldTo cps (p + 1) = toldTo cps p ++ (if cps.getD p 0 != 10 then [toldAt cps p] else []) := by
  unfold toldTo
  rw [List.range_succ, List.filter_append, List.map_append]
  congr 1
  rw [List.filter_cons, List.filter_nil]
  split <;> rfl
theorem toldTo_B : ∀ (cs pre : List Nat), toldTo (pre ++ cs) (pre ++ cs).length = toldTo (pre ++ cs) pre.length ++ toldB pre cs
  | [], pre => by simp [toldB]
  | c :: cs, pre => by
    have h := toldTo_B cs (pre ++ [c])
    rw [List.append_assoc] at h
    have e : pre ++ ([c] ++ cs) = pre ++ c :: cs := rfl
    rw [e] at h
    rw [h]
    have hl : (pre ++ [c]).length = pre.length + 1 := by simp
    rw [hl, toldTo_succ, List.append_assoc]
    congr 1
    have g : (pre ++ c :: cs).getD pre.length 0 = c := by
      rw [List.getD_eq_getElem?_getD, List.getElem?_append_right (Nat.le_refl _), Nat.sub_self]; rfl
    have t : (pre ++ c :: cs).take pre.length = pre := by simp
    rw [show toldB pre (c :: cs) = (if c != 10 then [(pre.count 10 + 1, behind 10 pre + 1, c)] else []) ++ toldB (pre ++ [c]) cs from rfl]
    unfold toldAt lineAt colAt
    rw [g, t]
theorem toldTo_all (cs : List Nat) : toldTo cs cs.length = toldB [] cs := by
  have := toldTo_B cs []
  simpa [toldTo] using this
theorem behind_snoc (pre : List Nat) (c : Nat) (hc : c ≠ 10) : behind 10 (pre ++ [c]) = behind 10 pre + 1 := by
  unfold behind
  rw [List.reverse_append, List.reverse_singleton, List.singleton_append, List.takeWhile_cons, if_pos (by simpa using hc), List.length_cons]
theorem behind_nl (pre : List Nat) : behind 10 (pre ++ [10]) = 0 := by
  unfold behind
  rw [List.reverse_append, List.reverse_singleton, List.singleton_append, List.takeWhile_cons, if_neg (by simp)]
  rfl
theorem toldB_row : ∀ (r : List Nat) (pre rest : List Nat), (∀ c ∈ r, c ≠ 10) → toldB pre (r ++ rest) = rowTold (pre.count 10 + 1) (behind 10 pre) r ++ toldB (pre ++ r) rest
  | [], pre, rest, _ => by simp [rowTold]
  | c :: r, pre, rest, h => by
    have hc := h c (.head _)
    rw [List.cons_append, toldB, toldB_row r (pre ++ [c]) rest fun x hx => h x (.tail _ hx), behind_snoc pre c hc, if_pos (by simpa using hc)]
    have hcount : (pre ++ [c]).count 10 = pre.count 10 := by
      rw [List.count_append, List.count_singleton, if_neg (by simpa using hc)]; rfl
    rw [hcount, rowTold, List.append_assoc]
    rfl
theorem toldB_rows : ∀ (ls : List (List Nat)) (pre : List Nat), (∀ l ∈ ls, ∀ c ∈ l, c ≠ 10) → toldB pre ((ls.map fun l => 10 :: l).flatten) = toldFrom (pre.count 10 + 2) ls
  | [], pre, _ => rfl
  | l :: ls, pre, h => by
    rw [List.map_cons, List.flatten_cons, List.cons_append, toldB, if_neg (by simp), List.nil_append, toldB_row l _ _ (h l (.head _)), behind_nl]
    have hcount : (pre ++ [10]).count 10 = pre.count 10 + 1 := by rw [List.count_append]; rfl
    rw [hcount, toldB_rows ls _ fun x hx => h x (.tail _ hx), toldFrom]
    have hc2 : (pre ++ [10] ++ l).count 10 = pre.count 10 + 1 := by
      rw [List.count_append, hcount, List.count_eq_zero.mpr (fun hm => h l (.head _) 10 hm rfl)]
    rw [hc2]
theorem told_text {ls : List (List Nat)} (h : ∀ l ∈ ls, ∀ c ∈ l, c ≠ 10) : toldTo (textL ls) (textL ls).length = toldL ls := by
  rw [toldTo_all]
  cases ls with
  | nil => rfl
  | cons y ys =>
    unfold textL
    rw [toldB_row y [] _ (h y (.head _)), toldB_rows ys _ fun x hx => h x (.tail _ hx)]
    have h0 : (([] : List Nat) ++ y).count 10 = 0 := by
      rw [List.nil_append]; exact List.count_eq_zero.mpr (fun hm => h y (.head _) 10 hm rfl)
    rw [h0]
    rfl
end Mine
end
section
open PySem PySem.W PyProof.Rows PySem.Calls PySem.Spec
set_option maxRecDepth 100000
namespace Mine
def standI (T : List (Nat × Nat × Nat)) : List Int := T.map fun d => ((d.1 : Nat) : Int)
def colsI (T : List (Nat × Nat × Nat)) : List Int := T.map fun d => ((d.2.1 : Nat) : Int)
def IsPart3 (T : List (Nat × Nat × Nat)) (i : Nat) (v1 v2 _v3 : Value) : Prop := (∃ t, v1 = .int ((standI T).getD i 0) t) ∧ ∃ t, v2 = .int ((colsI T).getD i 0) t
theorem told_items {l : List (Addr × Obj)} {vs : List Value} {T : List (Nat × Nat × Nat)} (D : DatAll l vs (T.map tripD)) : ∀ (i : Nat) v, vs[i]? = some v → ∃ t v1 v2 v3 n, v = .ref t ∧ (t, ({ cls := .type "tuple", data := .seq #[v1, v2, v3] n } : Obj)) ∈ l ∧ IsPart3 T i v1 v2 v3 := by
  intro i v hv
  have hl : vs.length = T.length := by have := D.length; rw [List.length_map] at this; exact this
  have hi : i < T.length := by rw [← hl]; exact (List.getElem?_eq_some_iff.mp hv).1
  obtain ⟨v', hv', Dv⟩ := D.get (k := i) (by rw [List.length_map]; exact hi)
  rw [hv] at hv'
  obtain rfl := Option.some.inj hv'
  rw [List.getElem_map] at Dv
  have e1 : (standI T).getD i 0 = ((T[i].1 : Nat) : Int) := by
    unfold standI
    rw [List.getD_eq_getElem?_getD, List.getElem?_map, List.getElem?_eq_getElem hi]; rfl
  have e2 : (colsI T).getD i 0 = ((T[i].2.1 : Nat) : Int) := by
    unfold colsI
    rw [List.getD_eq_getElem?_getD, List.getElem?_map, List.getElem?_eq_getElem hi]; rfl
  obtain ⟨a, n, t1, t2, t3, rfl, hm⟩ := trip_inv Dv
  exact ⟨a, _, _, _, n, rfl, hm, ⟨t1, by rw [e1]⟩, ⟨t2, by rw [e2]⟩⟩
theorem ints_of {ys : List Value} {ns : List Int} (hl : ys.length = ns.length) (h : ∀ i, i < ns.length → ∃ t, ys[i]? = some (.int (ns.getD i 0) t)) : IntsAre ys ns := by
  induction ys generalizing ns with
  | nil =>
    cases ns with
    | nil => exact .nil
    | cons n ns => simp at hl
  | cons y ys ih =>
    cases ns with
    | nil => simp at hl
    | cons n ns =>
      obtain ⟨t, e⟩ := h 0 (by simp)
      have e' : y = .int n t := by simpa using e
      rw [e']
      exact .cons n t (ih (by simpa using hl) fun i hi => by
        obtain ⟨t, e⟩ := h (i + 1) (by simpa using hi)
        exact ⟨t, by simpa using e⟩)
theorem stand_ints {T : List (Nat × Nat × Nat)} {ys vs : List Value} (hl : vs.length = T.length) (h1 : ys.length = vs.length) (h2 : ∀ i, i < vs.length → ∃ v1 v2 v3, IsPart3 T i v1 v2 v3 ∧ ys[i]? = some v1) : IntsAre ys (standI T) :=
  ints_of (by rw [h1, hl, standI, List.length_map]) fun i hi => by
    rw [standI, List.length_map] at hi
    obtain ⟨v1, v2, v3, ⟨⟨t, e⟩, _⟩, h⟩ := h2 i (by omega)
    exact ⟨t, by rw [h, e]⟩
theorem cols_ints {T : List (Nat × Nat × Nat)} {ys vs : List Value} (hl : vs.length = T.length) (h1 : ys.length = vs.length) (h2 : ∀ i, i < vs.length → ∃ v1 v2 v3, IsPart3 T i v1 v2 v3 ∧ ys[i]? = some v2) : IntsAre ys (colsI T) :=
  ints_of (by rw [h1, hl, colsI, List.length_map]) fun i hi => by
    rw [colsI, List.length_map] at hi
    obtain ⟨v1, v2, v3, ⟨_, ⟨t, e⟩⟩, h⟩ := h2 i (by omega)
    exact ⟨t, by rw [h, e]⟩
end Mine
end
section
open PySem PySem.W PyProof.Rows PySem.Calls PySem.Spec
set_option maxRecDepth 100000
namespace Mine
theorem lvl_node {ps : List Nat} (hp : ∀ j, j < ps.length → ps.getD j 0 ≤ j) {i k : Nat} (hik : i ≤ k) (hi : i ≤ ps.length) : (lvl ps k)[i]? = some (nodeAt ps i) := by
  obtain ⟨t, e⟩ := lvl_pre ps i (k - i)
  rw [show i + (k - i) = k by omega] at e
  have hl := lvl_has hp i hi
  rw [e, List.getElem?_append_left hl, nodeAt, List.getD_eq_getElem?_getD, List.getElem?_eq_getElem hl]; rfl
theorem kids_par {ps : List Nat} {q z : Nat} (h : z ∈ kidsOf ps q) : 1 ≤ z ∧ z ≤ ps.length ∧ ps.getD (z - 1) 0 = q := by
  unfold kidsOf at h
  obtain ⟨j, hj, rfl⟩ := List.mem_map.mp h
  obtain ⟨h1, h2⟩ := List.mem_filter.mp hj
  rw [List.mem_range] at h1
  exact ⟨by omega, by omega, by simpa using h2⟩
theorem kids_nodup (ps : List Nat) (q : Nat) : (kidsOf ps q).Nodup := by
  unfold kidsOf
  refine List.Pairwise.map (R := fun a b : Nat => a ≠ b) _ (fun a b h => ?_) (List.Pairwise.filter _ List.nodup_range)
  intro e
  exact h (by omega)
theorem lvl_mem {ps : List Nat} : ∀ (k z : Nat), z ∈ lvl ps k → z = 0 ∨ ∃ i, i < k ∧ z ∈ kidsOf ps (nodeAt ps i)
  | 0, z, h => by simp [lvl] at h; exact .inl h
  | k + 1, z, h => by
    rw [lvl] at h
    rcases List.mem_append.mp h with h | h
    · rcases lvl_mem k z h with h | ⟨i, hi, hz⟩
      · exact .inl h
      · exact .inr ⟨i, by omega, hz⟩
    · exact .inr ⟨k, by omega, h⟩
theorem lvl_nodup {ps : List Nat} (hp : ∀ j, j < ps.length → ps.getD j 0 ≤ j) : ∀ k, k ≤ ps.length + 1 → (lvl ps k).Nodup
  | 0, _ => by simp [lvl]
  | k + 1, hk => by
    have ih := lvl_nodup hp k (by omega)
    rw [lvl]
    refine List.nodup_append.mpr ⟨ih, kids_nodup _ _, fun a ha b hb e => ?_⟩
    have hb2 := kids_par hb
    subst e
    rcases lvl_mem k a ha with h | ⟨i, hi, hz⟩
    · omega
    · have h1 := (kids_par hz).2.2
      have h2 := hb2.2.2
      have e1 := lvl_node hp (Nat.le_of_lt hi) (by omega : i ≤ ps.length)
      have e2 := lvl_node hp (Nat.le_refl k) (by omega : k ≤ ps.length)
      have h3 : nodeAt ps i = nodeAt ps k := by rw [← h1, h2]; rfl
      have := (List.getElem?_inj (i := i) (j := k) (by have := lvl_has hp k (by omega); omega) ih).mp (by rw [e1, e2, h3])
      omega
theorem nodup_bound : ∀ (n : Nat) (l : List Nat), l.Nodup → (∀ q ∈ l, q < n) → l.length ≤ n
  | 0, l, _, h => by
    cases l with
    | nil => simp
    | cons a l => exact absurd (h a (.head _)) (by omega)
  | n + 1, l, hn, h => by
    have h1 := nodup_bound n (l.erase n) (hn.erase n) fun q hq => by
      have := (List.Nodup.mem_erase_iff hn).mp hq
      have := h q this.2
      omega
    have := List.length_erase (a := n) (l := l)
    split at this <;> omega
theorem lvl_full {ps : List Nat} (hp : ∀ j, j < ps.length → ps.getD j 0 ≤ j) : (lvl ps (ps.length + 1)).length = ps.length + 1 := by
  have h1 := nodup_bound (ps.length + 1) _ (lvl_nodup hp _ (Nat.le_refl _)) fun q hq => Nat.lt_succ_of_le (lvl_le ps _ q hq)
  have h2 := lvl_has hp ps.length (Nat.le_refl _)
  have h3 : (lvl ps ps.length).length ≤ (lvl ps (ps.length + 1)).length := by rw [lvl, List.length_append]; omega
  omega
def sumL (ls : List (List Nat)) : Nat := (ls.map List.length).sum
theorem rows_sum (ps cs : List Nat) : ∀ k, sumL ((List.range k).map (rowOf ps cs)) + 1 = (lvl ps k).length
  | 0 => by simp [sumL, lvl]
  | k + 1 => by
    have ih := rows_sum ps cs k
    unfold sumL at ih ⊢
    rw [List.range_succ, List.map_append, List.map_append, List.sum_append, lvl, List.length_append, ← ih]
    simp only [List.map_cons, List.map_nil, List.sum_cons, List.sum_nil, rowOf, List.length_map, nodeAt]
    omega
theorem lines_sum {ps cs : List Nat} (hp : ∀ j, j < ps.length → ps.getD j 0 ≤ j) : sumL (linesL ps cs) = ps.length := by
  have h1 := rows_sum ps cs (ps.length + 1)
  rw [lvl_full hp] at h1
  unfold linesL
  omega
theorem turn_sum (ls : List (List Nat)) (k : Nat) : sumL (turnL ls k) = sumL ls := by
  have e : sumL ls = sumL (ls.take k ++ ls.drop k) := by rw [List.take_append_drop]
  rw [e]
  unfold turnL sumL
  rw [List.map_append, List.map_append, List.sum_append, List.sum_append]
  omega
theorem rowTold_len (l : Nat) : ∀ (j : Nat) (r : List Nat), (rowTold l j r).length = r.length
  | _, [] => rfl
  | j, _ :: r => by rw [rowTold, List.length_cons, rowTold_len l (j + 1) r, List.length_cons]
theorem toldFrom_len : ∀ (l : Nat) (ls : List (List Nat)), (toldFrom l ls).length = sumL ls
  | _, [] => rfl
  | l, r :: ls => by
    rw [toldFrom, List.length_append, rowTold_len, toldFrom_len (l + 1) ls]
    simp [sumL]
theorem told_len {ps cs : List Nat} (hp : ∀ j, j < ps.length → ps.getD j 0 ≤ j) (k : Nat) : (toldL (turnL (linesL ps cs) k)).length = ps.length := by
  unfold toldL
  rw [toldFrom_len, turn_sum, lines_sum hp]
theorem textL_len : ∀ (ls : List (List Nat)), (textL ls).length ≤ sumL ls + ls.length
  | [] => by simp [textL]
  | y :: ys => by
    have : ∀ zs : List (List Nat), ((zs.map fun l => 10 :: l).flatten).length = sumL zs + zs.length := by
      intro zs
      induction zs with
      | nil => rfl
      | cons z zs ih =>
        rw [List.map_cons, List.flatten_cons, List.length_append, ih, List.length_cons, List.length_cons]
        simp [sumL]; omega
    unfold textL
    rw [List.length_append, this, List.length_cons]
    simp [sumL]; omega
def lateL (st : List Int) (j : Nat) : List Int := ((List.range j).filter fun (i : Nat) => decide ((i : Int) + 1 < st.getD i 0)).map fun (i : Nat) => (i : Int)
theorem late_succ (st : List Int) (j : Nat) : lateL st (j + 1) = lateL st j ++ (if (j : Int) + 1 < st.getD j 0 then [(j : Int)] else []) := by
  unfold lateL
  rw [List.range_succ, List.filter_append, List.map_append]
  congr 1
  rw [List.filter_cons, List.filter_nil]
  by_cases h : (j : Int) + 1 < st.getD j 0
  · rw [if_pos (by simpa using h), if_pos h]; rfl
  · rw [if_neg (by simpa using h), if_neg h]; rfl
def colK (st : List Int) : List Int := (List.range st.length).map fun j => 1 + (((st.take j).count (st.getD j 0) : Nat) : Int)
theorem colK_take {st : List Int} {j : Nat} (hj : j < st.length) : (colK st).take (j + 1) = (colK st).take j ++ [1 + (((st.take j).count (st.getD j 0) : Nat) : Int)] := by
  have hl : j < (colK st).length := by unfold colK; rw [List.length_map, List.length_range]; exact hj
  rw [List.take_add_one, List.getElem?_eq_getElem hl]
  congr 2
  simp [colK]
end Mine
end
section
open PySem PySem.W PyProof.Rows PySem.Calls PySem.Spec
set_option maxRecDepth 100000
namespace Mine
def colR (pre : List Int) : List Int → List Int
  | [] => []
  | x :: xs => (1 + ((pre.count x : Nat) : Int)) :: colR (pre ++ [x]) xs
theorem colR_eq : ∀ (st pre : List Int), ((List.range st.length).map fun j => 1 + (((pre ++ st.take j).count (st.getD j 0) : Nat) : Int)) = colR pre st
  | [], _ => rfl
  | x :: xs, pre => by
    rw [List.length_cons, List.range_succ_eq_map, List.map_cons, List.map_map, colR, ← colR_eq xs (pre ++ [x])]
    congr 1
    · simp
    · refine List.map_congr_left fun j _ => ?_
      simp
theorem colK_R (st : List Int) : colK st = colR [] st := by
  rw [← colR_eq]
  unfold colK
  simp
theorem row_cols (l : Nat) : ∀ (r : List Nat) (j : Nat) (pre rest : List Int), pre.count (l : Int) = j →
    colR pre (standI (rowTold l j r) ++ rest) = colsI (rowTold l j r) ++ colR (pre ++ standI (rowTold l j r)) rest
  | [], j, pre, rest, h => by simp [rowTold, standI, colsI]
  | c :: r, j, pre, rest, h => by
    have ih := row_cols l r (j + 1) (pre ++ [(l : Int)]) rest (by rw [List.count_append, h]; simp)
    simp only [rowTold, standI, colsI, List.map_cons, List.cons_append, colR] at ih ⊢
    rw [ih, h, List.append_assoc]
    congr 1
    omega
theorem stand_row (l : Nat) : ∀ (r : List Nat) (j : Nat) (x : Int), x ∈ standI (rowTold l j r) → x = l
  | [], j, x, h => by simp [rowTold, standI] at h
  | c :: r, j, x, h => by
    simp only [rowTold, standI, List.map_cons, List.mem_cons] at h
    rcases h with h | h
    · exact h
    · exact stand_row l r (j + 1) x h
theorem from_cols : ∀ (ls : List (List Nat)) (l : Nat) (pre : List Int), (∀ x ∈ pre, x < (l : Int)) → colR pre (standI (toldFrom l ls)) = colsI (toldFrom l ls)
  | [], _, _, _ => rfl
  | r :: ls, l, pre, h => by
    have e1 : standI (toldFrom l (r :: ls)) = standI (rowTold l 0 r) ++ standI (toldFrom (l + 1) ls) := by rw [toldFrom]; unfold standI; rw [List.map_append]
    have e2 : colsI (toldFrom l (r :: ls)) = colsI (rowTold l 0 r) ++ colsI (toldFrom (l + 1) ls) := by rw [toldFrom]; unfold colsI; rw [List.map_append]
    rw [e1, e2, row_cols l r 0 pre _ (List.count_eq_zero.mpr fun hm => by have := h _ hm; omega), from_cols ls (l + 1)]
    intro x hx
    rcases List.mem_append.mp hx with hx | hx
    · have := h x hx; omega
    · have := stand_row l r 0 x hx; omega
theorem told_cols (ls : List (List Nat)) : colsI (toldL ls) = colK (standI (toldL ls)) := by
  rw [colK_R]
  exact (from_cols ls 1 [] (fun x hx => by cases hx)).symm
/-- which lines are told: those with a sign -/
theorem row_has (l : Nat) (r : List Nat) (j : Nat) (h : r ≠ []) : (l : Int) ∈ standI (rowTold l j r) := by
  cases r with
  | nil => exact absurd rfl h
  | cons c r => simp [rowTold, standI]
theorem from_mem : ∀ (ls : List (List Nat)) (l : Nat) (x : Int), x ∈ standI (toldFrom l ls) ↔ ∃ i, i < ls.length ∧ ls.getD i [] ≠ [] ∧ x = ((l + i : Nat) : Int)
  | [], l, x => by simp [toldFrom, standI]
  | r :: ls, l, x => by
    have e1 : standI (toldFrom l (r :: ls)) = standI (rowTold l 0 r) ++ standI (toldFrom (l + 1) ls) := by rw [toldFrom]; unfold standI; rw [List.map_append]
    rw [e1, List.mem_append, from_mem ls (l + 1) x]
    constructor
    · rintro (h | ⟨i, hi, hne, rfl⟩)
      · refine ⟨0, by simp, ?_, stand_row l r 0 x h⟩
        intro e
        simp at e
        subst e
        simp [rowTold, standI] at h
      · exact ⟨i + 1, by simpa using hi, by simpa using hne, by omega⟩
    · rintro ⟨i, hi, hne, rfl⟩
      cases i with
      | zero => exact .inl (row_has l r 0 (by simpa using hne))
      | succ i => exact .inr ⟨i, by simpa using hi, by simpa using hne, by omega⟩
theorem row_sorted (l : Nat) (r : List Nat) (j : Nat) : (standI (rowTold l j r)).Pairwise (· ≤ ·) := by
  refine List.pairwise_iff_getElem.mpr fun a b ha hb _ => ?_
  have h1 := stand_row l r j _ (List.getElem_mem ha)
  have h2 := stand_row l r j _ (List.getElem_mem hb)
  omega
theorem from_sorted : ∀ (ls : List (List Nat)) (l : Nat), (standI (toldFrom l ls)).Pairwise (· ≤ ·)
  | [], _ => .nil
  | r :: ls, l => by
    have e1 : standI (toldFrom l (r :: ls)) = standI (rowTold l 0 r) ++ standI (toldFrom (l + 1) ls) := by rw [toldFrom]; unfold standI; rw [List.map_append]
    rw [e1]
    refine List.pairwise_append.mpr ⟨row_sorted l r 0, from_sorted ls (l + 1), fun a ha b hb => ?_⟩
    have h1 := stand_row l r 0 a ha
    obtain ⟨i, _, _, rfl⟩ := (from_mem ls (l + 1) b).mp hb
    omega
end Mine
end
section
open PySem PySem.W PyProof.Rows PySem.Calls PySem.Spec
set_option maxRecDepth 100000
namespace Mine
theorem sumL_cons (r : List Nat) (ls : List (List Nat)) : sumL (r :: ls) = r.length + sumL ls := by simp [sumL]
theorem sumL_app (a b : List (List Nat)) : sumL (a ++ b) = sumL a + sumL b := by unfold sumL; rw [List.map_append, List.sum_append]
theorem stand_row_get (l : Nat) : ∀ (r : List Nat) (c j : Nat), j < r.length → (standI (rowTold l c r))[j]? = some (l : Int)
  | [], _, j, h => absurd h (Nat.not_lt_zero _)
  | x :: r, c, 0, _ => rfl
  | x :: r, c, j + 1, h => by
    have := stand_row_get l r (c + 1) j (by simpa using h)
    simpa [rowTold, standI] using this
theorem stand_row_len (l c : Nat) (r : List Nat) : (standI (rowTold l c r)).length = r.length := by unfold standI; rw [List.length_map, rowTold_len]
/-- in which line the j-th sign stands -/
theorem from_get : ∀ (ls : List (List Nat)) (l j : Nat), j < sumL ls → ∃ i, i < ls.length ∧ sumL (ls.take i) ≤ j ∧ j < sumL (ls.take (i + 1)) ∧ (standI (toldFrom l ls))[j]? = some ((l + i : Nat) : Int)
  | [], _, _, h => absurd h (Nat.not_lt_zero _)
  | r :: ls, l, j, h => by
    have e1 : standI (toldFrom l (r :: ls)) = standI (rowTold l 0 r) ++ standI (toldFrom (l + 1) ls) := by rw [toldFrom]; unfold standI; rw [List.map_append]
    rw [sumL_cons] at h
    by_cases hj : j < r.length
    · refine ⟨0, by simp, by simp [sumL], ?_, ?_⟩
      · simp [sumL]; exact hj
      · rw [e1, List.getElem?_append_left (by rw [stand_row_len]; exact hj), stand_row_get l r 0 j hj]; rfl
    · obtain ⟨i, h1, h2, h3, h4⟩ := from_get ls (l + 1) (j - r.length) (by omega)
      refine ⟨i + 1, by simpa using h1, ?_, ?_, ?_⟩
      · rw [List.take_succ_cons, sumL_cons]; omega
      · rw [List.take_succ_cons, sumL_cons]; omega
      · rw [e1, List.getElem?_append_right (by rw [stand_row_len]; omega), stand_row_len, h4]
        congr 1; omega
theorem sumL_take_mono (ls : List (List Nat)) {a b : Nat} (h : a ≤ b) : sumL (ls.take a) ≤ sumL (ls.take b) := by
  have : ls.take b = ls.take a ++ (ls.drop a).take (b - a) := by rw [← List.take_add, Nat.add_sub_cancel' h]
  rw [this, sumL_app]; omega
theorem lines_take {ps cs : List Nat} (hp : ∀ j, j < ps.length → ps.getD j 0 ≤ j) {i : Nat} (hi : i ≤ ps.length) : sumL ((linesL ps cs).take i) + 1 = (lvl ps i).length ∧ i ≤ sumL ((linesL ps cs).take i) := by
  have e : (linesL ps cs).take i = (List.range i).map (rowOf ps cs) := by
    unfold linesL
    rw [← List.map_take, List.take_range, Nat.min_eq_left (by omega)]
  have h1 := rows_sum ps cs i
  have h2 := lvl_has hp i hi
  rw [e]; omega
theorem late_nil {st : List Int} {n : Nat} : lateL st n = [] ↔ ∀ j, j < n → st.getD j 0 ≤ (j : Int) + 1 := by
  unfold lateL
  rw [List.map_eq_nil_iff, List.filter_eq_nil_iff]
  constructor
  · intro h j hj
    have := h j (List.mem_range.mpr hj)
    rw [decide_eq_true_eq] at this
    omega
  · intro h j hj
    have := h j (List.mem_range.mp hj)
    rw [decide_eq_true_eq]
    omega
theorem late_turn {ps cs : List Nat} (hp : ∀ j, j < ps.length → ps.getD j 0 ≤ j) {k : Nat} (hk : k ≤ ps.length) :
    lateL (standI (toldL (turnL (linesL ps cs) k))) ps.length = [] ↔ k = 0 := by
  have hll : (linesL ps cs).length = ps.length + 1 := by unfold linesL; simp
  have hs : sumL (turnL (linesL ps cs) k) = ps.length := by rw [turn_sum, lines_sum hp]
  rw [late_nil]
  constructor
  · intro h
    refine Decidable.byContradiction fun hk0 => ?_
    obtain ⟨h1, h2⟩ := lines_take (cs := cs) hp hk
    have hd : sumL ((linesL ps cs).drop k) + sumL ((linesL ps cs).take k) = ps.length := by
      rw [← hs]; unfold turnL; rw [sumL_app]
    obtain ⟨i, hi, h3, h4, h5⟩ := from_get (turnL (linesL ps cs) k) 1 (sumL ((linesL ps cs).drop k)) (by omega)
    have h6 := h (sumL ((linesL ps cs).drop k)) (by omega)
    have h7 : ps.length + 1 - k ≤ i := by
      refine Decidable.byContradiction fun hc => ?_
      have := sumL_take_mono (turnL (linesL ps cs) k) (a := i + 1) (b := ps.length + 1 - k) (by omega)
      have e : (turnL (linesL ps cs) k).take (ps.length + 1 - k) = (linesL ps cs).drop k := by
        unfold turnL
        rw [List.take_left' (by rw [List.length_drop, hll])]
      rw [e] at this
      omega
    unfold toldL at h6
    rw [List.getD_eq_getElem?_getD, h5] at h6
    simp only [Option.getD_some] at h6
    omega
  · rintro rfl j hj
    have e : turnL (linesL ps cs) 0 = linesL ps cs := by unfold turnL; simp
    rw [e] at hs ⊢
    obtain ⟨i, hi, h3, h4, h5⟩ := from_get (linesL ps cs) 1 j (by omega)
    obtain ⟨_, h2⟩ := lines_take (cs := cs) hp (i := i) (by omega)
    unfold toldL
    rw [List.getD_eq_getElem?_getD, h5]
    simp only [Option.getD_some]
    omega
theorem told_in {ls : List (List Nat)} {k : Nat} (hk : k < (standI (toldL ls)).length) : 1 ≤ (standI (toldL ls)).getD k 0 ∧ (standI (toldL ls)).getD k 0 ≤ (ls.length : Int) := by
  have hm : (standI (toldL ls)).getD k 0 ∈ standI (toldL ls) := by
    rw [List.getD_eq_getElem?_getD, List.getElem?_eq_getElem hk]; exact List.getElem_mem hk
  obtain ⟨i, hi, _, e⟩ := (from_mem ls 1 _).mp hm
  omega
theorem told_sorted {ls : List (List Nat)} (i j : Nat) (hij : i ≤ j) (hj : j < (standI (toldL ls)).length) : (standI (toldL ls)).getD i 0 ≤ (standI (toldL ls)).getD j 0 := by
  rw [List.getD_eq_getElem?_getD, List.getD_eq_getElem?_getD, List.getElem?_eq_getElem hj, List.getElem?_eq_getElem (by omega)]
  rcases Nat.lt_or_eq_of_le hij with h | rfl
  · exact List.pairwise_iff_getElem.mp (from_sorted ls 1) i j _ hj h
  · exact Int.le_refl _
theorem miss_lines (ls : List (List Nat)) : missL (standI (toldL ls)) ls.length = ((List.range ls.length).filter fun (i : Nat) => decide (ls.getD i [] = [])).map fun (i : Nat) => (i : Int) + 1 := by
  unfold missL
  rw [List.filter_map]
  congr 1
  refine List.filter_congr fun i hi => ?_
  have hi := List.mem_range.mp hi
  have h1 := from_mem ls 1 ((i : Int) + 1)
  simp only [Function.comp]
  by_cases h : ls.getD i [] = []
  · rw [decide_eq_true h]
    have : ¬ ((i : Int) + 1 ∈ standI (toldL ls)) := fun hm => by
      obtain ⟨i', _, hne, e⟩ := h1.mp hm
      have : i' = i := by omega
      subst this
      exact hne h
    simpa using this
  · rw [decide_eq_false h]
    have : (i : Int) + 1 ∈ standI (toldL ls) := h1.mpr ⟨i, hi, h, by omega⟩
    simpa using this
end Mine
end
section
open PySem PySem.W PyProof.Rows PySem.Calls PySem.Spec
set_option maxRecDepth 100000
namespace Mine
theorem kids_rep (ps : List Nat) (p q : Nat) : ∀ m, kidsOf (ps ++ List.replicate m p) q = kidsOf ps q ++ (if p = q then List.range' (ps.length + 1) m else [])
  | 0 => by simp
  | m + 1 => by
    rw [List.replicate_succ', ← List.append_assoc, kidsOf_snoc, kids_rep ps p q m, List.append_assoc]
    congr 1
    by_cases h : p = q
    · rw [if_pos h, if_pos h, if_pos h, List.range'_concat, List.length_append, List.length_replicate]
      congr 2; omega
    · rw [if_neg h, if_neg h, if_neg h]; rfl
theorem toldFrom_app : ∀ (a b : List (List Nat)) (l : Nat), toldFrom l (a ++ b) = toldFrom l a ++ toldFrom (l + a.length) b
  | [], b, l => rfl
  | r :: a, b, l => by
    rw [List.cons_append, toldFrom, toldFrom, toldFrom_app a b (l + 1), List.append_assoc, List.length_cons]
    congr 3; omega
theorem par_row (l : Nat) : ∀ (c : Nat) (r : List Nat), parT (rowTold (l + 1) c r) = List.replicate r.length l
  | _, [] => rfl
  | c, x :: r => by
    have := par_row l (c + 1) r
    unfold parT at this ⊢
    rw [rowTold, List.map_cons, this, List.length_cons, List.replicate_succ]; rfl
theorem sgn_row (l : Nat) : ∀ (c : Nat) (r : List Nat), (rowTold l c r).map (fun d => d.2.2) = r
  | _, [] => rfl
  | c, x :: r => by rw [rowTold, List.map_cons, sgn_row l (c + 1) r]
def toldK (ps cs : List Nat) (k : Nat) : List (Nat × Nat × Nat) := toldFrom 1 ((List.range k).map (rowOf ps cs))
theorem toldK_succ (ps cs : List Nat) (k : Nat) : toldK ps cs (k + 1) = toldK ps cs k ++ rowTold (k + 1) 0 (rowOf ps cs k) := by
  unfold toldK
  rw [List.range_succ, List.map_append, toldFrom_app, List.length_map, List.length_range]
  congr 1
  rw [List.map_cons, List.map_nil, toldFrom, toldFrom, List.append_nil, Nat.add_comm]
theorem toldK_len (ps cs : List Nat) (k : Nat) : (toldK ps cs k).length + 1 = (lvl ps k).length := by
  unfold toldK
  rw [toldFrom_len, rows_sum]
theorem kids_told (ps cs : List Nat) : ∀ (k q : Nat), kidsOf (parT (toldK ps cs k)) q = if q < k then List.range' (lvl ps q).length (kidsOf ps (nodeAt ps q)).length else []
  | 0, q => by simp [toldK, toldFrom, parT, kidsOf]
  | k + 1, q => by
    have e : parT (toldK ps cs (k + 1)) = parT (toldK ps cs k) ++ List.replicate (rowOf ps cs k).length k := by
      rw [toldK_succ]
      unfold parT
      rw [List.map_append]
      congr 1
      exact par_row k 0 _
    have hl : (parT (toldK ps cs k)).length + 1 = (lvl ps k).length := by unfold parT; rw [List.length_map, toldK_len]
    have hr : (rowOf ps cs k).length = (kidsOf ps (nodeAt ps k)).length := by unfold rowOf; rw [List.length_map]
    rw [e, kids_rep, kids_told ps cs k q, hl, hr]
    by_cases h1 : q < k
    · rw [if_pos h1, if_neg (show ¬ k = q by omega), if_pos (show q < k + 1 by omega), List.append_nil]
    · by_cases h2 : k = q
      · subst h2
        rw [if_neg h1, if_pos rfl, if_pos (Nat.lt_succ_self k)]; rfl
      · rw [if_neg h1, if_neg h2, if_neg (show ¬ q < k + 1 by omega)]; rfl
theorem sgn_told {ps cs : List Nat} (h0 : cs.getD 0 0 = 100) : ∀ k, sgnT (toldK ps cs k) = (lvl ps k).map fun q => cs.getD q 0
  | 0 => by simp only [toldK, List.range_zero, List.map_nil, toldFrom, sgnT, lvl, List.map_cons, h0]
  | k + 1 => by
    have ih := sgn_told (ps := ps) h0 k
    unfold sgnT at ih ⊢
    rw [toldK_succ, List.map_append, ← List.cons_append, ih, sgn_row, lvl, List.map_append]
    rfl
theorem kids_node {ps cs : List Nat} (hp : ∀ j, j < ps.length → ps.getD j 0 ≤ j) {i : Nat} (hi : i ≤ ps.length) :
    (kidsOf (parT (toldK ps cs (ps.length + 1))) i).map (nodeAt ps) = kidsOf ps (nodeAt ps i) := by
  rw [kids_told, if_pos (by omega)]
  have hf := lvl_full hp
  obtain ⟨t, e⟩ := lvl_pre ps (i + 1) (ps.length - i)
  rw [show i + 1 + (ps.length - i) = ps.length + 1 by omega] at e
  have e2 : lvl ps (i + 1) = lvl ps i ++ kidsOf ps (nodeAt ps i) := rfl
  refine List.ext_getElem (by rw [List.length_map, List.length_range']) fun j h1 h2 => ?_
  rw [List.getElem_map, List.getElem_range']
  have h3 : (lvl ps i).length + 1 * j ≤ ps.length := by
    have : (lvl ps (ps.length + 1)).length = (lvl ps i).length + (kidsOf ps (nodeAt ps i)).length + t.length := by rw [e, e2, List.length_append, List.length_append]
    omega
  have h4 := lvl_node hp (k := ps.length + 1) (by omega) h3
  rw [e, e2, List.append_assoc, List.getElem?_append_right (by omega), List.getElem?_append_left (by omega), show (lvl ps i).length + 1 * j - (lvl ps i).length = j by omega, List.getElem?_eq_getElem h2] at h4
  exact (Option.some.inj h4).symm
theorem tree_told {ps cs : List Nat} (hp : ∀ j, j < ps.length → ps.getD j 0 ≤ j) (h0 : cs.getD 0 0 = 100) : ∀ (f i : Nat), i ≤ ps.length →
    treeD (parT (toldK ps cs (ps.length + 1))) (sgnT (toldK ps cs (ps.length + 1))) f i = treeD ps cs f (nodeAt ps i)
  | 0, _, _ => rfl
  | f + 1, i, hi => by
    have hl : (parT (toldK ps cs (ps.length + 1))).length = ps.length := by
      have := toldK_len ps cs (ps.length + 1)
      rw [lvl_full hp] at this
      unfold parT; rw [List.length_map]; omega
    have hs : (sgnT (toldK ps cs (ps.length + 1))).getD i 0 = cs.getD (nodeAt ps i) 0 := by
      rw [sgn_told h0, List.getD_eq_getElem?_getD, List.getElem?_map, lvl_node hp (by omega) hi]; rfl
    rw [treeD, treeD, hs, ← kids_node (cs := cs) hp hi, List.map_map]
    have hm : (kidsOf (parT (toldK ps cs (ps.length + 1))) i).map (treeD (parT (toldK ps cs (ps.length + 1))) (sgnT (toldK ps cs (ps.length + 1))) f) = (kidsOf (parT (toldK ps cs (ps.length + 1))) i).map (treeD ps cs f ∘ nodeAt ps) :=
      List.map_congr_left fun k hk => tree_told hp h0 f k (by have := kidsOf_le hk; omega)
    rw [hm]
theorem tree_law {ps cs : List Nat} (hp : ∀ j, j < ps.length → ps.getD j 0 ≤ j) (h0 : cs.getD 0 0 = 100) (f : Nat) :
    treeD (parT (toldL (turnL (linesL ps cs) 0))) (sgnT (toldL (turnL (linesL ps cs) 0))) f 0 = treeD ps cs f 0 := by
  have e : toldL (turnL (linesL ps cs) 0) = toldK ps cs (ps.length + 1) := by
    unfold turnL toldL toldK linesL
    rw [List.drop_zero, List.take_zero, List.append_nil]
  rw [e]
  exact tree_told hp h0 f 0 (Nat.zero_le _)
/-- each told line is one of the first ones -/
theorem par_told {ps cs : List Nat} (hp : ∀ j, j < ps.length → ps.getD j 0 ≤ j) {T : List (Nat × Nat × Nat)} (hT : T = toldL (turnL (linesL ps cs) 0)) : ∀ j, j < T.length → 1 ≤ (T.getD j (0, 0, 0)).1 ∧ (T.getD j (0, 0, 0)).1 ≤ j + 1 := by
  intro j hj
  have hl := late_nil.mp ((late_turn (cs := cs) hp (k := 0) (Nat.zero_le _)).mpr rfl) j (by rw [hT, told_len hp] at hj; exact hj)
  have h1 := told_in (ls := turnL (linesL ps cs) 0) (k := j) (by unfold standI; rw [List.length_map, ← hT]; exact hj)
  have e : (standI (toldL (turnL (linesL ps cs) 0))).getD j 0 = ((T.getD j (0, 0, 0)).1 : Int) := by
    unfold standI
    rw [← hT, List.getD_eq_getElem?_getD, List.getElem?_map, List.getD_eq_getElem?_getD, List.getElem?_eq_getElem hj]; rfl
  omega
end Mine
end
section
open PySem PySem.W PyProof.Rows PySem.Calls PySem.Spec
set_option maxRecDepth 100000
namespace Mine
theorem miss_snoc (ls : List (List Nat)) (j : Nat) : ((List.range (j + 1)).filter fun (i : Nat) => decide (ls.getD i [] = [])).map (fun (i : Nat) => (i : Int) + 1) = (((List.range j).filter fun (i : Nat) => decide (ls.getD i [] = [])).map fun (i : Nat) => (i : Int) + 1) ++ (if ls.getD j [] = [] then [(j : Int) + 1] else []) := by
  rw [List.range_succ, List.filter_append, List.map_append]
  congr 1
  rw [List.filter_cons, List.filter_nil]
  by_cases h : ls.getD j [] = []
  · rw [if_pos (by simpa using h), if_pos h]; rfl
  · rw [if_neg (by simpa using h), if_neg h]; rfl
theorem row_empty {l : List Nat} : ((⟨l.toArray⟩ : Str) == Str.ofString "") = true ↔ l = [] := by
  have e0 : Str.ofString "" = ⟨#[]⟩ := by decide
  rw [e0, beq_iff_eq]
  constructor
  · intro h
    have h := congrArg (fun x : Str => x.cps.toList) h
    simpa using h
  · rintro rfl; rfl
theorem tree_all {l : List (Addr × Obj)} {ns : List Nd} {g : Nat → Dat} : ∀ (ks : List Nat), (∀ k ∈ ks, DatIn l (.ref ((ns.map Nd.a).getD k 0)) (g k)) → DatAll l ((ks.map fun k => (ns.map Nd.a).getD k 0).map Value.ref) (ks.map g)
  | [], _ => .nil
  | k :: ks, h => .cons (h k (.head _)) (tree_all ks fun z hz => h z (.tail _ hz))
theorem tree_in {ns : List Nd} {ps cs : List Nat} (Sh : Shape ns ps) (V : StrsV ns cs) : ∀ (f q : Nat) (n : Nd), ns[q]? = some n → ns.length ≤ q + f → DatIn (ledN ns) (.ref n.a) (treeD ps cs f q)
  | 0, q, n, hq, hf => by
    have := (List.getElem?_eq_some_iff.mp hq).1
    omega
  | f + 1, q, n, hq, hf => by
    obtain ⟨t, hv⟩ := V q n hq
    have hn := List.mem_of_getElem? hq
    have ha := ledN_a hn
    have hc := ledN_c hn
    rw [Sh.kids q n hq] at hc
    rw [treeD]
    refine DatIn.list (vs := [n.v, .ref n.c]) ha (.cons (hv ▸ .str _ _) (.cons (DatIn.list hc (tree_all _ fun k hk => ?_)) .nil))
    have h1 := kids_gt Sh.par hk
    have h2 := kidsOf_le hk
    have hl : k < ns.length := by rw [Sh.len]; omega
    have e : (ns.map Nd.a).getD k 0 = ns[k].a := by rw [List.getD_eq_getElem?_getD, List.getElem?_map, List.getElem?_eq_getElem hl]; rfl
    rw [e]
    exact tree_in Sh V f k ns[k] (List.getElem?_eq_getElem hl) (by omega)
theorem tree_kqd {ps cs : List Nat} (h : ∀ q, cs.getD q 0 < 128) : ∀ (f q : Nat), kqdOk (2 * f) (treeD ps cs f q) = true
  | 0, q => by rw [treeD]; rfl
  | f + 1, q => by
    rw [treeD, show 2 * (f + 1) = (2 * f + 1) + 1 by omega, kqdOk, List.all_cons, List.all_cons, List.all_nil, kqdOk, kqdOk, Bool.and_true]
    have h1 := h q
    refine Bool.and_eq_true_iff.mpr ⟨?_, List.all_eq_true.mpr fun d hd => ?_⟩
    · generalize cs.getD q 0 = c at h1 ⊢
      have : c < 1114112 := by omega
      simp [PyData.strOk, this]
    · obtain ⟨k, _, rfl⟩ := List.mem_map.mp hd
      exact tree_kqd h f k
theorem deep_ne {prog : Program} {w : World} {A : Around} {E : Value → Shared → Prop} {s : Shared} {h₀ : Heap} {L : Addr} {news : List (Addr × Obj)} {va vb : Value} {d : Dat} {n : Nat} {Q : Value → Shared → Prop} (N : News h₀ L s.heap news)
    (Da : DatIn news va d) (Db : DatIn news vb d) (ok : kqdOk n d = true) (hn : n ≤ 64) (hu : A.units + 64 < cLine) (h : Q (.bool false) s) : wpAny (model prog w) A (compareOp .NotEq va vb) Q E s := by
  obtain ⟨as, ra⟩ := kqd_in N n Da ok
  obtain ⟨bs, rb⟩ := kqd_in N n Db ok
  have la := kqd_lay n d ok
  have e : PyData.eqv (kqdP d) (kqdP d) = true := (kqd_eqv n d d n ok ok).mpr rfl
  have sh : SeqAt.shaped (kqdP d) = true := by
    unfold SeqAt.shaped; rw [la.1, Bool.true_and]; exact decide_eq_true (Nat.le_trans la.2 hn)
  exact ne_dataH ra rb sh sh hu (by rw [e]; exact h)
theorem map3 {m : Str → Option Value} {v1 v2 v3 : Value} (e1 : m (Str.ofString "lines") = some v1) (e2 : m (Str.ofString "root") = some v2) (e3 : m (Str.ofString "numbers") = some v3) :
    m = fun y => if y = Str.ofString "lines" then some v1 else if y = Str.ofString "root" then some v2 else if y = Str.ofString "numbers" then some v3 else m y := by
  funext y
  repeat' split
  all_goals first | rfl | (subst_vars; first | exact e1 | exact e2 | exact e3)
theorem sign_lt {ks : List Int} (hk : ∀ k ∈ ks, 0 ≤ k ∧ k < 16) (q : Nat) : (ks.map signOf).getD q 0 < 128 := by
  have h16 : ∀ k : Nat, k < 16 → signOf (k : Int) < 128 := by decide +kernel
  rw [List.getD_eq_getElem?_getD, List.getElem?_map]
  cases hq : ks[q]? with
  | none => exact Nat.lt_of_sub_eq_succ rfl
  | some k =>
    have h := hk k (List.mem_of_getElem? hq)
    obtain ⟨p, rfl⟩ := Int.eq_ofNat_of_zero_le h.1
    exact h16 p (by omega)
/-- what stands ahead of a turn of the second loop -/
inductive LawB (c2 c1 al : Addr) (oal : Obj) (G : List (Addr × Obj)) (va vr vn : Value) (m₁ : Str → Option Value) (nx : List (Addr × Obj)) : Prop
  | mk (o2 o1 : Obj) (v2 v1 : Option Value) (tab : List (Addr × Obj)) (u : Str → Option Value) (e1 : nx = (c2, o2) :: (c1, o1) :: (al, oal) :: (tab ++ G))
      (e2 : m₁ = (fun y => if y = Str.ofString "lines" then some va else if y = Str.ofString "root" then some vr else if y = Str.ofString "numbers" then some vn else u y)) (e3 : o2.data = .cell v2) (e4 : o1.data = .cell v1) (e5 : TabSt tab)
      (e6 : ∀ p ∈ (c2, o2) :: (c1, o1) :: (al, oal) :: G, ∀ q ∈ tab, p.1 ≠ q.1) : LawB c2 c1 al oal G va vr vn m₁ nx
/-- what a turn of the second loop leaves -/
theorem turn_end {g h : Heap} {L c1 c2 al : Addr} {m : Str → Option Value} {own G tab tab' tl l : List (Addr × Obj)} {o1 o2 o1' o2' oal : Obj} {A1 B1 : Addr × Obj} {v1 v2 : Option Value} {va vr vn : Value} {s1 : Shared} {tk : Nat}
    (F : Fr g L h m) (N : News g L h l) (e1 : m (Str.ofString "lines") = some va) (e2 : m (Str.ofString "root") = some vr) (e3 : m (Str.ofString "numbers") = some vn) (h2 : o2'.data = .cell v2) (h1 : o1'.data = .cell v1) (TS : TabSt tab')
    (off : ∀ p ∈ B1 :: (tl ++ (A1 :: (c1, o1') :: (c2, o2) :: (al, oal) :: (G ++ own))), ∀ q ∈ tab', p.1 ≠ q.1)
    (hoff : OwnOff own (((c2, o2) :: (c1, o1) :: (al, oal) :: (tab ++ G)).map (·.1)))
    (hs : ∀ p ∈ (c2, o2') :: (c1, o1') :: (al, oal) :: (tab' ++ (tl ++ (G ++ own))), p ∈ l) :
    InvEndG g L (LawB c2 c1 al oal G va vr vn) own s1 { s1 with heap := h, toks := tk } := by
  have inB : ∀ {p}, p ∈ A1 :: (c1, o1') :: (c2, o2) :: (al, oal) :: (G ++ own) → p ∈ B1 :: (tl ++ (A1 :: (c1, o1') :: (c2, o2) :: (al, oal) :: (G ++ own))) := fun hp => .tail _ (List.mem_append.mpr (.inr hp))
  refine InvEndG.intro F N ⟨o2', o1', v2, v1, tab', m, rfl, map3 e1 e2 e3, h2, h1, TS, ?_⟩ ?_ ?_ ?_
  · intro p hp q hq
    rcases List.mem_cons.mp hp with rfl | hp
    · exact off (c2, o2) (inB (.tail _ (.tail _ (.head _)))) q hq
    · rcases List.mem_cons.mp hp with rfl | hp
      · exact off (c1, o1') (inB (.tail _ (.head _))) q hq
      · rcases List.mem_cons.mp hp with rfl | hp
        · exact off _ (inB (.tail _ (.tail _ (.tail _ (.head _))))) q hq
        · exact off p (inB (.tail _ (.tail _ (.tail _ (.tail _ (List.mem_append.mpr (.inl hp))))))) q hq
  · intro p hp b hb
    obtain ⟨q, hq, rfl⟩ := List.mem_map.mp hb
    rcases List.mem_cons.mp hq with rfl | hq
    · exact hoff p hp _ (.head _)
    · rcases List.mem_cons.mp hq with rfl | hq
      · exact hoff p hp _ (.tail _ (.head _))
      · rcases List.mem_cons.mp hq with rfl | hq
        · exact hoff p hp _ (.tail _ (.tail _ (.head _)))
        · rcases List.mem_append.mp hq with hq | hq
          · exact off p (inB (.tail _ (.tail _ (.tail _ (.tail _ (List.mem_append.mpr (.inr hp))))))) q hq
          · exact hoff p hp _ (.tail _ (.tail _ (.tail _ (List.mem_map.mpr ⟨q, List.mem_append.mpr (.inr hq), rfl⟩))))
  · intro p hp
    refine hs p ?_
    rcases List.mem_cons.mp hp with rfl | hp
    · exact .head _
    · rcases List.mem_cons.mp hp with rfl | hp
      · exact .tail _ (.head _)
      · rcases List.mem_cons.mp hp with rfl | hp
        · exact .tail _ (.tail _ (.head _))
        · refine .tail _ (.tail _ (.tail _ ?_))
          rcases List.mem_append.mp hp with hp | hp
          · exact List.mem_append.mpr (.inl hp)
          · exact List.mem_append.mpr (.inr (List.mem_append.mpr (.inr (List.mem_append.mpr (.inl hp)))))
  · intro p hp
    exact hs p (.tail _ (.tail _ (.tail _ (List.mem_append.mpr (.inr (List.mem_append.mpr (.inr (List.mem_append.mpr (.inr hp)))))))))
end Mine
end
section
open PySem PySem.W PyProof.Rows PySem.Calls PySem.Spec
namespace Mine
theorem calmLAW {prog : Program} {w : World} {A : Around} {Q : Bool → Shared → Prop} {E : Value → Shared → Prop} {s : Shared} (h : Q true s) : wpAny (model prog w) A (truthy (.bool true)) Q E s := by
  w_top off
  walk1
  exact h
end Mine
end
section
open PySem PySem.W PyProof.Rows PySem.Calls PySem.Spec
set_option maxRecDepth 100000
set_option maxHeartbeats 8000000
namespace Mine
set_option pp.deepTerms false
set_option pp.deepTerms.threshold 6
local macro_rules | `(tactic| walk_at "call ref") => `(tactic| refine stop_call _ ?_)
local macro_rules | `(tactic| walk_at "subscriptTail") => `(tactic| refine stop_item ?_)
local macro_rules | `(tactic| walk_at "call builtin:list.append") => `(tactic| refine Stop.mk ?_)
local macro_rules | `(tactic| walk_at "call builtin:str.join") => `(tactic| refine Stop.mk ?_)
local macro_rules | `(tactic| walk_at "inplaceOp") => `(tactic| refine stop_inpl ?_)
local macro_rules | `(tactic| walk_at "pyIter ref") => `(tactic| refine stop_iterV ?_)
local macro_rules | `(tactic| walk_at "eval ListComp") => `(tactic| refine Stop.mk ?_)
local macro_rules | `(tactic| walk_at "CompSrcT") => `(tactic| refine Stop.mk ?_)
local macro_rules | `(tactic| walk_at "CompSrc") => `(tactic| refine Stop.mk ?_)
local macro_rules | `(tactic| walk_at "call builtin:len") => `(tactic| (k_dflt (refine len_mem (by k_asm) (by (repeat (first | exact List.Mem.head _ | assumption | apply List.Mem.tail))) (by assumption) ?_)))
section
variable {prog : Program} {w : World} {A : Around} {E : Value → Shared → Prop} {s : Shared} {h₀ : Heap} {L l : Addr} {m : Str → Option Value} {news : List (Addr × Obj)} {value slice : PySem.Expr} {vs : List Value} {x : Int} {t : Tok} {n : Nat} {Q : Value → Shared → Prop}
theorem add_mem {D b : Addr} {ws : List Value} {n2 : Nat} (F : Fr h₀ L s.heap m) (N : News h₀ L s.heap news) (hm : (D, W.listOf vs.toArray n) ∈ news) (hb : (b, W.listOf ws.toArray n2) ∈ news) (hz : vs.length + ws.length < 1000)
    (h : ∀ D' h', Fr h₀ L h' m → News h₀ L h' ((D', W.listOf (vs ++ ws).toArray 0) :: news) → (∀ p ∈ news, p.1 < D') → Q (.ref D') { s with heap := h' }) : wpAny (model prog w) A (binaryOp .Add (.ref D) (.ref b)) Q E s := by
  have c6 : sizeLine = 16777216 := by decide
  refine add_arrays F N ⟨_, (N _ hm).1, rfl, _, rfl⟩ ⟨_, (N _ hb).1, rfl, _, rfl⟩ (fun h' F' N' => h _ h' F' ?_ fun p hp => Heap.lt_size (N p hp).1) (by rw [List.size_toArray, List.size_toArray]; omega)
  simpa using N'
theorem pick_to (h0 : 0 ≤ x) (h1 : x ≤ (vs.length : Int)) : kms_pick vs none (some x) = vs.take x.toNat := by
  unfold kms_pick kms_lo kms_hi
  simp only
  rw [if_neg (by omega), show min x.toNat vs.length = x.toNat by omega]
  rfl
theorem slice_to (F : Fr h₀ L s.heap m) (N : News h₀ L s.heap news) (hm : (l, W.listOf vs.toArray n) ∈ news) (h0 : 0 ≤ x) (h1 : x ≤ (vs.length : Int)) (h2 : vs.length < 200)
    (h : ∀ D h', Fr h₀ L h' m → News h₀ L h' ((D, W.listOf (vs.take x.toNat).toArray 0) :: news) → (∀ p ∈ news, p.1 < D) → Q (.ref D) { s with heap := h' })
    (hs : subscripted slice false (.ref l) (.ref s.heap.objs.size) = operate [.ref s.heap.objs.size, .ref l] (getItem (.ref l) (.ref s.heap.objs.size))) (ht : ∀ r, letTemporaryGo value (.ref l) r = pure ()) :
    wpAny (model prog w) A (subscriptTail value slice (.ref l) (.ref s.heap.objs.size)) Q E { s with heap := s.heap.push { cls := .type "slice", data := .fields #[.none, .int x t, .none] } } := by
  have c6 : sizeLine = 16777216 := by decide
  exact kms_slice_lit (its := vs.toArray) F N ⟨_, (N _ hm).1, rfl, _, rfl⟩ .none (.int _ _) (by simpa using pick_to h0 h1) h hs ht (by rw [List.size_toArray]; omega)
end
local macro_rules | `(tactic| walk_at "subscriptTail Name Slice ref ref") => `(tactic| (k_here; (with_reducible show wpAny _ _ (subscriptTail _ (PySem.Expr.Slice (some _) none none _) (Value.ref _) (Value.ref _)) _ _ _); k_dflt (refine slice_from (s := ⟨_, _, _, _, _⟩) (by k_asm) (by k_asm) (by (repeat (first | exact List.Mem.head _ | assumption | apply List.Mem.tail))) (by omega) (by omega) (by omega) ?_ (by with_unfolding_all rfl) (by kmk_pure)); intro D' h' F' N' l1; (try k_lt l1); (try k_sweep)))
local macro_rules | `(tactic| walk_at "subscriptTail Name Slice ref ref") => `(tactic| (k_here; (with_reducible show wpAny _ _ (subscriptTail _ (PySem.Expr.Slice none (some _) none _) (Value.ref _) (Value.ref _)) _ _ _); k_dflt (refine slice_to (s := ⟨_, _, _, _, _⟩) (by k_asm) (by k_asm) (by (repeat (first | exact List.Mem.head _ | assumption | apply List.Mem.tail))) (by omega) (by omega) (by omega) ?_ (by with_unfolding_all rfl) (by kmk_pure)); intro D' h' F' N' l1; (try k_lt l1); (try k_sweep)))
theorem news_turn {h₀ h h' : Heap} {L D : Addr} {l l' : List (Addr × Obj)} {o o' : Obj} (N : News h₀ L h l) (hD : (D, o) ∈ l) (K : ∀ p ∈ l, p.1 ≠ D → h'.get? p.1 = some p.2) (Z : h'.get? D = some o') (hl : ∀ p ∈ l', p = (D, o') ∨ (p ∈ l ∧ p.1 ≠ D)) : News h₀ L h' l' := fun p hp => by
  rcases hl p hp with rfl | ⟨h1, h2⟩
  · exact ⟨Z, (N _ hD).2⟩
  · exact ⟨K p h1 h2, (N p h1).2⟩
theorem store_cell {M : Model} {A : Around} {E : Value → Shared → Prop} {s : Shared} {h₀ : Heap} {L a : Addr} {m : Str → Option Value} {cn : Str} {cs : Scope} {ccd : Value} {cl : List (Str × Addr)} {x : Str} {v : Value} {Q : Unit → Shared → Prop} {l : List (Addr × Obj)} {l' : Obj → List (Addr × Obj)} {c : Addr} {o : Obj} {v₀ : Option Value}
    (F : Fr h₀ L s.heap m) (N : News h₀ L s.heap l) (hc : cl.lookup x = some c) (hm : (c, o) ∈ l) (hd : o.data = .cell v₀) (hl : ∀ o', ∀ p ∈ l' o', p = (c, o') ∨ (p ∈ l ∧ p.1 ≠ c))
    (h : ∀ h' o', Fr h₀ L h' m → News h₀ L h' (l' o') → o'.data = .cell (some v) → Q () { s with heap := h' })
    (hk : cs.kind = .function := by rfl) (hx : (envX cn cs L a ccd cl).kindOf x = some .cell := by rfl) : wpAny M A (storeName (envX cn cs L a ccd cl) x v) Q E s := by
  have hmem := N (c, o) hm
  refine wpAny_storeName_cell hk hx hc ⟨o, hmem.1, hd⟩ fun h' hv hs => ?_
  obtain ⟨o', ho', hd'⟩ := hv
  exact h h' o' (F.change hs hmem.2.1 hmem.2.2) (news_turn N hm (fun p hp hne => (hs.2 _ hne).trans (N p hp).1) ho' (hl o')) hd'
theorem strs_append {vs ws : List Value} {xs ys : List Str} (h : StrsAre vs xs) (k : StrsAre ws ys) : StrsAre (vs ++ ws) (xs ++ ys) := by
  induction h with
  | nil => exact k
  | cons y t _ ih => exact .cons _ _ ih
theorem strs_drop {vs : List Value} {xs : List Str} (h : StrsAre vs xs) : ∀ n, StrsAre (vs.drop n) (xs.drop n) := by
  induction h with
  | nil => intro n; simp; exact .nil
  | cons y t h ih =>
    intro n
    cases n with
    | zero => exact .cons _ _ h
    | succ n => exact ih n
theorem strs_take {vs : List Value} {xs : List Str} (h : StrsAre vs xs) : ∀ n, StrsAre (vs.take n) (xs.take n) := by
  induction h with
  | nil => intro n; simp; exact .nil
  | cons y t h ih =>
    intro n
    cases n with
    | zero => exact .nil
    | succ n => exact .cons _ _ (ih n)
theorem turn_len (ls : List (List Nat)) (k : Nat) : (turnL ls k).length = ls.length := by
  unfold turnL
  rw [List.length_append, List.length_drop, List.length_take]; omega
theorem turn_mem {ls : List (List Nat)} {k : Nat} {l : List Nat} (h : l ∈ turnL ls k) : l ∈ ls := by
  unfold turnL at h
  exact (List.mem_append.mp h).elim List.mem_of_mem_drop List.mem_of_mem_take
theorem sign_ok : ∀ k : Nat, k < 16 → signOf (k : Int) ≠ 10 ∧ signOf (k : Int) ≠ 32 ∧ signOf (k : Int) < 128 := by decide +kernel
theorem row_signs {ps : List Nat} {ks : List Int} (hp : ∀ j, j < ps.length → ps.getD j 0 ≤ j) (hl : (ks.map signOf).length = ps.length + 1) (hk : ∀ k ∈ ks, 0 ≤ k ∧ k < 16) (j : Nat) : ∀ c ∈ rowOf ps (ks.map signOf) j, c ≠ 10 ∧ c ≠ 32 ∧ c < 128 := by
  intro c hc
  unfold rowOf at hc
  obtain ⟨q, hq, rfl⟩ := List.mem_map.mp hc
  have hq2 := (kidsOf_le hq).2
  rw [List.length_map] at hl
  have hql : q < ks.length := by omega
  rw [List.getD_eq_getElem?_getD, List.getElem?_map, List.getElem?_eq_getElem hql]
  have h := hk _ (List.getElem_mem hql)
  obtain ⟨n, hn⟩ := Int.eq_ofNat_of_zero_le h.1
  have := sign_ok n (by omega)
  rw [← hn] at this
  exact this
theorem text_weight {ls : List (List Nat)} (h : ∀ l ∈ ls, l.length ≤ 10) (hl : ls.length ≤ 20) : ((ls.map fun l => (⟨l.toArray⟩ : Str)).map (·.length)).sum + (ls.map fun l => (⟨l.toArray⟩ : Str)).length ≤ 1048576 := by
  have : ((ls.map fun l => (⟨l.toArray⟩ : Str)).map (·.length)).sum ≤ ls.length * 10 := by
    rw [List.map_map]
    clear hl
    induction ls with
    | nil => simp
    | cons l ls ih =>
      rw [List.map_cons, List.sum_cons, List.length_cons, Nat.add_mul]
      have h1 := ih fun x hx => h x (.tail _ hx)
      have h2 : ((fun x : Str => x.length) ∘ fun l : List Nat => (⟨l.toArray⟩ : Str)) l ≤ 10 := by
        show (⟨l.toArray⟩ : Str).length ≤ 10
        have := h l (.head _)
        simpa [Str.length] using this
      omega
  rw [List.length_map]; omega
theorem textL_mem {ls : List (List Nat)} {c : Nat} (h : c ∈ textL ls) : c = 10 ∨ ∃ l ∈ ls, c ∈ l := by
  cases ls with
  | nil => cases h
  | cons y ys =>
    unfold textL at h
    rcases List.mem_append.mp h with h | h
    · exact .inr ⟨y, .head _, h⟩
    · obtain ⟨r, hr, hc⟩ := List.mem_flatten.mp h
      obtain ⟨l, hl, rfl⟩ := List.mem_map.mp hr
      rcases List.mem_cons.mp hc with rfl | hc
      · exact .inl rfl
      · exact .inr ⟨l, .tail _ hl, hc⟩
theorem ne_same {prog : Program} {w : World} {A : Around} {E : Value → Shared → Prop} {s : Shared} {a b : Int} {t u : Tok} {Q : Value → Shared → Prop} (e : a = b) (h : Q (.bool false) s) : wpAny (model prog w) A (compareOp .NotEq (.int a t) (.int b u)) Q E s :=
  IsLeap.wpAny_ne_int (by rw [show (a != b) = false by simp [e]]; exact h)
local macro_rules | `(tactic| walk_at "exec Assign cons ListComp") => `(tactic| refine Stop.mk ?_)
local macro_rules | `(tactic| walk_at "compareOp NotEq int int") => `(tactic| refine ne_same (by omega) ?_)
/-- one more than how many were told in that line ahead -/
theorem comp_growT {prog : Program} {w : World} {A : Around} {h₀ : Heap} {L : Addr} {m : Str → Option Value} {env : Env} {ct elt : PySem.Expr} {x : Str} {scope : Scope} {cl : List (Str × Addr)} {s : Shared} {S : List (Addr × Obj) → Prop} {P : Nat → Value → Prop} {Fin : List Value → List (Addr × Obj) → Prop} {news : List (Addr × Obj)} {n : Nat}
    (J : Nat → List Value → List (Addr × Obj) → Prop) (h0 : J 0 [] news)
    (turn : ∀ i v I oI C oC D m₂ ys nw h tk (E' : Value → Shared → Prop), i < n → P i v → J i ys nw → LCg.NsObj oC m₂ → m₂ x = some v → Fr h₀ L h m → News h₀ L h ((I, oI) :: (C, oC) :: (D, LCg.lst ys) :: nw) → LCg.Off3 I C D nw → ((@Ne Nat I C) ∧ (@Ne Nat I D) ∧ (@Ne Nat C D)) →
      wpAny (model prog w) A (isTrue ct (compEnvC scope cl C env) (eval ct (compEnvC scope cl C env))) (fun ok s' => if ok = true then
        wpAny (model prog w) A (eval elt (compEnvC scope cl C env)) (LCg.CompEnd h₀ L m { s with heap := h, toks := tk } I oI C oC D (LCg.lst ys) S (fun y nw' => J (i + 1) (ys ++ [y]) nw')) E' s'
        else LCg.CompEnd h₀ L m { s with heap := h, toks := tk } I oI C oC D (LCg.lst ys) S (fun _ nw' => J (i + 1) ys nw') Value.none s') E' { s with heap := h, toks := tk })
    (fin : ∀ ys nw, J n ys nw → Fin ys nw) : LCt.CompRestT prog w A h₀ L m env ct elt x scope cl s S P Fin n 0 [] news := by
  have key : ∀ (j i : Nat) (ys : List Value) (nw : List (Addr × Obj)), i + j = n → J i ys nw → LCt.CompRestT prog w A h₀ L m env ct elt x scope cl s S P Fin j i ys nw := by
    intro j
    induction j with
    | zero =>
      intro i ys nw hi hy
      have e : i = n := by omega
      subst e
      exact LCt.CompRestT.zero (fin ys nw hy)
    | succ j ih =>
      intro i ys nw hi hy
      refine LCt.CompRestT.succ ?_
      intro v I oI C oC D m₂ h tk E' hv hC hx F N off ne
      refine wpAny_mono (turn i v I oI C oC D m₂ ys nw h tk E' (by omega) hv hy hC hx F N off ne) (fun ok s₂ hq => ?_) fun _ _ e => e
      cases ok with
      | true =>
        simp only [if_true] at hq ⊢
        refine wpAny_mono hq (fun y s₃ hq => ?_) fun _ _ e => e
        obtain ⟨h', tk', nw', e, F', N', off', hS, hn⟩ := hq
        exact ⟨h', tk', nw', e, F', N', off', hS, ih (i + 1) _ nw' (by omega) hn⟩
      | false =>
        simp only [Bool.false_eq_true, if_false] at hq ⊢
        obtain ⟨h', tk', nw', e, F', N', off', hS, hn⟩ := hq
        exact ⟨h', tk', nw', e, F', N', off', hS, ih (i + 1) _ nw' (by omega) hn⟩
  exact key n 0 [] news (by omega) h0
theorem led_split {h₀ h : Heap} {L : Addr} {Led : List (Addr × Obj)} {A B C P Q R : Addr × Obj} (N : News h₀ L h (Led ++ [A, B, C, P, Q, R])) (O : ∀ p ∈ Led, ∀ q ∈ [A, B, C, P, Q, R], q.1 ≠ p.1)
    (la : @LT.lt Nat _ P.1 C.1 ∧ @LT.lt Nat _ Q.1 C.1 ∧ @LT.lt Nat _ R.1 C.1) (lb : @LT.lt Nat _ P.1 B.1 ∧ @LT.lt Nat _ Q.1 B.1 ∧ @LT.lt Nat _ R.1 B.1) (lc : @LT.lt Nat _ P.1 A.1 ∧ @LT.lt Nat _ Q.1 A.1 ∧ @LT.lt Nat _ R.1 A.1) :
    ∃ G, A ∈ G ∧ (∀ p ∈ Led, p ∈ G) ∧ (∀ p ∈ G, @Ne Nat p.1 P.1 ∧ @Ne Nat p.1 Q.1 ∧ @Ne Nat p.1 R.1) ∧ News h₀ L h (P :: Q :: R :: G) := by
  refine ⟨Led ++ [A, B, C], List.mem_append.mpr (.inr (.head _)), fun p hp => List.mem_append.mpr (.inl hp), ?_, news_sub N ?_⟩
  · intro p hp
    rcases List.mem_append.mp hp with hp | hp
    · exact ⟨fun e => O p hp P (.tail _ (.tail _ (.tail _ (.head _)))) e.symm, fun e => O p hp Q (.tail _ (.tail _ (.tail _ (.tail _ (.head _))))) e.symm, fun e => O p hp R (.tail _ (.tail _ (.tail _ (.tail _ (.tail _ (.head _)))))) e.symm⟩
    · rcases List.mem_cons.mp hp with rfl | hp
      · exact ⟨Nat.ne_of_gt lc.1, Nat.ne_of_gt lc.2.1, Nat.ne_of_gt lc.2.2⟩
      · rcases List.mem_cons.mp hp with rfl | hp
        · exact ⟨Nat.ne_of_gt lb.1, Nat.ne_of_gt lb.2.1, Nat.ne_of_gt lb.2.2⟩
        · rw [List.mem_singleton.mp hp]
          exact ⟨Nat.ne_of_gt la.1, Nat.ne_of_gt la.2.1, Nat.ne_of_gt la.2.2⟩
  · intro p hp
    rcases List.mem_cons.mp hp with rfl | hp
    · exact List.mem_append.mpr (.inr (.tail _ (.tail _ (.tail _ (.head _)))))
    · rcases List.mem_cons.mp hp with rfl | hp
      · exact List.mem_append.mpr (.inr (.tail _ (.tail _ (.tail _ (.tail _ (.head _))))))
      · rcases List.mem_cons.mp hp with rfl | hp
        · exact List.mem_append.mpr (.inr (.tail _ (.tail _ (.tail _ (.tail _ (.tail _ (.head _)))))))
        · rcases List.mem_append.mp hp with hp | hp
          · exact List.mem_append.mpr (.inl hp)
          · refine List.mem_append.mpr (.inr ?_)
            rcases List.mem_cons.mp hp with rfl | hp
            · exact .head _
            · rcases List.mem_cons.mp hp with rfl | hp
              · exact .tail _ (.head _)
              · rw [List.mem_singleton.mp hp]; exact .tail _ (.tail _ (.head _))
inductive LawA (ns : List Nd) (ps cs : List Nat) (av al : Addr) (rt nm : Value) (base : List (Addr × Obj)) (i : Nat) (m₁ : Str → Option Value) (nx : List (Addr × Obj)) : Prop
  | mk (ep1 ep2 : Nat) (lnv : List Value) (u : Str → Option Value) (e1 : nx = (al, W.listOf lnv.toArray ep2) :: (av, W.listOf ((lvl ps i).map fun q => Value.ref ((ns.map Nd.a).getD q 0)).toArray ep1) :: base) (e2 : m₁ = (fun y => if y = Str.ofString "lines" then some (.ref al) else if y = Str.ofString "levels" then some (.ref av) else if y = Str.ofString "root" then some rt else if y = Str.ofString "numbers" then some nm else u y)) (e3 : StrsAre lnv ((List.range i).map fun k => (⟨(rowOf ps cs k).toArray⟩ : Str))) : LawA ns ps cs av al rt nm base i m₁ nx
theorem map4 {m : Str → Option Value} {v1 v2 v3 v4 : Value} (e1 : m (Str.ofString "lines") = some v1) (e2 : m (Str.ofString "levels") = some v2) (e3 : m (Str.ofString "root") = some v3) (e4 : m (Str.ofString "numbers") = some v4) :
    m = fun y => if y = Str.ofString "lines" then some v1 else if y = Str.ofString "levels" then some v2 else if y = Str.ofString "root" then some v3 else if y = Str.ofString "numbers" then some v4 else m y := by
  funext y
  repeat' split
  all_goals first | rfl | (subst_vars; first | exact e1 | exact e2 | exact e3 | exact e4)
theorem adr0 {ns : List Nd} {n0 : Nd} (h : ns[0]? = some n0) : ([0].map fun q => Value.ref ((ns.map Nd.a).getD q 0)) = [.ref n0.a] := by
  rw [List.map_singleton, List.getD_eq_getElem?_getD, List.getElem?_map, h]; rfl
theorem kin_ok (nums : List Int) : ∀ k ∈ kinL nums, 0 ≤ k ∧ k < 16 := by
  intro k hk
  unfold kinL at hk
  rcases List.mem_cons.mp hk with rfl | hk
  · omega
  · obtain ⟨j, _, rfl⟩ := List.mem_map.mp hk
    exact ⟨Int.fmod_nonneg_of_pos _ (by omega), Int.fmod_lt_of_pos _ (by omega)⟩
/-- all but the second of the ledger stay -/
theorem second_turn {a : Addr × Obj} {D : Addr} {o o' : Obj} {l : List (Addr × Obj)} (ha : a.1 ≠ D) (hl : ∀ p ∈ l, p.1 ≠ D) : ∀ p ∈ a :: (D, o') :: l, p = (D, o') ∨ (p ∈ a :: (D, o) :: l ∧ p.1 ≠ D) := by
  intro p hp
  rcases List.mem_cons.mp hp with rfl | hp
  · exact .inr ⟨.head _, ha⟩
  · rcases List.mem_cons.mp hp with rfl | hp
    · exact .inl rfl
    · exact .inr ⟨.tail _ (.tail _ hp), hl p hp⟩
theorem first_turn {D : Addr} {o o' : Obj} {l : List (Addr × Obj)} (hl : ∀ p ∈ l, p.1 ≠ D) : ∀ p ∈ (D, o') :: l, p = (D, o') ∨ (p ∈ (D, o) :: l ∧ p.1 ≠ D) := by
  intro p hp
  rcases List.mem_cons.mp hp with rfl | hp
  · exact .inl rfl
  · exact .inr ⟨.tail _ hp, hl p hp⟩
theorem row_weight {cs : List Nat} (h : cs.length ≤ 10) : ((cs.map fun c => (⟨#[c]⟩ : Str)).map (·.length)).sum + (cs.map fun c => (⟨#[c]⟩ : Str)).length ≤ 1048576 := by
  have : ((cs.map fun c => (⟨#[c]⟩ : Str)).map (·.length)).sum = cs.length := by
    rw [List.map_map]
    clear h
    induction cs with
    | nil => rfl
    | cons c cs ih => rw [List.map_cons, List.sum_cons, ih, List.length_cons, Nat.add_comm]; rfl
  rw [this, List.length_map]; omega
theorem small_ok {n : Nat} (h : n < 1000) : Builtin.Range.small 0 ((n : Int) + 1) 1 = true := by
  exact small_one (by omega) (by omega) (by omega) (by omega)
theorem rsize_len (n : Nat) (h : 0 < n) : Builtin.Range.rangeSize 0 (n : Int) 1 = (n : Int) := by
  unfold Builtin.Range.rangeSize
  rw [if_pos (by omega), if_pos (by omega)]
  simp
theorem rsize_ok (n : Nat) : Builtin.Range.rangeSize 0 ((n : Int) + 1) 1 = ((n + 1 : Nat) : Int) := by
  unfold Builtin.Range.rangeSize
  rw [if_pos (by omega), if_pos (by omega)]
  simp
theorem law_ok : PySem.Challenge.rw_oy0109_01.Holds := Mine.hd (by
  k_go0
  all_goals try k_fold
  refine veilP fun Qz Ez hQz hEz hPz => ?_
  clear hEz
  k_steps
  refine Stop.go ?_
  rename World => w
  rename IntsAre _ (_ ++ _) => IN
  rename News _ _ _ _ => N0
  rename Fr _ _ _ _ => F0
  rename Below _ _ _ _ => B0
  rename Frag.In _ _ => X0
  rename Top _ _ _ _ _ _ => T0
  rename CodeHd _ _ _ => CH
  rename List Int => script
  rename_i w1 w0 cl1 cl0 XC l0 l' ha l1a D1 ws1 hb hI1 hC1 hL1 l1b D2 ws2 hc l1c hd'
  rename Shared => s1
  obtain ⟨nums, hnums⟩ : ∃ nums : List Int, [4, 16, 31, 26] ++ List.take 6 script = nums := ⟨_, rfl⟩
  rw [hnums] at IN
  have hn4 : 4 ≤ nums.length ∧ nums.length ≤ 10 := by
    rw [← hnums, List.length_append, List.length_take]
    simp only [List.length_cons, List.length_nil]; omega
  refine' hung_ok B0 F0 X0 (news_sub N0 (fun p hp => .tail _ hp)) T0 rfl ?hd ?hu _ _ _ nums N0 IN (b20 rfl hn4) ?_
  case hd => decide
  case hu => decide
  intro ns n0 h1 tk1 hg0 Sh D V O2 F1 N1
  clear F0 N0
  obtain ⟨G, mNum, mLed, offG, N2⟩ := led_split N1 O2 ⟨l1a.1, l1a.2.1, l1a.2.2⟩ ⟨l1b.2.1, l1b.2.2.1, l1b.2.2.2⟩ ⟨l1c.2.2.1, l1c.2.2.2.1, l1c.2.2.2.2⟩
  clear N1 O2 l1a l1b l1c
  have hws2 : ws2.length < 1000 := by rw [IN.length]; exact b1000 rfl hn4
  k_steps
  refine Stop.go ?_
  rename IsRange _ _ _ _ _ _ _ _ => IR
  rename Fr _ _ _ _ => F3
  rename News _ _ _ _ => N3
  rename_i hA1 tA1 av hA2 la1 hA3 tA2 al hA4 la2 hA5 FA NA eA1 eA2 hA6 tA3 tA4 tA5 tA6 eA3
  clear FA NA
  generalize hps : parL nums = ps at *
  have hpsl : ps.length = nums.length := by rw [← hps, parL_len]
  have hks : ∀ k ∈ kinL nums, 0 ≤ k ∧ k < 16 := kin_ok nums
  have hkl : (kinL nums).length = ns.length := by rw [kinL_len, Sh.len, hpsl]
  generalize hkk : kinL nums = ks at *
  refine range_iter (n := nums.length + 1) (LawA ns ps (ks.map signOf) av al (.ref n0.a) (.ref D2) ((s1.heap.objs.size + 1 + 1, w1) :: (s1.heap.objs.size + 1, w0) :: (36, tabObj #[]) :: G)) rfl IR (small_ok (b1000 rfl hn4)) (rsize_ok _) F3 N3 ?init ?turn ?done
  case init =>
    exact ⟨0, 0, [], _, by rw [show (lvl ps 0) = [0] from rfl, adr0 hg0], map4 rfl rfl rfl rfl, .nil⟩
  case done =>
    rintro m₁ nx h tk ⟨ep1, ep2, lnv, u, rfl, rfl, SA⟩ F4 N4
    have hlnl : lnv.length = nums.length + 1 := by rw [strs_len SA, List.length_map, List.length_range]
    have hlnl2 : lnv.length < 1000 := b1000s hlnl hn4
    have hlnp : 0 < lnv.length := bposs hlnl
    k_steps
    refine Stop.go ?_
    rename IsRange _ _ _ _ _ _ _ _ => IR2
    rename Fr _ _ _ _ => F5
    rename News _ _ _ _ => N5
    refine range_iter (n := lnv.length) (fun _ m₁ nx => LawB (s1.heap.objs.size + 1 + 1) (s1.heap.objs.size + 1) al (W.listOf lnv.toArray ep2) G (.ref al) (.ref n0.a) (.ref D2) m₁ nx) rfl IR2 (small_len hlnl2) (rsize_len _ hlnp) F5 (news_sub N5 (l' := (s1.heap.objs.size + 1 + 1, w1) :: (s1.heap.objs.size + 1, w0) :: (al, W.listOf lnv.toArray ep2) :: ([(36, tabObj #[])] ++ G)) (fun p hp => by
      rcases List.mem_cons.mp hp with rfl | hp
      · exact .tail _ (.tail _ (.head _))
      · rcases List.mem_cons.mp hp with rfl | hp
        · exact .tail _ (.tail _ (.tail _ (.head _)))
        · rcases List.mem_cons.mp hp with rfl | hp
          · exact .head _
          · exact .tail _ (.tail _ (.tail _ (.tail _ hp))))) ?init2 ?turn2 ?done2
    case init2 =>
      refine ⟨w1, w0, _, _, [(36, tabObj #[])], _, rfl, map3 rfl rfl rfl, cl1, cl0, .empty, ?o⟩
      intro p hp q hq
      rw [List.mem_singleton.mp hq]
      rcases List.mem_cons.mp hp with rfl | hp
      · exact Nat.ne_of_gt (Nat.lt_succ_of_lt (Nat.lt_succ_of_lt l0))
      · rcases List.mem_cons.mp hp with rfl | hp
        · exact Nat.ne_of_gt (Nat.lt_succ_of_lt l0)
        · rcases List.mem_cons.mp hp with rfl | hp
          · exact Nat.ne_of_gt la2.2.2.2.1
          · exact (offG p hp).2.2
    case done2 =>
      rintro m₅ nx5 h5 tk5 ⟨o2, o1, v2, v1, tab, u2, rfl, rfl, ho2, ho1, TS, offT⟩ F6 N6
      clear N5 F5
      have htab : ∃ ps, (36, tabObj ps) ∈ tab := by
        cases TS with
        | empty => exact ⟨_, .head _⟩
        | full c oc vs t hd hv => exact ⟨_, .head _⟩
      obtain ⟨pt, hpt⟩ := htab
      have hgrown : GrownAt 36 h5 := ⟨_, (N6 _ (.tail _ (.tail _ (.tail _ (List.mem_append.mpr (.inl hpt)))))).1⟩
      clear N6 TS offT
      iterate 3 walk1
      subst hQz
      refine And.intro (goodW_bool F6 ?hg (raisesW_false ?hn) ?hp) ⟨hgrown, True.intro⟩
      case hg => assumption
      case hn => wrow_none_raised
      case hp => exact postW_of (by wrow_shape) (by wtm_val) (by w_fin)
    case turn2 =>
      rintro k tkk m₂ nx h6 tk6 own hk hoff ⟨o2, o1, v2, v1, tab, u2, rfl, rfl, ho2, ho1, TS, offT⟩ F6 N6
      refine veil fun Q0 E0 hQ0 => ?_
      simp only [List.cons_append, List.append_assoc] at N6
      clear F5 N5
      generalize hR : tab ++ (G ++ own) = R at N6
      have mNumR : (D2, W.listOf ws2.toArray 0) ∈ R := by rw [← hR]; exact List.mem_append.mpr (.inr (List.mem_append.mpr (.inl mNum)))
      k_steps
      rename Fr _ _ _ _ => F7
      rename News _ _ _ _ => N7
      refine add_mem F7 N7 (.tail _ (.head _)) (.head _) ?hz2 ?_
      case hz2 => rw [List.length_drop, List.length_take]; exact turn_lt hlnl hn4
      intro td h8 F8 N8 ltd
      have hRc : ∀ p ∈ R, p.1 ≠ s1.heap.objs.size + 1 + 1 ∧ p.1 ≠ s1.heap.objs.size + 1 ∧ p.1 ≠ al := by
        intro p hp
        rw [← hR] at hp
        rcases List.mem_append.mp hp with hp | hp
        · exact ⟨(offT _ (.head _) p hp).symm, (offT _ (.tail _ (.head _)) p hp).symm, (offT _ (.tail _ (.tail _ (.head _))) p hp).symm⟩
        · rcases List.mem_append.mp hp with hp | hp
          · exact ⟨(offG p hp).1, (offG p hp).2.1, Nat.ne_of_lt (tb_ltOf la2.2.2.2.2 p hp)⟩
          · exact ⟨hoff p hp _ (.head _), hoff p hp _ (.tail _ (.head _)), hoff p hp _ (.tail _ (.tail _ (.head _)))⟩
      have ltc2 : @LT.lt Nat _ (s1.heap.objs.size + 1 + 1) td := ltd _ (.tail _ (.tail _ (.head _)))
      have ltc1 : @LT.lt Nat _ (s1.heap.objs.size + 1) td := ltd _ (.tail _ (.tail _ (.tail _ (.head _))))
      have ltal : @LT.lt Nat _ al td := ltd _ (.tail _ (.tail _ (.tail _ (.tail _ (.head _)))))
      have ltR : ∀ p ∈ R, @LT.lt Nat _ p.1 td := fun p hp => ltd p (.tail _ (.tail _ (.tail _ (.tail _ (.tail _ hp)))))
      obtain ⟨tv, htv⟩ : ∃ tv, tv = lnv.drop ((k : Nat) : Int).toNat ++ lnv.take ((k : Nat) : Int).toNat := ⟨_, rfl⟩
      rw [← htv] at N8
      replace N8 : News _ _ h8 ((td, W.listOf tv.toArray 0) :: (s1.heap.objs.size + 1, o1) :: (s1.heap.objs.size + 1 + 1, o2) :: (al, W.listOf lnv.toArray ep2) :: R) := news_sub N8 (fun p hp => by
        rcases List.mem_cons.mp hp with rfl | hp
        · exact .head _
        · rcases List.mem_cons.mp hp with rfl | hp
          · exact .tail _ (.tail _ (.tail _ (.tail _ (.head _))))
          · rcases List.mem_cons.mp hp with rfl | hp
            · exact .tail _ (.tail _ (.tail _ (.head _)))
            · exact .tail _ (.tail _ (.tail _ (.tail _ (.tail _ hp)))))
      clear ltd F7 N7
      with_unfolding_all refine store_cell F8 N8 rfl (.tail _ (.head _)) ho1 (l' := fun o' => (td, W.listOf tv.toArray 0) :: (s1.heap.objs.size + 1, o') :: (s1.heap.objs.size + 1 + 1, o2) :: (al, W.listOf lnv.toArray ep2) :: R) (fun o' => second_turn (Nat.ne_of_gt ltc1) ?_) ?_
      · intro p hp
        rcases List.mem_cons.mp hp with rfl | hp
        · exact Nat.ne_of_gt (Nat.lt_succ_self _)
        · rcases List.mem_cons.mp hp with rfl | hp
          · exact Nat.ne_of_gt la2.2.2.1
          · exact (hRc p hp).2.1
      intro h9 o1' F9 N9 ho1'
      clear F8 N8
      obtain ⟨ls, hls⟩ : ∃ ls, ls = turnL (linesL ps (ks.map signOf)) k := ⟨_, rfl⟩
      have htvS : StrsAre tv (ls.map fun l => (⟨l.toArray⟩ : Str)) := by
        rw [htv, hls, turnL, List.map_append, List.map_drop, List.map_take, linesL, List.map_map, hpsl]
        exact strs_append (strs_drop SA _) (strs_take SA _)
      have hlsl : ls.length = nums.length + 1 := by rw [hls, turn_len, linesL, List.length_map, List.length_range, hpsl]
      have hlsr : ∀ l ∈ ls, l.length ≤ 10 ∧ ∀ c ∈ l, c ≠ 10 ∧ c ≠ 32 ∧ c < 128 := by
        intro l hl
        rw [hls] at hl
        obtain ⟨j, _, rfl⟩ := List.mem_map.mp (turn_mem hl)
        exact ⟨by unfold rowOf; rw [List.length_map]; exact Nat.le_trans (kids_len ps _) (b10 hpsl hn4), row_signs Sh.par (by rw [List.length_map, hkl, Sh.len]) hks _⟩
      k_steps
      refine Stop.go ?_
      rename News _ _ _ _ => N10
      refine join_listW (items := tv.toArray) ⟨_, (N10 _ (.head _)).1, rfl, _, rfl⟩ (by rw [List.toList_toArray]; exact htvS) (by decide) (text_weight (fun l hl => (hlsr l hl).1) (b20s hlsl hn4)) ?_
      intro t11 k11
      have hxt := join_text ls
      generalize hX : Txt.join (Str.ofString "\n") (ls.map fun l => (⟨l.toArray⟩ : Str)) = X at *
      k_steps
      refine Stop.go ?_
      have hXl : X.length < 100 := by
        have e : X.length = X.cps.toList.length := by simp [Str.length]
        have h1 := textL_len ls
        have h2 : sumL ls = ps.length := by rw [hls, turn_sum, lines_sum Sh.par]
        rw [e, hxt]
        exact text_len h1 h2 hlsl hn4 hpsl
      have hXc : ∀ c ∈ X.cps.toList, c ≠ 32 ∧ c < 128 := by
        rw [hxt]
        intro c hc
        rcases textL_mem hc with rfl | ⟨l, hl, hcl⟩
        · decide
        · exact ((hlsr l hl).2 c hcl).2
      have offW : ∀ p ∈ (td, W.listOf tv.toArray 0) :: (s1.heap.objs.size + 1, o1') :: (s1.heap.objs.size + 1 + 1, o2) :: (al, W.listOf lnv.toArray ep2) :: (G ++ own), ∀ q ∈ tab, p.1 ≠ q.1 := by
        intro p hp q hq
        rcases List.mem_cons.mp hp with rfl | hp
        · exact Nat.ne_of_gt (ltR q (by rw [← hR]; exact List.mem_append.mpr (.inl hq)))
        · rcases List.mem_cons.mp hp with rfl | hp
          · exact offT (s1.heap.objs.size + 1, o1) (.tail _ (.head _)) q hq
          · rcases List.mem_cons.mp hp with rfl | hp
            · exact offT _ (.head _) q hq
            · rcases List.mem_cons.mp hp with rfl | hp
              · exact offT _ (.tail _ (.tail _ (.head _))) q hq
              · rcases List.mem_append.mp hp with hp | hp
                · exact offT _ (.tail _ (.tail _ (.tail _ hp))) q hq
                · exact hoff p hp _ (.tail _ (.tail _ (.tail _ (List.mem_map.mpr ⟨q, List.mem_append.mpr (.inl hq), rfl⟩))))
      have N12 : News (ghostOf s1.heap [(40, 36)]) s1.heap.objs.size h9 (tab ++ (td, W.listOf tv.toArray 0) :: (s1.heap.objs.size + 1, o1') :: (s1.heap.objs.size + 1 + 1, o2) :: (al, W.listOf lnv.toArray ep2) :: (G ++ own)) := news_sub N10 (fun p hp => by
        rw [← hR]
        rcases List.mem_append.mp hp with hp | hp
        · exact .tail _ (.tail _ (.tail _ (.tail _ (List.mem_append.mpr (.inl hp)))))
        · rcases List.mem_cons.mp hp with rfl | hp
          · exact .head _
          · rcases List.mem_cons.mp hp with rfl | hp
            · exact .tail _ (.head _)
            · rcases List.mem_cons.mp hp with rfl | hp
              · exact .tail _ (.tail _ (.head _))
              · rcases List.mem_cons.mp hp with rfl | hp
                · exact .tail _ (.tail _ (.tail _ (.head _)))
                · exact .tail _ (.tail _ (.tail _ (.tail _ (List.mem_append.mpr (.inr hp))))))
      refine' told_ok B0 F9 X0 (mid_news N12) T0 rfl ?hd ?hu X0 T0 ktsDicts_nil CH tab TS N12 offW X _ hXl hXc ?_
      case hd => decide
      case hu => decide
      intro lt vs ep tab' tl h13 tk13 h₀' TS' off1' off2' DA TU KT F13 N13 _ _ _ _
      replace F13 := fr_back KT F13
      replace N13 := news_back KT N13
      clear KT N10 N12 F9
      have hXt : toldTo X.cps.toList X.length = toldL ls := by
        have e : X.length = X.cps.toList.length := by simp [Str.length]
        rw [e, hxt]
        exact told_text fun l hl c hc => ((hlsr l hl).2 c hc).1
      rw [hXt] at DA
      obtain ⟨T, hT⟩ : ∃ T, T = toldL ls := ⟨_, rfl⟩
      rw [← hT] at DA
      have hTn : T.length = nums.length := by rw [hT, hls, told_len Sh.par, hpsl]
      have hvl : vs.length = nums.length := by have := DA.length; rw [List.length_map] at this; exact this.trans hTn
      have hvl2 : vs.length < 1000 := b1000 hvl hn4
      obtain ⟨R2, hR2⟩ : ∃ R2, R2 = tab' ++ (tl ++ (G ++ own)) := ⟨_, rfl⟩
      have mNum2 : (D2, W.listOf ws2.toArray 0) ∈ R2 := by rw [hR2]; exact List.mem_append.mpr (.inr (List.mem_append.mpr (.inr (List.mem_append.mpr (.inl mNum)))))
      have tlR2 : ∀ p ∈ tl, p ∈ R2 := fun p hp => by rw [hR2]; exact List.mem_append.mpr (.inr (List.mem_append.mpr (.inl hp)))
      have N14 : News (ghostOf s1.heap [(40, 36)]) s1.heap.objs.size h13 ((lt, W.listOf vs.toArray ep) :: (td, W.listOf tv.toArray 0) :: (s1.heap.objs.size + 1, o1') :: (s1.heap.objs.size + 1 + 1, o2) :: (al, W.listOf lnv.toArray ep2) :: R2) := news_sub N13 (fun p hp => by
        rw [hR2] at hp
        rcases List.mem_cons.mp hp with rfl | hp
        · exact .head _
        · refine .tail _ ?_
          rcases List.mem_cons.mp hp with rfl | hp
          · exact List.mem_append.mpr (.inr (List.mem_append.mpr (.inr (.head _))))
          · rcases List.mem_cons.mp hp with rfl | hp
            · exact List.mem_append.mpr (.inr (List.mem_append.mpr (.inr (.tail _ (.head _)))))
            · rcases List.mem_cons.mp hp with rfl | hp
              · exact List.mem_append.mpr (.inr (List.mem_append.mpr (.inr (.tail _ (.tail _ (.head _))))))
              · rcases List.mem_cons.mp hp with rfl | hp
                · exact List.mem_append.mpr (.inr (List.mem_append.mpr (.inr (.tail _ (.tail _ (.tail _ (.head _)))))))
                · rcases List.mem_append.mp hp with hp | hp
                  · exact List.mem_append.mpr (.inl hp)
                  · rcases List.mem_append.mp hp with hp | hp
                    · exact List.mem_append.mpr (.inr (List.mem_append.mpr (.inl hp)))
                    · exact List.mem_append.mpr (.inr (List.mem_append.mpr (.inr (.tail _ (.tail _ (.tail _ (.tail _ hp))))))))
      have R2G : ∀ p ∈ G, p ∈ R2 := fun p hp => by
        rw [hR2]; exact List.mem_append.mpr (.inr (List.mem_append.mpr (.inr (List.mem_append.mpr (.inl hp)))))
      have tlc : ∀ p ∈ tl, ∀ q ∈ (td, W.listOf tv.toArray 0) :: (s1.heap.objs.size + 1, o1') :: (s1.heap.objs.size + 1 + 1, o2) :: (al, W.listOf lnv.toArray ep2) :: (G ++ own), (∃ v, q.2.data = .cell v) → p.1 ≠ q.1 := by
        intro p hp q hq ⟨v, hv⟩ e
        have z1 := (N13 p (.tail _ (List.mem_append.mpr (.inr (List.mem_append.mpr (.inl hp)))))).1
        have z2 := (N13 q (.tail _ (List.mem_append.mpr (.inr (List.mem_append.mpr (.inr hq)))))).1
        rw [e, z2] at z1
        obtain ⟨xs, n9, hd9⟩ := TU p hp
        rw [← Option.some.inj z1, hv] at hd9
        cases hd9
      have hR2c : ∀ p ∈ R2, p.1 ≠ s1.heap.objs.size + 1 + 1 ∧ p.1 ≠ s1.heap.objs.size + 1 := by
        intro p hp
        rw [hR2] at hp
        rcases List.mem_append.mp hp with hp | hp
        · exact ⟨(off1' _ (.tail _ (List.mem_append.mpr (.inr (.tail _ (.tail _ (.head _)))))) p hp).symm, (off1' _ (.tail _ (List.mem_append.mpr (.inr (.tail _ (.head _))))) p hp).symm⟩
        · rcases List.mem_append.mp hp with hp | hp
          · exact ⟨tlc p hp _ (.tail _ (.tail _ (.head _))) ⟨_, ho2⟩, tlc p hp _ (.tail _ (.head _)) ⟨_, ho1'⟩⟩
          · rcases List.mem_append.mp hp with hp | hp
            · exact ⟨(offG p hp).1, (offG p hp).2.1⟩
            · exact ⟨hoff p hp _ (.head _), hoff p hp _ (.tail _ (.head _))⟩
      have hltc : @Ne Nat lt (s1.heap.objs.size + 1 + 1) ∧ @Ne Nat lt (s1.heap.objs.size + 1) := ⟨fun e => off2' _ (List.mem_append.mpr (.inr (.tail _ (.tail _ (.head _))))) e.symm, fun e => off2' _ (List.mem_append.mpr (.inr (.tail _ (.head _)))) e.symm⟩
      clear N13
      have hwl : ws2.length = nums.length := eA1
      k_steps
      refine Stop.go ?_
      with_unfolding_all refine wpAny_Assign_Name ?_ (by rfl)
      rename Fr _ _ _ _ => F15_
      with_unfolding_all refine comp3 F15_ (IsPart3 T) (fun v1 _ _ => v1) (by rfl) (by decide) (by rfl) (by decide) (by rfl) (by rfl) (by rfl) (by rfl) (fun _ _ _ _ => rfl) ?_
      k_steps
      rename Fr _ _ _ _ => F15
      rename News _ _ _ _ => N15
      have titems : ∀ (i : Nat) v, vs[i]? = some v → ∃ t v1 v2 v3 n, v = .ref t ∧ (t, ({ cls := .type "tuple", data := .seq #[v1, v2, v3] n } : Obj)) ∈ R2 ∧ IsPart3 T i v1 v2 v3 := fun i v hv => by
        obtain ⟨t, v1, v2, v3, n, h1, h2, h3⟩ := told_items DA i v hv
        exact ⟨t, v1, v2, v3, n, h1, tlR2 _ h2, h3⟩
      refine ⟨lt, vs, ep, (lt, W.listOf vs.toArray ep) :: (td, W.listOf tv.toArray 0) :: (s1.heap.objs.size + 1, o1') :: (s1.heap.objs.size + 1 + 1, o2) :: (al, W.listOf lnv.toArray ep2) :: R2, rfl, rfl, F15, N15, .head _, hvl2, (fun i v hv => (titems i v hv).imp fun t h => h.imp fun v1 h => h.imp fun v2 h => h.imp fun v3 h => h.imp fun n h => ⟨h.1, .tail _ (.tail _ (.tail _ (.tail _ (.tail _ h.2.1)))), h.2.2⟩), ?_⟩
      intro sd ys h16 tk16 F16 N16 offs hysl hys
      have IS : IntsAre ys (standI T) := stand_ints (hvl.trans hTn.symm) hysl hys
      clear hys F15 N15
      replace N16 : News (ghostOf s1.heap [(40, 36)]) s1.heap.objs.size h16 ((sd, W.listOf ys.toArray ys.length) :: (s1.heap.objs.size + 1 + 1, o2) :: (s1.heap.objs.size + 1, o1') :: (lt, W.listOf vs.toArray ep) :: (td, W.listOf tv.toArray 0) :: (al, W.listOf lnv.toArray ep2) :: R2) := news_sub N16 (fun p hp => by
        rcases List.mem_cons.mp hp with rfl | hp
        · exact .head _
        · rcases List.mem_cons.mp hp with rfl | hp
          · exact .tail _ (.tail _ (.tail _ (.tail _ (.head _))))
          · rcases List.mem_cons.mp hp with rfl | hp
            · exact .tail _ (.tail _ (.tail _ (.head _)))
            · rcases List.mem_cons.mp hp with rfl | hp
              · exact .tail _ (.head _)
              · rcases List.mem_cons.mp hp with rfl | hp
                · exact .tail _ (.tail _ (.head _))
                · exact .tail _ (.tail _ (.tail _ (.tail _ (.tail _ hp)))))
      have offs2 : @Ne Nat sd (s1.heap.objs.size + 1 + 1) := fun e => offs _ (.tail _ (.tail _ (.tail _ (.head _)))) e.symm
      with_unfolding_all refine store_cell F16 N16 rfl (.tail _ (.head _)) ho2 (l' := fun o' => (sd, W.listOf ys.toArray ys.length) :: (s1.heap.objs.size + 1 + 1, o') :: (s1.heap.objs.size + 1, o1') :: (lt, W.listOf vs.toArray ep) :: (td, W.listOf tv.toArray 0) :: (al, W.listOf lnv.toArray ep2) :: R2) (fun o' => second_turn offs2 ?_) ?_
      · intro p hp
        rcases List.mem_cons.mp hp with rfl | hp
        · exact Nat.ne_of_lt (Nat.lt_succ_self _)
        · rcases List.mem_cons.mp hp with rfl | hp
          · exact hltc.1
          · rcases List.mem_cons.mp hp with rfl | hp
            · exact Nat.ne_of_gt ltc2
            · rcases List.mem_cons.mp hp with rfl | hp
              · exact Nat.ne_of_gt la2.2.1
              · exact (hR2c p hp).1
      intro h17 o2' F17 N17 ho2'
      clear F16 N16
      have hysn : ys.length = nums.length := hysl.trans hvl
      have hysp : 0 < ys.length := bpos hysn hn4
      have hysl3 : ys.length < 1000 := b1000 hysn hn4
      k_steps
      refine Stop.go ?_
      rename Fr _ _ _ _ => F18_
      with_unfolding_all refine comp3 F18_ (IsPart3 T) (fun _ v2 _ => v2) (by rfl) (by decide) (by rfl) (by decide) (by rfl) (by rfl) (by rfl) (by rfl) (fun _ _ _ _ => rfl) ?_
      k_steps
      rename Fr _ _ _ _ => F18
      rename News _ _ _ _ => N18
      refine ⟨lt, vs, ep, (sd, W.listOf ys.toArray ys.length) :: (s1.heap.objs.size + 1 + 1, o2') :: (s1.heap.objs.size + 1, o1') :: (lt, W.listOf vs.toArray ep) :: (td, W.listOf tv.toArray 0) :: (al, W.listOf lnv.toArray ep2) :: R2, rfl, rfl, F18, N18, .tail _ (.tail _ (.tail _ (.head _))), hvl2, (fun i v hv => (titems i v hv).imp fun t h => h.imp fun v1 h => h.imp fun v2 h => h.imp fun v3 h => h.imp fun n h => ⟨h.1, .tail _ (.tail _ (.tail _ (.tail _ (.tail _ (.tail _ h.2.1))))), h.2.2⟩), ?_⟩
      intro cd2 cys h19 tk19 F19 N19 offc2 hcyl hcy
      have IC : IntsAre cys (colsI T) := cols_ints (hvl.trans hTn.symm) hcyl hcy
      clear hcy F18 N18
      k_steps
      refine Stop.go ?_
      with_unfolding_all refine LCg.ListComp_U (F₀ := by k_asm) (by with_unfolding_all rfl) (by decide) (by rfl) (by decide) (by rfl) ?_
      k_steps
      refine Stop.go ?_
      rename IsRange _ _ _ _ _ _ _ _ => IR3
      rename Fr _ _ _ _ => F20
      rename News _ _ _ _ => N20
      refine LCg.CompSrc.range (n := ys.length) rfl F20 N20 IR3 (small_len hysl3) (rsize_len _ hysp) (size_okN hysl3) ?_
      intro g3
      refine comp_grow (fun j yy nw => nw = ((cd2, W.listOf cys.toArray cys.length) :: (sd, W.listOf ys.toArray ys.length) :: (s1.heap.objs.size + 1 + 1, o2') :: (s1.heap.objs.size + 1, o1') :: (lt, W.listOf vs.toArray ep) :: (td, W.listOf tv.toArray 0) :: (al, W.listOf lnv.toArray ep2) :: R2) ∧ IntsAre yy ((colK (standI T)).take j)) ⟨rfl, .nil⟩ ?turn3 ?fin3
      case turn3 =>
        rintro j v I oI C oC D5 m₃ yy nw h21 tk21 E' hj ⟨tj, rfl⟩ ⟨rfl, SY⟩ hC hx F21 N21 off21 ne21
        rw [Int.zero_add] at hx
        iterate 19 walk1
        refine Stop.go ?_
        rename Fr _ _ _ _ => F22
        rename News _ _ _ _ => N22
        have hjs : j < (standI T).length := by rw [← IS.length]; exact hj
        have hsj : (standI T)[j]? = some ((standI T).getD j 0) := by
          rw [List.getD_eq_getElem?_getD, List.getElem?_eq_getElem hjs]; rfl
        obtain ⟨tq, hq⟩ := IS.get j _ hsj
        refine item_mem N22 (.tail _ (.tail _ (.tail _ (.tail _ (.tail _ (.head _)))))) (Int.natCast_nonneg _) (i63 (Nat.lt_trans hj hysl3)) (by rw [Int.toNat_natCast]; exact hq) ?_
        walk1
        refine count_list_ints ⟨_, (N22 _ (.head _)).1, rfl, _, rfl⟩ (IS.take _) ?_
        walk1
        refine LCg.CompEnd.intro F22 N22 _ (fun p hp => .tail _ hp) off21 trivial ⟨rfl, ?_⟩
        rw [colK_take hjs, Int.toNat_natCast]
        exact SY.append (.cons _ _ .nil)
      case fin3 =>
        rintro yy nw ⟨rfl, SY⟩
        walk1
        (try dsimp only)
        walk1
        walk1
        have hcol : colsI T = List.take ys.length (colK (standI T)) := by
          rw [List.take_of_length_le (by unfold colK standI; rw [List.length_map, List.length_range, List.length_map]; exact Nat.le_of_eq (hTn.trans hysn.symm)), hT]
          exact told_cols ls
        rw [if_neg (by rw [decide_eq_true hcol]; decide)]
        k_steps
        refine Stop.go ?_
        with_unfolding_all refine LCt.Assign_ListComp_T (F₀ := by k_asm) (by rfl) (by with_unfolding_all rfl) (by with_unfolding_all rfl) (by decide) (by rfl) (by decide) (by rfl) (by rfl) (by rfl) ?_
        k_steps
        refine Stop.go ?_
        rename IsRange _ _ _ _ _ _ _ _ => IR4
        rename Fr _ _ _ _ => F23
        rename News _ _ _ _ => N23
        refine LCt.CompSrcT.range (n := ys.length) rfl F23 (news_sub N23 (fun p hp => .tail _ (.tail _ hp))) IR4 (small_len hysl3) (rsize_len _ hysp) (size_okN hysl3) ?_
        intro g4
        refine comp_growT (fun j yy nw => nw = ((sd, W.listOf ys.toArray ys.length) :: (s1.heap.objs.size + 1 + 1, o2') :: (s1.heap.objs.size + 1, o1') :: (lt, W.listOf vs.toArray ep) :: (td, W.listOf tv.toArray 0) :: (al, W.listOf lnv.toArray ep2) :: R2) ∧ IntsAre yy (lateL (standI T) j)) ⟨rfl, .nil⟩ ?turn4 ?fin4
        case turn4 =>
          rintro j v I oI C oC D6 m₃ yy2 nw h24 tk24 E' hj ⟨tj, rfl⟩ ⟨rfl, SL⟩ hC hx F24 N24 off24 ne24
          rw [Int.zero_add] at hx
          k_steps
          refine Stop.go ?_
          rename Fr _ _ _ _ => F25
          rename News _ _ _ _ => N25
          have hjs : j < (standI T).length := by rw [← IS.length]; exact hj
          have hsj : (standI T)[j]? = some ((standI T).getD j 0) := by
            rw [List.getD_eq_getElem?_getD, List.getElem?_eq_getElem hjs]; rfl
          obtain ⟨tq, hq⟩ := IS.get j _ hsj
          refine item_mem N25 (.tail _ (.tail _ (.tail _ (.head _)))) (Int.natCast_nonneg _) (i63 (Nat.lt_trans hj hysl3)) (by rw [Int.toNat_natCast]; exact hq) ?_
          k_steps
          · refine LCg.CompEnd.intro F25 N25 _ (fun p hp => hp) off24 trivial ⟨rfl, ?_⟩
            rw [late_succ, if_pos (by first | assumption | omega)]
            exact SL.append (.cons _ _ .nil)
          · refine LCg.CompEnd.intro F25 N25 _ (fun p hp => hp) off24 trivial ⟨rfl, ?_⟩
            rw [late_succ, if_neg (by first | assumption | omega), List.append_nil]
            exact SL
        case fin4 =>
          rintro yy2 nw ⟨rfl, SL⟩
          walk1
          (try dsimp only)
          iterate 15 walk1
          have hlate : (decide (lateL (standI T) ys.length = []) != (((k : Nat) : Int) == 0)) = false := by
            have h1 := late_turn (cs := ks.map signOf) Sh.par (k := k) (kle hk hlnl hpsl)
            rw [← hls, ← hT, show ps.length = ys.length from hpsl.trans hysn.symm] at h1
            by_cases hk0 : k = 0
            · rw [decide_eq_true (h1.mpr hk0), hk0]; rfl
            · rw [decide_eq_false (fun e => hk0 (h1.mp e))]
              have : (((k : Nat) : Int) == 0) = false := by simpa using hk0
              rw [this]; rfl
          rw [if_neg (by rw [hlate]; decide)]
          k_steps
          refine Stop.go ?_
          with_unfolding_all refine LCg.ListComp_U (F₀ := by k_asm) (by with_unfolding_all rfl) (by decide) (by rfl) (by decide) (by rfl) ?_
          k_steps
          refine Stop.go ?_
          rename IsRange _ _ _ _ _ _ _ _ => IR5
          rename Fr _ _ _ _ => F26
          rename News _ _ _ _ => N26
          refine LCg.CompSrc.range (n := lnv.length) rfl F26 (news_sub N26 (fun p hp => .tail _ (.tail _ hp))) IR5 (small_len hlnl2) (rsize_len _ hlnp) (size_okN hlnl2) ?_
          intro g5
          refine comp_grow (fun j yy nw => nw = ((sd, W.listOf ys.toArray ys.length) :: (s1.heap.objs.size + 1 + 1, o2') :: (s1.heap.objs.size + 1, o1') :: (lt, W.listOf vs.toArray ep) :: (td, W.listOf tv.toArray 0) :: (al, W.listOf lnv.toArray ep2) :: R2) ∧ IntsAre yy ((List.range j).map fun i => ((i : Nat) : Int) + 1)) ⟨rfl, .nil⟩ ?turn5 ?fin5
          case turn5 =>
            rintro j v I oI C oC D6 m₃ yy2 nw h24 tk24 E' hj ⟨tj, rfl⟩ ⟨rfl, SM⟩ hC hx F24 N24 off24 ne24
            rw [Int.zero_add] at hx
            k_steps
            refine LCg.CompEnd.intro F24 N24 _ (fun p hp => hp) off24 trivial ⟨rfl, ?_⟩
            rw [List.range_succ, List.map_append]
            exact SM.append (.cons _ _ .nil)
          case fin5 =>
            rintro yy3 nw ⟨rfl, SM⟩
            walk1
            (try dsimp only)
            k_steps
            refine Stop.go ?_
            rename Fr _ _ _ _ => F27
            rename News _ _ _ _ => N27
            have hyl3 : yy3.length = lnv.length := by rw [SM.length, List.length_map, List.length_range]
            refine' sl_ok B0 F27 X0 N27 T0 rfl ?hd ?hu X0 T0 ktsDicts_nil _ sd yy3 ys _ _ (standI T) (.head _) (.tail _ (.head _)) ?IX IS ?hlx ?hlx2 ?hla ?hla2 ?hb9 ?hs9 ?_
            case hd => decide
            case hu => decide
            case IX => rw [hyl3]; exact SM
            case hlx => rw [hyl3]; exact hlnp
            case hlx2 => rw [hyl3]; exact b100s hlnl hn4
            case hla => exact hysp
            case hla2 => exact b100 hysn hn4
            case hb9 =>
              intro q hq
              rw [hT] at hq ⊢
              have h1 := told_in hq
              rw [hlsl] at h1
              rw [hyl3, hlnl]
              exact h1
            case hs9 =>
              intro i j hij hj
              rw [hT] at hj ⊢
              exact told_sorted i j hij hj
            intro tup mi un ms ep3 h28 tk28 h₀' IM KT F28 N28 _ _ _ _
            replace F28 := fr_back KT F28
            replace N28 := news_back KT N28
            clear KT F27 N27
            k_steps
            refine Stop.go ?_
            with_unfolding_all refine LCt.ListComp_T (F₀ := by k_asm) (by with_unfolding_all rfl) (by decide) (by rfl) (by decide) (by rfl) ?_
            k_steps
            refine Stop.go ?_
            rename IsRange _ _ _ _ _ _ _ _ => IR6
            rename Fr _ _ _ _ => F29
            rename News _ _ _ _ => N29
            refine LCt.CompSrcT.range (n := lnv.length) rfl F29 (news_sub N29 (fun p hp => by
              rcases List.mem_cons.mp hp with rfl | hp
              · exact .tail _ (.tail _ (.head _))
              · rcases List.mem_cons.mp hp with rfl | hp
                · exact .tail _ (.tail _ (.tail _ (.head _)))
                · exact .tail _ (.tail _ (.tail _ (.tail _ (.tail _ hp)))))) IR6 (small_len hlnl2) (rsize_len _ hlnp) (size_okN hlnl2) ?_
            intro g6
            refine comp_growT (fun j yy nw => nw = ((mi, W.listOf ms.toArray ep3) :: (un, W.listOf #[] 0) :: (sd, W.listOf ys.toArray ys.length) :: (s1.heap.objs.size + 1 + 1, o2') :: (s1.heap.objs.size + 1, o1') :: (lt, W.listOf vs.toArray ep) :: (td, W.listOf tv.toArray 0) :: (al, W.listOf lnv.toArray ep2) :: R2) ∧ IntsAre yy (((List.range j).filter fun (i : Nat) => decide (ls.getD i [] = [])).map fun (i : Nat) => (i : Int) + 1)) ⟨rfl, .nil⟩ ?turn6 ?fin6
            case turn6 =>
              rintro j v I oI C oC D6 m₃ yy4 nw h24 tk24 E' hj ⟨tj, rfl⟩ ⟨rfl, SE⟩ hC hx F24 N24 off24 ne24
              rw [Int.zero_add] at hx
              k_steps
              refine Stop.go ?_
              rename Fr _ _ _ _ => F25
              rename News _ _ _ _ => N25
              have hjs : j < ls.length := by rw [hlsl, ← hlnl]; exact hj
              obtain ⟨tq, hq⟩ := htvS.get j ⟨(ls.getD j []).toArray⟩ (by rw [List.getElem?_map, List.getD_eq_getElem?_getD, List.getElem?_eq_getElem hjs]; rfl)
              refine item_mem N25 (.tail _ (.tail _ (.tail _ (.tail _ (.tail _ (.tail _ (.tail _ (.tail _ (.tail _ (.head _)))))))))) (Int.natCast_nonneg _) (i63 (Nat.lt_trans hj hlnl2)) (by rw [Int.toNat_natCast]; exact hq) ?_
              k_steps
              · refine LCg.CompEnd.intro F25 N25 _ (fun p hp => hp) off24 trivial ⟨rfl, ?_⟩
                rename (_ == Str.ofString "") = true => hem
                rw [miss_snoc, if_pos (row_empty.mp hem)]
                exact SE.append (.cons _ _ .nil)
              · refine LCg.CompEnd.intro F25 N25 _ (fun p hp => hp) off24 trivial ⟨rfl, ?_⟩
                rename (_ == Str.ofString "") = false => hem2
                have hem : ¬ ls.getD j [] = [] := fun e => by
                  rw [row_empty.mpr e] at hem2; cases hem2
                rw [miss_snoc, if_neg hem, List.append_nil]
                exact SE
            case fin6 =>
              rintro yy4 nw ⟨rfl, SE⟩
              walk1
              (try dsimp only)
              walk1
              have hmiss : missL (standI T) yy3.length = ((List.range lnv.length).filter fun (i : Nat) => decide (ls.getD i [] = [])).map fun (i : Nat) => (i : Int) + 1 := by
                have h1 := miss_lines ls
                rw [hyl3, hT, hlnl, ← hlsl]
                exact h1
              rw [decide_eq_true hmiss]
              k_steps
              · refine Stop.go ?_
                rename ((k : Nat) : Int) = 0 => hk0'
                have hk0 : k = 0 := k_zero hk0'
                rename Fr _ _ _ _ => F30
                rename News _ _ _ _ => N30
                have hT0 : T = toldL (turnL (linesL ps (ks.map signOf)) 0) := by rw [hT, hls, hk0]
                have N30' : News (ghostOf s1.heap [(40, 36)]) s1.heap.objs.size _ ((lt, W.listOf vs.toArray ep) :: (s1.heap.objs.size + 1 + 1, o2') :: (s1.heap.objs.size + 1, o1') :: (al, W.listOf lnv.toArray ep2) :: R2) := news_sub N30 (fun p hp => by
                  rcases List.mem_cons.mp hp with rfl | hp
                  · exact .tail _ (.tail _ (.tail _ (.tail _ (.tail _ (.tail _ (.head _))))))
                  · rcases List.mem_cons.mp hp with rfl | hp
                    · exact .tail _ (.tail _ (.tail _ (.tail _ (.head _))))
                    · rcases List.mem_cons.mp hp with rfl | hp
                      · exact .tail _ (.tail _ (.tail _ (.tail _ (.tail _ (.head _)))))
                      · exact .tail _ (.tail _ (.tail _ (.tail _ (.tail _ (.tail _ (.tail _ (.tail _ hp)))))))) 
                clear N30
                have hTl : T.length ≤ 20 := b20 hTn hn4
                refine' grown_ok B0 F30 X0 N30' T0 rfl ?hd ?hu lt vs ep T ((s1.heap.objs.size + 1 + 1, o2') :: (s1.heap.objs.size + 1, o1') :: (al, W.listOf lnv.toArray ep2) :: R2) rfl (DA.mono fun p hp => .tail _ (.tail _ (.tail _ (tlR2 p hp)))) hTl (par_told Sh.par hT0) ?_
                case hd => decide
                case hu => decide
                intro ns2 n2 h31 tk31 hg2 Sh2 D2' SV2 off2 F31 N31
                clear F30 N30' D2' off2
                obtain ⟨R5, hR5⟩ : ∃ R5, R5 = ledN ns2 ++ ((lt, W.listOf vs.toArray ep) :: (s1.heap.objs.size + 1 + 1, o2') :: (s1.heap.objs.size + 1, o1') :: (al, W.listOf lnv.toArray ep2) :: R2) := ⟨_, rfl⟩
                rw [← hR5] at N31
                have m5 : ∀ p ∈ (s1.heap.objs.size + 1 + 1, o2') :: (s1.heap.objs.size + 1, o1') :: (al, W.listOf lnv.toArray ep2) :: R2, p ∈ R5 := fun p hp => by
                  rw [hR5]; exact List.mem_append.mpr (.inr (.tail _ hp))
                have m6 : ∀ p ∈ ledN ns2, p ∈ R5 := fun p hp => by
                  rw [hR5]; exact List.mem_append.mpr (.inl hp)
                k_steps
                refine Stop.go ?_
                have hks0 : (ks.map signOf).getD 0 0 = 100 := by
                  rw [← hkk]; rfl
                refine' named_ok 11 B0 F31 X0 N31 T0 rfl ns ps ks Sh V hks hkl (fun p hp => m5 p (.tail _ (.tail _ (.tail _ (R2G p (mLed p hp)))))) 0 n0 hg0 ?hf ?hnl ?hd ?hu ?_
                case hf => rw [Sh.len, hpsl]; exact b11 hn4
                case hnl => rw [Sh.len, hpsl]; exact b1000s rfl hn4
                case hd => decide
                case hu => decide
                intro v9 tl9 h32 tk32 Dv F32 N32 offv
                clear F31 N31 offv
                have Dn : DatIn (ledN ns2) (.ref n2.a) (treeD ps (ks.map signOf) 11 0) := by
                  rw [← tree_law (cs := ks.map signOf) Sh.par hks0 11, ← hT0]
                  exact tree_in Sh2 SV2 11 0 n2 hg2 (by rw [Sh2.len]; unfold parT; rw [List.length_map, hTn]; exact b11 hn4)
                refine deep_ne N32 (Dn.mono fun p hp => List.mem_append.mpr (.inr (m6 p hp))) (Dv.mono fun p hp => List.mem_append.mpr (.inl hp)) (tree_kqd (sign_lt hks) 11 0) (by decide) (by ke_room) ?_
                obtain ⟨R6, hR6⟩ : ∃ R6, R6 = tl9 ++ R5 := ⟨_, rfl⟩
                rw [← hR6] at N32
                have m7 : ∀ p ∈ R5, p ∈ R6 := fun p hp => by
                  rw [hR6]; exact List.mem_append.mpr (.inr hp)
                k_steps
                rename Fr _ _ _ _ => F33
                rename News _ _ _ _ => N33
                subst hQ0
                exact turn_end F33 N33 rfl rfl rfl ho2' ho1' TS' off1' hoff (fun p hp => m7 p (m5 p (by rwa [← hR2] at hp)))
              · rename Fr _ _ _ _ => F30
                rename News _ _ _ _ => N30
                subst hQ0
                exact turn_end F30 N30 rfl rfl rfl ho2' ho1' TS' off1' hoff (fun p hp => by
                  rw [← hR2] at hp
                  rcases List.mem_cons.mp hp with rfl | hp
                  · exact .tail _ (.tail _ (.tail _ (.tail _ (.head _))))
                  · rcases List.mem_cons.mp hp with rfl | hp
                    · exact .tail _ (.tail _ (.tail _ (.tail _ (.tail _ (.head _)))))
                    · exact .tail _ (.tail _ (.tail _ (.tail _ (.tail _ (.tail _ (.tail _ (.tail _ hp))))))))
  case turn =>
    rintro i t m₁ nx h tk own hi hoff ⟨ep1, ep2, lnv, u, rfl, rfl, SA⟩ F4 N4
    refine veil fun Q0 E0 hQ0 => ?_
    have hlv := lvl_has (ps := ps) Sh.par i (by rw [hpsl]; exact Nat.le_of_lt_succ hi)
    have hi3 : i < 1000 := klt hi hn4
    have hlvl := lvl_len ps i
    generalize hq : (lvl ps i)[i] = q at *
    k_steps
    refine Stop.go ?_
    have hql : q < ns.length := by
      have := lvl_le ps i q (hq ▸ List.getElem_mem hlv)
      rw [Sh.len]; exact Nat.lt_succ_of_le this
    have hgq : ns[q]? = some ns[q] := List.getElem?_eq_getElem hql
    have hnq := List.mem_of_getElem? hgq
    have hat : ((lvl ps i).map fun q => Value.ref ((ns.map Nd.a).getD q 0))[i]? = some (.ref ns[q].a) := by
      rw [List.getElem?_map, List.getElem?_eq_getElem hlv, hq, Option.map_some, List.getD_eq_getElem?_getD, List.getElem?_map, hgq]; rfl
    have me_a := mLed _ (ledN_a hnq)
    have me_c := mLed _ (ledN_c hnq)
    have hch := Sh.kids q _ hgq
    have hchl : ns[q].ch.length ≤ ps.length := by rw [hch, List.length_map]; exact kids_len ps q
    simp only [List.cons_append] at N4
    refine item_mem N4 (.tail _ (.head _)) (Int.natCast_nonneg _) (i63 hi3) (by rw [Int.toNat_natCast]; exact hat) ?_
    k_steps
    refine Stop.go ?_
    refine item_mem (vs := [ns[q].v, .ref ns[q].c]) (v := .ref ns[q].c) N4 (.tail _ (.tail _ (.tail _ (.tail _ (.tail _ (List.mem_append.mpr (.inl me_a))))))) (by decide) (by decide) rfl ?_
    k_steps
    refine Stop.go ?_
    refine iadd_mem F4 N4 (.tail _ (.head _)) (.tail _ (.tail _ (.tail _ (.tail _ (.tail _ (List.mem_append.mpr (.inl me_c))))))) ?hz ?_
    case hz =>
      rw [List.length_map, List.length_map]
      exact lvl_sum hlvl hchl (mul_le hi hn4 hpsl) hn4 hpsl
    intro h5 ep3 F5 K5 Z5
    have e5 : ((lvl ps i).map fun q => Value.ref ((ns.map Nd.a).getD q 0)) ++ ns[q].ch.map Value.ref = (lvl ps (i + 1)).map fun q => Value.ref ((ns.map Nd.a).getD q 0) := by
      rw [lvl, List.map_append, hch, List.map_map, List.getD_eq_getElem?_getD, List.getElem?_eq_getElem hlv, Option.getD_some, hq]; rfl
    rw [e5] at Z5
    have offR : ∀ p ∈ (s1.heap.objs.size + 1 + 1, w1) :: (s1.heap.objs.size + 1, w0) :: (36, tabObj #[]) :: (G ++ own), p.1 ≠ av := by
      intro p hp
      have lG := tb_ltOf la1.2.2.2
      rcases List.mem_cons.mp hp with rfl | hp
      · exact Nat.ne_of_lt la1.1
      · rcases List.mem_cons.mp hp with rfl | hp
        · exact Nat.ne_of_lt la1.2.1
        · rcases List.mem_cons.mp hp with rfl | hp
          · exact Nat.ne_of_lt la1.2.2.1
          · rcases List.mem_append.mp hp with hp | hp
            · exact Nat.ne_of_lt (lG p hp)
            · exact hoff p hp _ (.tail _ (.head _))
    have N5 := news_turn N4 (.tail _ (.head _)) K5 Z5 (second_turn (Nat.ne_of_gt la2.1) offR)
    clear N4 F4 K5 Z5
    k_steps
    refine Stop.go ?_
    have hlt1 : i < (lvl ps (i + 1)).length := by rw [lvl, List.length_append]; exact Nat.lt_of_lt_of_le hlv (Nat.le_add_right _ _)
    have hat2 : ((lvl ps (i + 1)).map fun q => Value.ref ((ns.map Nd.a).getD q 0))[i]? = some (.ref ns[q].a) := by
      rw [← e5, List.getElem?_append_left (by rw [List.length_map]; exact hlv)]; exact hat
    have hchz : (ns[q].ch.map Value.ref).toArray.size ≤ sizeLine := by
      rw [List.size_toArray, List.length_map]; exact size_okN (le_lt1000 hchl hn4 hpsl)
    clear hat e5
    refine LCg.ListComp_U (F₀ := by k_asm) (by with_unfolding_all rfl) (by decide) (by rfl) (by decide) (by rfl) ?_
    k_steps
    refine Stop.go ?_
    rename News _ _ _ _ => N6
    refine item_mem N6 (.tail _ (.head _)) (Int.natCast_nonneg _) (i63 hi3) (by rw [Int.toNat_natCast]; exact hat2) ?_
    k_steps
    refine Stop.go ?_
    refine item_mem (vs := [ns[q].v, .ref ns[q].c]) (v := .ref ns[q].c) N6 (.tail _ (.tail _ (.tail _ (.tail _ (.tail _ (List.mem_append.mpr (.inl me_a))))))) (by decide) (by decide) rfl ?_
    k_steps
    refine Stop.go ?_
    rename Fr _ _ _ _ => F7
    rename News _ _ _ _ => N7
    refine LCg.CompSrc.ledger rfl F7 N7 (.tail _ (.tail _ (.tail _ (.tail _ (.tail _ (List.mem_append.mpr (.inl me_c))))))) hchz ?_
    intro g2
    refine comp_grow (fun j ys nw => nw = ((al, W.listOf lnv.toArray ep2) :: (av, W.listOf ((lvl ps (i + 1)).map fun q => Value.ref ((ns.map Nd.a).getD q 0)).toArray ep3) :: (s1.heap.objs.size + 1 + 1, w1) :: (s1.heap.objs.size + 1, w0) :: (36, tabObj #[]) :: (G ++ own)) ∧ StrsAre ys (((kidsOf ps q).take j).map fun z => (⟨#[(ks.map signOf).getD z 0]⟩ : Str))) ⟨rfl, .nil⟩ ?turn2 ?fin2
    case fin2 =>
      rintro ys nw ⟨rfl, SY⟩
      k_steps
      refine Stop.go ?_
      have eT : (kidsOf ps q).take (List.map Value.ref ns[q].ch).toArray.size = kidsOf ps q := List.take_of_length_le (by rw [List.size_toArray, List.length_map, hch, List.length_map]; exact Nat.le_refl _)
      rw [eT] at SY
      have SY2 : StrsAre ys ((rowOf ps (ks.map signOf) i).map fun c => (⟨#[c]⟩ : Str)) := by
        have : (rowOf ps (ks.map signOf) i).map (fun c => (⟨#[c]⟩ : Str)) = (kidsOf ps q).map fun z => (⟨#[(ks.map signOf).getD z 0]⟩ : Str) := by
          unfold rowOf nodeAt
          rw [List.getD_eq_getElem?_getD, List.getElem?_eq_getElem hlv, Option.getD_some, hq, List.map_map]; rfl
        rw [this]; exact SY
      have hrl : (rowOf ps (ks.map signOf) i).length ≤ 10 := by unfold rowOf; rw [List.length_map]; exact Nat.le_trans (kids_len ps _) (b10 hpsl hn4)
      rename Fr _ _ _ _ => F12
      rename News _ _ _ _ => N12
      refine join_listW (items := ys.toArray) ⟨_, (N12 _ (.head _)).1, rfl, _, rfl⟩ (by rw [List.toList_toArray]; exact SY2) (by decide) (row_weight hrl) ?_
      intro t13 k13
      rw [join_chs]
      k_steps
      refine Stop.go ?_
      rename _ ∧ _ ∧ _ ∧ _ ∧ _ ∧ LCg.Off1 _ _ => o1
      have offS : ∀ p ∈ (av, W.listOf ((lvl ps (i + 1)).map fun q => Value.ref ((ns.map Nd.a).getD q 0)).toArray ep3) :: (s1.heap.objs.size + 1 + 1, w1) :: (s1.heap.objs.size + 1, w0) :: (36, tabObj #[]) :: (G ++ own), p.1 ≠ al := by
        intro p hp
        have lG := tb_ltOf la2.2.2.2.2
        rcases List.mem_cons.mp hp with rfl | hp
        · exact Nat.ne_of_lt la2.1
        · rcases List.mem_cons.mp hp with rfl | hp
          · exact Nat.ne_of_lt la2.2.1
          · rcases List.mem_cons.mp hp with rfl | hp
            · exact Nat.ne_of_lt la2.2.2.1
            · rcases List.mem_cons.mp hp with rfl | hp
              · exact Nat.ne_of_lt la2.2.2.2.1
              · rcases List.mem_append.mp hp with hp | hp
                · exact Nat.ne_of_lt (lG p hp)
                · exact hoff p hp _ (.head _)
      have hlnl : lnv.length < 1000 := by rw [strs_len SA, List.length_map, List.length_range]; exact hi3
      refine append_mem F12 N12 (.tail _ (.head _)) (second_turn (Ne.symm o1.1) offS) ?_ (by rw [List.size_toArray]; exact size_okN hlnl)
      intro h14 F14 N14
      k_steps
      subst hQ0
      refine ⟨_, _, _, _, (al, W.listOf (lnv ++ [Value.str ⟨(rowOf ps (ks.map signOf) i).toArray⟩ t13]).toArray (ep2 + 1)) :: (av, W.listOf ((lvl ps (i + 1)).map fun q => Value.ref ((ns.map Nd.a).getD q 0)).toArray ep3) :: (s1.heap.objs.size + 1 + 1, w1) :: (s1.heap.objs.size + 1, w0) :: (36, tabObj #[]) :: G, rfl, F14, N14, ?ms1, ?ms2, hoff, ⟨ep3, ep2 + 1, _, _, rfl, map4 rfl rfl rfl rfl, ?msA⟩⟩
      case ms1 =>
        intro p hp
        refine .tail _ ?_
        rcases List.mem_cons.mp hp with rfl | hp
        · rw [List.push_toArray]; exact .head _
        · refine .tail _ ?_
          rcases List.mem_cons.mp hp with rfl | hp
          · exact .head _
          · rcases List.mem_cons.mp hp with rfl | hp
            · exact .tail _ (.head _)
            · rcases List.mem_cons.mp hp with rfl | hp
              · exact .tail _ (.tail _ (.head _))
              · rcases List.mem_cons.mp hp with rfl | hp
                · exact .tail _ (.tail _ (.tail _ (.head _)))
                · exact .tail _ (.tail _ (.tail _ (.tail _ (List.mem_append.mpr (.inl hp)))))
      case ms2 => exact fun p hp => .tail _ (.tail _ (.tail _ (.tail _ (.tail _ (.tail _ (List.mem_append.mpr (.inr hp)))))))
      case msA =>
        rw [List.range_succ, List.map_append]
        exact strs_snoc SA
    case turn2 =>
      rintro j v I oI C oC D4 m₂ ys nw h8 tk8 E' hj hPv ⟨rfl, SY⟩ hC hx F8 N8 off8 ne8
      have hjl : j < (kidsOf ps q).length := by
        rw [List.size_toArray, List.length_map, hch, List.length_map] at hj; exact hj
      have hkm := List.getElem_mem hjl
      generalize hkd : (kidsOf ps q)[j] = kd at hkm
      have hkl2 := (kidsOf_le hkm).2
      have hSl := Sh.len
      have hkdl : kd < ns.length := by rw [Sh.len]; exact Nat.lt_succ_of_le hkl2
      have hgk : ns[kd]? = some ns[kd] := List.getElem?_eq_getElem hkdl
      have hve : v = .ref ns[kd].a := by
        have e1 : (ns[q].ch.map Value.ref)[j]? = some v := by simpa using hPv
        rw [hch, List.getElem?_map, List.getElem?_map, List.getElem?_eq_getElem hjl, hkd] at e1
        rw [← Option.some.inj e1]
        show Value.ref ((List.map Nd.a ns).getD kd 0) = _
        rw [List.getD_eq_getElem?_getD, List.getElem?_map, hgk]; rfl
      subst hve
      obtain ⟨tv, hvv⟩ := V kd _ hgk
      have hkq : ks.getD kd 0 ∈ ks := by
        rw [List.getD_eq_getElem?_getD, List.getElem?_eq_getElem (hkl.symm ▸ hkdl)]
        exact List.getElem_mem _
      have hk0 := (hks _ hkq).1
      have hk1 := (hks _ hkq).2
      have me_k := mLed _ (ledN_a (List.mem_of_getElem? hgk))
      rw [hvv] at me_k
      obtain ⟨kN, hkN⟩ := Int.eq_ofNat_of_zero_le hk0
      have hsg : (ks.map signOf).getD kd 0 = signOf (kN : Int) := by
        rw [List.getD_eq_getElem?_getD, List.getElem?_map, ← hkN, List.getD_eq_getElem?_getD]
        rw [List.getElem?_eq_getElem (hkl.symm ▸ hkdl : kd < ks.length)]; rfl
      rw [hkN] at me_k hk1
      k_steps
      refine Stop.go ?_
      rename News _ _ _ _ => N9
      refine item_mem (vs := [.int (kN : Int) tv, .ref ns[kd].c]) N9 (.tail _ (.tail _ (.tail _ (.tail _ (.tail _ (.tail _ (.tail _ (.tail _ (List.mem_append.mpr (.inl me_k)))))))))) (by decide) (by decide) rfl ?_
      k_steps
      refine Stop.go ?_
      rename News _ _ _ _ => N10
      rename Fr _ _ _ _ => F10
      refine' fm_ok ?B F10 ?X N10 ?T ?hk ?hd ?hu kN (lt16 hk1) _ rfl _ ?_
      case B => k_asm
      case X => k_asm
      case T => k_asm
      case hk => exact rfl
      case hd => decide
      case hu => decide
      intro t11 h11 tk11 F11 N11
      k_steps
      have hpl : (⟨(permL kN).toArray⟩ : Str).length = 10 := rfl
      refine item_str (by decide) (by rw [hpl]; decide) (by rw [hpl]; decide) ?_
      intro _
      rw [item_meets (n := signOf (kN : Int)) (by decide) rfl, ← hsg]
      refine LCg.CompEnd.intro F11 N11 _ (fun p hp => hp) off8 (.inr ⟨_, .tail _ (.tail _ (.tail _ (.tail _ (.tail _ (List.mem_append.mpr (.inl me_c)))))), rfl, _, rfl⟩) ⟨rfl, ?_⟩
      rw [List.take_add_one, List.getElem?_eq_getElem hjl, hkd, List.map_append]
      exact strs_snoc SY)
end Mine
end
theorem PySem.Challenge.cw_oy0109_01_holds : PySem.Challenge.rw_oy0109_01.Holds :=
  Mine.law_ok
