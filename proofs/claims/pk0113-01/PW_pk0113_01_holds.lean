import PyProof.Rows.All
import Wide.All
import OpenK.AllK
import Wide.FinOn
import Lean
import PySem.Challenge.RW_pk0113_01
set_option Elab.async false
set_option linter.unusedVariables false
set_option rowWalk.seconds 0
-- Hd
section
open PySem PySem.W PyProof.Rows
namespace Mine
set_option maxRecDepth 100000 in
set_option maxHeartbeats 8000000 in
open_top hd for PySem.Challenge.rw_pk0113_01
end Mine
end

-- Base
section
open PySem PySem.W PyProof.Rows PySem.Calls PySem.Spec
set_option maxRecDepth 100000
namespace Mine
noncomputable abbrev MO (w : World) : Model := model PySem.Challenge.rw_pk0113_01.row.prog w
noncomputable abbrev Gs := Addr → Obj → Prop
noncomputable def Ext (h h' : Heap) : Prop := ∀ b o, h.get? b = some o → h'.get? b = some o
noncomputable def Sub (G : Gs) (h : Heap) : Prop := ∀ b o, G b o → h.get? b = some o
noncomputable def Le (G G' : Gs) : Prop := ∀ b o, G b o → G' b o
noncomputable def More (G : Gs) (h h' : Heap) : Gs := fun b o => G b o ∨ (h.get? b = none ∧ h'.get? b = some o)

theorem Ext.rfl' {h : Heap} : Ext h h := fun _ _ e => e
theorem Ext.trans {h h' h'' : Heap} (x : Ext h h') (y : Ext h' h'') : Ext h h'' := fun b o e => y b o (x b o e)
theorem Le.rfl' {G : Gs} : Le G G := fun _ _ e => e
theorem Le.trans {G G' G'' : Gs} (x : Le G G') (y : Le G' G'') : Le G G'' := fun b o e => y b o (x b o e)
theorem le_more {G : Gs} {h h' : Heap} : Le G (More G h h') := fun _ _ e => .inl e
theorem Sub.ext {G : Gs} {h h' : Heap} (x : Sub G h) (y : Ext h h') : Sub G h' := fun b o e => y b o (x b o e)
theorem Sub.more {G : Gs} {h h' : Heap} (x : Sub G h) (y : Ext h h') : Sub (More G h h') h' := fun b o e => e.elim (fun e => y b o (x b o e)) (·.2)
theorem ext_none {h h' : Heap} (x : Ext h h') {b : Addr} (e : h'.get? b = none) : h.get? b = none := by
  cases q : h.get? b with
  | none => rfl
  | some o => rw [x b o q] at e; cases e

structure Can (w : World) (A : Around) (h : Heap) (news : List (Addr × Obj)) (d u : Nat) : Prop where
  handled : A.handled = none
  depth : A.depth + d < recursionLimit
  units : A.units + u < cLine
  ctx : ∃ (p : Program) (loose : List Str) (mean : ExcName → Option Value) (mg mb : Str → Option Value) (env : Env) (outer : List Env) (A₀ : Around) (base h₀ : Heap) (L : Addr) (m : Str → Option Value),
    A.frames = some (env :: outer) ∧ env.frame = some L ∧ env.scope.kind = .function ∧ Below A₀ base outer h₀ ∧ Fr h₀ L h m ∧ News h₀ L h news ∧ (hd.heap_39 w.params).In h₀ ∧ Top p loose mean mg mb h₀

structure Bd (w : World) (A : Around) (g : Heap) (L : Addr) (d u : Nat) : Prop where
  handled : A.handled = none
  depth : A.depth + d < recursionLimit
  units : A.units + u < cLine
  X : (hd.heap_39 w.params).In g
  ctx : ∃ (p : Program) (loose : List Str) (mean : ExcName → Option Value) (mg mb : Str → Option Value) (env : Env) (outer : List Env) (A₀ : Around) (base : Heap),
    A.frames = some (env :: outer) ∧ env.frame = some L ∧ env.scope.kind = .function ∧ Below A₀ base outer g ∧ Top p loose mean mg mb g

theorem Bd.can {w : World} {A : Around} {g h : Heap} {L : Addr} {d u : Nat} {m : Str → Option Value} {news : List (Addr × Obj)} (b : Bd w A g L d u) (F : Fr g L h m) (N : News g L h news) : Can w A h news d u := by
  obtain ⟨p, loose, mean, mg, mb, env, outer, A₀, base, h1, h2, h3, h4, h5⟩ := b.ctx
  exact ⟨b.handled, b.depth, b.units, p, loose, mean, mg, mb, env, outer, A₀, base, g, L, m, h1, h2, h3, h4, F, N, b.X, h5⟩
theorem Bd.less {w : World} {A : Around} {g : Heap} {L : Addr} {d u d' u' : Nat} (b : Bd w A g L d u) (hd : d' ≤ d) (hu : u' ≤ u) : Bd w A g L d' u' :=
  ⟨b.handled, Nat.lt_of_le_of_lt (Nat.add_le_add_left hd _) b.depth, Nat.lt_of_le_of_lt (Nat.add_le_add_left hu _) b.units, b.X, b.ctx⟩
theorem Can.less {w : World} {A : Around} {h : Heap} {news : List (Addr × Obj)} {d u d' u' : Nat} (c : Can w A h news d u) (hd : d' ≤ d) (hu : u' ≤ u) : Can w A h news d' u' :=
  ⟨c.handled, Nat.lt_of_le_of_lt (Nat.add_le_add_left hd _) c.depth, Nat.lt_of_le_of_lt (Nat.add_le_add_left hu _) c.units, c.ctx⟩
theorem Can.drop {w : World} {A : Around} {h : Heap} {news : List (Addr × Obj)} {d u : Nat} (c : Can w A h news d u) : Can w A h [] d u := by
  obtain ⟨p, loose, mean, mg, mb, env, outer, A₀, base, h₀, L, m, h1, h2, h3, h4, h5, h6, h7⟩ := c.ctx
  exact ⟨c.handled, c.depth, c.units, p, loose, mean, mg, mb, env, outer, A₀, base, h₀, L, m, h1, h2, h3, h4, h5, News.nil, h7⟩

noncomputable def Ret (g : Heap) (L : Addr) (R : Result → Shared → Prop) (v : Value) (s' : Shared) : Prop := (∃ m', Fr g L s'.heap m') ∧ R (.ok (.ret v)) s'

theorem enter {w : World} {A : Around} {s : Shared} {d u : Nat} {news : List (Addr × Obj)} {f : Addr} {args : Args} {name qual : Str} {params : Arguments} {body : List Stmt} {scope : Scope} {dV kV doc pm cdv ct oc : Value} {an od : Option Addr}
    {osl : Array (Option Value)} {binds : List (Str × Value)} {R : Result → Shared → Prop} (C : Can w A s.heap news (d + 1) (u + 4))
    (ho : (hd.heap_39 w.params).lookup f = some ⟨oc, od, .func (fnOf name qual params body scope dV kV doc pm an cdv ct), osl⟩) (hcd : codeIn (hd.heap_39 w.params) cdv qual = true)
    (hbind : BindsTo s (fnOf name qual params body scope dV kV doc pm an cdv ct) args binds) (hloc : ∀ y ∈ binds, scope.names.lookup y.1 = some .local)
    (h : ∀ g L' h₁, (∀ b o, s.heap.get? b = some o → b ∉ news.map (·.1) → g.get? b = some o) → Bd w (A.deeper (envOf qual scope L' f cdv)) g L' d u → Fr g L' h₁ (fun y => binds.reverse.lookup y) → News g L' h₁ news →
      wpAny (MO w) (A.deeper (envOf qual scope L' f cdv)) (execs body (envOf qual scope L' f cdv))
        (fun fl s' => Ret g L' R (match fl with | .ret v => v | _ => .none) s') (fun _ _ => False) { s with heap := h₁, toks := s.toks + binds.length })
    (hco : scope.isCoroutine = false) (hgen : scope.isGenerator = false) (hk : scope.kind = .function) (hcell : ∀ x ∈ scope.names, x.2 ≠ .cell) : codeAny (MO w) A (.call (.ref f) args) R s := by
  obtain ⟨p, loose, mean, mg, mb, env, outer, A₀, base, h₀, L, m, h1, h2, h3, h4, h5, h6, h7, h8⟩ := C.ctx
  refine code_defG h4 h5 h7 h6 h8 h1 h2 h3 ho hcd (by have := C.depth; omega) hbind hloc (fun g L' h₁ FG F' N' B' X' T' hG => ?_) hco hgen hk hcell
  have bd : Bd w (A.deeper (envOf qual scope L' f cdv)) g L' d u := by
    refine ⟨C.handled, ?_, ?_, X', p, loose, mean, mg, mb, envOf qual scope L' f cdv, env :: outer, A, base, ?_, rfl, hk, B', T'⟩
    · show A.depth + 1 + d < _; have := C.depth; omega
    · show A.units + 3 + u < _; have := C.units; omega
    · show A.frames.map _ = _; rw [h1]; rfl
  refine wpAny_mono (h g L' h₁ (fun b o e n => hG b o e n) bd F' N') (fun fl s' hl => ?_) (fun e s' x => x.elim)
  obtain ⟨⟨m', F''⟩, hR⟩ := hl
  exact ⟨L', m', [], F'', News.nil, fun _ _ => hR⟩
structure Stop (p : Prop) : Prop where
  out : p
end Mine
end

-- Loops
section
open PySem PySem.W PyProof.Rows PySem.Calls PySem.Spec
set_option maxRecDepth 100000
namespace Mine

noncomputable def okc (o : Obj) : Bool := match o.data with
  | .cell _ => true
  | _ => match o.cls with
    | .type n => n == "list" || n == "tuple" || n == "dict"
    | .ref _ => true
    | _ => false
structure Itr (w : World) (A : Around) (target : Expr) (G : Gs) (h₁ h₂ : Heap) (I : Addr) (n : Nat) (P : Nat → Value → Heap → Prop) (fp wr : List Addr) (St : Nat → Heap → Prop) : Prop where
  turns : ∃ Md, KTurns PySem.Challenge.rw_pk0113_01.row.prog w A target I fp wr n P Md St
  self : ∀ i (s : Shared) (Q : Value → Shared → Prop) (E : Value → Shared → Prop), St i s.heap → Q (.ref I) s → wpAny (MO w) A (pyIter (.ref I)) Q E s
  st : St 0 h₂
  new : ∀ b ∈ wr, h₁.get? b = none
  lt : ∀ b ∈ fp, b < h₂.objs.size
  src : ∀ b ∈ fp, h₁.get? b = none ∨ ∃ o, G b o
  ext : Ext h₁ h₂
  alive : ∀ i h, St i h → ∀ b ∈ wr, ∃ o, h.get? b = some o ∧ okc o = false

noncomputable def Itb (w : World) (A : Around) (target : Expr) (G : Gs) (s₀ s₁ : Shared) (xv : Value) (n : Nat) (P : Nat → Value → Heap → Prop) : Prop :=
  ∀ (Q : Value → Shared → Prop) (E : Value → Shared → Prop),
    (∀ I h₂ tk₂ fp wr St, Itr w A target G s₀.heap h₂ I n P fp wr St → Q (.ref I) { s₀ with heap := h₂, toks := tk₂ }) → wpAny (MO w) A (pyIter xv) Q E s₁

section
variable {w : World} {A : Around} {env : Env} {scope : Scope} {cl : List (Str × Addr)} {elt target iter : Expr} {ifs : List Expr} {pos : Pos} {G : Gs} {s₁ : Shared} {n : Nat} {P : Nat → Value → Heap → Prop}

theorem codeAny_compLoop_any {s : Shared} {R : Result → Shared → Prop} {it acc : Value} {env : Env} (I : Nat → Shared → Prop)
    (turn : ∀ n s, I n s → wpAny (MO w) A (pyNext it) (fun r s₁ => match r with
      | none => R (.ok .next) s₁
      | some v => wpAny (MO w) A (letOwnedTupleGo target it v) (fun _ s₁' => wpAny (MO w) A (assign target env v) (fun _ s₂ =>
          wpAny (MO w) A (forIn ifs true fun c r => if r = true then do let ok ← isTrue c env (eval c env); pure (ForInStep.yield ok) else pure (ForInStep.yield r)) (fun ok s₃ =>
            if ok = true then wpAny (MO w) A (eval elt env) (fun x s₄ =>
              wpAny (MO w) A (call (.builtin "list.append") [acc, x]) (fun _ s₅ => ∃ m, m < n ∧ I m s₅) (fun _ _ => False) s₄) (fun _ _ => False) s₃
            else ∃ m, m < n ∧ I m s₃) (fun _ _ => False) s₂) (fun _ _ => False) s₁') (fun _ _ => False) s₁) (fun _ _ => False) s)
    (n : Nat) (h : I n s) :
    codeAny (MO w) A (.compLoop (.ListComp elt [⟨target, iter, ifs, 0⟩] scope pos) 0 it acc env) R s := by
  refine codeAny_loop rfl I (fun n s hI => ?_) n h
  show wpAny _ A ((compTurn (.ListComp elt [⟨target, iter, ifs, 0⟩] scope pos) 0 it acc env).onRaise (fun x => do noteFrame x env; theTreesLotGoes x)) _ _ s
  refine wpAny_noted ?_
  rw [compTurn_list]
  refine wpAny_bind (wpAny_standAt (wpAny_bind (wpAny_mono (turn n s hI) (fun r s₁ h₁ => ?_) fun _ _ h' => h'.elim)))
  cases r with
  | none => exact wpAny_pure h₁
  | some v =>
    refine wpAny_bind (wpAny_mono h₁ (fun _ s₁' h₁' => ?_) fun _ _ h' => h'.elim)
    refine wpAny_bind (wpAny_mono h₁' (fun _ s₂ h₂ => wpAny_bind (wpAny_mono h₂ (fun ok s₃ h₃ => ?_) fun _ _ h' => h'.elim)) fun _ _ h' => h'.elim)
    cases ok with
    | false => exact wpAny_pure ⟨rfl, h₃⟩
    | true =>
      exact wpAny_bind (wpAny_bind (wpAny_mono h₃ (fun x s₄ h₄ => wpAny_bind (wpAny_mono h₄ (fun _ s₅ h₅ => wpAny_pure (wpAny_pure ⟨rfl, h₅⟩)) fun _ _ h' => h'.elim)) fun _ _ h' => h'.elim))

open LCg in
theorem comp_core {h₂ : Heap} {tk₂ : Nat} {I : Addr} {fp wr : List Addr} {St : Nat → Heap → Prop} {E : Value → Shared → Prop} {RR : Value → Addr → Result → Shared → Prop}
    (T : Itr w A target G s₁.heap h₂ I n P fp wr St) (hG : Sub G s₁.heap) (hsz : n ≤ sizeLine)
    (hcell : ∀ y ∈ scope.names, y.2 ≠ .cell) (hkind : scope.kind = .function)
    (p : Nat → Bool) (M : Nat → (Str → Option Value) → Prop) (J : Nat → List Value → Gs → Prop) (hJ0 : J 0 [] G)
    (hassign : ∀ i v C (s₂ : Shared) m₂ (Q : Unit → Shared → Prop) (E : Value → Shared → Prop), i < n → P i v s₂.heap → Ext s₁.heap s₂.heap → s₂.heap.Ns C m₂ →
      (∀ h₃ tk₃ m₃, h₃.Ns C m₃ → M i m₃ → (∀ b o, b ≠ C → s₂.heap.get? b = some o → h₃.get? b = some o) → Q () { s₂ with heap := h₃, toks := tk₃ }) → wpAny (MO w) A (assign target (compEnvC scope cl C env) v) Q E s₂)
    (htests : ∀ i C (s₃ : Shared) m₃ G' ys (Q : Bool → Shared → Prop) (E : Value → Shared → Prop), i < n → M i m₃ → s₃.heap.Ns C m₃ → Ext s₁.heap s₃.heap → Le G G' → Sub G' s₃.heap → J i ys G' → (∃ h tk, s₃ = { s₁ with heap := h, toks := tk }) →
      (∀ h₄ tk₄, Ext s₃.heap h₄ → (p i = false → J (i + 1) ys G') → Q (p i) { s₃ with heap := h₄, toks := tk₄ }) →
      wpAny (MO w) A (forIn ifs true fun c r => if r = true then do let ok ← isTrue c (compEnvC scope cl C env) (eval c (compEnvC scope cl C env)); pure (ForInStep.yield ok) else pure (ForInStep.yield r)) Q E s₃)
    (helt : ∀ i C (s₃ : Shared) m₃ G' ys (Q : Value → Shared → Prop) (E : Value → Shared → Prop), i < n → p i = true → M i m₃ → s₃.heap.Ns C m₃ → Ext s₁.heap s₃.heap → Le G G' → Sub G' s₃.heap → J i ys G' → (∃ h tk, s₃ = { s₁ with heap := h, toks := tk }) →
      (∀ y h₅ tk₅, Ext s₃.heap h₅ → J (i + 1) (ys ++ [y]) (More G' s₃.heap h₅) → Q y { s₃ with heap := h₅, toks := tk₅ }) → wpAny (MO w) A (eval elt (compEnvC scope cl C env)) Q E s₃)
    (hfin : ∀ C D h tk m' ys G', Ext s₁.heap h → h.Ns C m' → h.get? D = some (lst ys) → Le G G' → Sub G' h → (∀ b o, G' b o → b ≠ C ∧ b ≠ D) → (∀ b o, G' b o → G b o ∨ s₁.heap.get? b = none) →
      s₁.heap.get? C = none → s₁.heap.get? D = none → C ≠ D → ys.length ≤ n → J n ys G' → RR (.ref D) C (.ok .next) { s₁ with heap := h, toks := tk }) :
    wpAny (MO w) A (newList []) (fun acc s₃ => wpAny (MO w) A (newFunctionEnv scope env.globals cl [] env.qual none .none (some env)) (fun cenv s₄ =>
      codeAny (MO w) A (.compStart (.ListComp elt [⟨target, iter, ifs, 0⟩] scope pos) 0 (.ref I) acc { cenv with scope := relabel scope env }) (RR acc cenv.locals) s₄) E s₃) E { s₁ with heap := h₂, toks := tk₂ } := by
  obtain ⟨Md, W⟩ := T.turns
  refine wpAny_newObj_type (wpAny_newFunctionEnv hcell (by intro y hy; simp at hy) (fun h₁ hns₁ hsb₁ => ?_) hkind)
  dsimp only at hns₁ hsb₁ ⊢
  generalize hH2 : h₂.push { cls := .type "list", dict := none, data := .seq ([] : List Value).toArray } = H2 at hns₁ hsb₁ ⊢
  have hC : H2.objs.size = h₂.objs.size + 1 := by rw [← hH2, Heap.size_push]
  have hDC : h₂.objs.size ≠ H2.objs.size := by rw [hC]; exact Nat.ne_of_lt (Nat.lt_succ_self _)
  have below : ∀ b, b < h₂.objs.size → b ≠ H2.objs.size ∧ b ≠ h₂.objs.size := fun b hb => ⟨by rw [hC]; exact Nat.ne_of_lt (Nat.lt_succ_of_lt hb), Nat.ne_of_lt hb⟩
  have hDf : h₂.objs.size ∉ fp := fun hm => Nat.lt_irrefl _ (T.lt _ hm)
  have hCf : H2.objs.size ∉ fp := fun hm => by have := T.lt _ hm; rw [hC] at this; exact Nat.lt_irrefl _ (Nat.lt_of_succ_lt this)
  have hDw : h₂.objs.size ∉ wr := fun hm => hDf (W.sub _ hm)
  have hCw : H2.objs.size ∉ wr := fun hm => hCf (W.sub _ hm)
  have old : Ext h₂ h₁ := fun b o e => hsb₁.extBut b o (below b (Heap.lt_size e)).1 (Heap.get?_push_of_some _ (hH2 ▸ Heap.get?_push_of_some _ e))
  have hacc : h₁.get? h₂.objs.size = some (lst []) := hsb₁.extBut _ _ hDC (Heap.get?_push_of_some _ (hH2 ▸ Heap.get?_push_size _ rfl))
  have hst₁ : St 0 h₁ := W.frame _ _ _ T.st fun b _ o e => old b o e
  have fresh : ∀ a, h₂.objs.size ≤ a → s₁.heap.get? a = none := fun a ha => ext_none T.ext (by
    cases e : h₂.get? a with
    | none => rfl
    | some o' => exact absurd (Heap.lt_size e) (Nat.not_lt.mpr ha))
  have hD₀ := fresh h₂.objs.size (Nat.le_refl _)
  have hC₀ := fresh H2.objs.size (by rw [hC]; exact Nat.le_succ _)
  have off₀ : ∀ b o, s₁.heap.get? b = some o → b ≠ H2.objs.size ∧ b ≠ h₂.objs.size ∧ b ∉ wr := fun b o e =>
    ⟨fun q => (by rw [q, hC₀] at e; cases e), fun q => (by rw [q, hD₀] at e; cases e), fun q => (by rw [T.new b q] at e; cases e)⟩
  have loop : ∀ s₃ : Shared, s₃ = { s₁ with heap := h₁, toks := tk₂ + ([] : List (Str × Value)).length } →
      codeAny (MO w) A (.compLoop (.ListComp elt [⟨target, iter, ifs, 0⟩] scope pos) 0 (.ref I) (.ref h₂.objs.size) (compEnvC scope cl H2.objs.size env)) (RR (.ref h₂.objs.size) H2.objs.size) s₃ := by
    rintro s₃ rfl
    refine codeAny_compLoop_any
      (fun k s' => ∃ h' tk i ys m' G', s' = { s₁ with heap := h', toks := tk } ∧ i ≤ n ∧ k = n + 1 - i ∧ ys.length ≤ i ∧ St i h' ∧ Ext s₁.heap h' ∧ h'.Ns H2.objs.size m' ∧ h'.get? h₂.objs.size = some (lst ys) ∧
        Le G G' ∧ Sub G' h' ∧ (∀ b o, G' b o → b ≠ H2.objs.size ∧ b ≠ h₂.objs.size ∧ b ∉ wr) ∧ (∀ b o, G' b o → G b o ∨ s₁.heap.get? b = none) ∧ J i ys G') ?_ (n + 1)
      ⟨h₁, _, 0, [], _, G, rfl, Nat.zero_le _, rfl, Nat.le_refl _, hst₁, T.ext.trans old, hns₁, hacc, Le.rfl', hG.ext (T.ext.trans old), fun b o e => off₀ b o (hG b o e), fun _ _ e => .inl e, hJ0⟩
    rintro k s' ⟨h', tk, i, ys, m', G', rfl, hi, rfl, hyl, hst', hx', hn', hD', hle, hsub, hoff, hnew, hJ⟩
    by_cases hlt : i < n
    · refine W.item i _ _ _ hlt hst' fun v h₃ tk₃ hMd hk₃ => ?_
      refine W.go i v _ _ _ hMd fun h₄ hP hst₄ hk₄ => ?_
      have k₄ : ∀ b o, b ∉ wr → h'.get? b = some o → h₄.get? b = some o := fun b o hb e => hk₄ b o hb (hk₃ b o hb e)
      refine hassign i v H2.objs.size { s₁ with heap := h₄, toks := tk₃ } _ _ _ hlt hP (fun b o e => k₄ b o (off₀ b o e).2.2 (hx' b o e)) (hn'.at' fun o e => k₄ _ o hCw e) fun h₅ tk₅ m₅ hn₅ hM₅ hk₅ => ?_
      have k₅ : ∀ b o, b ≠ H2.objs.size → b ∉ wr → h'.get? b = some o → h₅.get? b = some o := fun b o hb hw e => hk₅ b o hb (k₄ b o hw e)
      have hx₅ : Ext s₁.heap h₅ := fun b o e => k₅ b o (off₀ b o e).1 (off₀ b o e).2.2 (hx' b o e)
      have hst₅ : St (i + 1) h₅ := W.frame _ _ _ hst₄ fun b hb o e => hk₅ b o (fun q => hCf (q ▸ hb)) e
      have hD₅ : h₅.get? h₂.objs.size = some (lst ys) := k₅ _ _ hDC hDw hD'
      have hsub₅ : Sub G' h₅ := fun b o e => k₅ b o (hoff b o e).1 (hoff b o e).2.2 (hsub b o e)
      refine htests i H2.objs.size { s₁ with heap := h₅, toks := tk₅ } m₅ G' ys _ _ hlt hM₅ hn₅ hx₅ hle hsub₅ hJ ⟨_, _, rfl⟩ fun h₆ tk₆ hx₆ hskip => ?_
      have hst₆ : St (i + 1) h₆ := W.frame _ _ _ hst₅ fun b _ o e => hx₆ b o e
      have hn₆ : h₆.Ns H2.objs.size m₅ := hn₅.at' fun o e => hx₆ _ o e
      cases hp : p i with
      | false =>
        simp only [Bool.false_eq_true, if_false]
        exact ⟨n + 1 - (i + 1), by omega, h₆, tk₆, i + 1, ys, m₅, G', rfl, hlt, rfl, by omega, hst₆, hx₅.trans hx₆, hn₆, hx₆ _ _ hD₅, hle, hsub₅.ext hx₆, hoff, hnew, hskip hp⟩
      | true =>
        simp only [if_true]
        refine helt i H2.objs.size { s₁ with heap := h₆, toks := tk₆ } m₅ G' ys _ _ hlt hp hM₅ hn₆ (hx₅.trans hx₆) hle (hsub₅.ext hx₆) hJ ⟨_, _, rfl⟩ fun y h₇ tk₇ hx₇ hJ₇ => ?_
        have hD₇ := hx₇ _ _ (hx₆ _ _ hD₅)
        have hn₇ : h₇.Ns H2.objs.size m₅ := hn₆.at' fun o e => hx₇ _ o e
        have hst₇ : St (i + 1) h₇ := W.frame _ _ _ hst₆ fun b _ o e => hx₇ b o e
        have hsub₇ := (hsub₅.ext hx₆).more hx₇
        have hoff₇ : ∀ b o, More G' h₆ h₇ b o → b ≠ H2.objs.size ∧ b ≠ h₂.objs.size ∧ b ∉ wr := fun b o e => by
          rcases e with e | ⟨e, e'⟩
          · exact hoff b o e
          · refine ⟨fun q => ?_, fun q => ?_, fun q => ?_⟩
            · obtain ⟨oC, _, _, hoC, _⟩ := hn₆; rw [q, hoC] at e; cases e
            · rw [q, hx₆ _ _ hD₅] at e; cases e
            · obtain ⟨ow, how, _⟩ := T.alive _ _ hst₆ b q; rw [how] at e; cases e
        refine append_at (hsz := by show ys.toArray.size ≤ sizeLine; rw [List.size_toArray]; exact Nat.le_trans (Nat.le_trans hyl hi) hsz) hD₇ fun h₈ hs₈ hD₈ => ?_
        refine ⟨n + 1 - (i + 1), by omega, h₈, tk₇, i + 1, ys ++ [y], m₅, More G' h₆ h₇, rfl, hlt, rfl, by rw [List.length_append, List.length_singleton]; omega, W.frame _ _ _ hst₇ fun b hb o e => hs₈.extBut b o (fun q => hDf (q ▸ hb)) e,
          fun b o e => hs₈.extBut b o (off₀ b o e).2.1 (hx₇ b o (hx₆ b o (hx₅ b o e))), hn₇.sameBut hs₈ (Ne.symm hDC), hD₈.trans (congrArg some (lst_snoc ys y)), hle.trans le_more, fun b o e => hs₈.extBut b o (hoff₇ b o e).2.1 (hsub₇ b o e), hoff₇, fun b o e => ?_, hJ₇⟩
        rcases e with e | ⟨e, _⟩
        · exact hnew b o e
        · exact .inr (ext_none (hx₅.trans hx₆) e)
    · obtain rfl : i = n := Nat.le_antisymm hi (Nat.not_lt.mp hlt)
      refine W.done _ _ _ hst' fun h₃ tk₃ hk₃ => ?_
      exact hfin _ _ h₃ tk₃ m' ys G' (fun b o e => hk₃ b o (off₀ b o e).2.2 (hx' b o e)) (hn'.at' fun o e => hk₃ _ o hCw e) (hk₃ _ _ hDw hD') hle (fun b o e => hk₃ b o (hoff b o e).2.2 (hsub b o e)) (fun b o e => ⟨(hoff b o e).1, (hoff b o e).2.1⟩) hnew hC₀ hD₀ (Ne.symm hDC) hyl hJ
  exact codeAny_compStart_list (loop _ rfl) (T.self 0 _ _ _ hst₁ (loop _ rfl))

theorem Paired.le {α : Type} {F F' : Value → α → Prop} (h : ∀ a b, F a b → F' a b) {l₁ : List Value} {l₂ : List α} (p : Paired F l₁ l₂) : Paired F' l₁ l₂ := by
  induction p with
  | nil => exact .nil
  | cons x _ ih => exact .cons (h _ _ x) ih

structure Cmp (w : World) (A : Around) (env : Env) (scope : Scope) (cl : List (Str × Addr)) (elt target : Expr) (ifs : List Expr) (G : Gs) (s₁ : Shared) (P : Nat → Value → Heap → Prop) {δ ε : Type} (ds : List δ) (pz : δ → Bool) (f : δ → ε)
    (Ro : Gs → Value → ε → Prop) (M : Nat → (Str → Option Value) → Prop) : Prop where
  sub : Sub G s₁.heap
  len : ds.length ≤ sizeLine
  mono : ∀ G G' y e, Le G G' → Ro G y e → Ro G' y e
  assign : ∀ i v C (s₂ : Shared) m₂ (Q : Unit → Shared → Prop) (E : Value → Shared → Prop), i < ds.length → P i v s₂.heap → Ext s₁.heap s₂.heap → s₂.heap.Ns C m₂ →
      (∀ h₃ tk₃ m₃, h₃.Ns C m₃ → M i m₃ → (∀ b o, b ≠ C → s₂.heap.get? b = some o → h₃.get? b = some o) → Q () { s₂ with heap := h₃, toks := tk₃ }) → wpAny (MO w) A (assign target (compEnvC scope cl C env) v) Q E s₂
  tests : ∀ i d C (s₃ : Shared) m₃ (Q : Bool → Shared → Prop) (E : Value → Shared → Prop), ds[i]? = some d → M i m₃ → s₃.heap.Ns C m₃ → Ext s₁.heap s₃.heap → (∃ h tk, s₃ = { s₁ with heap := h, toks := tk }) →
      (∀ h₄ tk₄, Ext s₃.heap h₄ → Q (pz d) { s₃ with heap := h₄, toks := tk₄ }) →
      wpAny (MO w) A (forIn ifs true fun c r => if r = true then do let ok ← isTrue c (compEnvC scope cl C env) (eval c (compEnvC scope cl C env)); pure (ForInStep.yield ok) else pure (ForInStep.yield r)) Q E s₃
  elt : ∀ i d C (s₃ : Shared) m₃ G' (Q : Value → Shared → Prop) (E : Value → Shared → Prop), ds[i]? = some d → pz d = true → M i m₃ → s₃.heap.Ns C m₃ → Ext s₁.heap s₃.heap → Le G G' → Sub G' s₃.heap → (∃ h tk, s₃ = { s₁ with heap := h, toks := tk }) →
      (∀ y h₅ tk₅, Ext s₃.heap h₅ → Ro (More G' s₃.heap h₅) y (f d) → Q y { s₃ with heap := h₅, toks := tk₅ }) → wpAny (MO w) A (eval elt (compEnvC scope cl C env)) Q E s₃

theorem take_succ_map {δ ε : Type} (ds : List δ) (pz : δ → Bool) (f : δ → ε) (i : Nat) (d : δ) (h : ds[i]? = some d) :
    ((ds.take (i + 1)).filter pz).map f = ((ds.take i).filter pz).map f ++ (if pz d then [f d] else []) := by
  rw [take_succ_filter pz ds i d h, List.map_append]
  cases pz d <;> simp

open LCg in
theorem comp_map {h₂ : Heap} {tk₂ : Nat} {I : Addr} {fp wr : List Addr} {St : Nat → Heap → Prop} {E : Value → Shared → Prop} {RR : Value → Addr → Result → Shared → Prop} {δ ε : Type} {ds : List δ} {pz : δ → Bool} {f : δ → ε}
    {Ro : Gs → Value → ε → Prop} {M : Nat → (Str → Option Value) → Prop}
    (T : Itr w A target G s₁.heap h₂ I ds.length P fp wr St) (K : Cmp w A env scope cl elt target ifs G s₁ P ds pz f Ro M)
    (hcell : ∀ y ∈ scope.names, y.2 ≠ .cell) (hkind : scope.kind = .function)
    (hfin : ∀ C D h tk m' ys G', Ext s₁.heap h → h.Ns C m' → h.get? D = some (lst ys) → Le G G' → Sub G' h → (∀ b o, G' b o → b ≠ C ∧ b ≠ D) → (∀ b o, G' b o → G b o ∨ s₁.heap.get? b = none) →
      s₁.heap.get? C = none → s₁.heap.get? D = none → C ≠ D → ys.length ≤ ds.length → Paired (Ro G') ys ((ds.filter pz).map f) → RR (.ref D) C (.ok .next) { s₁ with heap := h, toks := tk }) :
    wpAny (MO w) A (newList []) (fun acc s₃ => wpAny (MO w) A (newFunctionEnv scope env.globals cl [] env.qual none .none (some env)) (fun cenv s₄ =>
      codeAny (MO w) A (.compStart (.ListComp elt [⟨target, iter, ifs, 0⟩] scope pos) 0 (.ref I) acc { cenv with scope := relabel scope env }) (RR acc cenv.locals) s₄) E s₃) E { s₁ with heap := h₂, toks := tk₂ } := by
  refine comp_core T K.sub K.len hcell hkind (fun i => match ds[i]? with | some d => pz d | none => true) M (fun i ys G' => Paired (Ro G') ys (((ds.take i).filter pz).map f)) (by simpa using Paired.nil) K.assign ?_ ?_ ?_
  · intro i C s₃ m₃ G' ys Q E hi hM hn hx hle hsub hJ hs hQ
    obtain ⟨d, hd⟩ : ∃ d, ds[i]? = some d := ⟨ds[i], by simp [hi]⟩
    refine K.tests i d C s₃ m₃ Q E hd hM hn hx hs fun h₄ tk₄ hx₄ => ?_
    have := hQ h₄ tk₄ hx₄
    rw [hd] at this
    refine this fun hp => ?_
    have hp' : pz d = false := hp
    have e := take_succ_map ds pz f i d hd
    rw [hp'] at e
    simp only [Bool.false_eq_true, if_false, List.append_nil] at e
    rw [e]; exact hJ
  · intro i C s₃ m₃ G' ys Q E hi hp hM hn hx hle hsub hJ hs hQ
    obtain ⟨d, hd⟩ : ∃ d, ds[i]? = some d := ⟨ds[i], by simp [hi]⟩
    rw [hd] at hp
    have hp' : pz d = true := hp
    refine K.elt i d C s₃ m₃ G' Q E hd hp' hM hn hx hle hsub hs fun y h₅ tk₅ hx₅ hR => hQ y h₅ tk₅ hx₅ ?_
    have e := take_succ_map ds pz f i d hd
    rw [hp'] at e
    simp only [if_true] at e
    rw [e]
    exact PySem.Paired.snoc (Paired.le (fun a b x => K.mono _ _ _ _ le_more x) hJ) hR
  · intro C D h tk m' ys G' hx hn hD hle hsub hoff hnew hC hD' hCD hyl hJ
    rw [List.take_length] at hJ
    exact hfin C D h tk m' ys G' hx hn hD hle hsub hoff hnew hC hD' hCD hyl hJ

open LCg in
noncomputable def CompAt (w : World) (A : Around) (env : Env) (scope : Scope) (cl : List (Str × Addr)) (elt target : Expr) (ifs : List Expr) (Q : Value → Shared → Prop) (xv : Value) (s' : Shared) : Prop :=
  ∃ (s₁ : Shared) (δ ε : Type) (G : Gs) (P : Nat → Value → Heap → Prop) (ds : List δ) (pz : δ → Bool) (f : δ → ε) (Ro : Gs → Value → ε → Prop) (M : Nat → (Str → Option Value) → Prop),
      Itb w A target G s₁ s' xv ds.length P ∧ Cmp w A env scope cl elt target ifs G s₁ P ds pz f Ro M ∧
      ∀ D h tk ys, Ext s₁.heap h → s₁.heap.get? D = none → h.get? D = some (lst ys) → ys.length ≤ ds.length → Paired (Ro (More G s₁.heap h)) ys ((ds.filter pz).map f) → Q (.ref D) { s₁ with heap := h, toks := tk }
open LCg in
noncomputable def CompAtA (w : World) (A : Around) (env : Env) (scope : Scope) (cl : List (Str × Addr)) (elt target : Expr) (ifs : List Expr) (y : Str) (Q : Flow → Shared → Prop) (xv : Value) (s' : Shared) : Prop :=
  ∃ (s₁ : Shared) (δ ε : Type) (G : Gs) (P : Nat → Value → Heap → Prop) (ds : List δ) (pz : δ → Bool) (f : δ → ε) (Ro : Gs → Value → ε → Prop) (M : Nat → (Str → Option Value) → Prop) (m : Str → Option Value),
      Itb w A target G s₁ s' xv ds.length P ∧ Cmp w A env scope cl elt target ifs G s₁ P ds pz f Ro M ∧ s₁.heap.Ns env.locals m ∧ (∀ o, ¬ G env.locals o) ∧
      ∀ D h tk ys G', h.Ns env.locals (fun z => if z = y then some (.ref D) else m z) → (∀ b o, b ≠ env.locals → s₁.heap.get? b = some o → h.get? b = some o) → Le G G' → Sub G' h → (∀ o, ¬ G' env.locals o) → (∀ b o, G' b o → G b o ∨ s₁.heap.get? b = none) →
        G' D (lst ys) → s₁.heap.get? D = none → ys.length ≤ ds.length → Paired (Ro G') ys ((ds.filter pz).map f) → Q .next { s₁ with heap := h, toks := tk }

open LCg in
theorem lcomp {E : Value → Shared → Prop} {Q : Value → Shared → Prop} {s : Shared} (hclos : closureFor scope env = pure cl) (hcell : ∀ y ∈ scope.names, y.2 ≠ .cell) (hkind : scope.kind = .function)
    (hnames : ∀ y ∈ scope.names, y.2 = .local → scope.names.lookup y.1 = some .local)
    (h : wpAny (MO w) A (eval iter env) (CompAt w A env scope cl elt target ifs Q) E s)
    (hs : ∀ x, foldedSetIterable iter env x = pure x := by intro _; rfl) :
    wpAny (MO w) A (eval (.ListComp elt [⟨target, iter, ifs, 0⟩] scope pos) env) Q E s := by
  rw [eval_ListComp]
  refine wpAny_comprehension_free (use := none) rfl hs hclos hkind hnames (wpAny_mono h (fun xv s' h₁ => ?_) fun _ _ e => e)
  obtain ⟨s₁, δ, ε, G, P, ds, pz, f, Ro, M, I, K, hQ⟩ := h₁
  refine I _ _ fun It h₂ tk₂ fp wr St T => comp_map T K hcell hkind ?_
  intro C D h tk m' ys G' hx hn hD hle hsub hoff hnew hC hD' hCD hyl hJ
  refine ⟨m', hn, fun h'' hs'' => ?_⟩
  have hx'' : Ext s₁.heap h'' := fun b o e => hs''.extBut b o (fun q => by rw [q, hC] at e; cases e) (hx b o e)
  refine hQ D h'' tk ys hx'' hD' (hs''.extBut _ _ (Ne.symm hCD) hD) hyl (Paired.le (fun a b x => K.mono _ _ _ _ (fun b o e => ?_) x) hJ)
  rcases hnew b o e with e' | e'
  · exact .inl e'
  · exact .inr ⟨e', hs''.extBut b o (hoff b o e).1 (hsub b o e)⟩

open LCg in
theorem lcompA {E : Value → Shared → Prop} {Q : Flow → Shared → Prop} {s : Shared} {y : Str} {py spos : Pos}
    (hsw : swapsWith (.ListComp elt [⟨target, iter, ifs, 0⟩] scope pos) (some (.Name y py)) spos.line env = pure true)
    (hclos : closureFor scope env = pure cl) (hcell : ∀ y ∈ scope.names, y.2 ≠ .cell) (hkind : scope.kind = .function)
    (hnames : ∀ y ∈ scope.names, y.2 = .local → scope.names.lookup y.1 = some .local)
    (hy : env.kindOf y = some .local) (hp : (env.scope.kind == .class || (env.scope.kind == .module && env.locals != env.globals)) = false)
    (h : wpAny (MO w) A (eval iter env) (CompAtA w A env scope cl elt target ifs y Q) E s)
    (hs : ∀ x, foldedSetIterable iter env x = pure x := by intro _; rfl) :
    wpAny (MO w) A (exec (.Assign [.Name y py] (.ListComp elt [⟨target, iter, ifs, 0⟩] scope pos) spos) env) Q E s := by
  rw [exec_Assign_Name_used _ _ _ _ hsw]
  refine wpAny_bind (wpAny_standAt (wpAny_bind ?_))
  show wpAny _ A (do let _ ← comprehension (.ListComp elt [⟨target, iter, ifs, 0⟩] scope pos) scope env _ (newList []) false (eval iter env) (some (assign (.Name y py) env))) _ _ s
  refine wpAny_bind (wpAny_mono (wpAny_comprehension_free (use := some (assign (.Name y py) env)) (Q := fun _ s' => Q .next s') rfl hs hclos hkind hnames
    (wpAny_mono h (fun xv s' h₁ => ?_) fun _ _ e => e)) (fun _ s' hq => wpAny_pure (wpAny_pure hq)) fun _ _ e => e)
  obtain ⟨s₁, δ, ε, G, P, ds, pz, f, Ro, M, m, I, K, hL, hGL, hQ⟩ := h₁
  refine I _ _ fun It h₂ tk₂ fp wr St T => comp_map T K hcell hkind ?_
  intro C D h tk m' ys G' hx hn hD hle hsub hoff hnew hC hD' hCD hyl hJ
  obtain ⟨oL, _, _, hoL, _⟩ := id hL
  have hLC : env.locals ≠ C := fun q => by rw [q, hC] at hoL; cases hoL
  have hLD : env.locals ≠ D := fun q => by rw [q, hD'] at hoL; cases hoL
  show wpAny _ A (assign (.Name y py) env (.ref D)) _ _ _
  refine wpAny_assign_Name (wpAny_storeName_local hy (hL.at' fun o e => hx _ o e) (fun h₃ hn₃ hs₃ => ?_) hp)
  refine ⟨m', hn.sameBut hs₃ (Ne.symm hLC), fun h'' hs'' => ?_⟩
  have k : ∀ b o, b ≠ env.locals → b ≠ C → h.get? b = some o → h''.get? b = some o := fun b o h1 h2 e => hs''.extBut b o h2 (hs₃.extBut b o h1 e)
  have hGL' : ∀ o, ¬ G' env.locals o := fun o e => by
    rcases hnew _ _ e with e' | e'
    · exact hGL o e'
    · rw [e'] at hoL; cases hoL
  refine hQ D h'' _ ys (fun b o => G' b o ∨ (b = D ∧ o = lst ys)) (hn₃.at' fun o e => hs''.extBut _ o hLC e) (fun b o hb e => k b o hb (fun q => by rw [q, hC] at e; cases e) (hx b o e)) (fun b o e => .inl (hle b o e)) ?_ ?_ ?_ (.inr ⟨rfl, rfl⟩) hD' hyl (Paired.le (fun a b x => K.mono _ _ _ _ (fun b o e => .inl e) x) hJ)
  · rintro b o (e | ⟨rfl, rfl⟩)
    · exact k b o (fun q => hGL' o (q ▸ e)) (hoff b o e).1 (hsub b o e)
    · exact k _ _ (Ne.symm hLD) (Ne.symm hCD) hD
  · rintro o (e | ⟨e, _⟩)
    · exact hGL' o e
    · exact hLD e
  · rintro b o (e | ⟨rfl, rfl⟩)
    · exact hnew b o e
    · exact .inr hD'
theorem atRI {E : Value → Shared → Prop} {Q : Value → Shared → Prop} {s : Shared} {v l : Expr} {a : Addr} {k : Int} {u : Tok} (h : wpAny (MO w) A (subscriptTail v l (.ref a) (.int k u)) Q E s) : wpAny (MO w) A (subscriptTail v l (.ref a) (.int k u)) Q E s := h
theorem atK {E : Value → Shared → Prop} {Q : Value → Shared → Prop} {s : Shared} {x : Str} {C : Addr} (h : wpAny (MO w) A (eval (.Name x pos) (compEnvC scope cl C env)) Q E s) : wpAny (MO w) A (eval (.Name x pos) (compEnvC scope cl C env)) Q E s := h
theorem lcompS {E : Value → Shared → Prop} {Q : Value → Shared → Prop} {s : Shared} (h1 : closureFor scope env = pure cl ∧ scope.kind = .function ∧ ∀ x, foldedSetIterable iter env x = pure x)
    (h2 : (∀ y ∈ scope.names, y.2 ≠ .cell) ∧ ∀ y ∈ scope.names, y.2 = .local → scope.names.lookup y.1 = some .local)
    (h : wpAny (MO w) A (eval iter env) (CompAt w A env scope cl elt target ifs Q) E s) :
    wpAny (MO w) A (eval (.ListComp elt [⟨target, iter, ifs, 0⟩] scope pos) env) Q E s := lcomp h1.1 h2.1 h1.2.1 h2.2 h h1.2.2
theorem lcompB {E : Value → Shared → Prop} {Q : Flow → Shared → Prop} {s : Shared} {y : Str} {py spos : Pos}
    (h1 : swapsWith (.ListComp elt [⟨target, iter, ifs, 0⟩] scope pos) (some (.Name y py)) spos.line env = pure true ∧ closureFor scope env = pure cl ∧ scope.kind = .function ∧ env.kindOf y = some .local ∧
      (env.scope.kind == .class || (env.scope.kind == .module && env.locals != env.globals)) = false ∧ ∀ x, foldedSetIterable iter env x = pure x)
    (h2 : (∀ y ∈ scope.names, y.2 ≠ .cell) ∧ ∀ y ∈ scope.names, y.2 = .local → scope.names.lookup y.1 = some .local)
    (h : wpAny (MO w) A (eval iter env) (CompAtA w A env scope cl elt target ifs y Q) E s) :
    wpAny (MO w) A (exec (.Assign [.Name y py] (.ListComp elt [⟨target, iter, ifs, 0⟩] scope pos) spos) env) Q E s := lcompA h1.1 h1.2.1 h2.1 h1.2.2.1 h2.2 h1.2.2.2.1 h1.2.2.2.2.1 h h1.2.2.2.2.2
end
end Mine
end

-- Loops2
section
open PySem PySem.W PyProof.Rows PySem.Calls PySem.Spec
set_option maxRecDepth 100000
namespace Mine
section
variable {w : World} {A : Around} {env : Env} {target iter : Expr} {body : List Stmt} {pos : Pos} {G : Gs} {s₁ : Shared} {n : Nat} {P : Nat → Value → Heap → Prop}

theorem for_core {s : Shared} {I : Addr} {fp wr : List Addr} {Md : Nat → Value → Heap → Prop} {St : Nat → Heap → Prop} {R : Result → Shared → Prop}
    (W : KTurns PySem.Challenge.rw_pk0113_01.row.prog w A target I fp wr n P Md St) (hst : St 0 s.heap) (Inv : Nat → Shared → Prop)
    (hstab : ∀ i (s : Shared) h' tk, Inv i s → (∀ b o, b ∉ wr → s.heap.get? b = some o → h'.get? b = some o) → Inv i { s with heap := h', toks := tk }) (hI : Inv 0 s)
    (turn : ∀ i v (s₂ : Shared), i < n → Inv i s₂ → P i v s₂.heap → wpAny (MO w) A (assign target env v) (fun _ s₃ => wpAny (MO w) A (execs body env) (fun fl s₄ => match fl with
      | .ret v => R (.ok (.ret v)) s₄
      | .brk => R (.ok .next) s₄
      | _ => Inv (i + 1) s₄ ∧ ∀ b ∈ fp, ∀ o, s₂.heap.get? b = some o → s₄.heap.get? b = some o) (fun _ _ => False) s₃) (fun _ _ => False) s₂)
    (hdone : ∀ s₂, Inv n s₂ → R (.ok .next) s₂) : codeAny (MO w) A (.forLoop target (.ref I) body [] env) R s := by
  refine codeAny_forLoop_any (fun k s' => ∃ i, i ≤ n ∧ k = n + 1 - i ∧ St i s'.heap ∧ Inv i s') ?_ (n + 1) ⟨0, Nat.zero_le _, rfl, hst, hI⟩
  rintro k s' ⟨i, hi, rfl, hst', hI'⟩
  by_cases hlt : i < n
  · refine W.item i _ _ _ hlt hst' fun v h₃ tk₃ hMd hk₃ => ?_
    refine W.go i v _ _ _ hMd fun h₄ hP hst₄ hk₄ => ?_
    refine wpAny_mono (turn i v { s' with heap := h₄, toks := tk₃ } hlt (hstab i s' h₄ tk₃ hI' fun b o hb e => hk₄ b o hb (hk₃ b o hb e)) hP) (fun _ s₃ h₃ => wpAny_mono h₃ (fun fl s₄ h₄ => ?_) fun _ _ x => x.elim) fun _ _ x => x.elim
    cases fl with
    | ret v => exact h₄
    | brk => exact h₄
    | next => exact ⟨n + 1 - (i + 1), by omega, i + 1, hlt, rfl, W.frame _ _ _ hst₄ h₄.2, h₄.1⟩
    | cont => exact ⟨n + 1 - (i + 1), by omega, i + 1, hlt, rfl, W.frame _ _ _ hst₄ h₄.2, h₄.1⟩
  · obtain rfl : i = n := Nat.le_antisymm hi (Nat.not_lt.mp hlt)
    exact W.done _ _ _ hst' fun h₃ tk₃ hk₃ => wpAny_execs_nil (hdone _ (hstab i s' h₃ tk₃ hI' hk₃))

noncomputable def ForPost (Q : Flow → Shared → Prop) (Inv : Nat → Shared → Prop) (i : Nat) (fp : List Addr) (s₂ : Shared) (fl : Flow) (s₄ : Shared) : Prop := match fl with
  | .ret v => Q (.ret v) s₄
  | .brk => Q .next s₄
  | _ => Inv (i + 1) s₄ ∧ ∀ b ∈ fp, ∀ o, s₂.heap.get? b = some o → s₄.heap.get? b = some o
noncomputable def ForAt (w : World) (A : Around) (env : Env) (target : Expr) (body : List Stmt) (Q : Flow → Shared → Prop) (xv : Value) (s' : Shared) : Prop :=
  ∃ (s₁ : Shared) (G : Gs) (n : Nat) (P : Nat → Value → Heap → Prop), Itb w A target G s₁ s' xv n P ∧
      ∀ I h₂ tk₂ fp wr St, Itr w A target G s₁.heap h₂ I n P fp wr St → ∃ Inv : Nat → Shared → Prop,
        (∀ i (s : Shared) h' tk, Inv i s → (∀ b o, b ∉ wr → s.heap.get? b = some o → h'.get? b = some o) → Inv i { s with heap := h', toks := tk }) ∧ Inv 0 { s₁ with heap := h₂, toks := tk₂ } ∧
        (∀ i v (s₂ : Shared), i < n → Inv i s₂ → P i v s₂.heap → wpAny (MO w) A (assign target env v) (fun _ s₃ => wpAny (MO w) A (execs body env) (ForPost Q Inv i fp s₂) (fun _ _ => False) s₃) (fun _ _ => False) s₂) ∧
        ∀ s₂, Inv n s₂ → Q .next s₂
theorem for_rule {E : Value → Shared → Prop} {Q : Flow → Shared → Prop} {s : Shared}
    (h : wpAny (MO w) A (eval iter env) (ForAt w A env target body Q) E s)
    (hs : ∀ x, foldedSetIterable iter env x = pure x := by intro _; rfl) :
    wpAny (MO w) A (exec (.For target iter body [] pos) env) Q E s := by
  refine wpAny_For (wpAny_mono h (fun xv s' h₁ => ?_) fun _ _ e => e) hs
  obtain ⟨s₁, G, n, P, hI, hr⟩ := h₁
  refine hI _ _ fun I h₂ tk₂ fp wr St T => ?_
  obtain ⟨Inv, h1, h2, h3, h4⟩ := hr I h₂ tk₂ fp wr St T
  obtain ⟨Md, W⟩ := T.turns
  exact for_core (R := fun r s' => match r with | .ok f => Q f s' | .error e => cameBackBy (MO w) A env E e s') W T.st Inv h1 h2 (fun i v s₂ a b c => wpAny_mono (h3 i v s₂ a b c) (fun _ s₃ x => wpAny_mono x (fun fl s₄ y => by cases fl <;> exact y) fun _ _ z => z) fun _ _ z => z) h4

theorem letOwned_list {elts : List Expr} {x1} {pos : Pos} {I l : Addr} {i : Nat} {v : Value} {s : Shared} {Q : Unit → Shared → Prop} {E : Value → Shared → Prop} (hit : s.heap.IsListIter I l i) (hQ : Q () s) :
    wpAny (MO w) A (letOwnedTupleGo (.Tuple elts x1 pos) (.ref I) v) Q E s := by
  cases v with
  | ref T => exact wpAny_letOwnedTupleGo_listiter hit hQ
  | _ => exact wpAny_pure hQ

noncomputable def Lst (G : Gs) (a : Addr) (vs : List Value) : Prop := ∃ o n, G a o ∧ o.cls = .type "list" ∧ o.data = .seq vs.toArray n
noncomputable def Tup (G : Gs) (a : Addr) (vs : List Value) : Prop := ∃ o n, G a o ∧ o.cls = .type "tuple" ∧ o.data = .seq vs.toArray n
theorem Lst.mono {G G' : Gs} {a : Addr} {vs : List Value} (h : Lst G a vs) (x : Le G G') : Lst G' a vs := let ⟨o, n, h1, h2, h3⟩ := h; ⟨o, n, x _ _ h1, h2, h3⟩
theorem Tup.mono {G G' : Gs} {a : Addr} {vs : List Value} (h : Tup G a vs) (x : Le G G') : Tup G' a vs := let ⟨o, n, h1, h2, h3⟩ := h; ⟨o, n, x _ _ h1, h2, h3⟩
theorem Lst.isList {G : Gs} {h : Heap} {a : Addr} {vs : List Value} (x : Lst G a vs) (y : Sub G h) : h.IsList a vs.toArray := let ⟨o, n, h1, h2, h3⟩ := x; ⟨o, y _ _ h1, h2, n, h3⟩
theorem Tup.isTup {G : Gs} {h : Heap} {a : Addr} {vs : List Value} (x : Tup G a vs) (y : Sub G h) : IsTup h a vs.toArray := let ⟨o, n, h1, h2, h3⟩ := x; ⟨o, y _ _ h1, h2, n, h3⟩

theorem itb_list {a : Addr} {vs : List Value} (hh : A.handled = none) (hL : Lst G a vs) (hG : Sub G s₁.heap) (ht : (∃ x p, target = .Name x p) ∨ ∃ e k p, target = .Tuple e k p) :
    Itb w A target G s₁ s₁ (.ref a) vs.length (fun i v _ => vs[i]? = some v) := by
  intro Q E hQ
  have hl := hL.isList hG
  have hlt : a < s₁.heap.objs.size := by obtain ⟨_, e, _⟩ := hl; exact Heap.lt_size e
  refine wpAny_pyIter_list hl ?_
  have up : Ext s₁.heap (s₁.heap.push { cls := .type "list_iterator", data := .fields #[.ref a, .int 0 0] }) := fun b o e => Heap.get?_push_of_some _ e
  have W := Walks.list (prog := PySem.Challenge.rw_pk0113_01.row.prog) (w := w) hh s₁.heap.objs.size a (Nat.ne_of_lt hlt) vs.toArray
  refine hQ _ _ s₁.toks [s₁.heap.objs.size, a] [s₁.heap.objs.size] (fun i h => h.IsListIter s₁.heap.objs.size a i ∧ h.IsList a vs.toArray) ⟨?_, W.self, ⟨⟨_, Heap.get?_push_size _ rfl, rfl, rfl⟩, hl.push _⟩, ?_, ?_, ?_, up, ?_⟩
  · have hW : KTurns PySem.Challenge.rw_pk0113_01.row.prog w A target s₁.heap.objs.size [s₁.heap.objs.size, a] [s₁.heap.objs.size] vs.toArray.size (fun i v _ => vs.toArray[i]? = some v) _ _ :=
      KTurns.ofWalks (target := target) W fun i v s Q E st hq => by
        rcases ht with ⟨x, p, rfl⟩ | ⟨e, k, p, rfl⟩
        · exact wpAny_pure hq
        · exact letOwned_list st.1 hq
    simp only [List.size_toArray, List.getElem?_toArray] at hW
    exact ⟨_, hW⟩
  · intro b hb
    rw [List.mem_singleton.mp hb]
    cases e : s₁.heap.get? s₁.heap.objs.size with
    | none => rfl
    | some o => exact absurd (Heap.lt_size e) (Nat.lt_irrefl _)
  · intro b hb
    rw [Heap.size_push]
    rcases List.mem_cons.mp hb with rfl | hb
    · exact Nat.lt_succ_self _
    · rw [List.mem_singleton.mp hb]; exact Nat.lt_succ_of_lt hlt
  · intro b hb
    rcases List.mem_cons.mp hb with rfl | hb
    · left
      cases e : s₁.heap.get? s₁.heap.objs.size with
      | none => rfl
      | some o => exact absurd (Heap.lt_size e) (Nat.lt_irrefl _)
    · rw [List.mem_singleton.mp hb]; obtain ⟨o, n, h1, _⟩ := hL; exact .inr ⟨o, h1⟩
  · rintro i h ⟨⟨o, ho, hc, hd⟩, _⟩ b hb
    rw [List.mem_singleton.mp hb]; exact ⟨o, ho, by unfold okc; rw [hc, hd]; rfl⟩

theorem size_none (h : Heap) : h.get? h.objs.size = none := by
  cases e : h.get? h.objs.size with
  | none => rfl
  | some o => exact absurd (Heap.lt_size e) (Nat.lt_irrefl _)

theorem itr_self {o : Obj} {St : Nat → Heap → Prop} {Pv : Nat → Value → Prop} {x : Str} {p : Pos} (W : Walks PySem.Challenge.rw_pk0113_01.row.prog w A s₁.heap.objs.size [s₁.heap.objs.size] [s₁.heap.objs.size] n Pv St) (hst : St 0 (s₁.heap.push o))
    (hal : ∀ i h, St i h → ∃ o, h.get? s₁.heap.objs.size = some o ∧ okc o = false) :
    Itr w A (.Name x p) G s₁.heap (s₁.heap.push o) s₁.heap.objs.size n (fun i v _ => Pv i v) [s₁.heap.objs.size] [s₁.heap.objs.size] St := by
  refine ⟨⟨_, KTurns.ofWalks (target := .Name x p) W fun i v s Q E st hq => wpAny_pure hq⟩, W.self, hst, ?_, ?_, ?_, fun b o e => Heap.get?_push_of_some _ e, ?_⟩
  · intro b hb; rw [List.mem_singleton.mp hb]; exact size_none _
  · intro b hb; rw [List.mem_singleton.mp hb, Heap.size_push]; exact Nat.lt_succ_self _
  · intro b hb; rw [List.mem_singleton.mp hb]; exact .inl (size_none _)
  · intro i h st b hb; rw [List.mem_singleton.mp hb]; exact hal i h st

theorem itb_tuple {a : Addr} {vs : List Value} {x : Str} {p : Pos} (hh : A.handled = none) (hL : Tup G a vs) (hG : Sub G s₁.heap) :
    Itb w A (.Name x p) G s₁ s₁ (.ref a) vs.length (fun i v _ => vs[i]? = some v) := by
  intro Q E hQ
  have hl : s₁.heap.IsTuple a vs.toArray := hL.isTup hG
  have hlt : a < s₁.heap.objs.size := by obtain ⟨_, e, _⟩ := hl; exact Heap.lt_size e
  refine wpAny_pyIter_tuple hl ?_
  have up : Ext s₁.heap (s₁.heap.push { cls := .type "tuple_iterator", data := .fields #[.ref a, .int 0 0] }) := fun b o e => Heap.get?_push_of_some _ e
  have W := Walks.tuple (prog := PySem.Challenge.rw_pk0113_01.row.prog) (w := w) hh s₁.heap.objs.size a (Nat.ne_of_lt hlt) vs.toArray
  refine hQ _ _ s₁.toks [s₁.heap.objs.size, a] [s₁.heap.objs.size] (fun i h => h.IsTupleIter s₁.heap.objs.size a i ∧ h.IsTuple a vs.toArray) ⟨?_, W.self, ⟨⟨_, Heap.get?_push_size _ rfl, rfl, rfl⟩, hl.at fun o e => up _ o e⟩, ?_, ?_, ?_, up, ?_⟩
  · have hW : KTurns PySem.Challenge.rw_pk0113_01.row.prog w A (.Name x p) s₁.heap.objs.size [s₁.heap.objs.size, a] [s₁.heap.objs.size] vs.toArray.size (fun i v _ => vs.toArray[i]? = some v) _ _ :=
      KTurns.ofWalks (target := .Name x p) W fun i v s Q E st hq => wpAny_pure hq
    simp only [List.size_toArray, List.getElem?_toArray] at hW
    exact ⟨_, hW⟩
  · intro b hb; rw [List.mem_singleton.mp hb]; exact size_none _
  · intro b hb
    rw [Heap.size_push]
    rcases List.mem_cons.mp hb with rfl | hb
    · exact Nat.lt_succ_self _
    · rw [List.mem_singleton.mp hb]; exact Nat.lt_succ_of_lt hlt
  · intro b hb
    rcases List.mem_cons.mp hb with rfl | hb
    · exact .inl (size_none _)
    · rw [List.mem_singleton.mp hb]; obtain ⟨o, n, h1, _⟩ := hL; exact .inr ⟨o, h1⟩
  · rintro i h ⟨⟨o, ho, hc, hd⟩, _⟩ b hb
    rw [List.mem_singleton.mp hb]; exact ⟨o, ho, by unfold okc; rw [hc, hd]; rfl⟩

theorem itb_str {y : Str} {t : Tok} {x : Str} {p : Pos} (hh : A.handled = none) : Itb w A (.Name x p) G s₁ s₁ (.str y t) y.cps.size (fun i v _ => SignAt y i v) := by
  intro Q E hQ
  cases ha : y.cps.all (· < 128)
  · exact wpAny_pyIter_wide ha (hQ _ _ _ _ _ _ (itr_self (Walks.strWide hh _ y t) ⟨_, Heap.get?_push_size _ rfl, rfl, rfl⟩ (fun i h st => let ⟨o, ho, hc, hd⟩ := st; ⟨o, ho, by unfold okc; rw [hc, hd]; rfl⟩)))
  · exact wpAny_pyIter_ascii ha (hQ _ _ _ _ _ _ (itr_self (Walks.strAscii hh _ y t) ⟨_, Heap.get?_push_size _ rfl, rfl, rfl⟩ (fun i h st => let ⟨o, ho, hc, hd⟩ := st; ⟨o, ho, by unfold okc; rw [hc, hd]; rfl⟩)))

theorem itb_range {r : Addr} {a b c : Int} {t u v : Tok} {x : Str} {p : Pos} (hh : A.handled = none) (hr : IsRange s₁.heap r a b c t u v) (hsm : Builtin.Range.small a b c = true) (hn : Builtin.Range.rangeSize a b c = (n : Int)) :
    Itb w A (.Name x p) G s₁ s₁ (.ref r) n (fun i v _ => ∃ t, v = .int (a + i * c) t) := by
  intro Q E hQ
  refine wpAny_pyIter_range hr hsm (hQ _ _ _ _ _ _ (itr_self (Walks.range hh _ a c n) ?_ (fun i h st => ⟨_, st, rfl⟩)))
  show IsRangeIter _ _ _ _ _
  rw [hn]
  simpa using Heap.get?_push_size _ rfl

theorem itb_enum {e it a : Addr} {vs : List Value} {elts : List Expr} {k : Nat} {p : Pos} (hh : A.handled = none) (hL : Lst G a vs) (hG : Sub G s₁.heap) (hE : IsEnum s₁.heap e it 0 .none) (hI : s₁.heap.IsListIter it a 0)
    {s₀ : Shared} (hss : ∃ h tk, s₁ = { s₀ with heap := h, toks := tk }) (hx : Ext s₀.heap s₁.heap) (he : s₀.heap.get? e = none) (hi : s₀.heap.get? it = none) (hG0 : Sub G s₀.heap) :
    Itb w A (.Tuple elts k p) G s₀ s₁ (.ref e) vs.length (fun i v h => ∃ T t x, v = .ref T ∧ vs[i]? = some x ∧ IsTup h T #[.int i t, x]) := by
  intro Q E hQ
  obtain ⟨hs1, tk1, rfl⟩ := hss
  dsimp only at hG hE hI hx
  obtain ⟨oL, nL, hoL, hcL, hdL⟩ := id hL
  have hl := hL.isList hG
  have hae : a ≠ e := fun q => by have := hG0 _ _ hoL; rw [q, he] at this; cases this
  have hai : a ≠ it := fun q => by have := hG0 _ _ hoL; rw [q, hi] at this; cases this
  have hei : e ≠ it := fun q => by
    obtain ⟨o', ho', hc', _⟩ := hI
    have hE' : hs1.get? e = some _ := hE
    rw [q, ho'] at hE'
    have := Option.some.inj hE'
    rw [this] at hc'; exact absurd (show Value.type "enumerate" = Value.type "list_iterator" from hc') (by decide)
  have W := (WalksT.enumerate (prog := PySem.Challenge.rw_pk0113_01.row.prog) (w := w) hh e it a hei hae hai vs.toArray).toU
  refine wpAny_pyIter_enum hE (hQ _ _ _ [e, it, a] [e, it] (fun i h => (∃ old, IsEnum h e it i old) ∧ h.IsListIter it a i ∧ h.IsList a vs.toArray) ⟨?_, ?_, ⟨⟨_, hE⟩, hI, hl⟩, ?_, ?_, ?_, hx, ?_⟩)
  · obtain ⟨Md, hW⟩ : ∃ Md, KTurns PySem.Challenge.rw_pk0113_01.row.prog w A (.Tuple elts k p) e [e, it, a] [e, it] vs.toArray.size (fun i v h => ∃ T vals, v = .ref T ∧ (∃ t x, vs.toArray[i]? = some x ∧ vals = #[Value.int i t, x]) ∧ h.IsTuple T vals) Md
        (fun i h => (∃ old, IsEnum h e it i old) ∧ h.IsListIter it a i ∧ h.IsList a vs.toArray) := ⟨_, KTurns.ofWalksU (elts := elts) (k := k) (pos := p) W⟩
    refine ⟨Md, ⟨hW.sub, hW.frame, ?_, ?_, ?_⟩⟩
    · intro i s Q E hi st hq
      exact hW.item i s Q E (by simpa using hi) st hq
    · intro i v s Q E hm hq
      refine hW.go i v s Q E hm fun h' hP st hk => hq h' ?_ st hk
      obtain ⟨T, vals, rfl, ⟨t, x, hx, rfl⟩, hT⟩ := hP
      exact ⟨T, t, x, rfl, by simpa using hx, hT⟩
    · intro s Q E st hq
      exact hW.done s Q E (by simpa using st) hq
  · rintro i s Q E ⟨⟨old, h1⟩, _⟩ hq
    exact wpAny_pyIter_enum h1 hq
  · intro b hb
    rcases List.mem_cons.mp hb with rfl | hb
    · exact he
    · rw [List.mem_singleton.mp hb]; exact hi
  · intro b hb
    have hE' : hs1.get? e = some _ := hE
    obtain ⟨o', ho', _⟩ := hI
    obtain ⟨o'', ho'', _⟩ := hl
    rcases List.mem_cons.mp hb with rfl | hb
    · exact Heap.lt_size hE'
    · rcases List.mem_cons.mp hb with rfl | hb
      · exact Heap.lt_size ho'
      · rw [List.mem_singleton.mp hb]; exact Heap.lt_size ho''
  · intro b hb
    rcases List.mem_cons.mp hb with rfl | hb
    · exact .inl he
    · rcases List.mem_cons.mp hb with rfl | hb
      · exact .inl hi
      · rw [List.mem_singleton.mp hb]; exact .inr ⟨oL, hoL⟩
  · rintro i h ⟨⟨old, h1⟩, ⟨o', ho', hc', hd'⟩, _⟩ b hb
    rcases List.mem_cons.mp hb with rfl | hb
    · exact ⟨_, h1, rfl⟩
    · rw [List.mem_singleton.mp hb]; exact ⟨o', ho', by unfold okc; rw [hc', hd']; rfl⟩

theorem assign_name {scope : Scope} {cl : List (Str × Addr)} {x : Str} {p : Pos} {C : Addr} {v : Value} {s₂ : Shared} {m₂ : Str → Option Value} {Q : Unit → Shared → Prop} {E : Value → Shared → Prop}
    (hkind : scope.kind = .function) (hx : scope.names.lookup x = some .local) (hn : s₂.heap.Ns C m₂)
    (hQ : ∀ h₃ tk₃ m₃, h₃.Ns C m₃ → m₃ x = some v → (∀ b o, b ≠ C → s₂.heap.get? b = some o → h₃.get? b = some o) → Q () { s₂ with heap := h₃, toks := tk₃ }) :
    wpAny (MO w) A (assign (.Name x p) (compEnvC scope cl C env) v) Q E s₂ := by
  refine wpAny_assign_Name (wpAny_storeName_local (lookup_relabel_local hx) hn (fun h₃ hn₃ hs₃ => ?_) (by simp [compEnvC, relabel, hkind]))
  exact hQ h₃ _ _ hn₃ (by simp) fun b o hb e => hs₃.extBut b o hb e
theorem assign_two {scope : Scope} {cl : List (Str × Addr)} {x y : Str} {p q r : Pos} {k : Nat} {C t : Addr} {u v : Value} {s₂ : Shared} {m₂ : Str → Option Value} {Q : Unit → Shared → Prop} {E : Value → Shared → Prop}
    (hh : A.handled = none) (hkind : scope.kind = .function) (hx : scope.names.lookup x = some .local) (hy : scope.names.lookup y = some .local) (hxy : x ≠ y) (ht : IsTup s₂.heap t #[u, v]) (hn : s₂.heap.Ns C m₂)
    (hQ : ∀ h₃ tk₃ m₃, h₃.Ns C m₃ → m₃ x = some u → m₃ y = some v → (∀ b o, b ≠ C → s₂.heap.get? b = some o → h₃.get? b = some o) → Q () { s₂ with heap := h₃, toks := tk₃ }) :
    wpAny (MO w) A (assign (.Tuple [.Name x p, .Name y q] k r) (compEnvC scope cl C env) (.ref t)) Q E s₂ := by
  refine assign_Tuple_tuple hh ht rfl rfl fun h₅ he => ?_
  have he' : Ext s₂.heap h₅ := fun b o e => he b o (Nat.ne_of_lt (Heap.lt_size e)) e
  refine assignInOrder_cons (wpAny_assign_Name (wpAny_storeName_local (lookup_relabel_local hx) (hn.at' fun o e => he' _ o e) (fun h₆ hn₆ hs₆ => ?_) (by simp [compEnvC, relabel, hkind])))
  refine assignInOrder_cons (wpAny_assign_Name (wpAny_storeName_local (lookup_relabel_local hy) hn₆ (fun h₃ hn₃ hs₃ => ?_) (by simp [compEnvC, relabel, hkind])))
  refine assignInOrder_nil (hQ h₃ _ _ hn₃ (by simp [hxy]) (by simp) fun b o hb e => hs₃.extBut b o hb (hs₆.extBut b o hb (he' b o e)))
theorem assign_three {scope : Scope} {cl : List (Str × Addr)} {x y z : Str} {p q r r' : Pos} {k : Nat} {C t : Addr} {u v a : Value} {s₂ : Shared} {m₂ : Str → Option Value} {Q : Unit → Shared → Prop} {E : Value → Shared → Prop}
    (hh : A.handled = none) (hkind : scope.kind = .function) (hx : scope.names.lookup x = some .local) (hy : scope.names.lookup y = some .local) (hz : scope.names.lookup z = some .local) (hxy : x ≠ y) (hxz : x ≠ z) (hyz : y ≠ z) (ht : IsTup s₂.heap t #[u, v, a]) (hn : s₂.heap.Ns C m₂)
    (hQ : ∀ h₃ tk₃ m₃, h₃.Ns C m₃ → m₃ x = some u → m₃ y = some v → m₃ z = some a → (∀ b o, b ≠ C → s₂.heap.get? b = some o → h₃.get? b = some o) → Q () { s₂ with heap := h₃, toks := tk₃ }) :
    wpAny (MO w) A (assign (.Tuple [.Name x p, .Name y q, .Name z r'] k r) (compEnvC scope cl C env) (.ref t)) Q E s₂ := by
  refine assign_Tuple_tuple hh ht rfl rfl fun h₅ he => ?_
  have he' : Ext s₂.heap h₅ := fun b o e => he b o (Nat.ne_of_lt (Heap.lt_size e)) e
  refine assignInOrder_cons (wpAny_assign_Name (wpAny_storeName_local (lookup_relabel_local hx) (hn.at' fun o e => he' _ o e) (fun h₆ hn₆ hs₆ => ?_) (by simp [compEnvC, relabel, hkind])))
  refine assignInOrder_cons (wpAny_assign_Name (wpAny_storeName_local (lookup_relabel_local hy) hn₆ (fun h₇ hn₇ hs₇ => ?_) (by simp [compEnvC, relabel, hkind])))
  refine assignInOrder_cons (wpAny_assign_Name (wpAny_storeName_local (lookup_relabel_local hz) hn₇ (fun h₃ hn₃ hs₃ => ?_) (by simp [compEnvC, relabel, hkind])))
  refine assignInOrder_nil (hQ h₃ _ _ hn₃ (by simp [hxy, hxz]) (by simp [hyz]) (by simp) fun b o hb e => hs₃.extBut b o hb (hs₇.extBut b o hb (hs₆.extBut b o hb (he' b o e))))
end
end Mine
end

-- Datum
section
open PySem PySem.W PyProof.Rows PySem.Calls PySem.Spec
set_option maxRecDepth 100000
namespace Mine
mutual
noncomputable def Rd (G : Gs) : PyData → Value → Prop
  | .none, v => v = .none
  | .bool b, v => v = .bool b
  | .int i, v => ∃ t, v = .int i t
  | .str x, v => ∃ t, v = .str x t
  | .list ds, v => ∃ a vs, v = .ref a ∧ Lst G a vs ∧ RdL G ds vs
  | .tuple ds, v => ∃ a vs, v = .ref a ∧ Tup G a vs ∧ RdL G ds vs
  | .dict _, _ => False
noncomputable def RdL (G : Gs) : List PyData → List Value → Prop
  | [], vs => vs = []
  | d :: ds, vs => ∃ v r, vs = v :: r ∧ Rd G d v ∧ RdL G ds r
end
mutual
theorem Rd.mono {G G' : Gs} (x : Le G G') : ∀ (d : PyData) (v : Value), Rd G d v → Rd G' d v
  | .none, _, h => h
  | .bool _, _, h => h
  | .int _, _, h => h
  | .str _, _, h => h
  | .list ds, _, h => by
    obtain ⟨a, vs, h1, h2, h3⟩ := h
    exact ⟨a, vs, h1, h2.mono x, RdL.mono x ds vs h3⟩
  | .tuple ds, _, h => by
    obtain ⟨a, vs, h1, h2, h3⟩ := h
    exact ⟨a, vs, h1, h2.mono x, RdL.mono x ds vs h3⟩
  | .dict _, _, h => h
theorem RdL.mono {G G' : Gs} (x : Le G G') : ∀ (ds : List PyData) (vs : List Value), RdL G ds vs → RdL G' ds vs
  | [], _, h => h
  | d :: ds, _, h => by
    obtain ⟨v, r, h1, h2, h3⟩ := h
    exact ⟨v, r, h1, Rd.mono x d v h2, RdL.mono x ds r h3⟩
end
mutual
theorem Rd.reads {G : Gs} {h : Heap} (x : Sub G h) : ∀ (d : PyData) (v : Value), Rd G d v → ∃ as, Reads h v d as
  | .none, _, q => by cases q; exact ⟨_, Reads.none⟩
  | .bool b, _, q => by cases q; exact ⟨_, Reads.bool b⟩
  | .int i, _, q => by obtain ⟨t, rfl⟩ := q; exact ⟨_, Reads.int i t⟩
  | .str y, _, q => by obtain ⟨t, rfl⟩ := q; exact ⟨_, Reads.str y t⟩
  | .list ds, _, q => by
    obtain ⟨a, vs, rfl, ⟨o, n, h1, h2, h3⟩, h4⟩ := q
    obtain ⟨as, h5⟩ := RdL.reads x ds vs h4
    exact ⟨_, .list (x _ _ h1) h2 h3 h5⟩
  | .tuple ds, _, q => by
    obtain ⟨a, vs, rfl, ⟨o, n, h1, h2, h3⟩, h4⟩ := q
    obtain ⟨as, h5⟩ := RdL.reads x ds vs h4
    exact ⟨_, .tuple (x _ _ h1) h2 h3 h5⟩
  | .dict _, _, q => False.elim q
theorem RdL.reads {G : Gs} {h : Heap} (x : Sub G h) : ∀ (ds : List PyData) (vs : List Value), RdL G ds vs → ∃ as, ReadsAll h vs ds as
  | [], _, q => by cases q; exact ⟨_, ReadsAll.nil⟩
  | d :: ds, _, q => by
    obtain ⟨v, r, rfl, h2, h3⟩ := q
    obtain ⟨as, h4⟩ := Rd.reads x d v h2
    obtain ⟨bs, h5⟩ := RdL.reads x ds r h3
    exact ⟨_, .cons h4 h5⟩
end
theorem RdL.length {G : Gs} : ∀ {ds : List PyData} {vs : List Value}, RdL G ds vs → vs.length = ds.length
  | [], _, h => by cases h; rfl
  | _ :: _, _, h => by obtain ⟨v, r, rfl, _, h3⟩ := h; simp [RdL.length h3]
theorem RdL.get {G : Gs} : ∀ {ds : List PyData} {vs : List Value}, RdL G ds vs → ∀ {i : Nat} {v : Value}, vs[i]? = some v → ∃ d, ds[i]? = some d ∧ Rd G d v
  | [], _, h, i, v, e => by cases h; simp at e
  | d :: ds, _, h, i, v, e => by
    obtain ⟨u, r, rfl, h2, h3⟩ := h
    cases i with
    | zero => simp at e; subst e; exact ⟨d, rfl, h2⟩
    | succ i => exact RdL.get h3 (by simpa using e)
theorem RdL.get' {G : Gs} : ∀ {ds : List PyData} {vs : List Value}, RdL G ds vs → ∀ {i : Nat} {d : PyData}, ds[i]? = some d → ∃ v, vs[i]? = some v ∧ Rd G d v
  | [], _, h, i, v, e => by simp at e
  | d :: ds, _, h, i, v, e => by
    obtain ⟨u, r, rfl, h2, h3⟩ := h
    cases i with
    | zero => simp at e; subst e; exact ⟨u, rfl, h2⟩
    | succ i => obtain ⟨v, h4, h5⟩ := RdL.get' h3 (i := i) (by simpa using e); exact ⟨v, by simpa using h4, h5⟩
theorem RdL.of_paired {G : Gs} {α : Type} {f : α → PyData} {vs : List Value} {xs : List α} (p : Paired (fun v x => Rd G (f x) v) vs xs) : RdL G (xs.map f) vs := by
  induction p with
  | nil => rfl
  | cons h _ ih => exact ⟨_, _, rfl, h, ih⟩
theorem RdL.of_ints {G : Gs} {vs : List Value} {ns : List Int} (p : IntsAre vs ns) : RdL G (ns.map .int) vs := by
  induction p with
  | nil => rfl
  | cons _ _ _ ih => exact ⟨_, _, rfl, ⟨_, rfl⟩, ih⟩
theorem RdL.ints {G : Gs} : ∀ {ns : List Int} {vs : List Value}, RdL G (ns.map .int) vs → IntsAre vs ns
  | [], _, h => by cases h; exact .nil
  | n :: ns, _, h => by obtain ⟨v, r, rfl, ⟨t, rfl⟩, h3⟩ := h; exact .cons _ _ (RdL.ints h3)
theorem lst_new {G : Gs} {h h' : Heap} {a : Addr} {vs : List Value} {o : Obj} {n : Nat} (h1 : h.get? a = none) (h2 : h'.get? a = some o) (h3 : o.cls = .type "list") (h4 : o.data = .seq vs.toArray n) : Lst (More G h h') a vs := ⟨o, n, .inr ⟨h1, h2⟩, h3, h4⟩
theorem tup_new {G : Gs} {h h' : Heap} {a : Addr} {vs : List Value} {o : Obj} {n : Nat} (h1 : h.get? a = none) (h2 : h'.get? a = some o) (h3 : o.cls = .type "tuple") (h4 : o.data = .seq vs.toArray n) : Tup (More G h h') a vs := ⟨o, n, .inr ⟨h1, h2⟩, h3, h4⟩

noncomputable def rowOf (n : Int) : List Int := [(n.fdiv 96).fmod 8, ((n.fdiv 96).fdiv 8).fmod 8, ((n.fdiv 96).fdiv 64).fmod 8].take (1 + (n.fdiv 32).fmod 3).toNat
noncomputable def deedD (n : Int) : PyData := .tuple [.int (n.fmod 4), .int ((n.fdiv 4).fmod 4), .int ((n.fdiv 16).fmod 2), .list ((rowOf n).map .int)]
end Mine
end

-- Frames
section
open PySem PySem.W PyProof.Rows PySem.Calls PySem.Spec
set_option maxRecDepth 100000
namespace Mine
theorem Fr.get_L {g h : Heap} {L : Addr} {m : Str → Option Value} (F : Fr g L h m) : ∃ o, h.get? L = some o := let ⟨o, _, _, e, _⟩ := F.ns; ⟨o, e⟩
theorem Fr.g_L {g h : Heap} {L : Addr} {m : Str → Option Value} (F : Fr g L h m) : g.get? L = none := by
  cases e : g.get? L with
  | none => rfl
  | some o => exact absurd (Heap.lt_size e) (Nat.not_lt.mpr F.above)
theorem Fr.wr {g h h' h₁ : Heap} {L : Addr} {m m₁ : Str → Option Value} {wr : List Addr} (F : Fr g L h m) (F₁ : Fr g L h₁ m₁) (hw : ∀ b ∈ wr, h₁.get? b = none) (k : ∀ b o, b ∉ wr → h.get? b = some o → h'.get? b = some o) : Fr g L h' m := by
  have hL : L ∉ wr := fun q => by obtain ⟨o, e⟩ := Fr.get_L F₁; rw [hw _ q] at e; cases e
  refine ⟨F.ns.at' fun o e => k _ o hL e, fun b o e => k b o (fun q => ?_) (F.keep b o e), F.above⟩
  have := F₁.keep b o e
  rw [hw _ q] at this; cases this
theorem L_fp {G : Gs} {g h₁ : Heap} {L : Addr} {m₁ : Str → Option Value} {fp : List Addr} (F₁ : Fr g L h₁ m₁) (hG : Sub G g) (hs : ∀ b ∈ fp, h₁.get? b = none ∨ ∃ o, G b o) : L ∉ fp := fun q => by
  rcases hs _ q with e | ⟨o, e⟩
  · obtain ⟨o, e'⟩ := Fr.get_L F₁; rw [e] at e'; cases e'
  · have := hG _ _ e; rw [Fr.g_L F₁] at this; cases this
theorem fp_kept {g h₂ h₄ : Heap} {L : Addr} {m₂ m₄ : Str → Option Value} {fp : List Addr} {nw : List (Addr × Obj)} (F₂ : Fr g L h₂ m₂) (F₄ : Fr g L h₄ m₄) (N₄ : News g L h₄ nw) (hn : ∀ p ∈ PyProof.Rows.ownOf g fp h₂, p ∈ nw) : ∀ b ∈ fp, ∀ o, h₂.get? b = some o → h₄.get? b = some o := fun b hb o e => by
  cases hg : g.get? b with
  | some o' =>
    have := F₂.keep b o' hg
    rw [e] at this; cases this
    exact F₄.keep b o hg
  | none => exact (N₄ _ (hn _ (mem_ownOf hb hg e))).1

theorem assign2 {w : World} {A : Around} {s : Shared} {Q : Unit → Shared → Prop} {E : Value → Shared → Prop} {g : Heap} {L : Addr} {m : Str → Option Value} {news : List (Addr × Obj)} {cn : Str} {cs : Scope} {a t : Addr} {cd : Value} {x y : Str} {p q r : Pos} {k : Nat} {u v : Value}
    (hh : A.handled = none) (ht : IsTup s.heap t #[u, v]) (F : Fr g L s.heap m) (N : News g L s.heap news) (hk : cs.kind = .function) (hx : (envOf cn cs L a cd).kindOf x = some .local) (hy : (envOf cn cs L a cd).kindOf y = some .local)
    (hQ : ∀ h' tk', Fr g L h' (fun z => if z = y then some v else if z = x then some u else m z) → News g L h' news → Q () { s with heap := h', toks := tk' }) :
    wpAny (MO w) A (assign (.Tuple [.Name x p, .Name y q] k r) (envOf cn cs L a cd) (.ref t)) Q E s := by
  refine assign_Tuple_tuple hh ht rfl rfl fun h₅ he => ?_
  have he' : Ext s.heap h₅ := fun b o e => he b o (Nat.ne_of_lt (Heap.lt_size e)) e
  refine assignInOrder_cons (wpAny_assign_Name (stN (Fr.keeps F he') (News.grown N he') (fun h₆ F₆ N₆ => ?_) hk hx))
  refine assignInOrder_cons (wpAny_assign_Name (stN F₆ N₆ (fun h₇ F₇ N₇ => ?_) hk hy))
  exact assignInOrder_nil (hQ h₇ _ F₇ N₇)
theorem assign4 {w : World} {A : Around} {s : Shared} {Q : Unit → Shared → Prop} {E : Value → Shared → Prop} {g : Heap} {L : Addr} {m : Str → Option Value} {news : List (Addr × Obj)} {cn : Str} {cs : Scope} {a t : Addr} {cd : Value} {x y z z' : Str} {p q r p' q' : Pos} {k : Nat} {u v u' v' : Value}
    (hh : A.handled = none) (ht : IsTup s.heap t #[u, v, u', v']) (F : Fr g L s.heap m) (N : News g L s.heap news) (hk : cs.kind = .function) (hx : (envOf cn cs L a cd).kindOf x = some .local) (hy : (envOf cn cs L a cd).kindOf y = some .local) (hz : (envOf cn cs L a cd).kindOf z = some .local) (hz' : (envOf cn cs L a cd).kindOf z' = some .local)
    (hQ : ∀ h' tk', Fr g L h' (fun b => if b = z' then some v' else if b = z then some u' else if b = y then some v else if b = x then some u else m b) → News g L h' news → Q () { s with heap := h', toks := tk' }) :
    wpAny (MO w) A (assign (.Tuple [.Name x p, .Name y q, .Name z p', .Name z' q'] k r) (envOf cn cs L a cd) (.ref t)) Q E s := by
  refine assign_Tuple_tuple hh ht rfl rfl fun h₅ he => ?_
  have he' : Ext s.heap h₅ := fun b o e => he b o (Nat.ne_of_lt (Heap.lt_size e)) e
  refine assignInOrder_cons (wpAny_assign_Name (stN (Fr.keeps F he') (News.grown N he') (fun h₆ F₆ N₆ => ?_) hk hx))
  refine assignInOrder_cons (wpAny_assign_Name (stN F₆ N₆ (fun h₇ F₇ N₇ => ?_) hk hy))
  refine assignInOrder_cons (wpAny_assign_Name (stN F₇ N₇ (fun h₈ F₈ N₈ => ?_) hk hz))
  refine assignInOrder_cons (wpAny_assign_Name (stN F₈ N₈ (fun h₉ F₉ N₉ => ?_) hk hz'))
  exact assignInOrder_nil (hQ h₉ _ F₉ N₉)
theorem map2 {x y : Str} {A B a b : Option Value} {m : Str → Option Value} : (fun z => if z = x then A else if z = y then B else if z = x then a else if z = y then b else m z) = (fun z => if z = x then A else if z = y then B else m z) := by
  funext z
  by_cases h1 : z = x <;> by_cases h2 : z = y <;> simp only [h1, h2, if_true, if_false]
theorem Can.X {w : World} {A : Around} {h : Heap} {news : List (Addr × Obj)} {d u : Nat} (c : Can w A h news d u) : (hd.heap_39 w.params).In h := by
  obtain ⟨p, loose, mean, mg, mb, env, outer, A₀, base, h₀, L, m, h1, h2, h3, h4, h5, h6, h7, h8⟩ := c.ctx
  exact h7.keeps h5.keep
end Mine
end

-- Cells
section
open PySem PySem.W PyProof.Rows PySem.Calls PySem.Spec
set_option maxRecDepth 100000
namespace Mine
theorem enterC {w : World} {A : Around} {s : Shared} {d u : Nat} {news : List (Addr × Obj)} {f : Addr} {args : Args} {name qual : Str} {params : Arguments} {body : List Stmt} {scope : Scope} {dV kV doc pm cdv ct oc : Value} {an od : Option Addr}
    {osl : Array (Option Value)} {binds : List (Str × Value)} {R : Result → Shared → Prop} (C : Can w A s.heap news (d + 1) (u + 4))
    (ho : (hd.heap_39 w.params).lookup f = some ⟨oc, od, .func (fnOf name qual params body scope dV kV doc pm an cdv ct), osl⟩) (hcd : codeIn (hd.heap_39 w.params) cdv qual = true)
    (hbind : BindsTo s (fnOf name qual params body scope dV kV doc pm an cdv ct) args binds) (hkind : (binds.all fun y => scope.names.lookup y.1 == some .local || scope.names.lookup y.1 == some .cell) = true)
    (hnd : ((cellsFrom 0 scope.names []).map (·.1)).Nodup)
    (h : ∀ g L' h₁ tk cells, (∀ b o, s.heap.get? b = some o → b ∉ news.map (·.1) → g.get? b = some o) → Bd w (A.deeper (envOfC qual scope L' f cdv)) g L' d u → Fr g L' h₁ (bindL (envOfC qual scope L' f cdv).kindOf binds fun _ => none) →
      News g L' h₁ (cells ++ news) → CellsAre (bindC (envOfC qual scope L' f cdv).kindOf binds fun _ => none) (cellsFrom (L' + 1) scope.names []) cells →
      wpAny (MO w) (A.deeper (envOfC qual scope L' f cdv)) (execs body (envOfC qual scope L' f cdv))
        (fun fl s' => Ret g L' R (match fl with | .ret v => v | _ => .none) s') (fun _ _ => False) { s with heap := h₁, toks := tk })
    (hco : scope.isCoroutine = false) (hgen : scope.isGenerator = false) (hk : scope.kind = .function) : codeAny (MO w) A (.call (.ref f) args) R s := by
  obtain ⟨p, loose, mean, mg, mb, env, outer, A₀, base, h₀, L, m, h1, h2, h3, h4, h5, h6, h7, h8⟩ := C.ctx
  obtain ⟨FG, BG, st, lv⟩ := groundX (R := R) h4 h5 h6 h1 h2 h3
  refine codeAny_call_function (by have := C.depth; omega) ((h7.keeps h5.keep) _ _ ho) rfl hco hgen rfl (codeRec_of (h7.keeps h5.keep) hcd) (hbind _ _ _ _ ?_)
  refine wpAny_newFunctionEnv_cells hk (kindsX hkind _) fun env' he s' x => ?_
  subst he
  refine ⟨(h8.nolimit.keeps h5.keep).keeps x.toInCall.keep, codeAny_func ?_⟩
  obtain ⟨h₁, tk, rfl, _⟩ := x.done
  have hk₁ := x.toInCall.keep
  obtain ⟨cells, NC, Y⟩ := Cl.news (h₀ := s.heap) (Nat.le_refl _) fun n c hm => ⟨x.cell n c (lookup_of_mem_nodup (cellsFrom_names scope.names 0 (s.heap.objs.size + 1) [] [] rfl ▸ hnd) hm), x.above n c hm⟩
  have bd : Bd w (A.deeper (envOfC qual scope s.heap.objs.size f cdv)) (hideAll s.heap (news.map (·.1))) s.heap.objs.size d u := by
    refine ⟨C.handled, ?_, ?_, h7.keeps st, p, loose, mean, mg, mb, envOfC qual scope s.heap.objs.size f cdv, env :: outer, A, base, ?_, rfl, hk, BG, h8.keeps st⟩
    · show A.depth + 1 + d < _; have := C.depth; omega
    · show A.units + 3 + u < _; have := C.units; omega
    · show A.frames.map _ = _; rw [h1]; rfl
  refine wpAny_mono (h _ s.heap.objs.size h₁ tk cells (fun b o e n => hideAll_get _ e n) bd ⟨x.toInCall.ns, fun b o e => hk₁ b o (of_hideAll _ e), Nat.le_of_eq (hideAll_size _ _)⟩ (fun p hp => ?_) Y) (fun fl s' hl => hl.2) fun _ _ y => y.elim
  rcases List.mem_append.mp hp with hp | hp
  · refine ⟨(NC p hp).1, (NC p hp).2.1, ?_⟩
    cases q : (hideAll s.heap (news.map (·.1))).get? p.1 with
    | none => rfl
    | some o => have := of_hideAll _ q; rw [(NC p hp).2.2] at this; cases this
  · exact ⟨hk₁ _ _ (h6 p hp).1, Nat.ne_of_lt (Heap.lt_size (h6 p hp).1), hideAll_none _ (List.mem_map_of_mem hp)⟩
theorem enterB {w : World} {A : Around} {s : Shared} {d u : Nat} {news : List (Addr × Obj)} {f : Addr} {args : Args} {name qual : Str} {params : Arguments} {body : List Stmt} {scope : Scope} {dV kV doc pm cdv ct oc : Value} {an od : Option Addr}
    {osl : Array (Option Value)} {Bn : Heap → List (Str × Value) → Prop} {R : Result → Shared → Prop} (C : Can w A s.heap news (d + 1) (u + 4))
    (ho : (hd.heap_39 w.params).lookup f = some ⟨oc, od, .func (fnOf name qual params body scope dV kV doc pm an cdv ct), osl⟩) (hcd : codeIn (hd.heap_39 w.params) cdv qual = true)
    (hb : ∀ (A : Around) (E : Value → Shared → Prop) (Q : List (Str × Value) → Shared → Prop), (∀ h₂ tk₂ binds, Ext s.heap h₂ → Bn h₂ binds → Q binds { s with heap := h₂, toks := tk₂ }) → wpAny (MO w) A (bindArgs (fnOf name qual params body scope dV kV doc pm an cdv ct) args) Q E s)
    (hloc : ∀ h₂ binds, Bn h₂ binds → ∀ y ∈ binds, scope.names.lookup y.1 = some .local)
    (h : ∀ h₂ tk₂ binds g L' h₁, Ext s.heap h₂ → Bn h₂ binds → (∀ b o, h₂.get? b = some o → b ∉ news.map (·.1) → g.get? b = some o) → Bd w (A.deeper (envOf qual scope L' f cdv)) g L' d u → Fr g L' h₁ (fun y => binds.reverse.lookup y) → News g L' h₁ news →
      wpAny (MO w) (A.deeper (envOf qual scope L' f cdv)) (execs body (envOf qual scope L' f cdv))
        (fun fl s' => Ret g L' R (match fl with | .ret v => v | _ => .none) s') (fun _ _ => False) { s with heap := h₁, toks := tk₂ + binds.length })
    (hco : scope.isCoroutine = false) (hgen : scope.isGenerator = false) (hk : scope.kind = .function) (hcell : ∀ x ∈ scope.names, x.2 ≠ .cell) : codeAny (MO w) A (.call (.ref f) args) R s := by
  obtain ⟨p, loose, mean, mg, mb, env, outer, A₀, base, h₀, L, m, h1, h2, h3, h4, h5, h6, h7, h8⟩ := C.ctx
  refine codeAny_call_function (by have := C.depth; omega) ((h7.keeps h5.keep) _ _ ho) rfl hco hgen rfl (codeRec_of (h7.keeps h5.keep) hcd) (hb _ _ _ fun h₂ tk₂ binds hx hB => ?_)
  have h5' := Fr.keeps h5 hx
  have h6' := News.grown h6 hx
  obtain ⟨FG, BG, st, lv⟩ := groundX (s := { s with heap := h₂, toks := tk₂ }) (R := R) h4 h5' h6' h1 h2 h3
  refine wpAny_newFunctionEnv hcell (hloc _ _ hB) (fun h₁ hns hsb => ⟨?_, codeAny_func ?_⟩) hk
  · exact ((h8.nolimit.keeps h5.keep).keeps hx).fresh _ hsb
  have hk₁ : Ext h₂ h₁ := fun b o e => hsb.extBut b o (Nat.ne_of_lt (Heap.lt_size e)) (Heap.get?_push_of_some _ e)
  have bd : Bd w (A.deeper (envOf qual scope h₂.objs.size f cdv)) (hideAll h₂ (news.map (·.1))) h₂.objs.size d u := by
    refine ⟨C.handled, ?_, ?_, h7.keeps st, p, loose, mean, mg, mb, envOf qual scope h₂.objs.size f cdv, env :: outer, A, base, ?_, rfl, hk, BG, h8.keeps st⟩
    · show A.depth + 1 + d < _; have := C.depth; omega
    · show A.units + 3 + u < _; have := C.units; omega
    · show A.frames.map _ = _; rw [h1]; rfl
  refine wpAny_mono (h h₂ tk₂ binds _ h₂.objs.size h₁ hx hB (fun b o e n => hideAll_get _ e n) bd ⟨hns, fun b o e => hk₁ b o (of_hideAll _ e), Nat.le_of_eq (hideAll_size _ _)⟩
    (fun p hp => ⟨hk₁ _ _ (h6' p hp).1, Nat.ne_of_lt (Heap.lt_size (h6' p hp).1), hideAll_none _ (List.mem_map_of_mem hp)⟩)) (fun fl s' hl => hl.2) fun _ _ y => y.elim
end Mine
end

-- Deed
section
theorem Mine.zoff1 : True := by w_top off; trivial
open PySem PySem.W PyProof.Rows PySem.Calls PySem.Spec
set_option maxRecDepth 100000
namespace Mine
theorem kfilled : (hd.heap_39, PySem.Challenge.rw_pk0113_01).1 = hd.heap_39 := by k_fill; rfl

set_option maxHeartbeats 8000000 in
theorem deed_c (w : World) (n : Int) (t : Tok) {A : Around} {s : Shared} {Q E : Value → Shared → Prop} (C : Can w A s.heap [] 1 8)
    (hret : ∀ v h' tk', Ext s.heap h' → (∀ G, Rd (More G s.heap h') (deedD n) v) → Q v { s with heap := h', toks := tk' }) :
    wpAny (MO w) A (call (.ref 219) [.int n t]) Q E s := by
  refine wpAny_call ?_
  obtain ⟨hnd, dp, fr, gd, un⟩ := A
  obtain rfl : hnd = none := C.handled
  refine' enter (d := 0) (u := 4) C ?k1 ?k2 (BindsTo.of_eq ?k3) ?k4 ?k5 ?k6 ?k7 ?k8 ?k9
  case k1 => k_is
  case k2 => k_is
  case k3 => exact rfl
  case k4 => exact locs rfl
  case k6 => exact rfl
  case k7 => exact rfl
  case k8 => exact rfl
  case k9 => decide
  case k5 =>
    intro g L' h₁ hg bd F N
    obtain ⟨hh, hdp, hun, X, p, loose, mean, mg, mb, env, outer, A₀, base, hA, hf, hke, B, T⟩ := bd
    k_steps
    rename News _ _ _ _ => N9
    rename Fr _ _ _ _ => F9
    rename IntsAre _ _ => I9
    have hx : Ext s.heap _ := fun b o e => F9.keep b o (hg b o e (by simp))
    refine ⟨⟨_, F9⟩, hret _ _ _ hx fun G => ?_⟩
    have hnew : ∀ b, g.get? b = none → s.heap.get? b = none := fun b e => ext_none (fun b o e => hg b o e (by simp)) e
    have n1 := N9 _ (.head _)
    have n2 := N9 _ (.tail _ (.head _))
    exact ⟨_, _, rfl, tup_new (hnew _ n1.2.2) n1.1 rfl rfl, _, _, rfl, ⟨_, rfl⟩, _, _, rfl, ⟨_, rfl⟩, _, _, rfl, ⟨_, rfl⟩, _, _, rfl, ⟨_, _, rfl, lst_new (hnew _ n2.2.2) n2.1 rfl rfl, RdL.of_ints I9⟩, rfl⟩
end Mine
end

-- Regex
section
open PySem PySem.W PyProof.Rows PySem.Calls PySem.Spec
set_option maxRecDepth 100000
namespace Mine
theorem plainAttrs_rePattern : PlainAttrs "re.Pattern" :=
  ⟨⟨"object.__getattribute__", by rw [typeLookup_type, builtinLookup_eq_fast]; kernel_rfl, by decide +kernel⟩, by rw [typeLookup_type, builtinLookup_eq_fast]; kernel_rfl⟩
theorem slot_search : Slot "re.Pattern" "search" "re.Pattern.search" :=
  .of (owner := "re.Pattern") (n := "search") (by rw [typeLookup_type, builtinLookup_eq_fast]; kernel_rfl) (by decide +kernel) (by decide +kernel) (by decide +kernel)
    (by first | exact .inl (by decide +kernel) | exact .inr (by decide +kernel)) (by rw [isSubtype_type]; kernel_rfl)
theorem type_search : typeOf (.builtin "re.Pattern.search") = pure (.type "method_descriptor") := by show builtinType _ = _; rw [builtinType_eq_fast]; kernel_rfl
theorem entry_search : entryFor table "re.Pattern.search" = some Builtin.«re.Pattern.search» := entryFor_of_tree (by kernel_rfl)
theorem args_search (a b : Value) : argsOk "re.Pattern.search" ⟨[a, b], []⟩ := by
  unfold argsOk
  rw [signature?_of (id := "re.Pattern.search") (n := "search".toList.reverse) (o := "re.Pattern".toList.reverse) (rows := Manifest.sig_re_Pattern) (by kernel_rfl) (by kernel_rfl)]; kernel_rfl

noncomputable def letters : List Nat := [97, 98, 99, 100, 65, 66, 67, 68]
noncomputable def codeN : Array Nat := #[14, 10, 4, 1, 1, 22, 0, 31, 16, 127, 0, 13, 7, 22, 0, 31, 16, 127, 0, 1]
noncomputable def codeV : Array Nat := #[14, 14, 4, 1, 1, 9, 4294966783, 0, 0, 2147483648, 0, 0, 0, 0, 0, 13, 11, 9, 4294966783, 0, 0, 2147483648, 0, 0, 0, 0, 0, 1]
theorem inSetN : ∀ c ∈ letters, ∀ seen, ∃ seen', Sre.inSet codeN c codeN.size 5 true seen = .ok (false, seen') := by
  intro c hc seen
  simp only [letters, List.mem_cons, List.not_mem_nil, or_false] at hc
  rcases hc with rfl | rfl | rfl | rfl | rfl | rfl | rfl | rfl <;> exact ⟨_, rfl⟩
theorem inSetV : ∀ c ∈ letters, ∀ seen, ∃ seen', Sre.inSet codeV c codeV.size 5 true seen = .ok (false, seen') := by
  intro c hc seen
  simp only [letters, List.mem_cons, List.not_mem_nil, or_false] at hc
  rcases hc with rfl | rfl | rfl | rfl | rfl | rfl | rfl | rfl <;> exact ⟨_, rfl⟩
theorem admitted_none (m : Sre.M) (hin : ∀ c ∈ letters, ∀ seen, ∃ seen', Sre.inSet m.code c m.code.size 5 true seen = .ok (false, seen')) (ht : ∀ i, i < m.lim → m.text.getD i 0 ∈ letters) :
    ∀ (fuel s : Nat) (seen : Sre.Seen), ∃ seen', Sre.M.admitted m fuel s seen = .ok (none, seen')
  | 0, _, seen => ⟨seen, rfl⟩
  | fuel + 1, s, seen => by
    unfold Sre.M.admitted
    by_cases h : s ≥ m.lim
    · rw [if_pos h]; exact ⟨_, rfl⟩
    · rw [if_neg h]
      obtain ⟨seen', e⟩ := hin _ (ht s (Nat.not_le.mp h)) seen
      rw [e]
      exact admitted_none m hin ht fuel (s + 1) seen'
theorem say_fails (m : Sre.M) (hf : m.frames = []) (ho : m.outcome = none) : (((m.say false).runFor 4).outcome.isSome = true ∧ ∃ m', ((m.say false).runFor 4) = m' ∧ m'.outcome = some .failed) := by
  cases m
  dsimp only at hf ho
  subst hf ho
  exact ⟨rfl, _, rfl, rfl⟩
theorem attempt_fails (m : Sre.M) (hin : ∀ c ∈ letters, ∀ seen, ∃ seen', Sre.inSet m.code c m.code.size 5 true seen = .ok (false, seen')) (ht : ∀ i, i < m.lim → m.text.getD i 0 ∈ letters) (hs : m.hasFirstSet = true) (hf : m.frames = []) (ho : m.outcome = none) :
    (((m.attemptFrom 0 true).runFor 4).outcome.isSome = true ∧ ∃ m', ((m.attemptFrom 0 true).runFor 4) = m' ∧ m'.outcome = some .failed) := by
  obtain ⟨seen', e⟩ := admitted_none m hin ht (m.lim + 1 - 0) 0 m.seen
  have e' : m.attemptFrom 0 true = { m with seen := seen' }.say false := by
    unfold Sre.M.attemptFrom
    rw [hs, e]; rfl
  rw [e']
  exact say_fails _ hf ho
theorem searchN (text : Array Nat) (lim : Nat) (hl : 1 ≤ lim) (ht : ∀ i, i < lim → text.getD i 0 ∈ letters) :
    (((Sre.forSearch codeN text 0 0 lim false).runFor 4).outcome.isSome = true ∧ ∃ m', ((Sre.forSearch codeN text 0 0 lim false).runFor 4) = m' ∧ m'.outcome = some .failed) := by
  unfold Sre.forSearch
  have hc : ¬ ((decide (0 > lim) || decide (lim - 0 < (Sre.header codeN).1)) = true) := by
    have h1 : (Sre.header codeN).1 = 1 := by decide
    rw [h1]; simp; omega
  dsimp only
  rw [if_neg hc]
  exact attempt_fails _ inSetN ht rfl rfl rfl
theorem searchV (text : Array Nat) (lim : Nat) (hl : 1 ≤ lim) (ht : ∀ i, i < lim → text.getD i 0 ∈ letters) :
    (((Sre.forSearch codeV text 0 0 lim false).runFor 4).outcome.isSome = true ∧ ∃ m', ((Sre.forSearch codeV text 0 0 lim false).runFor 4) = m' ∧ m'.outcome = some .failed) := by
  unfold Sre.forSearch
  have hc : ¬ ((decide (0 > lim) || decide (lim - 0 < (Sre.header codeV).1)) = true) := by
    have h1 : (Sre.header codeV).1 = 1 := by decide
    rw [h1]; simp; omega
  dsimp only
  rw [if_neg hc]
  exact attempt_fails _ inSetV ht rfl rfl rfl
theorem runToEnd_failed {w : World} {A : Around} {s : Shared} {m m' : Sre.M} {Q : Option Sre.M → Shared → Prop} {E : Value → Shared → Prop} (h1 : (m.runFor 4).outcome.isSome = true) (h2 : m.runFor 4 = m') (h3 : m'.outcome = some .failed) (hQ : Q none s) :
    wpAny (MO w) A (Builtin.Re.reRunToEnd m) Q E s := by
  unfold Builtin.Re.reRunToEnd
  have e : Builtin.Re.reDrive (2 ^ 64) m = pure (m.runFor 4) := by
    have : (2 ^ 64 : Nat) = (2 ^ 64 - 1) + 1 := by decide
    rw [this]
    show (if (m.runFor Builtin.Re.reTurnSteps).outcome.isSome = true then pure (m.runFor Builtin.Re.reTurnSteps) else _) = _
    rw [if_pos (show (m.runFor Builtin.Re.reTurnSteps).outcome.isSome = true from h1)]; rfl
  rw [e, h2]
  refine wpAny_bind (wpAny_pure (wpAny_bind ?_))
  refine wpAny_forIn_list _ (fun _ _ s' => s' = s) _ ?_ ?_ _ _ rfl
  · rintro x rest b s' rfl
    split
    · exact wpAny_bind (wpAny_rule (wpAny_pure rfl))
    · exact wpAny_pure rfl
  · rintro b s' rfl
    rw [h3]; exact wpAny_pure hQ

theorem search_none {w : World} {A : Around} {s : Shared} {Q : Value → Shared → Prop} {E : Value → Shared → Prop} (a : Addr) (ha : a = 41 ∨ a = 46) (X : (hd.heap_39 w.params).In s.heap) (x : Str) (t : Tok) (h1 : 1 ≤ x.cps.size) (h2 : x.cps.size ≤ 2 ^ 20)
    (hx : ∀ c ∈ x.cps.toList, c ∈ letters) (hQ : Q .none s) : wpAny (MO w) A (call (.builtin "re.Pattern.search") [.ref a, .str x t]) Q E s := by
  have hlet : ∀ i, i < x.cps.size → x.cps.getD i 0 ∈ letters := fun i hi => hx _ (by
    rw [Array.getD_eq_getD_getElem?, Array.getElem?_eq_getElem hi]; simp)
  have hmin : min ((2 ^ 63 - 1 : Int).toNat) x.cps.size = x.cps.size := by
    have : ((2 ^ 63 - 1 : Int).toNat) = 2 ^ 63 - 1 := by decide
    rw [this]; omega
  rcases ha with rfl | rfl
  · refine wpAny_call_entry slot_search ⟨_, X 41 _ (by k_is), rfl⟩ entry_search ?_ (args_search _ _)
    unfold Builtin.«re.Pattern.search»
    have hp : Looks (MO w) s.heap (Builtin.Re.reTarget "re.Pattern.search" "search" ⟨[.ref 41, .str x t], []⟩) { pattern := .ref 41, string := .str x t, code := codeN, text := x.cps, kind := 0, groups := 0, pos := min (0 : Int).toNat x.cps.size, lim := min ((2 ^ 63 - 1 : Int).toNat) x.cps.size } :=
      Looks.of_peek X (by kernel_rfl)
    refine wpAny_bind (hp.here ?_)
    have hz : min (0 : Int).toNat x.cps.size = 0 := by simp
    rw [hmin, hz]
    obtain ⟨e1, m', e2, e3⟩ := searchN x.cps x.cps.size h1 hlet
    exact wpAny_bind (runToEnd_failed e1 e2 e3 (wpAny_pure ⟨_, rfl, hQ⟩))
  · refine wpAny_call_entry slot_search ⟨_, X 46 _ (by k_is), rfl⟩ entry_search ?_ (args_search _ _)
    unfold Builtin.«re.Pattern.search»
    have hp : Looks (MO w) s.heap (Builtin.Re.reTarget "re.Pattern.search" "search" ⟨[.ref 46, .str x t], []⟩) { pattern := .ref 46, string := .str x t, code := codeV, text := x.cps, kind := 0, groups := 0, pos := min (0 : Int).toNat x.cps.size, lim := min ((2 ^ 63 - 1 : Int).toNat) x.cps.size } :=
      Looks.of_peek X (by kernel_rfl)
    refine wpAny_bind (hp.here ?_)
    have hz : min (0 : Int).toNat x.cps.size = 0 := by simp
    rw [hmin, hz]
    obtain ⟨e1, m', e2, e3⟩ := searchV x.cps x.cps.size h1 hlet
    exact wpAny_bind (runToEnd_failed e1 e2 e3 (wpAny_pure ⟨_, rfl, hQ⟩))
theorem getSearch {w : World} {A : Around} {s : Shared} {pl : Sem Bool} {Q : Value × List Value → Shared → Prop} {E : Value → Shared → Prop} (a : Addr) (ha : a = 41 ∨ a = 46) (X : (hd.heap_39 w.params).In s.heap) (h : Q (.builtin "re.Pattern.search", [.ref a]) s) :
    wpAny (MO w) A (getMethod (.ref a) (Str.ofString "search") pl) Q E s := by
  rcases ha with rfl | rfl
  · exact getMethod_builtin ⟨_, X 41 _ (by k_is), rfl⟩ plainAttrs_rePattern slot_search type_search (fun b e => by cases e; exact ⟨_, X 41 _ (by k_is), rfl⟩) h
  · exact getMethod_builtin ⟨_, X 46 _ (by k_is), rfl⟩ plainAttrs_rePattern slot_search type_search (fun b e => by cases e; exact ⟨_, X 46 _ (by k_is), rfl⟩) h
end Mine
end

-- Conv
section
theorem Mine.zoff2 : True := by w_top off; trivial
open PySem PySem.W PyProof.Rows PySem.Calls PySem.Spec
set_option maxRecDepth 100000
namespace Mine
noncomputable def Clean (x : Str) : Prop := 1 ≤ x.cps.size ∧ x.cps.size ≤ 2 ^ 20 ∧ ∀ c ∈ x.cps.toList, c ∈ letters

theorem get41 {w : World} {A : Around} {s : Shared} {pl : Sem Bool} {Q : Value × List Value → Shared → Prop} {E : Value → Shared → Prop} (X : (hd.heap_39 w.params).In s.heap) (h : Q (.builtin "re.Pattern.search", [.ref 41]) s) :
    wpAny (MO w) A (getMethod (.ref 41) (Str.ofString "search") pl) Q E s := getSearch 41 (.inl rfl) X h
theorem get46 {w : World} {A : Around} {s : Shared} {pl : Sem Bool} {Q : Value × List Value → Shared → Prop} {E : Value → Shared → Prop} (X : (hd.heap_39 w.params).In s.heap) (h : Q (.builtin "re.Pattern.search", [.ref 46]) s) :
    wpAny (MO w) A (getMethod (.ref 46) (Str.ofString "search") pl) Q E s := getSearch 46 (.inr rfl) X h
theorem sea {w : World} {A : Around} {s : Shared} {Q : Value → Shared → Prop} {E : Value → Shared → Prop} {a : Addr} {x : Str} {t : Tok} (ha : a = 41 ∨ a = 46) (X : (hd.heap_39 w.params).In s.heap)
    (h : 1 ≤ x.cps.size ∧ x.cps.size ≤ 2 ^ 20 ∧ ∀ c ∈ x.cps.toList, c ∈ letters) (hQ : Q .none s) : wpAny (MO w) A (call (.builtin "re.Pattern.search") [.ref a, .str x t]) Q E s := search_none a ha X x t h.1 h.2.1 h.2.2 hQ
local macro_rules | `(tactic| walk_at "getMethod ref") => `(tactic| (k_here; with_reducible refine get41 (by k_in) ?_))
local macro_rules | `(tactic| walk_at "getMethod ref") => `(tactic| (k_here; with_reducible refine get46 (by k_in) ?_))
local macro_rules | `(tactic| walk_at "call builtin:re.Pattern.search") => `(tactic| (k_here; refine sea (by decide) (by k_in) (by assumption) ?_))
set_option maxHeartbeats 8000000 in
theorem conv_c (w : World) (self : Value) (x : Str) (t : Tok) (b : Bool) (hx' : Clean x) {A : Around} {s : Shared} {Q E : Value → Shared → Prop} (C : Can w A s.heap [] 1 8)
    (hret : ∀ h' tk', Ext s.heap h' → Q (.str x t) { s with heap := h', toks := tk' }) :
    wpAny (MO w) A (call (.ref 76) [self, .str x t] [(Str.ofString "name", .bool b)]) Q E s := by
  refine wpAny_call ?_
  obtain ⟨hnd, dp, fr, gd, un⟩ := A
  obtain rfl : hnd = none := C.handled
  refine' enter (d := 0) (u := 4) C ?k1 ?k2 (BindsTo.of_eq ?k3) ?k4 ?k5 ?k6 ?k7 ?k8 ?k9
  case k1 => k_is
  case k2 => k_is
  case k3 => exact rfl
  case k4 => exact locs rfl
  case k6 => exact rfl
  case k7 => exact rfl
  case k8 => exact rfl
  case k9 => decide
  case k5 =>
    intro g L' h₁ hg bd F N
    obtain ⟨hh, hdp, hun, X, p, loose, mean, mg, mb, env, outer, A₀, base, hA, hf, hke, B, T⟩ := bd
    have hx : 1 ≤ x.cps.size ∧ x.cps.size ≤ 2 ^ 20 ∧ ∀ c ∈ x.cps.toList, c ∈ letters := hx'
    clear hx'
    cases b
    all_goals k_steps
    all_goals (rename Fr _ _ _ _ => F9; exact ⟨⟨_, F9⟩, hret _ _ (fun b o e => F9.keep b o (hg b o e (by simp)))⟩)
end Mine
end

-- Hget
section
theorem Mine.zoff3 : True := by w_top off; trivial
open PySem PySem.W PyProof.Rows PySem.Calls PySem.Spec
set_option maxRecDepth 100000
namespace Mine
theorem InstAt.up {g h : Heap} {x C : Addr} {ox : Obj} {od : Obj} (I : InstAt g x ox C (some od)) (k : ∀ b o, g.get? b = some o → h.get? b = some o) : InstAt h x ox C (some od) := by
  obtain ⟨h1, h2, h3, h4⟩ := I
  refine ⟨k _ _ h1, h2, h3, ?_⟩
  cases hd : ox.dict with
  | none => rw [hd] at h4; exact h4
  | some dx => rw [hd] at h4; exact k _ _ h4
noncomputable def nmS (i : Nat) : Str := ⟨#[letters.getD i 97]⟩
noncomputable def Tb (G : Gs) (x hl : Addr) : Prop := ∃ dx hs tk n, G x (instObj 175 dx) ∧ G dx (dictOf [⟨hs, .str (Str.ofString "_headers") tk, .ref hl⟩] n)
theorem Tb.mono {G G' : Gs} {x hl : Addr} (h : Tb G x hl) (k : Le G G') : Tb G' x hl := let ⟨dx, hs, tk, n, h1, h2⟩ := h; ⟨dx, hs, tk, n, k _ _ h1, k _ _ h2⟩
noncomputable def entD (e : Nat × Str) : PyData := .tuple [.str (nmS e.1), .str e.2]

theorem eight {k : Nat} (hk : k < 8) : k = 0 ∨ k = 1 ∨ k = 2 ∨ k = 3 ∨ k = 4 ∨ k = 5 ∨ k = 6 ∨ k = 7 := by
  have h : ∀ k : Fin 8, k.val = 0 ∨ k.val = 1 ∨ k.val = 2 ∨ k.val = 3 ∨ k.val = 4 ∨ k.val = 5 ∨ k.val = 6 ∨ k.val = 7 := by decide
  exact h ⟨k, hk⟩
theorem lower_nm : ∀ i, i < 8 → Txt.lower (nmS i) = nmS (i % 4) := by
  have h : ∀ i : Fin 8, Txt.lower (nmS i.val) = nmS (i.val % 4) := by decide +kernel
  exact fun i hi => h ⟨i, hi⟩
theorem upper_nm : ∀ i, i < 8 → Txt.upper (nmS i) = nmS (i % 4 + 4) := by
  have h : ∀ i : Fin 8, Txt.upper (nmS i.val) = nmS (i.val % 4 + 4) := by decide +kernel
  exact fun i hi => h ⟨i, hi⟩
theorem nm_letter (i : Nat) : letters.getD i 97 ∈ letters := by
  by_cases h : i < 8
  · have h : i = 0 ∨ i = 1 ∨ i = 2 ∨ i = 3 ∨ i = 4 ∨ i = 5 ∨ i = 6 ∨ i = 7 := by omega
    rcases h with rfl | rfl | rfl | rfl | rfl | rfl | rfl | rfl <;> decide
  · rw [List.getD_eq_getElem?_getD, List.getElem?_eq_none (by simp [letters]; omega)]; decide
theorem clean_nm (i : Nat) : Clean (nmS i) := by
  refine ⟨by simp [nmS], by simp [nmS], fun c hc => ?_⟩
  simp only [nmS, List.mem_singleton] at hc
  exact hc ▸ nm_letter i
theorem nm_len (i : Nat) : (nmS i).length = 1 := rfl
theorem low_call {w : World} {A : Around} {s : Shared} {Q E : Value → Shared → Prop} {i : Nat} {t : Tok} (hi : i < 8) (h : ∀ t' k, Q (.str (nmS (i % 4)) t') { s with toks := k }) : wpAny (MO w) A (call (.builtin "str.lower") [.str (nmS i) t]) Q E s :=
  SC.lower (by rw [lower_nm i hi]; rfl) (by rw [lower_nm i hi]; exact h _ _)
theorem up_call {w : World} {A : Around} {s : Shared} {Q E : Value → Shared → Prop} {i : Nat} {t : Tok} (hi : i < 8) (h : ∀ t' k, Q (.str (nmS (i % 4 + 4)) t') { s with toks := k }) : wpAny (MO w) A (call (.builtin "str.upper") [.str (nmS i) t]) Q E s :=
  SC.upper (by rw [upper_nm i hi]; rfl) (by rw [upper_nm i hi]; exact h _ _)
local macro_rules | `(tactic| walk_at "call builtin:str.lower") => `(tactic| (k_here; (try dsimp only); refine low_call (by first | assumption | omega) ?_; intros; try dsimp only))
local macro_rules | `(tactic| k_inst) => `(tactic| exact InstAt.up (by assumption) (Fr.keep (by assumption)))
theorem conv_k (w : World) {self : Value} {x : Str} {t : Tok} {b : Bool} {A : Around} {s : Shared} {Q E : Value → Shared → Prop} {g : Heap} {L : Addr} {m : Str → Option Value} {news : List (Addr × Obj)} (hx : Clean x) (F : Fr g L s.heap m) (N : News g L s.heap news)
    (C : Bd w A g L 1 8) (hret : ∀ h' tk', Fr g L h' m → News g L h' news → Q (.str x t) { s with heap := h', toks := tk' }) :
    wpAny (MO w) A (call (.ref 76) [self, .str x t] [(Str.ofString "name", .bool b)]) Q E s :=
  conv_c w self x t b hx (C.can F News.nil) fun h' tk' hx => hret h' tk' (Fr.keeps F hx) (News.grown N hx)
theorem at76 {w : World} {A : Around} {s : Shared} {Q E : Value → Shared → Prop} {as : List Value} {ks : List (Str × Value)} (h : wpAny (MO w) A (call (.ref 76) as ks) Q E s) : wpAny (MO w) A (call (.ref 76) as ks) Q E s := h
local macro_rules | `(tactic| walk_at "call ref") => `(tactic| (k_here; (with_reducible refine at76 ?_); k_dflt refine conv_k _ (by first | assumption | exact clean_nm _) (by k_asm) (by k_asm) (by assumption) ?_; intros; try k_sweep))


theorem nm_inj {i j : Nat} (hi : i < 8) (hj : j < 8) (h : nmS i = nmS j) : i = j := by
  have h8 : ∀ i j : Fin 8, nmS i.val = nmS j.val → i.val = j.val := by decide +kernel
  exact h8 ⟨i, hi⟩ ⟨j, hj⟩ h
theorem nm_eq {i j : Nat} : (nmS (i % 4) == nmS (j % 4)) = decide (i % 4 = j % 4) := by
  by_cases h : i % 4 = j % 4
  · rw [h]; simp
  · rw [decide_eq_false h]
    exact beq_eq_false_iff_ne.mpr fun e => h (nm_inj (by omega) (by omega) e)
theorem find_at {α : Type} {p : α → Bool} : ∀ {l : List α} {i : Nat} {e : α}, l[i]? = some e → (∀ j e', j < i → l[j]? = some e' → p e' = false) → p e = true → l.find? p = some e
  | [], i, e, h, _, _ => by simp at h
  | a :: l, 0, e, h, _, hp => by simp at h; subst h; simp [hp]
  | a :: l, i + 1, e, h, hj, hp => by
    have h0 : p a = false := hj 0 a (Nat.succ_pos _) rfl
    rw [List.find?_cons, h0]
    exact find_at (by simpa using h) (fun j e' hlt he => hj (j + 1) e' (by omega) (by simpa using he)) hp
theorem find_none {α : Type} {p : α → Bool} {l : List α} (h : ∀ (j : Nat) e', l[j]? = some e' → p e' = false) : l.find? p = none := by
  rw [List.find?_eq_none]
  intro x hx
  obtain ⟨j, hj⟩ := List.getElem?_of_mem hx
  rw [h j x hj]; exact Bool.false_ne_true
local macro_rules | `(tactic| walk_at "exec For Tuple Attribute cons nil") => `(tactic| (refine Stop.out ?_))
local macro_rules | `(tactic| walk_at "eval Name") => `(tactic| (k_here; k_dflt refine ld (by k_asm) (by assumption) ?_))
set_option maxHeartbeats 8000000 in
theorem get_g (w : World) (args : Args) (x hl : Addr) (i0 : Nat) (hi0 : i0 < 8) (t : Tok) (es : List (Nat × Str)) (G : Gs) {A : Around} {s : Shared} {Q E : Value → Shared → Prop} (C : Can w A s.heap [] 2 16) (hG : Sub G s.heap) (hT : Tb G x hl) (hE : Rd G (.list (es.map entD)) (.ref hl)) (hlt : ∀ e ∈ es, e.1 < 8) (df : Value) (fd : FuncData) (hfd : ∃ oc od osl, (hd.heap_39 w.params).lookup 122 = some ⟨oc, od, .func fd, osl⟩) (hb : BindsTo s fd args [(Str.ofString "self", .ref x), (Str.ofString "name", .str (nmS i0) t), (Str.ofString "default", df)])
    (hret : ∀ v h' tk', Ext s.heap h' → (match es.find? (fun e => decide (e.1 % 4 = i0 % 4)) with | some e => ∃ t, v = .str e.2 t | none => v = df) → Q v { s with heap := h', toks := tk' }) :
    wpAny (MO w) A (call (.ref 122) args.pos args.kw) Q E s := by
  refine wpAny_call ?_
  obtain ⟨hnd, dp, fr, gd, un⟩ := A
  obtain rfl : hnd = none := C.handled
  refine' enter (d := 1) (u := 12) C ?k1 ?k2 ?k3 ?k4 ?k5 ?k6 ?k7 ?k8 ?k9
  case k1 => k_is
  case k2 => k_is
  case k3 =>
    obtain ⟨oc', od', osl', hk⟩ := hfd
    have e := hk.symm.trans (show (hd.heap_39 w.params).lookup 122 = some _ by k_is)
    injection e with e
    injection e with e1 e2 e3 e4
    injection e3 with e3
    exact e3 ▸ hb
  case k4 => exact locs rfl
  case k6 => exact rfl
  case k7 => exact rfl
  case k8 => exact rfl
  case k9 => decide
  case k5 =>
    intro g L' h₁ hg bd F N
    have hgE : Ext s.heap g := fun b o e => hg b o e (by simp)
    obtain ⟨dx, hs, tkx, nx, hx1, hx2⟩ := hT
    have hI : InstAt g x (instObj 175 dx) 175 (some (dictOf [⟨hs, .str (Str.ofString "_headers") tkx, .ref hl⟩] nx)) := ⟨hgE _ _ (hG _ _ hx1), rfl, rfl, hgE _ _ (hG _ _ hx2)⟩
    have bd' := bd.less (d' := 1) (u' := 8) (by decide) (by decide)
    obtain ⟨hh, hdp, hun, X, p, loose, mean, mg, mb, env, outer, A₀, base, hA, hf, hke, B, T⟩ := bd
    k_steps
    refine ⟨?_⟩
    refine for_rule ?_
    k_steps
    rename Fr _ _ _ _ => F9
    obtain ⟨ah, vs, e0, hLs, hRl⟩ := hE
    cases e0
    have hGg : Sub G g := hG.ext hgE
    have hGh := hGg.ext F9.keep
    obtain ⟨m₀, hm₀, hmn, hmd⟩ : ∃ m₀, Fr g L' _ m₀ ∧ (∃ t', m₀ (Str.ofString "name") = some (.str (nmS (i0 % 4)) t')) ∧ m₀ (Str.ofString "default") = some df := ⟨_, F9, ⟨_, rfl⟩, rfl⟩
    clear F9
    obtain ⟨t', hmn⟩ := hmn
    refine ⟨_, G, vs.length, _, itb_list rfl hLs hGh (.inr ⟨_, _, _, rfl⟩), fun I h₂ tk₂ fp wr St Ti => ⟨fun i s' => ∃ h tk a b, s' = { s with heap := h, toks := tk } ∧ Fr g L' h (fun y => if y = Str.ofString "v" then a else if y = Str.ofString "k" then b else m₀ y) ∧ ∀ j e, j < i → es[j]? = some e → decide (e.1 % 4 = i0 % 4) = false, ?_, ?_, ?_, ?_⟩⟩
    · rintro i s' h' tk ⟨h, tk₁, a, b, rfl, F', hj⟩ k
      exact ⟨h', tk, a, b, rfl, Fr.wr F' hm₀ Ti.new k, hj⟩
    · refine ⟨h₂, tk₂, m₀ (Str.ofString "v"), m₀ (Str.ofString "k"), rfl, ?_, fun j e hj => absurd hj (Nat.not_lt_zero _)⟩
      have e : (fun y => if y = Str.ofString "v" then m₀ (Str.ofString "v") else if y = Str.ofString "k" then m₀ (Str.ofString "k") else m₀ y) = m₀ := by
        funext y; split
        · rename_i h; rw [h]
        · split
          · rename_i h; rw [h]
          · rfl
      rw [e]; exact Fr.keeps hm₀ Ti.ext
    · rintro i v s₂ hi ⟨h, tk, a, b, rfl, F2, hj⟩ hv
      obtain ⟨d, hd1, hd2⟩ := RdL.get hRl hv
      obtain ⟨e, he1, rfl⟩ : ∃ e, es[i]? = some e ∧ entD e = d := by simpa using hd1
      obtain ⟨T, us, rfl, hT, u1, r1, rfl, ⟨t1, rfl⟩, u2, r2, rfl, ⟨t2, rfl⟩, rfl⟩ := hd2
      have he8 : e.1 < 8 := hlt e (List.mem_of_getElem? he1)
      have hLf : L' ∉ fp := L_fp hm₀ hGg Ti.src
      refine assign2 rfl (hT.isTup (hGg.ext F2.keep)) F2 (news_ownOf hLf) rfl rfl rfl fun h₃ tk₃ F3 N3 => ?_
      k_steps
      · rename_i hc
        rename Fr _ _ _ _ => F9
        dsimp only [ForPost]
        refine ⟨⟨_, F9⟩, hret _ _ _ (hgE.trans F9.keep) ?_⟩
        rw [find_at he1 hj (by rw [← nm_eq]; exact hc)]
        exact ⟨_, rfl⟩
      · rename_i hc
        rename Fr _ _ _ _ => F9
        refine ⟨⟨_, _, _, _, rfl, map2 ▸ F9, fun j e' hlt' he' => ?_⟩, fp_kept F2 F9 (by assumption) fun p hp => hp⟩
        rcases Nat.lt_succ_iff_lt_or_eq.mp hlt' with h | rfl
        · exact hj j e' h he'
        · rw [he1] at he'; cases he'; rw [← nm_eq]; exact hc
    · rintro s₂ ⟨h, tk, a, b, rfl, F2, hj⟩
      have N2 : News g L' h [] := News.nil
      dsimp only
      k_steps
      rename Fr _ _ _ _ => F9
      refine ⟨⟨_, F9⟩, hret _ _ _ (hgE.trans F9.keep) ?_⟩
      rw [find_none fun j e' he' => hj j e' (by
        have hl := RdL.length hRl
        rw [List.length_map] at hl
        have : j < es.length := (List.getElem?_eq_some_iff.mp he').1
        omega) he']
theorem get_c3 (w : World) (x hl : Addr) (i0 : Nat) (hi0 : i0 < 8) (t : Tok) (es : List (Nat × Str)) (G : Gs) {A : Around} {s : Shared} {Q E : Value → Shared → Prop} (C : Can w A s.heap [] 2 16) (hG : Sub G s.heap) (hT : Tb G x hl) (hE : Rd G (.list (es.map entD)) (.ref hl)) (hlt : ∀ e ∈ es, e.1 < 8) (df : Value)
    (hret : ∀ v h' tk', Ext s.heap h' → (match es.find? (fun e => decide (e.1 % 4 = i0 % 4)) with | some e => ∃ t, v = .str e.2 t | none => v = df) → Q v { s with heap := h', toks := tk' }) :
    wpAny (MO w) A (call (.ref 122) [.ref x, .str (nmS i0) t, df]) Q E s :=
  get_g w ⟨[.ref x, .str (nmS i0) t, df], []⟩ x hl i0 hi0 t es G C hG hT hE hlt df _ ⟨_, _, _, by k_is⟩ (binds_K C.X rfl (by k_is) rfl rfl rfl) hret
theorem get_c2 (w : World) (x hl : Addr) (i0 : Nat) (hi0 : i0 < 8) (t : Tok) (es : List (Nat × Str)) (G : Gs) {A : Around} {s : Shared} {Q E : Value → Shared → Prop} (C : Can w A s.heap [] 2 16) (hG : Sub G s.heap) (hT : Tb G x hl) (hE : Rd G (.list (es.map entD)) (.ref hl)) (hlt : ∀ e ∈ es, e.1 < 8)
    (hret : ∀ v h' tk', Ext s.heap h' → (match es.find? (fun e => decide (e.1 % 4 = i0 % 4)) with | some e => ∃ t, v = .str e.2 t | none => v = .none) → Q v { s with heap := h', toks := tk' }) :
    wpAny (MO w) A (call (.ref 122) [.ref x, .str (nmS i0) t]) Q E s :=
  get_g w ⟨[.ref x, .str (nmS i0) t], []⟩ x hl i0 hi0 t es G C hG hT hE hlt .none _ ⟨_, _, _, by k_is⟩ (binds_K C.X rfl (by k_is) rfl rfl rfl) hret
end Mine
end

-- Hsv
section
theorem Mine.zoff4 : True := by w_top off; trivial
open PySem PySem.W PyProof.Rows PySem.Calls PySem.Spec
set_option maxRecDepth 100000
namespace Mine
noncomputable abbrev F3 := UInt64 × UInt64 × UInt64
noncomputable def FT (G : Gs) (v : Value) (x : F3) : Prop := ∃ a t1 t2 t3, v = .ref a ∧ Tup G a [.float x.1 t1, .float x.2.1 t2, .float x.2.2 t3]
theorem FT.mono {G G' : Gs} {v : Value} {x : F3} (h : FT G v x) (k : Le G G') : FT G' v x := let ⟨a, t1, t2, t3, h1, h2⟩ := h; ⟨a, t1, t2, t3, h1, h2.mono k⟩
noncomputable abbrev hsvI (h : UInt64) : Int := Flt.toInt Float64.truncOf (Float64.mul h 4618441417868443648)
noncomputable abbrev hsvf (h : UInt64) : UInt64 := Float64.sub (Float64.mul h 4618441417868443648) (Float64.ofInt (hsvI h))
noncomputable abbrev hsvP (s v : UInt64) : UInt64 := Float64.mul v (Float64.sub 4607182418800017408 s)
noncomputable abbrev hsvQ (h s v : UInt64) : UInt64 := Float64.mul v (Float64.sub 4607182418800017408 (Float64.mul s (hsvf h)))
noncomputable abbrev hsvT (h s v : UInt64) : UInt64 := Float64.mul v (Float64.sub 4607182418800017408 (Float64.mul s (Float64.sub 4607182418800017408 (hsvf h))))
noncomputable def hsvF (h s v : UInt64) : F3 :=
  if (hsvI h).fmod 6 = 0 then (v, hsvT h s v, hsvP s v) else if (hsvI h).fmod 6 = 1 then (hsvQ h s v, v, hsvP s v) else if (hsvI h).fmod 6 = 2 then (hsvP s v, v, hsvT h s v) else if (hsvI h).fmod 6 = 3 then (hsvP s v, hsvQ h s v, v)
  else if (hsvI h).fmod 6 = 4 then (hsvT h s v, hsvP s v, v) else (v, hsvP s v, hsvQ h s v)
theorem hsvF_0 {h s v : UInt64} (e : (hsvI h).fmod 6 = 0) : hsvF h s v = (v, hsvT h s v, hsvP s v) := by unfold hsvF; rw [if_pos e]
theorem hsvF_1 {h s v : UInt64} (e : (hsvI h).fmod 6 = 1) : hsvF h s v = (hsvQ h s v, v, hsvP s v) := by unfold hsvF; rw [e]; rfl
theorem hsvF_2 {h s v : UInt64} (e : (hsvI h).fmod 6 = 2) : hsvF h s v = (hsvP s v, v, hsvT h s v) := by unfold hsvF; rw [e]; rfl
theorem hsvF_3 {h s v : UInt64} (e : (hsvI h).fmod 6 = 3) : hsvF h s v = (hsvP s v, hsvQ h s v, v) := by unfold hsvF; rw [e]; rfl
theorem hsvF_4 {h s v : UInt64} (e : (hsvI h).fmod 6 = 4) : hsvF h s v = (hsvT h s v, hsvP s v, v) := by unfold hsvF; rw [e]; rfl
theorem hsvF_5 {h s v : UInt64} (e : (hsvI h).fmod 6 = 5) : hsvF h s v = (v, hsvP s v, hsvQ h s v) := by unfold hsvF; rw [e]; rfl
set_option maxHeartbeats 8000000 in
theorem hsv_c (w : World) (h sa v : UInt64) (t1 t2 t3 : Tok) (h1 : (Float64.cmp sa 0 == some Ordering.eq) = false) (h2 : Float64.isFinite (Float64.mul h 4618441417868443648) = true) (h3 : (hsvI h).natAbs < 1000) {A : Around} {s : Shared} {Q E : Value → Shared → Prop} (C : Can w A s.heap [] 1 8)
    (hret : ∀ v' h' tk', Ext s.heap h' → (∀ G, FT (More G s.heap h') v' (hsvF h sa v)) → Q v' { s with heap := h', toks := tk' }) :
    wpAny (MO w) A (call (.ref 193) [.float h t1, .float sa t2, .float v t3]) Q E s := by
  have hfr := Int.fmod_lt_of_pos (hsvI h) (by omega : (0:Int) < 6)
  have hfn := Int.fmod_nonneg_of_pos (hsvI h) (by omega : (0:Int) < 6)
  have h5 := Flt.Hid.mk h3
  clear h3
  refine wpAny_call ?_
  obtain ⟨hnd, dp, fr, gd, un⟩ := A
  obtain rfl : hnd = none := C.handled
  refine' enter (d := 0) (u := 4) (binds := [(Str.ofString "h", .float h t1), (Str.ofString "s", .float sa t2), (Str.ofString "v", .float v t3)]) C ?k1 ?k2 (BindsTo.of_eq ?k3) ?k4 ?k5 ?k6 ?k7 ?k8 ?k9
  case k1 => k_is
  case k2 => k_is
  case k3 => exact rfl
  case k4 => exact locs rfl
  case k6 => exact rfl
  case k7 => exact rfl
  case k8 => exact rfl
  case k9 => decide
  case k5 =>
    intro g L' h₁ hg bd F N
    obtain ⟨hh, hdp, hun, X, p, loose, mean, mg, mb, env, outer, A₀, base, hA, hf, hke, B, T⟩ := bd
    have hgE : Ext s.heap g := fun b o e => hg b o e (by simp)
    have hnew : ∀ b, g.get? b = none → s.heap.get? b = none := fun b e => ext_none hgE e
    k_steps
    all_goals first
      | (exfalso; rw [h1] at *; contradiction)
      | (rename (Float64.isNaN _ = true) => q; have := Flt.isFinite_nan h2; rw [this] at q; cases q)
      | (rename (Float64.isInf _ = true) => q; have := Flt.isFinite_inf h2; rw [this] at q; cases q)
      | (exfalso; rename ((_ : Nat) ≤ _) => q; have := h5.out; exact absurd (Nat.lt_of_le_of_lt q this) (by decide))
      | (rename News _ _ _ _ => N9
         rename Fr _ _ _ _ => F9
         have n1 := N9 _ (.head _)
         refine ⟨⟨_, F9⟩, hret _ _ _ (hgE.trans F9.keep) fun G => ?_⟩
         first | rw [hsvF_0 (by assumption)] | rw [hsvF_1 (by assumption)] | rw [hsvF_2 (by assumption)] | rw [hsvF_3 (by assumption)] | rw [hsvF_4 (by assumption)] | rw [hsvF_5 (by assumption)]
         exact ⟨_, _, _, _, rfl, tup_new (hnew _ n1.2.2) n1.1 rfl rfl⟩)
      | (exfalso; dsimp only [hsvI] at hfr hfn; omega)
end Mine
end

-- Hls
section
theorem Mine.zoff5 : True := by w_top off; trivial
open PySem PySem.W PyProof.Rows PySem.Calls PySem.Spec
set_option maxRecDepth 100000
namespace Mine
noncomputable def fmax (a b c : UInt64) : UInt64 := if (Float64.cmp a b == some .lt) = true then (if (Float64.cmp b c == some .lt) = true then c else b) else (if (Float64.cmp a c == some .lt) = true then c else a)
noncomputable def fmin (a b c : UInt64) : UInt64 := if (Float64.cmp b a == some .lt) = true then (if (Float64.cmp c b == some .lt) = true then c else b) else (if (Float64.cmp c a == some .lt) = true then c else a)
theorem fmax_call {w : World} {A : Around} {s : Shared} {Q E : Value → Shared → Prop} {a b c : UInt64} {t u x : Tok} {h₀ : Heap} {L : Addr} {m : Str → Option Value} {news : List (Addr × Obj)} (hh : A.handled = none) (F : Fr h₀ L s.heap m) (N : News h₀ L s.heap news)
    (h : ∀ h' tk v, Fr h₀ L h' m → News h₀ L h' news → Q (.float (fmax a b c) v) { s with heap := h', toks := tk }) :
    wpAny (MO w) A (call (.builtin "max") [.float a t, .float b u, .float c x]) Q E s := by
  have hT : (s.heap.push { cls := .type "tuple", data := .seq #[.float a t, .float b u, .float c x] }).IsTuple s.heap.objs.size #[.float a t, .float b u, .float c x] := ⟨_, Heap.get?_push_size _ rfl, rfl, 0, rfl⟩
  refine call_max_three (wpAny_pyIter_tuple hT ?_)
  have hsz : (s.heap.push { cls := .type "tuple", data := .seq #[.float a t, .float b u, .float c x] }).objs.size = s.heap.objs.size + 1 := Heap.size_push ..
  refine ⟨_, [_, s.heap.objs.size], [_], _, _, _, _, rfl, Walks.tuple (A := A.in1) hh _ s.heap.objs.size (by rw [hsz]; exact Nat.ne_of_lt (Nat.lt_succ_self _)) #[.float a t, .float b u, .float c x],
    ⟨⟨_, Heap.get?_push_size _ rfl, rfl, rfl⟩, hT.push _⟩, fun c hc => ?_, by simp, Flt.cmpOf_gt #[.float a t, .float b u, .float c x] (by simp [Flt.NumV.float]), fun v h' tk hP hk => ?_⟩
  · show c < ((s.heap.push _).push _).objs.size
    rw [Heap.size_push, hsz]
    rcases List.mem_cons.mp hc with rfl | hc
    · rw [hsz]; exact Nat.lt_succ_self _
    · rcases List.mem_cons.mp hc with rfl | hc
      · exact Nat.lt_succ_of_lt (Nat.lt_succ_self _)
      · cases hc
  · have hold : ∀ c o, s.heap.get? c = some o → h'.get? c = some o := fun c o e => by
      refine hk c o (fun hm => ?_) (Heap.get?_push_of_some _ (Heap.get?_push_of_some _ e))
      rcases List.mem_cons.mp hm with e1 | hm
      · have := Heap.lt_size e; rw [e1, hsz] at this; exact Nat.lt_irrefl _ (Nat.lt_of_succ_lt this)
      · cases hm
    obtain ⟨tv, rfl⟩ : ∃ tv, v = .float (fmax a b c) tv := by
      unfold fmax
      cases h1 : (Float64.cmp a b == some .lt) <;> cases h2 : (Float64.cmp b c == some .lt) <;> cases h3 : (Float64.cmp a c == some .lt) <;> simp [argBest, Flt.ltV, h1, h2, h3] at hP <;> simp [← hP]
    exact h h' tk tv (F.grownK hold) (N.grown hold)
theorem fmin_call {w : World} {A : Around} {s : Shared} {Q E : Value → Shared → Prop} {a b c : UInt64} {t u x : Tok} {h₀ : Heap} {L : Addr} {m : Str → Option Value} {news : List (Addr × Obj)} (hh : A.handled = none) (F : Fr h₀ L s.heap m) (N : News h₀ L s.heap news)
    (h : ∀ h' tk v, Fr h₀ L h' m → News h₀ L h' news → Q (.float (fmin a b c) v) { s with heap := h', toks := tk }) :
    wpAny (MO w) A (call (.builtin "min") [.float a t, .float b u, .float c x]) Q E s := by
  have hT : (s.heap.push { cls := .type "tuple", data := .seq #[.float a t, .float b u, .float c x] }).IsTuple s.heap.objs.size #[.float a t, .float b u, .float c x] := ⟨_, Heap.get?_push_size _ rfl, rfl, 0, rfl⟩
  refine call_min_three (wpAny_pyIter_tuple hT ?_)
  have hsz : (s.heap.push { cls := .type "tuple", data := .seq #[.float a t, .float b u, .float c x] }).objs.size = s.heap.objs.size + 1 := Heap.size_push ..
  refine ⟨_, [_, s.heap.objs.size], [_], _, _, _, _, rfl, Walks.tuple (A := A.in1) hh _ s.heap.objs.size (by rw [hsz]; exact Nat.ne_of_lt (Nat.lt_succ_self _)) #[.float a t, .float b u, .float c x],
    ⟨⟨_, Heap.get?_push_size _ rfl, rfl, rfl⟩, hT.push _⟩, fun c hc => ?_, by simp, Flt.cmpOf_lt #[.float a t, .float b u, .float c x] (by simp [Flt.NumV.float]), fun v h' tk hP hk => ?_⟩
  · show c < ((s.heap.push _).push _).objs.size
    rw [Heap.size_push, hsz]
    rcases List.mem_cons.mp hc with rfl | hc
    · rw [hsz]; exact Nat.lt_succ_self _
    · rcases List.mem_cons.mp hc with rfl | hc
      · exact Nat.lt_succ_of_lt (Nat.lt_succ_self _)
      · cases hc
  · have hold : ∀ c o, s.heap.get? c = some o → h'.get? c = some o := fun c o e => by
      refine hk c o (fun hm => ?_) (Heap.get?_push_of_some _ (Heap.get?_push_of_some _ e))
      rcases List.mem_cons.mp hm with e1 | hm
      · have := Heap.lt_size e; rw [e1, hsz] at this; exact Nat.lt_irrefl _ (Nat.lt_of_succ_lt this)
      · cases hm
    obtain ⟨tv, rfl⟩ : ∃ tv, v = .float (fmin a b c) tv := by
      unfold fmin
      cases h1 : (Float64.cmp b a == some .lt) <;> cases h2 : (Float64.cmp c b == some .lt) <;> cases h3 : (Float64.cmp c a == some .lt) <;> simp [argBest, Flt.ltV, h1, h2, h3] at hP <;> simp [← hP]
    exact h h' tk tv (F.grownK hold) (N.grown hold)
noncomputable abbrev hlsL (mx mn : UInt64) : UInt64 := Float64.div (Float64.add mx mn) 4611686018427387904
noncomputable abbrev hlsC (mx mn x : UInt64) : UInt64 := Float64.div (Float64.sub mx x) (Float64.sub mx mn)
noncomputable def hlsD (r g b mx mn : UInt64) : UInt64 :=
  if (Float64.cmp r mx == some Ordering.eq) = true then Float64.sub (hlsC mx mn b) (hlsC mx mn g)
  else if (Float64.cmp g mx == some Ordering.eq) = true then Float64.sub (Float64.add 4611686018427387904 (hlsC mx mn r)) (hlsC mx mn b)
  else Float64.sub (Float64.add 4616189618054758400 (hlsC mx mn g)) (hlsC mx mn r)
theorem hlsD_0 {r g b mx mn : UInt64} (h : (Float64.cmp r mx == some Ordering.eq) = true) : hlsD r g b mx mn = Float64.sub (hlsC mx mn b) (hlsC mx mn g) := by unfold hlsD; rw [if_pos h]
theorem hlsD_1 {r g b mx mn : UInt64} (h : (Float64.cmp r mx == some Ordering.eq) = false) (h' : (Float64.cmp g mx == some Ordering.eq) = true) : hlsD r g b mx mn = Float64.sub (Float64.add 4611686018427387904 (hlsC mx mn r)) (hlsC mx mn b) := by unfold hlsD; rw [if_neg (by rw [h]; decide), if_pos h']
theorem hlsD_2 {r g b mx mn : UInt64} (h : (Float64.cmp r mx == some Ordering.eq) = false) (h' : (Float64.cmp g mx == some Ordering.eq) = false) : hlsD r g b mx mn = Float64.sub (Float64.add 4616189618054758400 (hlsC mx mn g)) (hlsC mx mn r) := by unfold hlsD; rw [if_neg (by rw [h]; decide), if_neg (by rw [h']; decide)]
noncomputable def hlsH (r g b mx mn : UInt64) : UInt64 := (Float64.divmod (Float64.div (hlsD r g b mx mn) 4618441417868443648) 4607182418800017408).snd
theorem hlsH_0 {r g b mx mn : UInt64} (h : (Float64.cmp r mx == some Ordering.eq) = true) : hlsH r g b mx mn = (Float64.divmod (Float64.div (Float64.sub (hlsC mx mn b) (hlsC mx mn g)) 4618441417868443648) 4607182418800017408).snd := by unfold hlsH; rw [hlsD_0 h]
theorem hlsH_1 {r g b mx mn : UInt64} (h : (Float64.cmp r mx == some Ordering.eq) = false) (h' : (Float64.cmp g mx == some Ordering.eq) = true) : hlsH r g b mx mn = (Float64.divmod (Float64.div (Float64.sub (Float64.add 4611686018427387904 (hlsC mx mn r)) (hlsC mx mn b)) 4618441417868443648) 4607182418800017408).snd := by unfold hlsH; rw [hlsD_1 h h']
theorem hlsH_2 {r g b mx mn : UInt64} (h : (Float64.cmp r mx == some Ordering.eq) = false) (h' : (Float64.cmp g mx == some Ordering.eq) = false) : hlsH r g b mx mn = (Float64.divmod (Float64.div (Float64.sub (Float64.add 4616189618054758400 (hlsC mx mn g)) (hlsC mx mn r)) 4618441417868443648) 4607182418800017408).snd := by unfold hlsH; rw [hlsD_2 h h']
theorem hls_end {h h' : Heap} {a : Addr} {H H' Lx x : UInt64} {t1 t2 t3 : Tok} (e : H = H') (h1 : h.get? a = none) (h2 : h'.get? a = some { cls := .type "tuple", data := .seq #[.float H' t1, .float Lx t2, .float x t3] }) : ∃ x, ∀ G, FT (More G h h') (.ref a) (H, Lx, x) := by
  subst e
  exact ⟨x, fun G => ⟨a, t1, t2, t3, rfl, tup_new h1 h2 rfl rfl⟩⟩
theorem fmax_call' {w : World} {A : Around} {s : Shared} {Q E : Value → Shared → Prop} {a b c mx : UInt64} {t u x : Tok} {h₀ : Heap} {L : Addr} {m : Str → Option Value} {news : List (Addr × Obj)} (hh : A.handled = none) (F : Fr h₀ L s.heap m) (N : News h₀ L s.heap news) (e : fmax a b c = mx)
    (h : ∀ h' tk v, Fr h₀ L h' m → News h₀ L h' news → Q (.float mx v) { s with heap := h', toks := tk }) :
    wpAny (MO w) A (call (.builtin "max") [.float a t, .float b u, .float c x]) Q E s := fmax_call hh F N (e ▸ h)
theorem fmin_call' {w : World} {A : Around} {s : Shared} {Q E : Value → Shared → Prop} {a b c mn : UInt64} {t u x : Tok} {h₀ : Heap} {L : Addr} {m : Str → Option Value} {news : List (Addr × Obj)} (hh : A.handled = none) (F : Fr h₀ L s.heap m) (N : News h₀ L s.heap news) (e : fmin a b c = mn)
    (h : ∀ h' tk v, Fr h₀ L h' m → News h₀ L h' news → Q (.float mn v) { s with heap := h', toks := tk }) :
    wpAny (MO w) A (call (.builtin "min") [.float a t, .float b u, .float c x]) Q E s := fmin_call hh F N (e ▸ h)
theorem div_nz {w : World} {A : Around} {s : Shared} {Q E : Value → Shared → Prop} {a b : UInt64} {t u : Tok} (hA : A.handled = none) (hz : ¬ Float64.isZero b = true) (h : Q (.float (Float64.div a b) s.toks) { s with toks := s.toks + 1 }) :
    wpAny (MO w) A (binaryOp .Div (.float a t) (.float b u)) Q E s := truediv_float_or hA (fun e => absurd e hz) fun _ => h
theorem mod_one {w : World} {A : Around} {s : Shared} {Q E : Value → Shared → Prop} {a : UInt64} {t u : Tok} (hA : A.handled = none) (h : Q (.float (Float64.divmod a 4607182418800017408).2 s.toks) { s with toks := s.toks + 1 }) :
    wpAny (MO w) A (binaryOp .Mod (.float a t) (.float 4607182418800017408 u)) Q E s := Flt.mod_ff hA (fun e => absurd e (by decide +kernel)) fun _ => h
local macro_rules | `(tactic| walk_at "binaryOp Div float float") => `(tactic| (k_here; with_reducible refine div_nz rfl (by first | assumption | decide +kernel) ?_))
local macro_rules | `(tactic| walk_at "binaryOp Mod float float") => `(tactic| (k_here; with_reducible refine mod_one rfl ?_))
local macro_rules | `(tactic| walk_at "call builtin:max") => `(tactic| (k_here; (try dsimp only); refine fmax_call' rfl (by k_asm) (by k_asm) (by assumption) ?_; intros; try k_sweep))
local macro_rules | `(tactic| walk_at "call builtin:min") => `(tactic| (k_here; (try dsimp only); refine fmin_call' rfl (by k_asm) (by k_asm) (by assumption) ?_; intros; try k_sweep))
set_option maxHeartbeats 8000000 in
theorem hls_c (w : World) (r gr b : UInt64) (t1 t2 t3 : Tok) (mx mn : UInt64) (e1 : fmax r gr b = mx) (e2 : fmin r gr b = mn) (e3 : (Float64.cmp mn mx == some Ordering.eq) = false) (e4 : ¬ Float64.isZero (Float64.add mx mn) = true) (e5 : ¬ Float64.isZero (Float64.sub mx mn) = true) (e6 : ¬ Float64.isZero (Float64.sub (Float64.sub 4611686018427387904 mx) mn) = true)
    {A : Around} {s : Shared} {Q E : Value → Shared → Prop} (C : Can w A s.heap [] 1 8)
    (hret : ∀ v' h' tk', Ext s.heap h' → (∃ x, ∀ G, FT (More G s.heap h') v' (hlsH r gr b mx mn, hlsL mx mn, x)) → Q v' { s with heap := h', toks := tk' }) :
    wpAny (MO w) A (call (.ref 186) [.float r t1, .float gr t2, .float b t3]) Q E s := by
  refine wpAny_call ?_
  obtain ⟨hnd, dp, fr, gd, un⟩ := A
  obtain rfl : hnd = none := C.handled
  refine' enter (d := 0) (u := 4) (binds := [(Str.ofString "r", .float r t1), (Str.ofString "g", .float gr t2), (Str.ofString "b", .float b t3)]) C ?k1 ?k2 (BindsTo.of_eq ?k3) ?k4 ?k5 ?k6 ?k7 ?k8 ?k9
  case k1 => k_is
  case k2 => k_is
  case k3 => exact rfl
  case k4 => exact locs rfl
  case k6 => exact rfl
  case k7 => exact rfl
  case k8 => exact rfl
  case k9 => decide
  case k5 =>
    intro g L' h₁ hg bd F N
    obtain ⟨hh, hdp, hun, X, p, loose, mean, mg, mb, env, outer, A₀, base, hA, hf, hke, B, T⟩ := bd
    have hgE : Ext s.heap g := fun b o e => hg b o e (by simp)
    have hnew : ∀ b, g.get? b = none → s.heap.get? b = none := fun b e => ext_none hgE e
    k_steps
    all_goals try contradiction
    all_goals
      rename News _ _ _ _ => N9
      rename Fr _ _ _ _ => F9
      have n1 := N9 _ (.head _)
      refine ⟨⟨_, F9⟩, hret _ _ _ (hgE.trans F9.keep) ?_⟩
      first
      | exact hls_end (hlsH_0 (by assumption)) (hnew _ n1.2.2) n1.1
      | exact hls_end (hlsH_1 (by assumption) (by assumption)) (hnew _ n1.2.2) n1.1
      | exact hls_end (hlsH_2 (by assumption) (by assumption)) (hnew _ n1.2.2) n1.1
end Mine
end

-- Name
section
theorem Mine.zoff6 : True := by w_top off; trivial
open PySem PySem.W PyProof.Rows PySem.Calls PySem.Spec
set_option maxRecDepth 100000
namespace Mine
theorem assign3 {w : World} {A : Around} {s : Shared} {Q : Unit → Shared → Prop} {E : Value → Shared → Prop} {g : Heap} {L : Addr} {m : Str → Option Value} {news : List (Addr × Obj)} {cn : Str} {cs : Scope} {a t : Addr} {cd : Value} {x y z : Str} {p q r p' : Pos} {k : Nat} {u v u' : Value}
    (hh : A.handled = none) (ht : IsTup s.heap t #[u, v, u']) (F : Fr g L s.heap m) (N : News g L s.heap news) (hk : cs.kind = .function) (hx : (envOf cn cs L a cd).kindOf x = some .local) (hy : (envOf cn cs L a cd).kindOf y = some .local) (hz : (envOf cn cs L a cd).kindOf z = some .local)
    (hQ : ∀ h' tk', Fr g L h' (fun b => if b = z then some u' else if b = y then some v else if b = x then some u else m b) → News g L h' news → Q () { s with heap := h', toks := tk' }) :
    wpAny (MO w) A (assign (.Tuple [.Name x p, .Name y q, .Name z p'] k r) (envOf cn cs L a cd) (.ref t)) Q E s := by
  refine assign_Tuple_tuple hh ht rfl rfl fun h₅ he => ?_
  have he' : Ext s.heap h₅ := fun b o e => he b o (Nat.ne_of_lt (Heap.lt_size e)) e
  refine assignInOrder_cons (wpAny_assign_Name (stN (Fr.keeps F he') (News.grown N he') (fun h₆ F₆ N₆ => ?_) hk hx))
  refine assignInOrder_cons (wpAny_assign_Name (stN F₆ N₆ (fun h₇ F₇ N₇ => ?_) hk hy))
  refine assignInOrder_cons (wpAny_assign_Name (stN F₇ N₇ (fun h₈ F₈ N₈ => ?_) hk hz))
  exact assignInOrder_nil (hQ h₈ _ F₈ N₈)
theorem item_abcd : ∀ i : Nat, i < 4 → Txt.item (Str.ofString "abcd") (i : Int) = nmS i := by
  have h : ∀ i : Fin 4, Txt.item (Str.ofString "abcd") ((i.val : Nat) : Int) = nmS i.val := by decide
  exact fun i hi => h ⟨i, hi⟩
theorem item_lo {k : Nat} (h : k < 4) : Txt.item (Str.ofString "abcd") ((k % 4 : Nat) : Int) = nmS k := by
  rw [Nat.mod_eq_of_lt h]; exact item_abcd k h
theorem item_up {k : Nat} (h : 4 ≤ k) (h' : k < 8) : Txt.upper (Txt.item (Str.ofString "abcd") ((k % 4 : Nat) : Int)) = nmS k := by
  rw [item_abcd _ (Nat.mod_lt _ (by omega)), upper_nm _ (by omega)]
  congr 1; omega
structure NameOk (r g b : UInt64) (k : Nat) (mx mn hu : UInt64) : Prop where
  e1 : fmax r g b = mx
  e2 : fmin r g b = mn
  e3 : (Float64.cmp mn mx == some Ordering.eq) = false
  e4 : ¬ Float64.isZero (Float64.add mx mn) = true
  e5 : ¬ Float64.isZero (Float64.sub mx mn) = true
  e6 : ¬ Float64.isZero (Float64.sub (Float64.sub 4611686018427387904 mx) mn) = true
  e7 : hlsH r g b mx mn = hu
  e8 : Float64.isFinite (Float64.mul hu (Float64.ofInt 4)) = true
  e9 : Flt.toInt Float64.truncOf (Float64.mul hu (Float64.ofInt 4)) = ((k % 4 : Nat) : Int)
  e10 : (Float64.cmp (hlsL mx mn) 4602678819172646912 == some Ordering.lt) = decide (4 ≤ k)
  e11 : k < 8
set_option maxHeartbeats 8000000 in
theorem name_c (w : World) (r gr b : UInt64) (t1 t2 t3 : Tok) (k : Nat) (mx mn hu : UInt64) (O : NameOk r gr b k mx mn hu)
    {A : Around} {s : Shared} {Q E : Value → Shared → Prop} (C : Can w A s.heap [] 2 16)
    (hret : ∀ t h' tk', Ext s.heap h' → Q (.str (nmS k) t) { s with heap := h', toks := tk' }) :
    wpAny (MO w) A (call (.ref 207) [.float r t1, .float gr t2, .float b t3]) Q E s := by
  refine wpAny_call ?_
  obtain ⟨hnd, dp, fr, gd, un⟩ := A
  obtain rfl : hnd = none := C.handled
  refine' enter (d := 1) (u := 12) (binds := [(Str.ofString "red", .float r t1), (Str.ofString "green", .float gr t2), (Str.ofString "blue", .float b t3)]) C ?k1 ?k2 (BindsTo.of_eq ?k3) ?k4 ?k5 ?k6 ?k7 ?k8 ?k9
  case k1 => k_is
  case k2 => k_is
  case k3 => exact rfl
  case k4 => exact locs rfl
  case k6 => exact rfl
  case k7 => exact rfl
  case k8 => exact rfl
  case k9 => decide
  case k5 =>
    intro g L' h₁ hg bd F N
    have bd' := bd.less (d' := 1) (u' := 8) (by decide) (by decide)
    obtain ⟨hh, hdp, hun, X, p, loose, mean, mg, mb, env, outer, A₀, base, hA, hf, hke, B, T⟩ := bd
    have hgE : Ext s.heap g := fun b o e => hg b o e (by simp)
    have hnew : ∀ b, g.get? b = none → s.heap.get? b = none := fun b e => ext_none hgE e
    k_steps
    refine hls_c w r gr b _ _ _ mx mn O.e1 O.e2 O.e3 O.e4 O.e5 O.e6 (bd'.can F N) fun v h' tk' hx hv => ?_
    obtain ⟨x, hv⟩ := hv
    obtain ⟨a, u1, u2, u3, rfl, ht⟩ := hv (fun _ _ => False)
    have ht' := ht.isTup (Sub.more (h := _) (fun _ _ e => e.elim) hx)
    rw [O.e7] at ht'
    have h8 := O.e8
    have h9 := O.e9
    have h10 := O.e10
    have h11 := O.e11
    dsimp only
    have F2 := Fr.keeps F hx
    have N2 := News.grown N hx
    clear F N
    refine assign3 rfl ht' F2 N2 rfl rfl rfl rfl fun h3 tk3 F3 N3 => ?_
    clear F2 N2
    k_steps
    all_goals
      rename Fr _ _ _ _ => F9
      rename ((_ == some Ordering.lt) = _) => q
      have q' := h10.symm.trans q
      rw [h9]
    · rw [item_up (by simpa using q') h11]
      exact ⟨⟨_, F9⟩, hret _ _ _ (hgE.trans F9.keep)⟩
    · rw [item_lo (by simpa using q')]
      exact ⟨⟨_, F9⟩, hret _ _ _ (hgE.trans F9.keep)⟩
end Mine
end

-- ColF
section
open PySem PySem.W PyProof.Rows PySem.Calls PySem.Spec
set_option maxRecDepth 100000
namespace Mine
noncomputable def hueB (i a b : Nat) : UInt64 := Float64.add (Float64.add (Float64.ofFrac false i 4) (Float64.ofFrac false a 64)) (Float64.ofInt (b : Int))
noncomputable def hueV (i : Nat) (n : Int) : UInt64 := hueB (i % 4) (n.fmod 16).toNat ((n.fdiv 16).fmod 3).toNat
noncomputable abbrev fHalf : UInt64 := 4602678819172646912
noncomputable abbrev fOne : UInt64 := 4607182418800017408
set_option maxHeartbeats 4000000 in
theorem hue_ok : ∀ (i : Fin 4) (a : Fin 16) (b : Fin 3), Float64.isFinite (Float64.mul (hueB i.val a.val b.val) 4618441417868443648) = true ∧ (hsvI (hueB i.val a.val b.val)).natAbs < 1000 := by decide +kernel
theorem frac_ok : (∀ i : Fin 4, Float64.isInf (Float64.ofFrac false i.val 4) = false) ∧ (∀ a : Fin 16, Float64.isInf (Float64.ofFrac false a.val 64) = false) := by decide +kernel
noncomputable def palC (i a b : Nat) : F3 := hsvF (hueB i a b) fHalf fOne
noncomputable def darC (i a b : Nat) : F3 := hsvF (hueB i a b) fOne fHalf
end Mine
end

section
open PySem PySem.W PyProof.Rows PySem.Calls PySem.Spec
set_option maxRecDepth 100000
namespace Mine
local macro_rules | `(tactic| walk_at "eval ListComp") => `(tactic| (k_here; (with_reducible apply lcompS); (case h1 => with_unfolding_all exact ⟨rfl, rfl, fun _ => rfl⟩); (case h2 => decide)))
local macro_rules | `(tactic| walk_at "exec Assign cons ListComp") => `(tactic| (k_here; refine wpAny_Assign_Name ?_ (by with_unfolding_all rfl)))
local macro_rules | `(tactic| walk_at "exec Assign cons ListComp") => `(tactic| (k_here; (with_reducible apply lcompB); (case h1 => with_unfolding_all exact ⟨rfl, rfl, rfl, rfl, rfl, fun _ => rfl⟩); (case h2 => decide)))
local macro_rules | `(tactic| walk_at "eval Name") => `(tactic| (k_here; (with_reducible refine atK ?_); k_dflt refine ldVarK (by assumption) (by assumption) ?_))
local macro_rules | `(tactic| walk_at "eval Name") => `(tactic| (k_here; (with_reducible refine atK ?_); k_dflt refine ldCellK (by rfl) (by assumption) ?_))

section
local macro_rules | `(tactic| walk_at "call builtin:str.lower") => `(tactic| (k_here; (try dsimp only); refine low_call (by first | assumption | omega) ?_; intros; try dsimp only))
local macro_rules | `(tactic| k_inst) => `(tactic| exact InstAt.up (by assumption) (Fr.keep (by assumption)))
local macro_rules | `(tactic| walk_at "call ref") => `(tactic| (k_here; (with_reducible refine at76 ?_); k_dflt refine conv_k _ (by first | assumption | exact clean_nm _) (by k_asm) (by k_asm) (by assumption) ?_; intros; try k_sweep))
local macro_rules | `(tactic| walk_at "subscriptTail") => `(tactic| (k_here; (with_reducible refine atRI ?_); k_dflt refine item_tupleT (by with_reducible assumption) (by decide) (by decide) rfl rfl ?_))

-- Hall
section
theorem zoff7 : True := by w_top off; trivial
theorem more_old {G : Gs} {h h' h'' : Heap} (x : Ext h h') : Le (More G h' h'') (More G h h'') := fun b o e => e.elim .inl fun e => .inr ⟨ext_none x e.1, e.2⟩
theorem IsCell.ext {h h' : Heap} {c : Addr} {v : Option Value} (x : h.IsCell c v) (k : Ext h h') : h'.IsCell c v := let ⟨o, e, r⟩ := x; ⟨o, k _ _ e, r⟩
set_option maxHeartbeats 8000000 in
theorem getall_c (w : World) (x hl : Addr) (i0 : Nat) (hi0 : i0 < 8) (t : Tok) (es : List (Nat × Str)) (G : Gs) {A : Around} {s : Shared} {Q E : Value → Shared → Prop} (C : Can w A s.heap [] 2 16) (hG : Sub G s.heap) (hT : Tb G x hl) (hE : Rd G (.list (es.map entD)) (.ref hl)) (hlt : ∀ e ∈ es, e.1 < 8)
    (hlen : es.length ≤ 1000)
    (hret : ∀ v h' tk', Ext s.heap h' → Rd (More G s.heap h') (.list ((es.filter fun e => decide (e.1 % 4 = i0 % 4)).map fun e => .str e.2)) v → Q v { s with heap := h', toks := tk' }) :
    wpAny (MO w) A (call (.ref 114) [.ref x, .str (nmS i0) t]) Q E s := by
  refine wpAny_call ?_
  obtain ⟨hnd, dp, fr, gd, un⟩ := A
  obtain rfl : hnd = none := C.handled
  refine' enterC (d := 1) (u := 12) (binds := [(Str.ofString "self", .ref x), (Str.ofString "name", .str (nmS i0) t)]) C ?k1 ?k2 (BindsTo.of_eq ?k3) ?k4 ?k5 ?k6 ?k7 ?k8 ?k9
  case k1 => k_is
  case k2 => k_is
  case k3 => exact rfl
  case k4 => exact rfl
  case k5 => decide
  case k7 => exact rfl
  case k8 => exact rfl
  case k9 => exact rfl
  case k6 =>
    intro g L' h₁ tk0 cells hg bd F N Y
    k_cells Y
    have hgE : Ext s.heap g := fun b o e => hg b o e (by simp)
    obtain ⟨dx, hs, tkx, nx, hx1, hx2⟩ := hT
    have hI : InstAt g x (instObj 175 dx) 175 (some (dictOf [⟨hs, .str (Str.ofString "_headers") tkx, .ref hl⟩] nx)) := ⟨hgE _ _ (hG _ _ hx1), rfl, rfl, hgE _ _ (hG _ _ hx2)⟩
    have bd' := bd.less (d' := 1) (u' := 8) (by decide) (by decide)
    obtain ⟨hh, hdp, hun, X, p, loose, mean, mg, mb, env, outer, A₀, base, hA, hf, hke, B, T⟩ := bd
    k_steps
    rename Fr _ _ _ _ => F9
    rename News _ _ _ _ => N9
    obtain ⟨tn, hcell⟩ : ∃ tn, Heap.IsCell _ (L' + 1) (some (.str (nmS (i0 % 4)) tn)) := ⟨_, _, (N9 _ (.head _)).1, by assumption⟩
    obtain ⟨ah, vs, e0, hLs, hRl⟩ := hE
    cases e0
    have hGg : Sub G g := hG.ext hgE
    have hGh := hGg.ext F9.keep
    have hvl : vs.length = es.length := by have := RdL.length hRl; rwa [List.length_map] at this
    have hit : ∀ (i : Nat) (v : Value), vs[i]? = some v → ∃ (e : Nat × Str) (T : Addr) (t1 t2 : Tok), es[i]? = some e ∧ e.1 < 8 ∧ v = .ref T ∧ Tup G T [.str (nmS e.1) t1, .str e.2 t2] := by
      intro i v hv
      obtain ⟨d, hd1, hd2⟩ := RdL.get hRl hv
      obtain ⟨e, he1, rfl⟩ : ∃ e, es[i]? = some e ∧ entD e = d := by simpa using hd1
      obtain ⟨T, us, rfl, hT, u1, r1, rfl, ⟨t1, rfl⟩, u2, r2, rfl, ⟨t2, rfl⟩, rfl⟩ := hd2
      exact ⟨e, T, t1, t2, he1, hlt e (List.mem_of_getElem? he1), rfl, hT⟩
    refine ⟨_, Nat × Str, Str, G, _, es, (fun e => decide (e.1 % 4 = i0 % 4)), (fun e => e.2), (fun _ v y => ∃ t, v = .str y t), (fun i m => ∃ v, vs[i]? = some v ∧ m (Str.ofString "kv") = some v), hvl ▸ itb_list rfl hLs hGh (.inl ⟨_, _, rfl⟩), ⟨hGh, ?_, fun _ _ _ _ _ h => h, ?_, ?_, ?_⟩, ?_⟩
    · rw [sizeLine_eq]; omega
    · intro i v C s₂ m₂ Q E hi hv hx hn hQ
      exact assign_name rfl rfl hn fun h₃ tk₃ m₃ hn₃ hm hk => hQ h₃ tk₃ m₃ hn₃ ⟨v, hv, hm⟩ hk
    · rintro i d C s₃ m₃ Q E hd ⟨v, hv, hm⟩ hn hx ⟨h3, tk3, rfl⟩ hQ
      obtain ⟨e, T, t1, t2, he1, he8, rfl, hT⟩ := hit i v hv
      rw [hd] at he1; cases he1
      have hTu := hT.isTup (hGh.ext hx)
      have hce := IsCell.ext hcell hx
      refine wpAny_tests_one ?_
      k_steps
      rw [nm_eq]
      exact hQ _ _ Ext.rfl'
    · rintro i d C s₃ m₃ G' Q E hd hp ⟨v, hv, hm⟩ hn hx hle hsub ⟨h3, tk3, rfl⟩ hQ
      obtain ⟨e, T, t1, t2, he1, he8, rfl, hT⟩ := hit i v hv
      rw [hd] at he1; cases he1
      have hTu := hT.isTup (hGh.ext hx)
      k_steps
      exact hQ _ _ _ Ext.rfl' ⟨_, rfl⟩
    · intro D h tk ys hx hD0 hD hyl hP
      refine ⟨⟨_, Fr.keeps F9 hx⟩, hret _ _ _ (hgE.trans (Ext.trans F9.keep hx)) ⟨D, ys, rfl, ⟨_, _, more_old (hgE.trans F9.keep) _ _ (.inr ⟨hD0, hD⟩), rfl, rfl⟩, ?_⟩⟩
      have hP' : Paired (fun v x => Rd (More G s.heap h) (PyData.str x) v) ys ((es.filter fun e : Nat × Str => decide (e.1 % 4 = i0 % 4)).map fun e => e.2) := Paired.le (fun a b x => by obtain ⟨t, rfl⟩ := x; exact ⟨t, rfl⟩) hP
      have := RdL.of_paired hP'
      rwa [List.map_map] at this
end

-- Slice
section
theorem set_whole {w : World} {A : Around} {s : Shared} {Q : Unit → Shared → Prop} {E : Value → Shared → Prop} {l sl D : Addr} {xs ys : Array Value} {n : Nat} (ho : s.heap.get? l = some { cls := .type "list", data := .seq xs n }) (hs : s.heap.IsSliceOf sl .none .none .none)
    (hD : s.heap.IsList D ys) (hne : l ≠ D) (hsz : xs.size + ys.size ≤ sizeLine)
    (hQ : ∀ h' n', Heap.SameBut l s.heap h' → h'.get? l = some { cls := .type "list", data := .seq ys n' } → Q () { s with heap := h' }) :
    wpAny (MO w) A (setItem (.ref l) (.ref sl) (.ref D)) Q E s := by
  have hl : s.heap.IsList l xs := ⟨_, ho, rfl, n, rfl⟩
  obtain ⟨os, hos, hcs, hds⟩ := id hs
  obtain ⟨oD, hoD, hcD, nD, hdD⟩ := id hD
  have hTs : s.TypeIs (.ref sl) "slice" := ⟨os, hos, hcs⟩
  unfold setItem
  try with_reducible refine wpAny_holding ?_
  first | refine wpAny_bind (wpAny_pure ?_) | skip
  refine wpAny_bind (wpAny_sequenceKey hl.typeIs (by decide) ?_)
  refine wpAny_bind (wpAny_callSpecial?_slot (name := Str.ofString "__setitem__") hl.typeIs slot_list_setitem
    (wpAny_call_entry slot_list_setitem hl.typeIs entry_list_setitem ?_ (args_list_setitem _ _ _)))
  show wpAny _ _ (Builtin.List.listSubscript? (.ref sl) >>= _) _ _ s
  refine wpAny_bind ?_
  unfold Builtin.List.listSubscript?
  refine wpAny_bind (wpAny_specialOf hTs slice_no_index ?_)
  simp only [Option.isNone_none, if_true]
  refine wpAny_pure ?_
  show wpAny _ _ (typeOf (.ref sl) >>= _) _ _ s
  refine wpAny_bind (wpAny_typeOf hTs ?_)
  rw [if_neg (by decide)]
  rw [listSliceParts_eq]
  refine wpAny_bind (wpAny_bind (wpAny_field hos hds (x := .none) rfl (wpAny_bind (wpAny_listPart .none ?_))))
  rw [if_neg (show ¬ ((rawPart none == rawInt 0) = true) from Bool.false_ne_true)]
  refine wpAny_bind (wpAny_field hos hds (x := .none) rfl (wpAny_bind (wpAny_listPart .none ?_)))
  refine wpAny_bind (wpAny_field hos hds (x := .none) rfl (wpAny_bind (wpAny_listPart .none (wpAny_pure ?_))))
  have hsame : Builtin.List.listSameRef (.ref l) (.ref D) = false := by
    show (l == D) = false
    exact beq_eq_false_iff_ne.mpr hne
  dsimp only
  rw [hsame]
  refine wpAny_bind (m := (if false = true then Builtin.List.listItems (.ref D) else Builtin.List.listAllItems (.ref D) "must assign iterable to extended slice")) ?_
  rw [if_neg Bool.false_ne_true]
  unfold Builtin.List.listAllItems
  refine wpAny_bind (wpAny_typeOf hD.typeIs ?_)
  rw [if_pos (by decide)]
  unfold Builtin.List.listItems
  refine wpAny_bind (wpAny_seqItems hoD hdD (wpAny_pure ?_))
  refine wpAny_bind (wpAny_bind (wpAny_seqItems ho rfl (wpAny_pure ?_)))
  refine wpAny_bind (wpAny_of_eq (sliceIndices_raw none none none xs.size (by simp)) ?_)
  have hb : sliceBounds none none none xs.size = (0, (xs.size : Int), 1) := rfl
  rw [hb]
  rw [if_pos (show ((0, (xs.size : Int), (1 : Int)).2.snd == 1) = true from rfl)]
  refine wpAny_bind (wpAny_rule ?_)
  rw [if_neg (show ¬ (Builtin.List.listTooLong (xs.size + ys.size) = true) from by simp [Builtin.List.listTooLong]; exact hsz)]
  have hm : (max (0 : Int) (xs.size : Int)).toNat = xs.size := by
    rw [Int.max_eq_right (Int.natCast_nonneg _)]; rfl
  have hf : ∀ zs : Array Value, zs = xs → zs.extract 0 (0 : Int).toNat ++ ys ++ zs.extract (max (0 : Int) (xs.size : Int)).toNat = ys := by
    rintro zs rfl
    rw [hm]
    apply Array.ext'
    simp
  show wpAny _ _ (updateSeq l (fun zs => zs.extract 0 (0 : Int).toNat ++ ys ++ zs.extract (max (0 : Int) (xs.size : Int)).toNat) >>= _) _ _ s
  refine wpAny_bind (wpAny_updateSeq ho rfl ?_)
  refine wpAny_bind (wpAny_letGo (wpAny_pure ⟨_, rfl, wpAny_pure (hQ _ (if ys.size == xs.size then n else n + 1) (Heap.SameBut.update ..) ?_)⟩))
  have e : Obj.mapSeq (fun zs => zs.extract 0 (0 : Int).toNat ++ ys ++ zs.extract (max (0 : Int) (xs.size : Int)).toNat) { cls := .type "list", data := .seq xs n } = { cls := .type "list", data := .seq ys (if ys.size == xs.size then n else n + 1) } := by
    show (⟨_, _, .seq (xs.extract 0 (0 : Int).toNat ++ ys ++ xs.extract (max (0 : Int) (xs.size : Int)).toNat) (if (xs.extract 0 (0 : Int).toNat ++ ys ++ xs.extract (max (0 : Int) (xs.size : Int)).toNat).size == xs.size then n else n + 1), _⟩ : Obj) = _
    rw [hf xs rfl]
  rw [Heap.get?_update_self _ ho (by rw [e]; rfl), e]
end

-- Hdel
section
theorem zoff8 : True := by w_top off; trivial
local macro_rules | `(tactic| walk_at "exec Assign cons ListComp") => `(tactic| (with_reducible refine wpAny_Assign_Subscript ?_ ?_; rotate_left; with_unfolding_all rfl))

set_option maxHeartbeats 8000000 in
theorem del_c (w : World) (x hl : Addr) (i0 : Nat) (hi0 : i0 < 8) (t : Tok) (es : List (Nat × Str)) (vs : List Value) (n : Nat) (G : Gs) {A : Around} {s : Shared} {Q E : Value → Shared → Prop} (C : Can w A s.heap [(hl, listOf vs.toArray n)] 2 16) (hG : Sub G s.heap) (hGl : ∀ o, ¬ G hl o)
    (hT : Tb G x hl) (hRl : RdL G (es.map entD) vs) (hlt : ∀ e ∈ es, e.1 < 8) (hlen : es.length ≤ 1000)
    (hret : ∀ h' tk' vs' n', (∀ b o, b ≠ hl → s.heap.get? b = some o → h'.get? b = some o) → h'.get? hl = some (listOf vs'.toArray n') → RdL G ((es.filter fun e => !decide (e.1 % 4 = i0 % 4)).map entD) vs' → Q .none { s with heap := h', toks := tk' }) :
    wpAny (MO w) A (call (.ref 95) [.ref x, .str (nmS i0) t]) Q E s := by
  refine wpAny_call ?_
  obtain ⟨hnd, dp, fr, gd, un⟩ := A
  obtain rfl : hnd = none := C.handled
  refine' enterC (d := 1) (u := 12) (binds := [(Str.ofString "self", .ref x), (Str.ofString "name", .str (nmS i0) t)]) C ?k1 ?k2 (BindsTo.of_eq ?k3) ?k4 ?k5 ?k6 ?k7 ?k8 ?k9
  case k1 => k_is
  case k2 => k_is
  case k3 => exact rfl
  case k4 => exact rfl
  case k5 => decide
  case k7 => exact rfl
  case k8 => exact rfl
  case k9 => exact rfl
  case k6 =>
    intro g L' h₁ tk0 cells hg bd F N Y
    k_cells Y
    have hgE : ∀ b o, b ≠ hl → s.heap.get? b = some o → g.get? b = some o := fun b o hb e => hg b o e (by simpa using hb)
    have hGg : Sub G g := fun b o e => hgE b o (fun q => hGl o (q ▸ e)) (hG b o e)
    obtain ⟨dx, hs, tkx, nx, hx1, hx2⟩ := hT
    have hI : InstAt g x (instObj 175 dx) 175 (some (dictOf [⟨hs, .str (Str.ofString "_headers") tkx, .ref hl⟩] nx)) := ⟨hGg _ _ hx1, rfl, rfl, hGg _ _ hx2⟩
    have bd' := bd.less (d' := 1) (u' := 8) (by decide) (by decide)
    obtain ⟨hh, hdp, hun, X, p, loose, mean, mg, mb, env, outer, A₀, base, hA, hf, hke, B, T⟩ := bd
    k_steps
    rename Fr _ _ _ _ => F9
    rename News _ _ _ _ => N9
    obtain ⟨tn, hcell⟩ : ∃ tn, Heap.IsCell _ (L' + 1) (some (.str (nmS (i0 % 4)) tn)) := ⟨_, _, (N9 _ (.head _)).1, by assumption⟩
    have hGh := hGg.ext F9.keep
    have hhl := (N9 _ (.tail _ (.head _))).1
    have hvl : vs.length = es.length := by have := RdL.length hRl; rwa [List.length_map] at this
    have hG1 : Sub (fun b o => G b o ∨ (b = hl ∧ o = listOf vs.toArray n)) _ := fun b o e => e.elim (hGh b o) fun q => by rw [q.1, q.2]; exact hhl
    have hLs : Lst (fun b o => G b o ∨ (b = hl ∧ o = listOf vs.toArray n)) hl vs := ⟨listOf vs.toArray n, n, Or.inr ⟨rfl, rfl⟩, rfl, rfl⟩
    have hit : ∀ (i : Nat) (v : Value), vs[i]? = some v → ∃ (e : Nat × Str) (T : Addr) (t1 t2 : Tok), es[i]? = some e ∧ e.1 < 8 ∧ v = .ref T ∧ Tup G T [.str (nmS e.1) t1, .str e.2 t2] := by
      intro i v hv
      obtain ⟨d, hd1, hd2⟩ := RdL.get hRl hv
      obtain ⟨e, he1, rfl⟩ : ∃ e, es[i]? = some e ∧ entD e = d := by simpa using hd1
      obtain ⟨T, us, rfl, hT, u1, r1, rfl, ⟨t1, rfl⟩, u2, r2, rfl, ⟨t2, rfl⟩, rfl⟩ := hd2
      exact ⟨e, T, t1, t2, he1, hlt e (List.mem_of_getElem? he1), rfl, hT⟩
    refine ⟨_, Nat × Str, Nat × Str, (fun b o => G b o ∨ (b = hl ∧ o = listOf vs.toArray n)), _, es, (fun e => !decide (e.1 % 4 = i0 % 4)), id, (fun _ v e => Rd G (entD e) v), (fun i m => ∃ v, vs[i]? = some v ∧ m (Str.ofString "kv") = some v), hvl ▸ itb_list rfl hLs hG1 (.inl ⟨_, _, rfl⟩), ⟨hG1, ?_, fun _ _ _ _ _ h => h, ?_, ?_, ?_⟩, ?_⟩
    · rw [sizeLine_eq]; omega
    · intro i v C s₂ m₂ Q E hi hv hx hn hQ
      exact assign_name rfl rfl hn fun h₃ tk₃ m₃ hn₃ hm hk => hQ h₃ tk₃ m₃ hn₃ ⟨v, hv, hm⟩ hk
    · rintro i d C s₃ m₃ Q E hd ⟨v, hv, hm⟩ hn hx ⟨h3, tk3, rfl⟩ hQ
      obtain ⟨e, T, t1, t2, he1, he8, rfl, hT⟩ := hit i v hv
      rw [hd] at he1; cases he1
      have hTu := hT.isTup (hGh.ext hx)
      have hce := IsCell.ext hcell hx
      refine wpAny_tests_one ?_
      k_steps
      rw [show (nmS (d.1 % 4) != nmS (i0 % 4)) = !decide (d.1 % 4 = i0 % 4) from by rw [bne, nm_eq]]
      exact hQ _ _ Ext.rfl'
    · rintro i d C s₃ m₃ G' Q E hd hp ⟨v, hv, hm⟩ hn hx hle hsub ⟨h3, tk3, rfl⟩ hQ
      obtain ⟨dd, hd1, hd2⟩ := RdL.get hRl hv
      obtain ⟨e, he1, rfl⟩ : ∃ e, es[i]? = some e ∧ entD e = dd := by simpa using hd1
      rw [hd] at he1; cases he1
      k_steps
      exact hQ _ _ _ Ext.rfl' hd2
    · intro D h tk ys hx hD0 hD hyl hP
      have F10 := Fr.keeps F9 hx
      have hDg : g.get? D = none := ext_none F9.keep hD0
      have hDL : D ≠ L' := fun q => by obtain ⟨o, e⟩ := Fr.get_L F9; rw [q, e] at hD0; cases hD0
      have hDl : hl ≠ D := fun q => by rw [q, hD0] at hhl; cases hhl
      have N10 : News g L' h ((D, LCg.lst ys) :: _) := fun p hp => by
        rcases List.mem_cons.mp hp with rfl | hp
        · exact ⟨hD, hDL, hDg⟩
        · exact News.grown N9 hx p hp
      clear F9 N9
      k_steps
      have hhl' := hx _ _ hhl
      have up : Ext h (h.push { cls := .type "slice", data := .fields #[.none, .none, .none] }) := fun b o e => Heap.get?_push_of_some _ e
      refine set_whole (xs := vs.toArray) (ys := ys.toArray) (n := n) (D := D) (up _ _ hhl') (Heap.IsSliceOf.new ..) ⟨_, up _ _ hD, rfl, _, rfl⟩ hDl (by rw [sizeLine_eq]; simp only [List.size_toArray]; omega) fun h'' n'' hsb hl'' => ?_
      have hlg : g.get? hl = none := (N10 _ (.tail _ (.tail _ (.head _)))).2.2
      have hlL : hl ≠ L' := (N10 _ (.tail _ (.tail _ (.head _)))).2.1
      have F11 : Fr g L' h'' _ := ((Fr.keeps F10 up).change hsb hlL hlg)
      have N11 : News g L' h'' [] := News.nil
      clear F10 N10
      k_steps
      rename Fr _ _ _ _ => F12
      have hP' : Paired (fun v e => Rd G (entD e) v) ys ((es.filter fun e => !decide (e.1 % 4 = i0 % 4)).map id) := hP
      rw [List.map_id] at hP'
      exact ⟨⟨_, F12⟩, hret _ _ ys n'' (fun b o hb e => F12.keep b o (hgE b o hb e)) hl'' (RdL.of_paired hP')⟩
end

-- Hset
section
local macro_rules | `(tactic| walk_at "zz") => `(tactic| skip)
theorem zoff9 : True := by w_top off; trivial
theorem delItem_own {w : World} {K : Frag} {A : Around} {s : Shared} {E : Value → Shared → Prop} {x C f : Addr} {ox : Obj} {od : Option Obj} {i : Value} {Q : Unit → Shared → Prop} {h₀ : Heap} {L : Addr} {m : Str → Option Value} (F : Fr h₀ L s.heap m) (X₀ : K.In h₀) (I : InstAt s.heap x ox C od) (hq : noSeq K C = true)
    (hs : findIn K (.ref C) "__delitem__" = some (some (.ref f))) (hf : isFn K (.ref f) = true) (h : wpAny (MO w) A (call (.ref f) [.ref x, i]) (fun _ s' => Q () s') E s) : wpAny (MO w) A (delItem (.ref x) i) Q E s := by
  have X := X₀.keeps F.keep
  unfold delItem sequenceKey
  refine wpAny_holding (wpAny_bind (wpAny_bind (I.type.here ?_)))
  refine wpAny_bind ((anyM_none X hq).here ?_)
  rw [if_pos (show (!false) = true from rfl)]
  exact wpAny_pure (wpAny_bind (special_fn X I hs (beq_iff_eq.mp hf) (wpAny_mono h (fun _ _ z => wpAny_pure z) fun _ _ z => z)))
theorem del_k (w : World) {x hl : Addr} {i0 : Nat} {t : Tok} {es : List (Nat × Str)} {vs : List Value} {n : Nat} {G : Gs} {A : Around} {s : Shared} {Q E : Value → Shared → Prop} {g : Heap} {L : Addr} {m : Str → Option Value} (F : Fr g L s.heap m) (N : News g L s.heap [(hl, listOf vs.toArray n)])
    (C : Bd w A g L 2 16) (hi0 : i0 < 8) (hG : Sub G g) (hT : Tb G x hl) (hRl : RdL G (es.map entD) vs) (hlt : ∀ e ∈ es, e.1 < 8) (hlen : es.length ≤ 1000)
    (hret : ∀ h' tk' vs' n', Fr g L h' m → News g L h' [(hl, listOf vs'.toArray n')] → RdL G ((es.filter fun e => !decide (e.1 % 4 = i0 % 4)).map entD) vs' → Q .none { s with heap := h', toks := tk' }) :
    wpAny (MO w) A (call (.ref 95) [.ref x, .str (nmS i0) t]) Q E s := by
  have hg : g.get? hl = none := (N _ (.head _)).2.2
  have hL : hl ≠ L := (N _ (.head _)).2.1
  refine del_c w x hl i0 hi0 t es vs n G (C.can F N) (hG.ext F.keep) (fun o e => by have := hG _ _ e; rw [hg] at this; cases this) hT hRl hlt hlen fun h' tk' vs' n' hk hl' hR => hret h' tk' vs' n' ?_ (fun p hp => ?_) hR
  · exact ⟨F.ns.at' fun o e => hk _ o (Ne.symm hL) e, fun b o e => hk b o (fun q => by rw [q, hg] at e; cases e) (F.keep b o e), F.above⟩
  · rw [List.mem_singleton.mp hp]; exact ⟨hl', hL, hg⟩
theorem RdL.append {G : Gs} : ∀ {ds es : List PyData} {vs us : List Value}, RdL G ds vs → RdL G es us → RdL G (ds ++ es) (vs ++ us)
  | [], _, _, _, h1, h2 => by cases h1; exact h2
  | _ :: _, _, _, _, h1, h2 => by obtain ⟨v, r, rfl, h3, h4⟩ := h1; exact ⟨v, r ++ _, rfl, h3, RdL.append h4 h2⟩
theorem ent_end {G : Gs} {g h h5 sh : Heap} {hl D : Addr} {es : List (Nat × Str)} {vs : List Value} {i0 : Nat} {val : Str} {t tv : Tok} (hGl : ∀ o, ¬ G hl o) (hR : RdL G (es.map entD) vs)
    (hD : h.get? D = some { cls := .type "tuple", data := .seq #[.str (nmS i0) t, .str val tv] }) (hDg : g.get? D = none) (hDl : D ≠ hl) (hgE : ∀ b o, b ≠ hl → sh.get? b = some o → g.get? b = some o) (hs5 : Heap.SameBut hl h h5) :
    RdL (fun b o => b ≠ hl ∧ More G sh h5 b o) ((es ++ [(i0, val)]).map entD) (vs ++ [.ref D]) := by
  rw [List.map_append]
  refine RdL.append (RdL.mono (fun b o e => ⟨fun q => hGl o (q ▸ e), .inl e⟩) _ _ hR) ⟨_, _, rfl, ⟨D, [.str (nmS i0) t, .str val tv], rfl, ⟨_, _, ⟨hDl, .inr ⟨?_, hs5.extBut _ _ hDl hD⟩⟩, rfl, rfl⟩, ⟨_, _, rfl, ⟨_, rfl⟩, _, _, rfl, ⟨_, rfl⟩, rfl⟩⟩, rfl⟩
  cases q : sh.get? D with
  | none => rfl
  | some o => rw [hgE D o hDl q] at hDg; cases hDg
local macro_rules | `(tactic| walk_at "delItem ref") => `(tactic| (k_here; k_dflt refine delItem_own (by k_asm) (by k_asm) (by k_inst) (by k_is) (by k_is) (by k_is) ?_))

set_option maxHeartbeats 8000000 in
theorem set_c (w : World) (x hl : Addr) (i0 : Nat) (hi0 : i0 < 8) (t : Tok) (val : Str) (hval : Clean val) (tv : Tok) (es : List (Nat × Str)) (vs : List Value) (n : Nat) (G : Gs) {A : Around} {s : Shared} {Q E : Value → Shared → Prop} (C : Can w A s.heap [(hl, listOf vs.toArray n)] 3 24) (hG : Sub G s.heap) (hGl : ∀ o, ¬ G hl o)
    (hT : Tb G x hl) (hRl : RdL G (es.map entD) vs) (hlt : ∀ e ∈ es, e.1 < 8) (hlen : es.length ≤ 1000)
    (hret : ∀ h' tk' vs' n', (∀ b o, b ≠ hl → s.heap.get? b = some o → h'.get? b = some o) → h'.get? hl = some (listOf vs'.toArray n') → RdL (fun b o => b ≠ hl ∧ More G s.heap h' b o) (((es.filter fun e => !decide (e.1 % 4 = i0 % 4)) ++ [(i0, val)]).map entD) vs' → Q .none { s with heap := h', toks := tk' }) :
    wpAny (MO w) A (call (.ref 90) [.ref x, .str (nmS i0) t, .str val tv]) Q E s := by
  refine wpAny_call ?_
  obtain ⟨hnd, dp, fr, gd, un⟩ := A
  obtain rfl : hnd = none := C.handled
  refine' enter (d := 2) (u := 20) (binds := [(Str.ofString "self", .ref x), (Str.ofString "name", .str (nmS i0) t), (Str.ofString "val", .str val tv)]) C ?k1 ?k2 (BindsTo.of_eq ?k3) ?k4 ?k5 ?k6 ?k7 ?k8 ?k9
  case k1 => k_is
  case k2 => k_is
  case k3 => exact rfl
  case k4 => exact locs rfl
  case k6 => exact rfl
  case k7 => exact rfl
  case k8 => exact rfl
  case k9 => decide
  case k5 =>
    intro g L' h₁ hg bd F N
    have hgE : ∀ b o, b ≠ hl → s.heap.get? b = some o → g.get? b = some o := fun b o hb e => hg b o e (by simpa using hb)
    have hGg : Sub G g := fun b o e => hgE b o (fun q => hGl o (q ▸ e)) (hG b o e)
    have hT' := hT
    obtain ⟨dx, hs, tkx, nx, hx1, hx2⟩ := hT'
    have hI : InstAt g x (instObj 175 dx) 175 (some (dictOf [⟨hs, .str (Str.ofString "_headers") tkx, .ref hl⟩] nx)) := ⟨hGg _ _ hx1, rfl, rfl, hGg _ _ hx2⟩
    have bd1 := bd.less (d' := 2) (u' := 16) (by decide) (by decide)
    have bd' := bd.less (d' := 1) (u' := 8) (by decide) (by decide)
    obtain ⟨hh, hdp, hun, X, p, loose, mean, mg, mb, env, outer, A₀, base, hA, hf, hke, B, T⟩ := bd
    k_steps
    refine del_k w F N bd1 hi0 hGg hT hRl hlt hlen fun h' tk' vs' n' F' N' R' => ?_
    clear F N
    k_steps
    rename Fr _ _ _ _ => F9
    rename News _ _ _ _ => N9
    have n1 := N9 _ (.head _)
    have n2 := N9 _ (.tail _ (.head _))
    have hDl := Nat.ne_of_gt (by assumption : hl < _)
    have hv' : vs'.length ≤ 1000 := by
      have := RdL.length R'
      rw [List.length_map] at this
      have h2 := List.length_filter_le (fun e : Nat × Str => !decide (e.1 % 4 = i0 % 4)) es
      omega
    refine append_at (hsz := by rw [sizeLine_eq, List.size_toArray]; omega) n2.1 fun h5 hs5 h5l => ?_
    have F10 := F9.change hs5 n2.2.1 n2.2.2
    have N10 : News g L' h5 [] := News.nil
    have h5l' := h5l
    rw [List.push_toArray] at h5l'
    have hR5 := ent_end hGl R' n1.1 n1.2.2 hDl hgE hs5
    clear F9 N9
    k_steps
    rename Fr _ _ _ _ => F12
    exact ⟨⟨_, F12⟩, hret _ _ _ _ (fun b o hb e => F12.keep b o (hgE b o hb e)) h5l' hR5⟩
end

-- Hadd
section
theorem zoff10 : True := by w_top off; trivial
local macro_rules | `(tactic| walk_at "exec For Tuple Call cons nil") => `(tactic| (refine Stop.out ?_))

set_option maxHeartbeats 8000000 in
theorem add_c (w : World) (x hl : Addr) (i0 : Nat) (hi0 : i0 < 8) (t : Tok) (val : Str) (hval : Clean val) (hvl : val.length ≤ 1000) (tv : Tok) (es : List (Nat × Str)) (vs : List Value) (n : Nat) (G : Gs) {A : Around} {s : Shared} {Q E : Value → Shared → Prop} (C : Can w A s.heap [(hl, listOf vs.toArray n)] 3 24) (hG : Sub G s.heap) (hGl : ∀ o, ¬ G hl o)
    (hT : Tb G x hl) (hRl : RdL G (es.map entD) vs) (hlt : ∀ e ∈ es, e.1 < 8) (hlen : es.length ≤ 1000)
    (hret : ∀ h' tk' vs' n', (∀ b o, b ≠ hl → s.heap.get? b = some o → h'.get? b = some o) → h'.get? hl = some (listOf vs'.toArray n') → RdL (fun b o => b ≠ hl ∧ More G s.heap h' b o) ((es ++ [(i0, val)]).map entD) vs' → Q .none { s with heap := h', toks := tk' }) :
    wpAny (MO w) A (call (.ref 172) [.ref x, .str (nmS i0) t, .str val tv]) Q E s := by
  refine wpAny_call ?_
  obtain ⟨hnd, dp, fr, gd, un⟩ := A
  obtain rfl : hnd = none := C.handled
  refine' enterB (d := 2) (u := 20) (Bn := fun h₂ binds => ∃ d, binds = [(Str.ofString "self", .ref x), (Str.ofString "_name", .str (nmS i0) t), (Str.ofString "_value", .str val tv), (Str.ofString "_params", .ref d)] ∧ 172 < d ∧ s.heap.get? d = none ∧ h₂.get? d = some { cls := .type "dict", data := .dict #[] }) C ?k1 ?k2 ?k3 ?k4 ?k5 ?k6 ?k7 ?k8 ?k9
  case k1 => k_is
  case k2 => k_is
  case k3 =>
    intro A E Q hQ
    have hsz : 172 < s.heap.objs.size := by
      obtain ⟨p, loose, mean, mg, mb, env, outer, A₀, base, h₀, L, m, h1, h2, h3, h4, h5, h6, h7, h8⟩ := C.ctx
      exact Heap.lt_size (h5.keep _ _ (h7 _ _ (by k_is)))
    show wpAny _ A (alloc { cls := .type "dict", data := .dict #[] } >>= fun d => pure [(Str.ofString "self", .ref x), (Str.ofString "_name", .str (nmS i0) t), (Str.ofString "_value", .str val tv), (Str.ofString "_params", .ref d)]) Q E s
    exact wpAny_bind (wpAny_alloc (wpAny_pure (hQ _ _ _ (fun b o e => Heap.get?_push_of_some _ e) ⟨_, rfl, hsz, size_none _, Heap.get?_push_size _ rfl⟩)))
  case k4 =>
    rintro h₂ binds ⟨d, rfl, _⟩
    exact locs rfl
  case k6 => exact rfl
  case k7 => exact rfl
  case k8 => exact rfl
  case k9 => decide
  case k5 =>
    rintro h₂ tk₂ binds g L' h₁ hx2 ⟨d, rfl, hds, hd0, hd1⟩ hg bd F N
    have hhl : s.heap.get? hl = some (listOf vs.toArray n) := by
      obtain ⟨p, loose, mean, mg, mb, env, outer, A₀, base, h₀, L, m, h1, h2, h3, h4, h5, h6, h7⟩ := C.ctx
      exact (h6 _ (.head _)).1
    have hdl : d ≠ hl := fun q => by rw [q, hhl] at hd0; cases hd0
    have hgE : ∀ b o, b ≠ hl → s.heap.get? b = some o → g.get? b = some o := fun b o hb e => hg b o (hx2 _ _ e) (by simpa using hb)
    have hdg : g.get? d = some { cls := .type "dict", data := .dict #[] } := hg _ _ hd1 (by simpa using hdl)
    have hGg : Sub G g := fun b o e => hgE b o (fun q => hGl o (q ▸ e)) (hG b o e)
    have hv' : vs.length ≤ 1000 := by
      have := RdL.length hRl
      rw [List.length_map] at this
      omega
    obtain ⟨dx, hs, tkx, nx, hx1, hx2⟩ := hT
    have hI : InstAt g x (instObj 175 dx) 175 (some (dictOf [⟨hs, .str (Str.ofString "_headers") tkx, .ref hl⟩] nx)) := ⟨hGg _ _ hx1, rfl, rfl, hGg _ _ hx2⟩
    have bd' := bd.less (d' := 1) (u' := 8) (by decide) (by decide)
    obtain ⟨hh, hdp, hun, X, p, loose, mean, mg, mb, env, outer, A₀, base, hA, hf, hke, B, T⟩ := bd
    k_steps
    refine ⟨?_⟩
    have hdS : (d == sysModules) = false := by
      rw [beq_eq_false_iff_ne]
      exact Nat.ne_of_gt (Nat.lt_of_le_of_lt (by decide : (1:Nat) ≤ 172) hds)
    have hgm : ∀ h m', Fr g L' h m' → h.DictOf (strKind PySem.Challenge.rw_pk0113_01.row.prog w) d [] := fun h m' F' => ⟨_, #[], 0, F'.keep _ _ hdg, ⟨rfl, rfl, rfl⟩, rfl, (fun e he => nomatch he), .nil, .nil⟩
    rename Fr _ _ _ _ => F1
    rename News _ _ _ _ => N1
    refine For_pair_inv g (wpAny_Call_items hdS (hgm _ _ F1) rfl rfl (fun Q' hq => ?_) ?_)
    · k_steps
      exact hq
    · refine Iter_strTabItems (D := []) hh rfl rfl rfl ⟨_, Heap.get?_push_size _ rfl, rfl, rfl⟩ ⟨hdS, [], hgm _ _ (F1.push _), .nil⟩ (F1.push _) (News.push F1 N1 _) (.inl ⟨_, hdg⟩) (fun _ m' => m' = _) rfl (fun i k dv t v m₁ s₁ own hD => nomatch hD) (fun h' tk m' F' N' hm => ?_)
      clear F1 N1
      subst hm
      k_steps
      rename Fr _ _ _ _ => F9
      rename News _ _ _ _ => N9
      have n1 := N9 _ (.head _)
      have n2 := N9 _ (.tail _ (.tail _ (.tail _ (.head _))))
      have hDl := Nat.ne_of_gt (by rename_i l1; exact l1.2.2 : hl < _)
      refine append_at (hsz := by rw [sizeLine_eq, List.size_toArray]; omega) n2.1 fun h5 hs5 h5l => ?_
      have F10 := F9.change hs5 n2.2.1 n2.2.2
      have N10 : News g L' h5 [] := News.nil
      have h5l' := h5l
      rw [List.push_toArray] at h5l'
      have hR5 := ent_end hGl hRl n1.1 n1.2.2 hDl hgE hs5
      clear F9 N9
      k_steps
      rename Fr _ _ _ _ => F12
      exact ⟨⟨_, F12⟩, hret _ _ _ _ (fun b o hb e => F12.keep b o (hgE b o hb e)) h5l' hR5⟩
end

-- Hsd
section
theorem zoff11 : True := by w_top off; trivial
theorem get_k (w : World) {x hl : Addr} {i0 : Nat} {t : Tok} {es : List (Nat × Str)} {vs : List Value} {n : Nat} {G : Gs} {A : Around} {s : Shared} {Q E : Value → Shared → Prop} {g : Heap} {L : Addr} {m : Str → Option Value} (F : Fr g L s.heap m) (N : News g L s.heap [(hl, listOf vs.toArray n)])
    (C : Bd w A g L 2 16) (hi0 : i0 < 8) (hG : Sub G g) (hT : Tb G x hl) (hRl : RdL G (es.map entD) vs) (hlt : ∀ e ∈ es, e.1 < 8)
    (hret : ∀ v h' tk', Fr g L h' m → News g L h' [(hl, listOf vs.toArray n)] → (match es.find? (fun e => decide (e.1 % 4 = i0 % 4)) with | some e => ∃ t, v = .str e.2 t | none => v = .none) → Q v { s with heap := h', toks := tk' }) :
    wpAny (MO w) A (call (.ref 122) [.ref x, .str (nmS i0) t]) Q E s := by
  have hle : Le G (fun b o => G b o ∨ (b = hl ∧ o = listOf vs.toArray n)) := fun _ _ e => Or.inl e
  refine get_c2 w x hl i0 hi0 t es (fun b o => G b o ∨ (b = hl ∧ o = listOf vs.toArray n)) (C.can F News.nil) (fun b o e => e.elim (fun e => F.keep _ _ (hG _ _ e)) fun q => by rw [q.1, q.2]; exact (N _ (.head _)).1) (hT.mono hle) ⟨hl, vs, rfl, ⟨_, n, Or.inr ⟨rfl, rfl⟩, rfl, rfl⟩, RdL.mono hle _ _ hRl⟩ hlt fun v h' tk' hx hv => ?_
  exact hret v h' tk' (Fr.keeps F hx) (News.grown N hx) hv
theorem ent_end' {G : Gs} {g h5 sh : Heap} {hl D : Addr} {es : List (Nat × Str)} {vs : List Value} {i0 : Nat} {val : Str} {t tv : Tok} (hGl : ∀ o, ¬ G hl o) (hR : RdL G (es.map entD) vs)
    (hD : h5.get? D = some { cls := .type "tuple", data := .seq #[.str (nmS i0) t, .str val tv] }) (hDg : g.get? D = none) (hDl : D ≠ hl) (hgE : ∀ b o, b ≠ hl → sh.get? b = some o → g.get? b = some o) :
    RdL (fun b o => b ≠ hl ∧ More G sh h5 b o) ((es ++ [(i0, val)]).map entD) (vs ++ [.ref D]) := ent_end hGl hR hD hDg hDl hgE ⟨rfl, fun _ _ => rfl⟩

set_option maxHeartbeats 8000000 in
theorem sd_c (w : World) (x hl : Addr) (i0 : Nat) (hi0 : i0 < 8) (t : Tok) (val : Str) (hval : Clean val) (tv : Tok) (es : List (Nat × Str)) (vs : List Value) (n : Nat) (G : Gs) {A : Around} {s : Shared} {Q E : Value → Shared → Prop} (C : Can w A s.heap [(hl, listOf vs.toArray n)] 3 24) (hG : Sub G s.heap) (hGl : ∀ o, ¬ G hl o)
    (hT : Tb G x hl) (hRl : RdL G (es.map entD) vs) (hlt : ∀ e ∈ es, e.1 < 8) (hlen : es.length ≤ 1000)
    (hret : ∀ v h' tk' vs' n', (∀ a, v ≠ .ref a) → (∀ b o, b ≠ hl → s.heap.get? b = some o → h'.get? b = some o) → h'.get? hl = some (listOf vs'.toArray n') → RdL (fun b o => b ≠ hl ∧ More G s.heap h' b o) ((match es.find? (fun e : Nat × Str => decide (e.1 % 4 = i0 % 4)) with | some _ => es | none => es ++ [(i0, val)]).map entD) vs' → Q v { s with heap := h', toks := tk' }) :
    wpAny (MO w) A (call (.ref 165) [.ref x, .str (nmS i0) t, .str val tv]) Q E s := by
  refine wpAny_call ?_
  obtain ⟨hnd, dp, fr, gd, un⟩ := A
  obtain rfl : hnd = none := C.handled
  refine' enter (d := 2) (u := 20) (binds := [(Str.ofString "self", .ref x), (Str.ofString "name", .str (nmS i0) t), (Str.ofString "value", .str val tv)]) C ?k1 ?k2 (BindsTo.of_eq ?k3) ?k4 ?k5 ?k6 ?k7 ?k8 ?k9
  case k1 => k_is
  case k2 => k_is
  case k3 => exact rfl
  case k4 => exact locs rfl
  case k6 => exact rfl
  case k7 => exact rfl
  case k8 => exact rfl
  case k9 => decide
  case k5 =>
    intro g L' h₁ hg bd F N
    have hgE : ∀ b o, b ≠ hl → s.heap.get? b = some o → g.get? b = some o := fun b o hb e => hg b o e (by simpa using hb)
    have hGg : Sub G g := fun b o e => hgE b o (fun q => hGl o (q ▸ e)) (hG b o e)
    have hT' := hT
    obtain ⟨dx, hs, tkx, nx, hx1, hx2⟩ := hT'
    have hI : InstAt g x (instObj 175 dx) 175 (some (dictOf [⟨hs, .str (Str.ofString "_headers") tkx, .ref hl⟩] nx)) := ⟨hGg _ _ hx1, rfl, rfl, hGg _ _ hx2⟩
    have bd1 := bd.less (d' := 2) (u' := 16) (by decide) (by decide)
    have bd' := bd.less (d' := 1) (u' := 8) (by decide) (by decide)
    obtain ⟨hh, hdp, hun, X, p, loose, mean, mg, mb, env, outer, A₀, base, hA, hf, hke, B, T⟩ := bd
    k_steps
    refine get_k w F N bd1 hi0 hGg hT hRl hlt fun v h' tk' F' N' hv => ?_
    clear F N
    have hlg : g.get? hl = none := (N' _ (.head _)).2.2
    have hlL : hl ≠ L' := (N' _ (.head _)).2.1
    have hle : Le G (fun b o => b ≠ hl ∧ More G s.heap h' b o) := fun b o e => ⟨fun q => hGl o (q ▸ e), .inl e⟩
    have hv' : vs.length ≤ 1000 := by
      have := RdL.length hRl
      rw [List.length_map] at this
      omega
    cases hfi : es.find? (fun e => decide (e.1 % 4 = i0 % 4)) with
    | some e =>
      rw [hfi] at hv hret
      obtain ⟨te, rfl⟩ := hv
      k_steps
      rename Fr _ _ _ _ => F12
      rename News _ _ _ _ => N12
      exact ⟨⟨_, F12⟩, hret _ _ _ vs n (fun a q => nomatch q) (fun b o hb e => F12.keep b o (hgE b o hb e)) (N12 _ (.head _)).1 (RdL.mono (fun b o e => ⟨fun q => hGl o (q ▸ e), .inl e⟩) _ _ hRl)⟩
    | none =>
      rw [hfi] at hv hret
      subst hv
      k_steps
      rename Fr _ _ _ _ => F9
      rename News _ _ _ _ => N9
      have n1 := N9 _ (.head _)
      have n2 := N9 _ (.tail _ (.head _))
      have hDl := Nat.ne_of_gt (by assumption : hl < _)
      have h5l' := n2.1
      dsimp only [W.listOf] at h5l'
      rw [List.push_toArray] at h5l'
      exact ⟨⟨_, F9⟩, hret _ _ _ _ _ (fun a q => nomatch q) (fun b o hb e => F9.keep b o (hgE b o hb e)) h5l' (ent_end' hGl hRl n1.1 n1.2.2 hDl hgE)⟩
end

end

-- Hinit
section
theorem zoff12 : True := by w_top off; trivial
set_option maxHeartbeats 8000000 in
theorem init_c (w : World) (x dx l : Addr) (n : Nat) {A : Around} {s : Shared} {R : Result → Shared → Prop} (C : Can w A s.heap [(x, instObj 175 dx), (dx, dictOf [] 0), (l, listOf #[] n)] 2 8) (l1 : l < dx) (l2 : dx < x)
    (hret : ∀ h' tk' hs tkx nx, (∀ b o, b ≠ dx → s.heap.get? b = some o → h'.get? b = some o) → h'.get? dx = some (dictOf [⟨hs, .str (Str.ofString "_headers") tkx, .ref l⟩] nx) → R (.ok (.ret .none)) { s with heap := h', toks := tk' }) :
    codeAny (MO w) A (.call (.ref 69) ⟨[.ref x, .ref l], []⟩) R s := by
  obtain ⟨hnd, dp, fr, gd, un⟩ := A
  obtain rfl : hnd = none := C.handled
  refine' enter (d := 1) (u := 4) (binds := [(Str.ofString "self", .ref x), (Str.ofString "headers", .ref l)]) C ?k1 ?k2 ?k3 ?k4 ?k5 ?k6 ?k7 ?k8 ?k9
  case k1 => k_is
  case k2 => k_is
  case k3 => exact binds_K C.X rfl (by k_is) rfl rfl rfl
  case k4 => exact locs rfl
  case k6 => exact rfl
  case k7 => exact rfl
  case k8 => exact rfl
  case k9 => decide
  case k5 =>
    intro g L' h₁ hg bd F N
    have cn1 : s.heap.get? x = some (instObj 175 dx) := by
      obtain ⟨p, loose, mean, mg, mb, env, outer, A₀, base, h₀, L, m, h1, h2, h3, h4, h5, h6, h7⟩ := C.ctx
      exact (h6 _ (.head _)).1
    have cn3 : s.heap.get? l = some (listOf #[] n) := by
      obtain ⟨p, loose, mean, mg, mb, env, outer, A₀, base, h₀, L, m, h1, h2, h3, h4, h5, h6, h7⟩ := C.ctx
      exact (h6 _ (.tail _ (.tail _ (.head _)))).1
    have hgE : ∀ b o, b ≠ x → b ≠ dx → b ≠ l → s.heap.get? b = some o → g.get? b = some o := fun b o h1 h2 h3 e => hg b o e (by simp [h1, h2, h3])
    obtain ⟨hh, hdp, hun, X, p, loose, mean, mg, mb, env, outer, A₀, base, hA, hf, hke, B, T⟩ := bd
    replace l1 := ltN l1
    replace l2 := ltN l2
    have l3 := ltN (Nat.lt_trans l1 l2)
    k_steps
    rename Fr _ _ _ _ => F9
    rename News _ _ _ _ => N9
    have n1 := N9 _ (.head _)
    have n2 := N9 _ (.tail _ (.head _))
    have n3 := N9 _ (.tail _ (.tail _ (.head _)))
    refine ⟨⟨_, F9⟩, hret _ _ _ _ _ (fun b o hb e => ?_) n2.1⟩
    by_cases hx : b = x
    · rw [hx, cn1] at e; cases e; rw [hx]; exact n1.1
    · by_cases hl : b = l
      · rw [hl, cn3] at e; cases e; rw [hl]; exact n3.1
      · exact F9.keep b o (hgE b o hx hb hl e)
theorem make_c (w : World) (l : Addr) (n : Nat) {A : Around} {s : Shared} {Q E : Value → Shared → Prop} {g : Heap} {L : Addr} {m : Str → Option Value} {nw : List (Addr × Obj)} (F : Fr g L s.heap m) (N : News g L s.heap ((l, listOf #[] n) :: nw)) (bd : Bd w A g L 3 16)
    (hret : ∀ h' tk' x dx hs tkx nx, Fr g L h' m → News g L h' ((x, instObj 175 dx) :: (dx, dictOf [⟨hs, .str (Str.ofString "_headers") tkx, .ref l⟩] nx) :: (l, listOf #[] n) :: nw) → l < dx → dx < x → Q (.ref x) { s with heap := h', toks := tk' }) :
    wpAny (MO w) A (call (.ref 175) [.ref l]) Q E s := by
  obtain ⟨hh, hdp, hun, X, p, loose, mean, mg, mb, env, outer, A₀, base, hA, hf, hke, B, T⟩ := bd
  refine' call_cls F X N ?k4 ?k5 ?k6 ?_
  case k4 => k_is
  case k5 => k_is
  case k6 => k_is
  intro x dx h' F' N' l1 l2
  have l3 := l1 _ (.head _)
  have n1 := N' _ (.head _)
  have n2 := N' _ (.tail _ (.head _))
  have n3 := N' _ (.tail _ (.tail _ (.head _)))
  refine init_c w x dx l n ⟨hh, ?_, ?_, p, loose, mean, mg, mb, env, outer, A₀, base, g, L, m, ?_, hf, hke, B, F', ?_, X, T⟩ l3 l2 fun h2 tk2 hs tkx nx hk hd => ⟨rfl, ?_⟩
  · have hw : (Code.builtin "type.__call__" { pos := [Value.ref 175, Value.ref l] }).weight = 1 := by rfl
    show A.depth + (Code.builtin "type.__call__" { pos := [Value.ref 175, Value.ref l] }).weight + 2 < _; omega
  · show A.units + 1 + 8 < _; omega
  · exact hA
  · intro p hp
    rcases List.mem_cons.mp hp with rfl | hp
    · exact n1
    · rcases List.mem_cons.mp hp with rfl | hp
      · exact n2
      · rw [List.mem_singleton.mp hp]; exact n3
  · have hdx : dx ≠ L := n2.2.1
    refine hret h2 tk2 x dx hs tkx nx ⟨F'.ns.at' fun o e => hk _ o (Ne.symm hdx) e, fun b o e => hk b o (fun q => by have := n2.2.2; rw [← q, e] at this; cases this) (F'.keep b o e), F'.above⟩ (fun p hp => ?_) l3 l2
    rcases List.mem_cons.mp hp with rfl | hp
    · exact ⟨hk _ _ (Nat.ne_of_gt l2) n1.1, n1.2⟩
    · rcases List.mem_cons.mp hp with rfl | hp
      · exact ⟨hd, n2.2⟩
      · have np := N' p (.tail _ (.tail _ hp))
        exact ⟨hk _ _ (Nat.ne_of_lt (l1 p hp)) np.1, np.2⟩
end

-- Loops3
section
section
variable {w : World} {A : Around} {env : Env} {target iter : Expr} {body : List Stmt} {pos : Pos} {G : Gs} {s₁ : Shared} {n : Nat} {P : Nat → Value → Heap → Prop}
theorem for_core2 {s : Shared} {I : Addr} {fp wr : List Addr} {Md : Nat → Value → Heap → Prop} {St : Nat → Heap → Prop} {R : Result → Shared → Prop}
    (W : KTurns PySem.Challenge.rw_pk0113_01.row.prog w A target I fp wr n P Md St) (hal : ∀ i h, St i h → ∀ b ∈ wr, ∃ o, h.get? b = some o ∧ okc o = false) (hst : St 0 s.heap) (Inv : Nat → Shared → Prop)
    (hstab : ∀ i (s : Shared) h' tk, Inv i s → (∀ b o, b ∉ wr → s.heap.get? b = some o → h'.get? b = some o) → Inv i { s with heap := h', toks := tk }) (hI : Inv 0 s)
    (turn : ∀ i v (s₂ : Shared), i < n → Inv i s₂ → P i v s₂.heap → (∀ b ∈ wr, ∃ o, s₂.heap.get? b = some o ∧ okc o = false) → wpAny (MO w) A (assign target env v) (fun _ s₃ => wpAny (MO w) A (execs body env) (fun fl s₄ => match fl with
      | .ret v => R (.ok (.ret v)) s₄
      | .brk => R (.ok .next) s₄
      | _ => Inv (i + 1) s₄ ∧ ∀ b ∈ fp, ∀ o, s₂.heap.get? b = some o → s₄.heap.get? b = some o) (fun _ _ => False) s₃) (fun _ _ => False) s₂)
    (hdone : ∀ s₂, Inv n s₂ → R (.ok .next) s₂) : codeAny (MO w) A (.forLoop target (.ref I) body [] env) R s := by
  refine codeAny_forLoop_any (fun k s' => ∃ i, i ≤ n ∧ k = n + 1 - i ∧ St i s'.heap ∧ Inv i s') ?_ (n + 1) ⟨0, Nat.zero_le _, rfl, hst, hI⟩
  rintro k s' ⟨i, hi, rfl, hst', hI'⟩
  by_cases hlt : i < n
  · refine W.item i _ _ _ hlt hst' fun v h₃ tk₃ hMd hk₃ => ?_
    refine W.go i v _ _ _ hMd fun h₄ hP hst₄ hk₄ => ?_
    refine wpAny_mono (turn i v { s' with heap := h₄, toks := tk₃ } hlt (hstab i s' h₄ tk₃ hI' fun b o hb e => hk₄ b o hb (hk₃ b o hb e)) hP (hal _ _ hst₄)) (fun _ s₃ h₃ => wpAny_mono h₃ (fun fl s₄ h₄ => ?_) fun _ _ x => x.elim) fun _ _ x => x.elim
    cases fl with
    | ret v => exact h₄
    | brk => exact h₄
    | next => exact ⟨n + 1 - (i + 1), by omega, i + 1, hlt, rfl, W.frame _ _ _ hst₄ h₄.2, h₄.1⟩
    | cont => exact ⟨n + 1 - (i + 1), by omega, i + 1, hlt, rfl, W.frame _ _ _ hst₄ h₄.2, h₄.1⟩
  · obtain rfl : i = n := Nat.le_antisymm hi (Nat.not_lt.mp hlt)
    exact W.done _ _ _ hst' fun h₃ tk₃ hk₃ => wpAny_execs_nil (hdone _ (hstab i s' h₃ tk₃ hI' hk₃))

noncomputable def ForAt2 (w : World) (A : Around) (env : Env) (target : Expr) (body : List Stmt) (Q : Flow → Shared → Prop) (xv : Value) (s' : Shared) : Prop :=
  ∃ (s₁ : Shared) (G : Gs) (n : Nat) (P : Nat → Value → Heap → Prop), Itb w A target G s₁ s' xv n P ∧
      ∀ I h₂ tk₂ fp wr St, Itr w A target G s₁.heap h₂ I n P fp wr St → ∃ Inv : Nat → Shared → Prop,
        (∀ i (s : Shared) h' tk, Inv i s → (∀ b o, b ∉ wr → s.heap.get? b = some o → h'.get? b = some o) → Inv i { s with heap := h', toks := tk }) ∧ Inv 0 { s₁ with heap := h₂, toks := tk₂ } ∧
        (∀ i v (s₂ : Shared), i < n → Inv i s₂ → P i v s₂.heap → (∀ b ∈ wr, ∃ o, s₂.heap.get? b = some o ∧ okc o = false) → wpAny (MO w) A (assign target env v) (fun _ s₃ => wpAny (MO w) A (execs body env) (ForPost Q Inv i fp s₂) (fun _ _ => False) s₃) (fun _ _ => False) s₂) ∧
        ∀ s₂, Inv n s₂ → Q .next s₂
theorem for_rule2 {E : Value → Shared → Prop} {Q : Flow → Shared → Prop} {s : Shared}
    (h : wpAny (MO w) A (eval iter env) (ForAt2 w A env target body Q) E s)
    (hs : ∀ x, foldedSetIterable iter env x = pure x := by intro _; rfl) :
    wpAny (MO w) A (exec (.For target iter body [] pos) env) Q E s := by
  refine wpAny_For (wpAny_mono h (fun xv s' h₁ => ?_) fun _ _ e => e) hs
  obtain ⟨s₁, G, n, P, hI, hr⟩ := h₁
  refine hI _ _ fun I h₂ tk₂ fp wr St T => ?_
  obtain ⟨Inv, h1, h2, h3, h4⟩ := hr I h₂ tk₂ fp wr St T
  obtain ⟨Md, W⟩ := T.turns
  exact for_core2 (R := fun r s' => match r with | .ok f => Q f s' | .error e => cameBackBy (MO w) A env E e s') W T.alive T.st Inv h1 h2 (fun i v s₂ a b c d => wpAny_mono (h3 i v s₂ a b c d) (fun _ s₃ x => wpAny_mono x (fun fl s₄ y => by cases fl <;> exact y) fun _ _ z => z) fun _ _ z => z) h4
end
end

-- Own
section
noncomputable def Gn (G : Gs) (nw : List (Addr × Obj)) : Gs := fun b o => (G b o ∨ (b, o) ∈ nw) ∧ okc o = true
theorem Gn.sub {G : Gs} {g h : Heap} {L : Addr} {m : Str → Option Value} {nw : List (Addr × Obj)} (hG : Sub G g) (F : Fr g L h m) (N : News g L h nw) : Sub (Gn G nw) h := fun b o e => e.1.elim (fun e => F.keep b o (hG _ _ e)) fun e => (N _ e).1
theorem Gn.off {G : Gs} {g h : Heap} {L : Addr} {m : Str → Option Value} {nw : List (Addr × Obj)} (hG : Sub G g) (F : Fr g L h m) (N : News g L h nw) : ∀ o, ¬ Gn G nw L o := fun o e => by
  rcases e.1 with e | e
  · have := hG _ _ e; rw [Fr.g_L F] at this; cases this
  · exact (N _ e).2.1 rfl
theorem Gn.le {G : Gs} {nw nw' : List (Addr × Obj)} (h : ∀ p ∈ nw, p ∈ nw') : Le (Gn G nw) (Gn G nw') := fun _ _ e => ⟨e.1.elim .inl fun e => .inr (h _ e), e.2⟩
theorem Gn.filter {G : Gs} {nw : List (Addr × Obj)} : Gn G (nw.filter fun p => okc p.2) = Gn G nw := by
  funext b o
  simp only [Gn, List.mem_filter, eq_iff_iff]
  constructor
  · rintro ⟨h | h, k⟩
    · exact ⟨.inl h, k⟩
    · exact ⟨.inr h.1, k⟩
  · rintro ⟨h | h, k⟩
    · exact ⟨.inl h, k⟩
    · exact ⟨.inr ⟨h, k⟩, k⟩
theorem Sub.off {G : Gs} {g h : Heap} {L : Addr} {m : Str → Option Value} (hG : Sub G g) (F : Fr g L h m) : ∀ o, ¬ G L o := fun o e => by have := hG _ _ e; rw [Fr.g_L F] at this; cases this
noncomputable def Ok (G : Gs) : Gs := fun b o => G b o ∧ okc o = true
theorem Gn.base {G : Gs} {nw : List (Addr × Obj)} : Le (Ok G) (Gn G nw) := fun b o e => ⟨.inl e.1, e.2⟩
theorem Gn.ret {G : Gs} {sh g h : Heap} {L : Addr} {nw : List (Addr × Obj)} (hx : Ext sh g) (N : News g L h nw) : Le (Gn G nw) (More G sh h) := fun b o e => e.1.elim .inl fun e => .inr ⟨ext_none hx (N _ e).2.2, (N _ e).1⟩
theorem Gn.new {G : Gs} {g : Heap} {nw : List (Addr × Obj)} {b : Addr} {o : Obj} (hG : Sub G g) (e : Gn G nw b o) (h : g.get? b = none) : (b, o) ∈ nw := e.1.elim (fun e => by rw [hG _ _ e] at h; cases h) id
noncomputable def okd (o : Obj) : Bool := okc o && (match o.data with | .cell _ => false | _ => true)
theorem okd.okc {o : Obj} (h : okd o = true) : okc o = true := (Bool.and_eq_true _ _ ▸ h : _ ∧ _).1
theorem okd.nc {o : Obj} {v : Option Value} (h : okd o = true) (hd : o.data = .cell v) : False := by
  have := (Bool.and_eq_true _ _ ▸ h : _ ∧ _).2
  rw [hd] at this; cases this
noncomputable def Fin' (R : Gs → Prop) : Prop := ∀ G, R G → ∃ as : List Addr, ∀ G', (∀ b ∈ as, ∀ o, G b o → okd o = true → G' b o) → R G'
theorem Fin'.mono {R : Gs → Prop} (f : Fin' R) {G G' : Gs} (h : Le G G') (r : R G) : R G' := let ⟨_, k⟩ := f G r; k G' fun b _ o e _ => h b o e
theorem Fin'.ok {R : Gs → Prop} (f : Fin' R) {G : Gs} (r : R G) : R (Ok G) := let ⟨_, k⟩ := f G r; k _ fun _ _ _ e c => ⟨e, okd.okc c⟩
theorem Fin'.gn {R : Gs → Prop} (f : Fin' R) {G : Gs} {nw : List (Addr × Obj)} (r : R G) : R (Gn G nw) := f.mono Gn.base (f.ok r)
theorem own_ex2 {G₀ : Gs} {g h : Heap} {L : Addr} {m : Str → Option Value} {nw : List (Addr × Obj)} {G : Gs} {R : Gs → Prop} (hG₀ : Sub G₀ g) (F : Fr g L h m) (hs : Sub G h) (hL : ∀ b o, G b o → Gn G₀ nw b o ∨ g.get? b = none ∧ b ≠ L) (fin : Fin' R) (r : R G) :
    ∃ nw', News g L h nw' ∧ (∀ p ∈ nw', G p.1 p.2) ∧ R (Gn G₀ (nw' ++ nw)) := by
  obtain ⟨as, h1⟩ := fin G r
  refine ⟨(ownOf g (as.filter (· ≠ L)) h).filter fun p => @decide (G p.1 p.2) (Classical.propDecidable _), fun p hp => ?_, fun p hp => ?_, h1 _ fun b hb o e hc => ⟨?_, okd.okc hc⟩⟩
  · exact news_ownOf (by simp) p (List.mem_filter.mp hp).1
  · exact @of_decide_eq_true _ (Classical.propDecidable _) (List.mem_filter.mp hp).2
  have hh := hs b o e
  rcases hL b o e with q | ⟨hg, hbL⟩
  · exact q.1.elim .inl fun e => .inr (List.mem_append_right _ e)
  · refine .inr (List.mem_append_left _ (List.mem_filter.mpr ⟨mem_ownOf ?_ hg hh, @decide_eq_true _ (Classical.propDecidable _) e⟩))
    simp [hb, hbL]
theorem own_ex {G₀ : Gs} {g h : Heap} {L : Addr} {m : Str → Option Value} {nw : List (Addr × Obj)} {G : Gs} {R : Gs → Prop} (hG₀ : Sub G₀ g) (F : Fr g L h m) (N : News g L h nw) (hs : Sub G h) (hL : ∀ b o, G b o → Gn G₀ nw b o ∨ g.get? b = none ∧ b ≠ L) (fin : Fin' R) (r : R G) :
    ∃ nw', News g L h (nw' ++ nw) ∧ R (Gn G₀ (nw' ++ nw)) := let ⟨nw', h1, _, h2⟩ := own_ex2 (nw := nw) hG₀ F hs hL fin r; ⟨nw', News.append h1 N, h2⟩
theorem Fin'.and {R S : Gs → Prop} (h1 : Fin' R) (h2 : Fin' S) : Fin' (fun G => R G ∧ S G) := fun G r => by
  obtain ⟨as, ha⟩ := h1 G r.1
  obtain ⟨bs, hb⟩ := h2 G r.2
  exact ⟨as ++ bs, fun G' k => ⟨ha G' fun b hb => k b (List.mem_append_left _ hb), hb G' fun b hb => k b (List.mem_append_right _ hb)⟩⟩
theorem Fin'.ex {α : Sort _} {R : α → Gs → Prop} (h : ∀ a, Fin' (R a)) : Fin' (fun G => ∃ a, R a G) := fun G ⟨a, r⟩ => let ⟨as, ha⟩ := h a G r; ⟨as, fun G' k => ⟨a, ha G' k⟩⟩
theorem okc_list {o : Obj} (h : o.cls = .type "list") : okc o = true := by unfold okc; rw [h]; split <;> rfl
theorem okc_tuple {o : Obj} (h : o.cls = .type "tuple") : okc o = true := by unfold okc; rw [h]; split <;> rfl
theorem okc_cell {o : Obj} {v : Option Value} (h : o.data = .cell v) : okc o = true := by unfold okc; rw [h]
theorem okd_list {o : Obj} {vs : Array Value} {n : Nat} (h : o.cls = .type "list") (h' : o.data = .seq vs n) : okd o = true := by unfold okd; rw [okc_list h, h']; rfl
theorem okd_tuple {o : Obj} {vs : Array Value} {n : Nat} (h : o.cls = .type "tuple") (h' : o.data = .seq vs n) : okd o = true := by unfold okd; rw [okc_tuple h, h']; rfl
theorem Fin'.lst {a : Addr} {vs : List Value} : Fin' (fun G => Lst G a vs) := fun G r => let ⟨o, n, h1, h2, h3⟩ := r; ⟨[a], fun _ k => ⟨o, n, k a (.head _) o h1 (okd_list h2 h3), h2, h3⟩⟩
theorem Fin'.tup {a : Addr} {vs : List Value} : Fin' (fun G => Tup G a vs) := fun G r => let ⟨o, n, h1, h2, h3⟩ := r; ⟨[a], fun _ k => ⟨o, n, k a (.head _) o h1 (okd_tuple h2 h3), h2, h3⟩⟩
theorem Fin'.part {R : Gs → Prop} {p : Addr → Prop} (h : Fin' R) : Fin' (fun G => R fun b o => p b ∧ G b o) := fun G r => let ⟨as, ha⟩ := h _ r; ⟨as, fun G' k => ha _ fun b hb o e c => ⟨e.1, k b hb o e.2 c⟩⟩
theorem Fin'.triv {p : Prop} : Fin' (fun _ => p) := fun _ r => ⟨[], fun _ _ => r⟩
theorem Fin'.at {a : Addr} {o : Obj} (hc : okd o = true) : Fin' (fun G => G a o) := fun _ r => ⟨[a], fun _ k => k a (.head _) o r hc⟩
mutual
theorem Rd.fin : ∀ (d : PyData) (v : Value), Fin' (fun G => Rd G d v)
  | .none, _ => fun _ h => ⟨[], fun _ _ => h⟩
  | .bool _, _ => fun _ h => ⟨[], fun _ _ => h⟩
  | .int _, _ => fun _ h => ⟨[], fun _ _ => h⟩
  | .str _, _ => fun _ h => ⟨[], fun _ _ => h⟩
  | .list ds, _ => fun G h => by
    obtain ⟨a, vs, h1, h2, h3⟩ := h
    obtain ⟨as, ha⟩ := Fin'.and Fin'.lst (RdL.fin ds vs) G ⟨h2, h3⟩
    exact ⟨as, fun G' k => ⟨a, vs, h1, (ha G' k).1, (ha G' k).2⟩⟩
  | .tuple ds, _ => fun G h => by
    obtain ⟨a, vs, h1, h2, h3⟩ := h
    obtain ⟨as, ha⟩ := Fin'.and Fin'.tup (RdL.fin ds vs) G ⟨h2, h3⟩
    exact ⟨as, fun G' k => ⟨a, vs, h1, (ha G' k).1, (ha G' k).2⟩⟩
  | .dict _, _ => fun _ h => ⟨[], fun _ _ => h⟩
theorem RdL.fin : ∀ (ds : List PyData) (vs : List Value), Fin' (fun G => RdL G ds vs)
  | [], _ => fun _ h => ⟨[], fun _ _ => h⟩
  | d :: ds, _ => fun G h => by
    obtain ⟨v, r, h1, h2, h3⟩ := h
    obtain ⟨as, ha⟩ := Fin'.and (Rd.fin d v) (RdL.fin ds r) G ⟨h2, h3⟩
    exact ⟨as, fun G' k => ⟨v, r, h1, (ha G' k).1, (ha G' k).2⟩⟩
end
theorem Paired.fin {ε : Type} {Ro : Gs → Value → ε → Prop} (h : ∀ y e, Fin' (fun G => Ro G y e)) (ys : List Value) (es : List ε) : Fin' (fun G => Paired (Ro G) ys es) := fun G r => by
  induction r with
  | nil => exact ⟨[], fun _ _ => .nil⟩
  | cons a b ih =>
    obtain ⟨as, ha⟩ := h _ _ G a
    obtain ⟨bs, hb⟩ := ih
    exact ⟨as ++ bs, fun G' k => .cons (ha G' fun b hb => k b (List.mem_append_left _ hb)) (hb G' fun b hb => k b (List.mem_append_right _ hb))⟩
theorem Fin'.cell {R : Gs → Prop} (f : Fin' R) {G : Gs} {g h : Heap} {L c : Addr} {nw : List (Addr × Obj)} {o o' : Obj} {v : Option Value} (N : News g L h nw) (hm : (c, o) ∈ nw) (hd : o.data = .cell v) (r : R (Gn G nw)) : R (Gn G ((c, o') :: nw.filter fun p => decide (p.1 ≠ c))) := by
  obtain ⟨as, k⟩ := f _ r
  refine k _ fun b _ o₂ e hc => ⟨e.1.elim .inl fun e => .inr (List.mem_cons_of_mem _ (List.mem_filter.mpr ⟨e, decide_eq_true fun q => ?_⟩)), e.2⟩
  have h1 := (N _ e).1
  have h2 := (N _ hm).1
  have q' : b = c := q
  dsimp only at h1 h2
  rw [q', h2] at h1
  cases h1
  exact okd.nc hc hd
theorem call_own {G₀ : Gs} {g h h' : Heap} {L : Addr} {m : Str → Option Value} {nw : List (Addr × Obj)} {R : Gs → Prop} (hG₀ : Sub G₀ g) (F : Fr g L h m) (N : News g L h nw) (hx : Ext h h') (fin : Fin' R) (r : R (More (Gn G₀ nw) h h')) :
    ∃ nw', Fr g L h' m ∧ News g L h' (nw' ++ nw) ∧ R (Gn G₀ (nw' ++ nw)) := by
  suffices hh : ∃ nw', News g L h' (nw' ++ nw) ∧ R (Gn G₀ (nw' ++ nw)) from let ⟨nw', h1, h2⟩ := hh; ⟨nw', Fr.keeps F hx, h1, h2⟩
  refine own_ex hG₀ (Fr.keeps F hx) (News.grown N hx) (Sub.more (Gn.sub hG₀ F N) hx) (fun b o e => ?_) fin r
  · rcases e with e | e
    · exact .inl e
    · refine .inr ⟨ext_none F.keep e.1, fun q => ?_⟩
      obtain ⟨o', e'⟩ := Fr.get_L F
      rw [q, e'] at e; cases e.1
noncomputable def LedPost (G₀ : Gs) (g : Heap) (L : Addr) (Inv : Nat → (Str → Option Value) → Gs → Prop) (Q : Flow → Shared → Prop) (i : Nat) (own : List (Addr × Obj)) (s₁ : Shared) (fl : Flow) (s₄ : Shared) : Prop := match fl with
  | .ret v => Q (.ret v) s₄
  | .brk => Q .next s₄
  | _ => ∃ h tk m nw, s₄ = { s₁ with heap := h, toks := tk } ∧ Inv (i + 1) m (Gn G₀ nw) ∧ Fr g L h m ∧ News g L h nw ∧ ∀ p ∈ own, h.get? p.1 = some p.2
theorem LedPost.nx {G₀ : Gs} {g h : Heap} {L : Addr} {Inv : Nat → (Str → Option Value) → Gs → Prop} {Q : Flow → Shared → Prop} {i tk : Nat} {own nw : List (Addr × Obj)} {s₁ : Shared} {m : Str → Option Value}
    (F : Fr g L h m) (N : News g L h nw) (ho : ∀ p ∈ own, h.get? p.1 = some p.2) (hI : Inv (i + 1) m (Gn G₀ nw)) : LedPost G₀ g L Inv Q i own s₁ .next { s₁ with heap := h, toks := tk } := ⟨h, tk, m, nw, rfl, hI, F, N, ho⟩
theorem for_led {w : World} {A : Around} {env : Env} {target : Expr} {body : List Stmt} {G₀ : Gs} {g : Heap} {nw₀ : List (Addr × Obj)} {m₀ : Str → Option Value} {G : Gs} {s₁ s' : Shared} {xv : Value} {n : Nat} {P : Nat → Value → Heap → Prop} {Q : Flow → Shared → Prop}
    (Inv : Nat → (Str → Option Value) → Gs → Prop) (F : Fr g env.locals s₁.heap m₀) (N : News g env.locals s₁.heap nw₀) (hGL : ∀ o, ¬ G env.locals o) (I : Itb w A target G s₁ s' xv n P) (h0 : Inv 0 m₀ (Gn G₀ nw₀))
    (turn : ∀ i v h tk m nw own, i < n → Inv i m (Gn G₀ nw) → Fr g env.locals h m → News g env.locals h (nw ++ own) → (∀ p ∈ own, s₁.heap.get? p.1 = none ∨ ∃ o, G p.1 o) → P i v h →
      wpAny (MO w) A (assign target env v) (fun _ s₃ => wpAny (MO w) A (execs body env) (LedPost G₀ g env.locals Inv Q i own s₁) (fun _ _ => False) s₃) (fun _ _ => False) { s₁ with heap := h, toks := tk })
    (done : ∀ h tk m nw, Inv n m (Gn G₀ nw) → Fr g env.locals h m → News g env.locals h nw → Q .next { s₁ with heap := h, toks := tk }) :
    ForAt2 w A env target body Q xv s' := by
  refine ⟨s₁, G, n, P, I, fun I h₂ tk₂ fp wr St Ti => ⟨fun i s => ∃ h tk m nw, s = { s₁ with heap := h, toks := tk } ∧ Inv i m (Gn G₀ nw) ∧ Fr g env.locals h m ∧ News g env.locals h nw ∧ ∀ p ∈ nw, p.1 ∉ wr, ?_, ?_, ?_, ?_⟩⟩
  · rintro i s h' tk' ⟨h, tk, m, nw, rfl, hI, F', N', hw⟩ k
    exact ⟨h', tk', m, nw, rfl, hI, Fr.wr F' F Ti.new k, fun p hp => ⟨k _ _ (hw p hp) (N' p hp).1, (N' p hp).2⟩, hw⟩
  · exact ⟨h₂, tk₂, m₀, nw₀, rfl, h0, Fr.keeps F Ti.ext, News.grown N Ti.ext, fun p hp q => by have := (N p hp).1; rw [Ti.new _ q] at this; cases this⟩
  · rintro i v s₂ hi ⟨h, tk, m, nw, rfl, hI, F', N', hw⟩ hP hal
    obtain ⟨Md, W⟩ := Ti.turns
    have hLf : env.locals ∉ fp := fun q => by
      rcases Ti.src _ q with e | ⟨o, e⟩
      · obtain ⟨o, e'⟩ := Fr.get_L F; rw [e] at e'; cases e'
      · exact hGL o e
    refine wpAny_mono (turn i v h tk m nw (PyProof.Rows.ownOf g fp h) hi hI F' (News.append N' (news_ownOf hLf)) (fun p hp => Ti.src _ (ownOf_sub p hp)) hP) (fun _ s₃ x => wpAny_mono x (fun fl s₄ y => ?_) fun _ _ z => z) fun _ _ z => z
    have key : (∃ h₄ tk m nw, s₄ = { s₁ with heap := h₄, toks := tk } ∧ Inv (i + 1) m (Gn G₀ nw) ∧ Fr g env.locals h₄ m ∧ News g env.locals h₄ nw ∧ ∀ p ∈ PyProof.Rows.ownOf g fp h, h₄.get? p.1 = some p.2) →
        (∃ h₄ tk m nw, s₄ = { s₁ with heap := h₄, toks := tk } ∧ Inv (i + 1) m (Gn G₀ nw) ∧ Fr g env.locals h₄ m ∧ News g env.locals h₄ nw ∧ ∀ p ∈ nw, p.1 ∉ wr) ∧ ∀ b ∈ fp, ∀ o, h.get? b = some o → s₄.heap.get? b = some o := by
      rintro ⟨h₄, tk₄, m₄, nw₄, rfl, hI₄, F₄, N₄, ho⟩
      have kept : ∀ b ∈ fp, ∀ o, h.get? b = some o → h₄.get? b = some o := fun b hb o e => by
        cases hg : g.get? b with
        | some o' =>
          have := F'.keep b o' hg
          rw [e] at this; cases this
          exact F₄.keep b o hg
        | none => exact ho _ (mem_ownOf hb hg e)
      refine ⟨⟨h₄, tk₄, m₄, nw₄.filter fun p => okc p.2, rfl, (by rw [Gn.filter]; exact hI₄), F₄, fun p hp => N₄ p (List.mem_filter.mp hp).1, fun p hp q => ?_⟩, kept⟩
      obtain ⟨o, ho1, ho2⟩ := hal _ q
      have h1 := kept _ (W.sub _ q) o ho1
      have h2 := (N₄ p (List.mem_filter.mp hp).1).1
      rw [h1] at h2; cases h2
      have h3 := (List.mem_filter.mp hp).2
      rw [ho2] at h3; cases h3
    cases fl with
    | ret v => exact y
    | brk => exact y
    | next => exact key y
    | cont => exact key y
  · rintro s₂ ⟨h, tk, m, nw, rfl, hI, F', N', hw⟩
    exact done h tk m nw hI F' N'
open LCg in
theorem compF {w : World} {A : Around} {env : Env} {scope : Scope} {cl : List (Str × Addr)} {elt target : Expr} {ifs : List Expr} {y : Str} {Q : Flow → Shared → Prop} {xv : Value} {s' s₁ : Shared} {δ ε : Type} {P : Nat → Value → Heap → Prop} {ds : List δ} {pz : δ → Bool} {f : δ → ε} {Ro : Gs → Value → ε → Prop} {M : Nat → (Str → Option Value) → Prop}
    {G₀ : Gs} {g : Heap} {m : Str → Option Value} {nw : List (Addr × Obj)} (I : Itb w A target (Gn G₀ nw) s₁ s' xv ds.length P) (hG₀ : Sub G₀ g) (F : Fr g env.locals s₁.heap m) (N : News g env.locals s₁.heap nw) (K : Cmp w A env scope cl elt target ifs (Gn G₀ nw) s₁ P ds pz f Ro M) (fin : ∀ y e, Fin' (fun G => Ro G y e))
    (hQ : ∀ D h tk ys nw', Fr g env.locals h (fun z => if z = y then some (.ref D) else m z) → News g env.locals h ((D, lst ys) :: (nw' ++ nw)) → s₁.heap.get? D = none → ys.length ≤ ds.length → Lst (Gn G₀ ((D, lst ys) :: (nw' ++ nw))) D ys → Paired (Ro (Gn G₀ ((D, lst ys) :: (nw' ++ nw)))) ys ((ds.filter pz).map f) → Q .next { s₁ with heap := h, toks := tk }) :
    CompAtA w A env scope cl elt target ifs y Q xv s' := by
  refine ⟨s₁, δ, ε, Gn G₀ nw, P, ds, pz, f, Ro, M, m, I, K, F.ns, Gn.off hG₀ F N, fun D h tk ys G' hns hk hle hsub hGL hnew hD hDn hyl hP => ?_⟩
  have F' : Fr g env.locals h (fun z => if z = y then some (.ref D) else m z) := ⟨hns, fun b o e => hk b o (fun q => by rw [q, Fr.g_L F] at e; cases e) (F.keep b o e), F.above⟩
  have N' : News g env.locals h nw := fun p hp => ⟨hk _ _ (N p hp).2.1 (N p hp).1, (N p hp).2⟩
  obtain ⟨nw', h1, h2⟩ := own_ex hG₀ F' N' hsub (fun b o e => (hnew b o e).imp id fun e' => ⟨ext_none F.keep e', fun q => hGL o (q ▸ e)⟩) (Paired.fin fin _ _) hP
  refine hQ D h tk ys nw' F' (fun p hp => ?_) hDn hyl ⟨_, _, ⟨.inr (.head _), rfl⟩, rfl, rfl⟩ (Paired.le (fun a b x => K.mono _ _ _ _ (Gn.le fun p hp => List.mem_cons_of_mem _ hp) x) h2)
  rcases List.mem_cons.mp hp with rfl | hp
  · exact ⟨hsub _ _ hD, fun (q : D = env.locals) => hGL _ (q ▸ hD), ext_none F.keep hDn⟩
  · exact h1 p hp
open LCg in
theorem compV {w : World} {A : Around} {env : Env} {scope : Scope} {cl : List (Str × Addr)} {elt target : Expr} {ifs : List Expr} {Q : Value → Shared → Prop} {xv : Value} {s' s₁ : Shared} {δ ε : Type} {P : Nat → Value → Heap → Prop} {ds : List δ} {pz : δ → Bool} {f : δ → ε} {Ro : Gs → Value → ε → Prop} {M : Nat → (Str → Option Value) → Prop}
    {G₀ : Gs} {g : Heap} {L : Addr} {m : Str → Option Value} {nw : List (Addr × Obj)} (I : Itb w A target (Gn G₀ nw) s₁ s' xv ds.length P) (hG₀ : Sub G₀ g) (F : Fr g L s₁.heap m) (N : News g L s₁.heap nw) (K : Cmp w A env scope cl elt target ifs (Gn G₀ nw) s₁ P ds pz f Ro M) (fin : ∀ y e, Fin' (fun G => Ro G y e))
    (hQ : ∀ D h tk ys nw', Fr g L h m → News g L h ((D, lst ys) :: (nw' ++ nw)) → s₁.heap.get? D = none → ys.length ≤ ds.length → Lst (Gn G₀ ((D, lst ys) :: (nw' ++ nw))) D ys → Paired (Ro (Gn G₀ ((D, lst ys) :: (nw' ++ nw)))) ys ((ds.filter pz).map f) → Q (.ref D) { s₁ with heap := h, toks := tk }) :
    CompAt w A env scope cl elt target ifs Q xv s' := by
  refine ⟨s₁, δ, ε, Gn G₀ nw, P, ds, pz, f, Ro, M, I, K, fun D h tk ys hx hD0 hD hyl hP => ?_⟩
  obtain ⟨nw', F', h1, h2⟩ := call_own hG₀ F N hx (Paired.fin fin _ _) hP
  refine hQ D h tk ys nw' F' (fun p hp => ?_) hD0 hyl ⟨_, _, ⟨.inr (.head _), rfl⟩, rfl, rfl⟩ (Paired.le (fun a b x => K.mono _ _ _ _ (Gn.le fun p hp => List.mem_cons_of_mem _ hp) x) h2)
  rcases List.mem_cons.mp hp with rfl | hp
  · refine ⟨hD, fun (q : D = L) => ?_, ext_none F.keep hD0⟩
    obtain ⟨o, e⟩ := Fr.get_L F
    rw [← q, hD0] at e; cases e
  · exact h1 p hp
theorem enum_call {w : World} {A : Around} {s : Shared} {E Q : Value → Shared → Prop} {G : Gs} {a : Addr} {vs : List Value} (hh : A.handled = none) (hL : Lst G a vs) (hG : Sub G s.heap)
    (h : ∀ xv s', (∀ elts k p, Itb w A (.Tuple elts k p) G s s' xv vs.length (fun i v h => ∃ T t x, v = .ref T ∧ vs[i]? = some x ∧ IsTup h T #[.int i t, x])) → Q xv s') :
    wpAny (MO w) A (call (.type "enumerate") [.ref a]) Q E s := by
  have hn : s.heap.get? (s.heap.objs.size + 1) = none := by
    cases e : s.heap.get? (s.heap.objs.size + 1) with
    | none => rfl
    | some o => exact absurd (Heap.lt_size e) (Nat.not_lt.mpr (Nat.le_succ _))
  refine call_enumerate_list (hL.isList hG) fun h' h1 h2 _ hx => h _ _ fun elts k p => ?_
  exact itb_enum (s₀ := s) (s₁ := { s with heap := h' }) hh hL (hG.ext hx) h1 h2 ⟨h', s.toks, rfl⟩ hx hn (size_none _) hG
theorem itb_listN {w : World} {A : Around} {target : Expr} {G : Gs} {s₁ : Shared} {a : Addr} {vs : List Value} {n : Nat} (hh : A.handled = none) (hn : vs.length = n) (hL : Lst G a vs) (hG : Sub G s₁.heap) (ht : (∃ x p, target = .Name x p) ∨ ∃ e k p, target = .Tuple e k p) :
    Itb w A target G s₁ s₁ (.ref a) n (fun i v _ => vs[i]? = some v) := hn ▸ itb_list hh hL hG ht
theorem enum_callN {w : World} {A : Around} {s : Shared} {E Q : Value → Shared → Prop} {G : Gs} {a : Addr} {vs : List Value} {n : Nat} (hh : A.handled = none) (hn : vs.length = n) (hL : Lst G a vs) (hG : Sub G s.heap)
    (h : ∀ xv s', (∀ elts k p, Itb w A (.Tuple elts k p) G s s' xv n (fun i v h => ∃ T t x, v = .ref T ∧ vs[i]? = some x ∧ IsTup h T #[.int i t, x])) → Q xv s') :
    wpAny (MO w) A (call (.type "enumerate") [.ref a]) Q E s := enum_call hh hL hG (hn ▸ h)
end

-- Tab
section
theorem zoff13 : True := by w_top off; trivial
noncomputable def txt (l : List Nat) : Str := ⟨(l.map fun i => letters.getD i 97).toArray⟩
theorem join_foldl (e : Str) (he : e.cps = #[]) : ∀ (l : List Nat) (a : Array Nat), (l.map nmS).foldl (fun acc p => acc ++ e.cps ++ p.cps) a = a ++ (l.map fun i => letters.getD i 97).toArray
  | [], a => by simp
  | i :: l, a => by
    rw [List.map_cons, List.foldl_cons, join_foldl e he l]
    simp [he, nmS]
theorem join_nm (l : List Nat) : Txt.join (Str.ofString "") (l.map nmS) = txt l := by
  cases l with
  | nil => rfl
  | cons i l =>
    show (⟨(l.map nmS).foldl _ (nmS i).cps⟩ : Str) = _
    rw [join_foldl (Str.ofString "") rfl]
    simp [txt, nmS]
theorem clean_txt {l : List Nat} (h1 : 1 ≤ l.length) (h2 : l.length ≤ 1000) : Clean (txt l) := by
  refine ⟨by simpa [txt] using h1, by simp [txt]; omega, fun c hc => ?_⟩
  simp only [txt, List.mem_map] at hc
  obtain ⟨i, _, rfl⟩ := hc
  rw [List.getD_eq_getElem?_getD]
  cases h : letters[i]? with
  | none => decide
  | some c => exact List.mem_of_getElem? h
noncomputable def hueN (n : Int) : Nat := ((n.fdiv 4).fmod 4).toNat
noncomputable def greatN (n : Int) : Nat := ((n.fdiv 16).fmod 2).toNat
noncomputable def rowN (n : Int) : List Nat := (rowOf n).map Int.toNat
noncomputable def letN (n : Int) : Nat := hueN n + 4 * greatN n
noncomputable def stepE (es : List (Nat × Str)) (n : Int) : List (Nat × Str) :=
  if n.fmod 4 = 0 then (es.filter fun e => !decide (e.1 % 4 = letN n % 4)) ++ [(letN n, txt (rowN n))]
  else if n.fmod 4 = 1 then es ++ [(letN n, txt (rowN n))]
  else if n.fmod 4 = 2 then (match es.find? (fun e => decide (e.1 % 4 = letN n % 4)) with | some _ => es | none => es ++ [(letN n, txt (rowN n))])
  else es.filter fun e => !decide (e.1 % 4 = letN n % 4)
theorem hue_lt (n : Int) : hueN n < 4 := by
  have h1 := Int.fmod_lt_of_pos (n.fdiv 4) (by omega : (0:Int) < 4)
  have h2 := Int.fmod_nonneg_of_pos (n.fdiv 4) (by omega : (0:Int) < 4)
  unfold hueN; omega
theorem great_lt (n : Int) : greatN n < 2 := by
  have h1 := Int.fmod_lt_of_pos (n.fdiv 16) (by omega : (0:Int) < 2)
  have h2 := Int.fmod_nonneg_of_pos (n.fdiv 16) (by omega : (0:Int) < 2)
  unfold greatN; omega
theorem let_lt (n : Int) : letN n < 8 := by have := hue_lt n; have := great_lt n; unfold letN; omega
theorem stepE_lt {es : List (Nat × Str)} {n : Int} (h : ∀ e ∈ es, e.1 < 8) : ∀ e ∈ stepE es n, e.1 < 8 := by
  have hn := let_lt n
  intro e he
  unfold stepE at he
  split at he
  · rcases List.mem_append.mp he with he | he
    · exact h e (List.mem_filter.mp he).1
    · rw [List.mem_singleton.mp he]; exact hn
  · split at he
    · rcases List.mem_append.mp he with he | he
      · exact h e he
      · rw [List.mem_singleton.mp he]; exact hn
    · split at he
      · split at he
        · exact h e he
        · rcases List.mem_append.mp he with he | he
          · exact h e he
          · rw [List.mem_singleton.mp he]; exact hn
      · exact h e (List.mem_filter.mp he).1
theorem stepE_len (es : List (Nat × Str)) (n : Int) : (stepE es n).length ≤ es.length + 1 := by
  have h1 := List.length_filter_le (fun e : Nat × Str => !decide (e.1 % 4 = letN n % 4)) es
  unfold stepE
  split
  · rw [List.length_append]; simp only [List.length_cons, List.length_nil]; omega
  · split
    · simp
    · split
      · split
        · omega
        · simp
      · omega
theorem fold_lt : ∀ (ns : List Int) (es : List (Nat × Str)), (∀ e ∈ es, e.1 < 8) → ∀ e ∈ ns.foldl stepE es, e.1 < 8
  | [], _, h => h
  | _ :: ns, _, h => fold_lt ns _ (stepE_lt h)
theorem fold_len : ∀ (ns : List Int) (es : List (Nat × Str)), (ns.foldl stepE es).length ≤ es.length + ns.length
  | [], _ => Nat.le_refl _
  | n :: ns, es => by
    have := fold_len ns (stepE es n)
    have := stepE_len es n
    simp only [List.foldl_cons, List.length_cons]; omega
theorem row_le (n : Int) : ∀ r ∈ rowOf n, 0 ≤ r ∧ r < 8 := by
  intro r hr
  have := List.mem_of_mem_take hr
  simp only [List.mem_cons, List.not_mem_nil, or_false] at this
  rcases this with rfl | rfl | rfl <;> exact ⟨Int.fmod_nonneg_of_pos _ (by omega), Int.fmod_lt_of_pos _ (by omega)⟩
theorem row_len (n : Int) : 1 ≤ (rowOf n).length ∧ (rowOf n).length ≤ 3 := by
  have h2 := Int.fmod_nonneg_of_pos (n.fdiv 32) (by omega : (0:Int) < 3)
  unfold rowOf
  rw [List.length_take]
  simp only [List.length_cons, List.length_nil]
  omega
theorem item_nm : ∀ i : Nat, i < 8 → Txt.item (Str.ofString "abcdABCD") (i : Int) = nmS i := by
  have h : ∀ i : Fin 8, Txt.item (Str.ofString "abcdABCD") ((i.val : Nat) : Int) = nmS i.val := by decide
  exact fun i hi => h ⟨i, hi⟩
theorem item_let (n : Int) : Txt.item (Str.ofString "abcdABCD") ((n.fdiv 4).fmod 4 + 4 * (n.fdiv 16).fmod 2) = nmS (letN n) := by
  rw [← item_nm _ (let_lt n)]
  have h1 := Int.fmod_nonneg_of_pos (n.fdiv 4) (by omega : (0:Int) < 4)
  have h2 := Int.fmod_nonneg_of_pos (n.fdiv 16) (by omega : (0:Int) < 2)
  congr 1
  unfold letN hueN greatN
  omega
theorem sum_nm : ∀ l : List Nat, (((l.map nmS).map (·.length)).sum) = l.length
  | [] => rfl
  | i :: l => by
    have := sum_nm l
    simp only [List.map_cons, List.sum_cons, List.length_cons, this, nm_len]; omega
theorem StrsAre.of_paired {vs : List Value} {ys : List Str} (p : Paired (fun v y => ∃ t, v = Value.str y t) vs ys) : StrsAre vs ys := by
  induction p with
  | nil => exact .nil
  | cons x _ ih => obtain ⟨t, rfl⟩ := x; exact .cons _ _ ih
noncomputable def TabIs (x hl dx : Addr) (hs : Int) (tkx : Tok) (nx : Nat) (es : List (Nat × Str)) (G : Gs) : Prop :=
  ∃ vs n, G hl (listOf vs.toArray n) ∧ G x (instObj 175 dx) ∧ G dx (dictOf [⟨hs, .str (Str.ofString "_headers") tkx, .ref hl⟩] nx) ∧ RdL (fun b o => b ≠ hl ∧ G b o) (es.map entD) vs
theorem TabIs.fin {x hl dx : Addr} {hs : Int} {tkx : Tok} {nx : Nat} {es : List (Nat × Str)} : Fin' (TabIs x hl dx hs tkx nx es) :=
  Fin'.ex fun vs => Fin'.ex fun n => Fin'.and (Fin'.at rfl) (Fin'.and (Fin'.at rfl) (Fin'.and (Fin'.at rfl) (Fin'.part (RdL.fin _ _))))
theorem tab_next {G : Gs} {g h h' : Heap} {L x hl dx : Addr} {hs : Int} {tkx : Tok} {nx : Nat} {m : Str → Option Value} {nw own N9 : List (Addr × Obj)} {es' : List (Nat × Str)} {vs' : List Value} {n' : Nat} (hG : Sub G g) (F : Fr g L h m) (N : News g L h N9)
    (hnw : ∀ p ∈ nw, p ∈ N9) (hown : ∀ p ∈ own, p ∈ N9 ∧ p.1 ≠ hl) (hL : hl ≠ L) (hg : g.get? hl = none) (hx1 : x ≠ hl) (hx2 : dx ≠ hl) (i1 : (x, instObj 175 dx) ∈ nw) (i2 : (dx, dictOf [⟨hs, .str (Str.ofString "_headers") tkx, .ref hl⟩] nx) ∈ nw)
    (hk : ∀ b o, b ≠ hl → h.get? b = some o → h'.get? b = some o) (hl' : h'.get? hl = some (listOf vs'.toArray n')) (hR : RdL (fun b o => b ≠ hl ∧ More (fun b o => b ≠ hl ∧ Gn G nw b o) h h' b o) (es'.map entD) vs') :
    ∃ nw', Fr g L h' m ∧ News g L h' (nw' ++ own) ∧ TabIs x hl dx hs tkx nx es' (Gn G nw') := by
  have F' : Fr g L h' m := ⟨F.ns.at' fun o e => hk _ o (Ne.symm hL) e, fun b o e => hk b o (fun q => by rw [q, hg] at e; cases e) (F.keep b o e), F.above⟩
  have hGn := Gn.sub hG F (fun p hp => N p (hnw p hp))
  have k1 : Sub (fun b o => (b = hl ∧ o = listOf vs'.toArray n') ∨ (b ≠ hl ∧ More (fun b o => b ≠ hl ∧ Gn G nw b o) h h' b o)) h' := by
    rintro b o (⟨rfl, rfl⟩ | ⟨e1, e⟩)
    · exact hl'
    · rcases e with e | e
      · exact hk _ _ e1 (hGn _ _ e.2)
      · exact e.2
  have k2 : ∀ b o, ((b = hl ∧ o = listOf vs'.toArray n') ∨ (b ≠ hl ∧ More (fun b o => b ≠ hl ∧ Gn G nw b o) h h' b o)) → Gn G [] b o ∨ g.get? b = none ∧ b ≠ L := by
    rintro b o (⟨rfl, rfl⟩ | ⟨e1, e⟩)
    · exact .inr ⟨hg, hL⟩
    · rcases e with e | e
      · rcases e.2.1 with q | q
        · exact .inl ⟨.inl q, e.2.2⟩
        · exact .inr ⟨(N _ (hnw _ q)).2.2, (N _ (hnw _ q)).2.1⟩
      · refine .inr ⟨ext_none F.keep e.1, fun q => ?_⟩
        obtain ⟨o', e'⟩ := Fr.get_L F
        rw [q, e'] at e; cases e.1
  obtain ⟨nw', h1, _, h2⟩ := own_ex2 (nw := []) (R := TabIs x hl dx hs tkx nx es') hG F' k1 k2 TabIs.fin ⟨vs', n', .inl ⟨rfl, rfl⟩, .inr ⟨hx1, .inl ⟨hx1, .inr i1, rfl⟩⟩, .inr ⟨hx2, .inl ⟨hx2, .inr i2, rfl⟩⟩, RdL.mono (fun b o e => ⟨e.1, .inr e⟩) _ _ hR⟩
  rw [List.append_nil] at h2
  exact ⟨nw', F', News.append h1 fun p hp => ⟨hk _ _ (hown p hp).2 (N p (hown p hp).1).1, (N p (hown p hp).1).2⟩, h2⟩
local macro_rules | `(tactic| walk_at "eval Name") => `(tactic| (k_here; k_dflt refine ld (by k_asm) (by assumption) ?_))
local macro_rules | `(tactic| walk_at "exec For Tuple Name cons nil") => `(tactic| (refine Stop.out ?_))
local macro_rules | `(tactic| walk_at "call ref cons nil") => `(tactic| (refine Stop.out ?_))
local macro_rules | `(tactic| walk_at "call builtin:str.join cons nil") => `(tactic| (refine Stop.out ?_))

noncomputable def TbI (x hl dx : Addr) (hs : Int) (tkx : Tok) (nx : Nat) (ns : List Int) (i : Nat) (m : Str → Option Value) (G' : Gs) : Prop :=
  m (Str.ofString "table") = some (.ref x) ∧ TabIs x hl dx hs tkx nx ((ns.take i).foldl stepE []) G'
set_option maxHeartbeats 8000000 in
theorem tab_c (w : World) (a : Addr) (vs0 : List Value) (ns : List Int) (G : Gs) {A : Around} {s : Shared} {Q E : Value → Shared → Prop} (C : Can w A s.heap [] 5 60) (hG : Sub G s.heap) (hL : Lst G a vs0) (hR : RdL G (ns.map deedD) vs0) (hns : ns.length ≤ 11)
    (hret : ∀ (h' : Heap) (tk' : Nat) (x hl : Addr), Ext s.heap h' → Tb (More G s.heap h') x hl → Rd (More G s.heap h') (.list ((ns.foldl stepE []).map entD)) (.ref hl) → Q (.ref x) { s with heap := h', toks := tk' }) :
    wpAny (MO w) A (call (.ref 224) [.ref a]) Q E s := by
  refine wpAny_call ?_
  obtain ⟨hnd, dp, fr, gd, un⟩ := A
  obtain rfl : hnd = none := C.handled
  refine' enter (d := 4) (u := 56) (binds := [(Str.ofString "deeds", .ref a)]) C ?k1 ?k2 (BindsTo.of_eq ?k3) ?k4 ?k5 ?k6 ?k7 ?k8 ?k9
  case k1 => k_is
  case k2 => k_is
  case k3 => exact rfl
  case k4 => exact locs rfl
  case k6 => exact rfl
  case k7 => exact rfl
  case k8 => exact rfl
  case k9 => decide
  case k5 =>
    intro g L' h₁ hg bd F N
    have hgE : Ext s.heap g := fun b o e => hg b o e (by simp)
    have bd1 := bd.less (d' := 3) (u' := 16) (by decide) (by decide)
    have bd3 := bd.less (d' := 3) (u' := 40) (by decide) (by decide)
    obtain ⟨hh, hdp, hun, X, p, loose, mean, mg, mb, env, outer, A₀, base, hA, hf, hke, B, T⟩ := bd
    k_steps
    rename Fr _ _ _ _ => F1
    rename News _ _ _ _ => N1
    refine ⟨?_⟩
    refine make_c w _ _ F1 N1 bd1 fun h' tk' x dx hs tkx nx F' N' l1 l2 => ?_
    clear F1 N1
    k_steps
    refine ⟨?_⟩
    refine for_rule2 ?_
    k_steps
    rename Fr _ _ _ _ => F9
    rename News _ _ _ _ => N9
    have hGg : Sub G g := hG.ext hgE
    have hGh := hGg.ext F9.keep
    obtain ⟨m₀, hm₀, hmt⟩ : ∃ m₀, Fr g L' _ m₀ ∧ m₀ (Str.ofString "table") = some (.ref x) := ⟨_, F9, rfl⟩
    clear F9
    rename_i hl _ _ h0
    have hvl : vs0.length = ns.length := by have := RdL.length hR; rwa [List.length_map] at this
    have e1 := N9 _ (.head _)
    have e2 := N9 _ (.tail _ (.head _))
    have e3 := N9 _ (.tail _ (.tail _ (.head _)))
    have hxl : x ≠ hl := Nat.ne_of_gt (Nat.lt_trans l1 l2)
    have hdl : dx ≠ hl := Nat.ne_of_gt l1
    refine for_led (G := G) (G₀ := G) (TbI x hl dx hs tkx nx ns) hm₀ N9 (Sub.off hGg hm₀) (itb_list rfl hL hGh (.inr ⟨_, _, _, rfl⟩)) ⟨hmt, [], 0, ⟨.inr (.tail _ (.tail _ (.head _))), rfl⟩, ⟨.inr (.head _), rfl⟩, ⟨.inr (.tail _ (.head _)), rfl⟩, rfl⟩ ?_ ?_
    · rintro i v h tk m' nw own hi ⟨hm, vs, n, i3, i1, i2, hR'⟩ F2 N2 hown hv
      obtain ⟨d, hd1, hd2⟩ := RdL.get hR hv
      obtain ⟨nn, he1, rfl⟩ : ∃ e, ns[i]? = some e ∧ deedD e = d := by simpa using hd1
      obtain ⟨T, us, rfl, hTT, u1, r1, rfl, ⟨t1, rfl⟩, u2, r2, rfl, ⟨t2, rfl⟩, u3, r3, rfl, ⟨t3, rfl⟩, u4, r4, rfl, ⟨ra, rvs, rfl, hrl, hrr⟩, rfl⟩ := hd2
      replace i1 := Gn.new hGg i1 e1.2.2
      replace i2 := Gn.new hGg i2 e2.2.2
      replace i3 := Gn.new hGg i3 e3.2.2
      have hown' : ∀ p ∈ own, p.1 ≠ hl := fun p hp q => by
        rcases hown p hp with e | ⟨o, e⟩
        · have := e3.1; rw [q] at e; rw [e] at this; cases this
        · have := hGg _ _ e; rw [q] at this; rw [e3.2.2] at this; cases this
      have hi' : i < ns.length := by omega
      have hstep : (ns.take (i + 1)).foldl stepE [] = stepE ((ns.take i).foldl stepE []) nn := by
        rw [List.take_add_one, he1]; simp [List.foldl_append]
      have hlt : ∀ e ∈ (ns.take i).foldl stepE [], e.1 < 8 := fold_lt _ _ (fun e he => nomatch he)
      have hlen : ((ns.take i).foldl stepE []).length ≤ 1000 := by
        have := fold_len (ns.take i) []
        rw [List.length_take] at this
        simp only [List.length_nil] at this; omega
      have N3 : News g L' h ((x, instObj 175 dx) :: (dx, dictOf [⟨hs, .str (Str.ofString "_headers") tkx, .ref hl⟩] nx) :: (hl, listOf vs.toArray n) :: (nw ++ own)) := fun p hp => by
        rcases List.mem_cons.mp hp with rfl | hp
        · exact N2 _ (List.mem_append_left _ i1)
        · rcases List.mem_cons.mp hp with rfl | hp
          · exact N2 _ (List.mem_append_left _ i2)
          · rcases List.mem_cons.mp hp with rfl | hp
            · exact N2 _ (List.mem_append_left _ i3)
            · exact N2 _ hp
      clear N2
      refine assign4 rfl (hTT.isTup (hGg.ext F2.keep)) F2 N3 rfl rfl rfl rfl rfl fun h₃ tk₃ F3 N3 => ?_
      k_steps
      rename Fr _ _ _ _ => F5
      rename News _ _ _ _ => N5
      rw [item_let] at F5
      obtain ⟨m₁, F6, hmn, hmt, hmk⟩ : ∃ m₁, Fr g L' _ m₁ ∧ (∃ t, m₁ (Str.ofString "name") = some (.str (nmS (letN nn)) t)) ∧ m₁ (Str.ofString "table") = some (.ref x) ∧ m₁ (Str.ofString "kind") = some (.int (nn.fmod 4) t1) := ⟨_, F5, ⟨_, rfl⟩, hm, rfl⟩
      obtain ⟨tn, hmn⟩ := hmn
      clear F5
      have hG6 := hGg.ext F6.keep
      have hrv : rvs.length = (rowOf nn).length := by have := RdL.length hrr; rwa [List.length_map] at this
      have hrl3 := row_len nn
      refine ⟨_, Int, Str, G, _, rowOf nn, (fun _ => true), (fun r => nmS r.toNat), (fun _ v y => ∃ t, v = .str y t), (fun i m => ∃ v, rvs[i]? = some v ∧ m (Str.ofString "spot") = some v), hrv ▸ itb_list rfl hrl hG6 (.inl ⟨_, _, rfl⟩), ⟨hG6, ?_, fun _ _ _ _ _ h => h, ?_, ?_, ?_⟩, ?_⟩
      · rw [sizeLine_eq]; omega
      · intro i v C s₂ m₂ Q E hi hv hx hn hQ
        exact assign_name rfl rfl hn fun h₃ tk₃ m₃ hn₃ hm hk => hQ h₃ tk₃ m₃ hn₃ ⟨v, hv, hm⟩ hk
      · rintro i d C s₃ m₃ Q E hd ⟨v, hv, hm⟩ hn hx ⟨h3, tk3, rfl⟩ hQ
        exact wpAny_tests_nil (hQ _ _ Ext.rfl')
      · rintro i d C s₃ m₃ G' Q E hd hp ⟨v, hv, hm⟩ hn hx hle hsub ⟨h3, tk3, rfl⟩ hQ
        obtain ⟨d', hd', t', rfl⟩ : ∃ d', (rowOf nn)[i]? = some d' ∧ ∃ t, v = .int d' t := by
          obtain ⟨e, he, hv'⟩ := RdL.get hrr hv
          obtain ⟨e', he', rfl⟩ : ∃ e', (rowOf nn)[i]? = some e' ∧ PyData.int e' = e := by simpa using he
          exact ⟨e', he', hv'⟩
        rw [hd] at hd'; cases hd'
        obtain ⟨hr0, hr8⟩ := row_le nn d (List.mem_of_getElem? hd)
        k_steps
        have hid : Txt.item (Str.ofString "abcdABCD") d = nmS d.toNat := by
          have := item_nm d.toNat (by omega)
          rwa [Int.toNat_of_nonneg hr0] at this
        rw [hid]
        exact hQ _ _ _ Ext.rfl' ⟨_, rfl⟩
      · intro D h tk ys hx hD0 hD hyl hP
        have F7 := Fr.keeps F6 hx
        have N7 := News.grown N5 hx
        clear F6 N5
        k_steps
        have hst : StrsAre ys ((rowN nn).map nmS) := by
          have := StrsAre.of_paired hP
          rw [List.filter_eq_self.mpr (fun _ _ => rfl)] at this
          unfold rowN
          rwa [List.map_map]
        have hok : ((((rowN nn).map nmS).map (·.length)).sum + ((rowN nn).map nmS).length * (Str.ofString "").length ≤ 16777216) := by
          have e : ((((rowN nn).map nmS).map (·.length)).sum) = (rowN nn).length := sum_nm _
          rw [e, List.length_map]
          unfold rowN
          rw [List.length_map]
          show _ + _ * 0 ≤ _
          omega
        refine ⟨?_⟩
        refine join_list (items := ys.toArray) ⟨_, hD, rfl, _, rfl⟩ (by rw [List.toList_toArray]; exact hst) hok fun tj kj => ?_
        rw [join_nm]
        have hcl : Clean (txt (rowN nn)) := clean_txt (by unfold rowN; rw [List.length_map]; omega) (by unfold rowN; rw [List.length_map]; omega)
        have hel : (txt (rowN nn)).length ≤ 1000 := by
          show ((rowN nn).map _).toArray.size ≤ 1000
          rw [List.size_toArray, List.length_map]; unfold rowN; rw [List.length_map]; omega
        k_steps
        all_goals (rename Fr _ _ _ _ => FA; rename News _ _ _ _ => NA)
        all_goals have hGA := Gn.sub hGg FA (nw := nw) (fun p hp => NA p (by simp [hp]))
        all_goals have hTA : Tb (fun b o => b ≠ hl ∧ Gn G nw b o) x hl := ⟨dx, hs, tkx, nx, ⟨hxl, .inr i1, rfl⟩, ⟨hdl, .inr i2, rfl⟩⟩
        all_goals have hCA := (bd3.less (d' := 3) (u' := 24) (by decide) (by decide)).can FA (news := [(hl, listOf vs.toArray n)]) (fun p hp => by rw [List.mem_singleton.mp hp]; exact NA (hl, listOf vs.toArray n) (by simp [i3]))
        all_goals have hLA := (NA (hl, listOf vs.toArray n) (by simp [i3])).2
        · refine ⟨?_⟩
          refine set_c w x hl (letN nn) (let_lt nn) tn _ hcl _ _ vs n (fun b o => b ≠ hl ∧ Gn G nw b o) hCA (fun b o e => hGA b o e.2) (fun o e => e.1 rfl) hTA hR' hlt hlen fun h' tk' vs' n' hk hl' hR2 => ?_
          obtain ⟨nw', FB, NB, hTB⟩ := tab_next hGg FA NA (fun p hp => by simp [hp]) (fun p hp => ⟨by simp [hp], hown' p hp⟩) hLA.1 hLA.2 hxl hdl i1 i2 hk hl' hR2
          clear FA NA
          k_steps
          rename Fr _ _ _ _ => FC
          rename News _ _ _ _ => NC
          refine LedPost.nx (nw := nw') FC (fun p hp => NC p (List.mem_append_left _ hp)) (fun p hp => (NC p (List.mem_append_right _ hp)).1) ⟨hmt, ?_⟩
          rw [hstep, show stepE _ nn = _ from if_pos (by assumption)]; exact hTB
        · refine ⟨?_⟩
          refine add_c w x hl (letN nn) (let_lt nn) tn _ hcl hel _ _ vs n (fun b o => b ≠ hl ∧ Gn G nw b o) hCA (fun b o e => hGA b o e.2) (fun o e => e.1 rfl) hTA hR' hlt hlen fun h' tk' vs' n' hk hl' hR2 => ?_
          obtain ⟨nw', FB, NB, hTB⟩ := tab_next hGg FA NA (fun p hp => by simp [hp]) (fun p hp => ⟨by simp [hp], hown' p hp⟩) hLA.1 hLA.2 hxl hdl i1 i2 hk hl' hR2
          clear FA NA
          k_steps
          rename Fr _ _ _ _ => FC
          rename News _ _ _ _ => NC
          refine LedPost.nx (nw := nw') FC (fun p hp => NC p (List.mem_append_left _ hp)) (fun p hp => (NC p (List.mem_append_right _ hp)).1) ⟨hmt, ?_⟩
          rw [hstep, show stepE _ nn = _ from (if_neg (by assumption)).trans (if_pos (by assumption))]; exact hTB
        · refine ⟨?_⟩
          refine sd_c w x hl (letN nn) (let_lt nn) tn _ hcl _ _ vs n (fun b o => b ≠ hl ∧ Gn G nw b o) hCA (fun b o e => hGA b o e.2) (fun o e => e.1 rfl) hTA hR' hlt hlen fun v h' tk' vs' n' hv' hk hl' hR2 => ?_
          obtain ⟨nw', FB, NB, hTB⟩ := tab_next hGg FA NA (fun p hp => by simp [hp]) (fun p hp => ⟨by simp [hp], hown' p hp⟩) hLA.1 hLA.2 hxl hdl i1 i2 hk hl' hR2
          clear FA NA
          cases v
          all_goals try exact absurd rfl (hv' _)
          all_goals k_steps
          all_goals (rename Fr _ _ _ _ => FC; rename News _ _ _ _ => NC)
          all_goals refine LedPost.nx (nw := nw') FC (fun p hp => NC p (List.mem_append_left _ hp)) (fun p hp => (NC p (List.mem_append_right _ hp)).1) ⟨hmt, ?_⟩
          all_goals (rw [hstep, show stepE _ nn = _ from (if_neg (by assumption)).trans ((if_neg (by assumption)).trans (if_pos (by assumption)))]; exact hTB)
        · refine' delItem_own (od := some (dictOf [⟨hs, .str (Str.ofString "_headers") tkx, .ref hl⟩] nx)) (ox := instObj 175 dx) FA bd3.X ⟨(NA (x, instObj 175 dx) (by simp [i1])).1, rfl, rfl, (NA (dx, dictOf [⟨hs, .str (Str.ofString "_headers") tkx, .ref hl⟩] nx) (by simp [i2])).1⟩ ?k4 ?k5 ?k6 ?_
          case k4 => k_is
          case k5 => k_is
          case k6 => k_is
          refine del_c w x hl (letN nn) (let_lt nn) tn _ vs n (fun b o => b ≠ hl ∧ Gn G nw b o) (hCA.less (by decide) (by decide)) (fun b o e => hGA b o e.2) (fun o e => e.1 rfl) hTA hR' hlt hlen fun h' tk' vs' n' hk hl' hR2 => ?_
          obtain ⟨nw', FB, NB, hTB⟩ := tab_next hGg FA NA (fun p hp => by simp [hp]) (fun p hp => ⟨by simp [hp], hown' p hp⟩) hLA.1 hLA.2 hxl hdl i1 i2 hk hl' (RdL.mono (fun b o e => ⟨e.1, .inl e⟩) _ _ hR2)
          clear FA NA
          k_steps
          rename Fr _ _ _ _ => FC
          rename News _ _ _ _ => NC
          refine LedPost.nx (nw := nw') FC (fun p hp => NC p (List.mem_append_left _ hp)) (fun p hp => (NC p (List.mem_append_right _ hp)).1) ⟨hmt, ?_⟩
          rw [hstep, show stepE _ nn = _ from (if_neg (by assumption)).trans ((if_neg (by assumption)).trans (if_neg (by assumption)))]; exact hTB
    · rintro h tk m nw ⟨hm, vs, n, i3, i1, i2, hR'⟩ F2 N2
      dsimp only
      k_steps
      rename Fr _ _ _ _ => FC
      rename News _ _ _ _ => NC
      rw [List.take_of_length_le (by omega)] at hR'
      have k := Gn.ret (G := G) hgE NC
      exact ⟨⟨_, FC⟩, hret _ _ x hl (hgE.trans FC.keep) ⟨dx, hs, tkx, nx, k _ _ i1, k _ _ i2⟩ ⟨hl, vs, rfl, ⟨_, n, k _ _ i3, rfl, rfl⟩, RdL.mono (fun b o e => k _ _ e.2) _ _ hR'⟩⟩
end

-- Comp
section
theorem IsCell.ext' {h h' : Heap} {c : Addr} {v : Option Value} (x : h.IsCell c v) (k : Ext h h') : h'.IsCell c v := let ⟨o, e, r⟩ := x; ⟨o, k _ _ e, r⟩
noncomputable abbrev testsOf (cs : List Expr) (env : Env) : Sem Bool := forIn cs true fun c r => if r = true then do let ok ← isTrue c env (eval c env); pure (ForInStep.yield ok) else pure (ForInStep.yield r)
section
variable {w : World} {A : Around} {env : Env} {scope : Scope} {cl : List (Str × Addr)} {elt : Expr} {ifs : List Expr} {G : Gs} {s₁ : Shared} {δ ε : Type} {ds : List δ} {f : δ → ε} {Ro : Gs → Value → ε → Prop} {vs : List Value}
theorem cmp_list {x : Str} {p : Pos} {pz : δ → Bool} (R : δ → Value → Prop) (hrel : ∀ (i : Nat) (v : Value), vs[i]? = some v → ∃ d, ds[i]? = some d ∧ R d v) (hsub : Sub G s₁.heap) (hlen : ds.length ≤ 1000) (mono : ∀ G G' y e, Le G G' → Ro G y e → Ro G' y e) (hkind : scope.kind = .function) (hx : scope.names.lookup x = some .local)
    (tests : ∀ d v C h tk m (Q : Bool → Shared → Prop) (E : Value → Shared → Prop), R d v → m x = some v → h.Ns C m → Ext s₁.heap h → (∀ h' tk', Ext h h' → Q (pz d) { s₁ with heap := h', toks := tk' }) →
      wpAny (MO w) A (testsOf ifs (compEnvC scope cl C env)) Q E { s₁ with heap := h, toks := tk })
    (helt : ∀ d v C h tk m G' (Q : Value → Shared → Prop) (E : Value → Shared → Prop), R d v → pz d = true → m x = some v → h.Ns C m → Ext s₁.heap h → Le G G' → Sub G' h → (∀ y h' tk', Ext h h' → Ro (More G' h h') y (f d) → Q y { s₁ with heap := h', toks := tk' }) →
      wpAny (MO w) A (eval elt (compEnvC scope cl C env)) Q E { s₁ with heap := h, toks := tk }) :
    Cmp w A env scope cl elt (.Name x p) ifs G s₁ (fun i v _ => vs[i]? = some v) ds pz f Ro (fun i m => ∃ v, vs[i]? = some v ∧ m x = some v) := by
  refine ⟨hsub, by rw [sizeLine_eq]; omega, mono, ?_, ?_, ?_⟩
  · intro i v C s₂ m₂ Q E hi hv hx' hn hQ
    exact assign_name hkind hx hn fun h₃ tk₃ m₃ hn₃ hm hk => hQ h₃ tk₃ m₃ hn₃ ⟨v, hv, hm⟩ hk
  · rintro i d C s₃ m₃ Q E hd ⟨v, hv, hm⟩ hn hx' ⟨h3, tk3, rfl⟩ hQ
    obtain ⟨d', hd', hr⟩ := hrel i v hv
    rw [hd] at hd'; cases hd'
    exact tests d v C h3 tk3 m₃ Q E hr hm hn hx' hQ
  · rintro i d C s₃ m₃ G' Q E hd hp ⟨v, hv, hm⟩ hn hx' hle hs ⟨h3, tk3, rfl⟩ hQ
    obtain ⟨d', hd', hr⟩ := hrel i v hv
    rw [hd] at hd'; cases hd'
    exact helt d v C h3 tk3 m₃ G' Q E hr hp hm hn hx' hle hs hQ
theorem cmp_enum {x y : Str} {p q r : Pos} {k : Nat} {f : δ × Nat → ε} {pz : δ × Nat → Bool} (R : δ → Value → Prop) (hrel : ∀ (i : Nat) (v : Value), vs[i]? = some v → ∃ d, ds[i]? = some d ∧ R d v) (hsub : Sub G s₁.heap) (hlen : ds.length ≤ 1000) (mono : ∀ G G' y e, Le G G' → Ro G y e → Ro G' y e) (hh : A.handled = none) (hkind : scope.kind = .function) (hx : scope.names.lookup x = some .local) (hy : scope.names.lookup y = some .local) (hxy : x ≠ y)
    (tests : ∀ d i v t C h tk m (Q : Bool → Shared → Prop) (E : Value → Shared → Prop), R d v → i < ds.length → m x = some (.int (i : Nat) t) → m y = some v → h.Ns C m → Ext s₁.heap h → (∀ h' tk', Ext h h' → Q (pz (d, i)) { s₁ with heap := h', toks := tk' }) →
      wpAny (MO w) A (testsOf ifs (compEnvC scope cl C env)) Q E { s₁ with heap := h, toks := tk })
    (helt : ∀ d i v t C h tk m G' (Q : Value → Shared → Prop) (E : Value → Shared → Prop), R d v → i < ds.length → pz (d, i) = true → m x = some (.int (i : Nat) t) → m y = some v → h.Ns C m → Ext s₁.heap h → Le G G' → Sub G' h → (∀ y h' tk', Ext h h' → Ro (More G' h h') y (f (d, i)) → Q y { s₁ with heap := h', toks := tk' }) →
      wpAny (MO w) A (eval elt (compEnvC scope cl C env)) Q E { s₁ with heap := h, toks := tk }) :
    Cmp w A env scope cl elt (.Tuple [.Name x p, .Name y q] k r) ifs G s₁ (fun i v h => ∃ T t x, v = .ref T ∧ vs[i]? = some x ∧ IsTup h T #[.int i t, x]) ds.zipIdx pz f Ro (fun i m => ∃ v t, vs[i]? = some v ∧ m x = some (.int (i : Nat) t) ∧ m y = some v) := by
  refine ⟨hsub, by rw [sizeLine_eq, List.length_zipIdx]; omega, mono, ?_, ?_, ?_⟩
  · rintro i v C s₂ m₂ Q E hi ⟨T, t, z, rfl, hz, hT⟩ hx' hn hQ
    exact assign_two hh hkind hx hy hxy hT hn fun h₃ tk₃ m₃ hn₃ hm hm' hk => hQ h₃ tk₃ m₃ hn₃ ⟨z, t, hz, hm, hm'⟩ hk
  · rintro i ⟨d, j⟩ C s₃ m₃ Q E hd ⟨v, t, hv, hm, hm'⟩ hn hx' ⟨h3, tk3, rfl⟩ hQ
    obtain ⟨d', hd', hr⟩ := hrel i v hv
    rw [List.getElem?_zipIdx, hd'] at hd
    have hd : (d', 0 + i) = (d, j) := by simpa using hd
    obtain rfl : d' = d := congrArg Prod.fst hd
    obtain rfl : i = j := by have := congrArg Prod.snd hd; simpa using this
    exact tests d' i v t C h3 tk3 m₃ Q E hr (List.getElem?_eq_some_iff.mp hd').1 hm hm' hn hx' hQ
  · rintro i ⟨d, j⟩ C s₃ m₃ G' Q E hd hp ⟨v, t, hv, hm, hm'⟩ hn hx' hle hs ⟨h3, tk3, rfl⟩ hQ
    obtain ⟨d', hd', hr⟩ := hrel i v hv
    rw [List.getElem?_zipIdx, hd'] at hd
    have hd : (d', 0 + i) = (d, j) := by simpa using hd
    obtain rfl : d' = d := congrArg Prod.fst hd
    obtain rfl : i = j := by have := congrArg Prod.snd hd; simpa using this
    exact helt d' i v t C h3 tk3 m₃ G' Q E hr (List.getElem?_eq_some_iff.mp hd').1 hp hm hm' hn hx' hle hs hQ
end
theorem paired_get {α : Type} {F : Value → α → Prop} {vs : List Value} {xs : List α} (p : Paired F vs xs) : ∀ {i : Nat} {v : Value}, vs[i]? = some v → ∃ x, xs[i]? = some x ∧ F v x := by
  induction p with
  | nil => intro i x e; cases e
  | cons h t ih =>
    intro i x e
    cases i with
    | zero => cases e; exact ⟨_, rfl, h⟩
    | succ i => exact ih (i := i) e
theorem facts_up {G : Gs} {g h : Heap} {L : Addr} {nw nw' : List (Addr × Obj)} {α : Type} {d : α → PyData} {vs : List Value} {xs : List α} (_N : News g L h nw') (hP : Paired (fun v n => Rd (Gn G nw) (d n) v) vs xs) (hm : ∀ p ∈ nw, p ∈ nw') : Paired (fun v n => Rd (Gn G nw') (d n) v) vs xs :=
  Paired.le (fun a b x => Rd.mono (Gn.le hm) _ _ x) hP
theorem paired_len {α : Type} {F : Value → α → Prop} : ∀ {vs : List Value} {xs : List α}, Paired F vs xs → vs.length = xs.length
  | _, _, .nil => rfl
  | _, _, .cons _ t => by simp [paired_len t]
theorem paired_drop {α : Type} {F : Value → α → Prop} : ∀ {vs : List Value} {xs : List α} (n : Nat), Paired F vs xs → Paired F (vs.drop n) (xs.drop n)
  | _, _, 0, h => by simpa using h
  | _, _, _ + 1, .nil => by simpa using Paired.nil
  | _, _, n + 1, .cons _ t => by simpa using paired_drop n t
theorem paired_take {α : Type} {F : Value → α → Prop} : ∀ {vs : List Value} {xs : List α} (n : Nat), Paired F vs xs → Paired F (vs.take n) (xs.take n)
  | _, _, 0, h => by simpa using Paired.nil
  | _, _, _ + 1, .nil => by simpa using Paired.nil
  | _, _, n + 1, .cons h t => by simpa using Paired.cons h (paired_take n t)
theorem paired_append {α : Type} {F : Value → α → Prop} {vs us : List Value} {xs ys : List α} (p : Paired F vs xs) (k : Paired F us ys) : Paired F (vs ++ us) (xs ++ ys) := by
  induction p with
  | nil => exact k
  | cons x _ ih => exact .cons x ih
theorem ints_of_paired {vs : List Value} {ns : List Int} (p : Paired (fun v n => ∃ t, v = Value.int n t) vs ns) : IntsAre vs ns := by
  induction p with
  | nil => exact .nil
  | cons x _ ih => obtain ⟨t, rfl⟩ := x; exact .cons _ _ ih
theorem sum_ext {w : World} {A : Around} {s : Shared} {E Q : Value → Shared → Prop} {l : Addr} {vs : List Value} {ns : List Int} (hh : A.handled = none) (hl : s.heap.IsList l vs.toArray) (hi : IntsAre vs ns)
    (h : ∀ h' tk t', Ext s.heap h' → Q (.int ns.sum t') { s with heap := h', toks := tk }) : wpAny (MO w) A (call (.builtin "sum") [.ref l]) Q E s := by
  obtain ⟨xs, hx⟩ := hi.allInts.items
  have hl' : s.heap.IsList l (intItems xs) := hx ▸ hl
  refine sum_intListG hh hl' fun h' tk t' hk => ?_
  have e1 : ns = xs.toList.map (·.1) := by
    rw [← nums_intItems, ← hx]
    exact (show numsOf vs.toArray.toList = ns from hi.numsOf).symm
  have e2 : preSum (numAt xs) xs.size = ns.sum := by
    rw [preSum_eq, List.take_of_length_le (by simp), e1]
  rw [e2]
  exact h h' tk t' hk
noncomputable abbrev dataN (r : List Nat) : PyData := .list (r.map fun (i : Nat) => .int (i : Int))
noncomputable abbrev dataNN (rs : List (List Nat)) : PyData := .list (rs.map dataN)
theorem rd_ints {G : Gs} {r : List Nat} {v : Value} (h : Rd G (dataN r) v) : ∃ a vs, v = .ref a ∧ Lst G a vs ∧ IntsAre vs (r.map fun (i : Nat) => (i : Int)) := by
  obtain ⟨a, vs, h1, h2, h3⟩ := h
  have e : r.map (fun (i : Nat) => PyData.int (i : Int)) = (r.map fun (i : Nat) => (i : Int)).map .int := by rw [List.map_map]; rfl
  exact ⟨a, vs, h1, h2, RdL.ints (e ▸ h3)⟩
theorem rd_lists {G : Gs} {rs : List (List Nat)} {v : Value} (h : Rd G (dataNN rs) v) : ∃ a vs, v = .ref a ∧ Lst G a vs ∧ Paired (fun v r => Rd G (dataN r) v) vs rs := by
  obtain ⟨a, vs, h1, h2, h3⟩ := h
  refine ⟨a, vs, h1, h2, ?_⟩
  clear h1 h2
  induction rs generalizing vs with
  | nil => cases h3; exact .nil
  | cons r rs ih => obtain ⟨v, vs', rfl, h4, h5⟩ := h3; exact .cons h4 (ih _ h5)
open LCg in
theorem compX {w : World} {A : Around} {env : Env} {scope : Scope} {cl : List (Str × Addr)} {elt target : Expr} {ifs : List Expr} {Q : Value → Shared → Prop} {xv : Value} {s' s₁ : Shared} {δ ε : Type} {P : Nat → Value → Heap → Prop} {ds : List δ} {pz : δ → Bool} {f : δ → ε} {Ro : Gs → Value → ε → Prop} {M : Nat → (Str → Option Value) → Prop} {G : Gs}
    (I : Itb w A target G s₁ s' xv ds.length P) (K : Cmp w A env scope cl elt target ifs G s₁ P ds pz f Ro M)
    (hQ : ∀ D h tk ys, Ext s₁.heap h → s₁.heap.get? D = none → h.get? D = some (lst ys) → ys.length ≤ ds.length → Paired (Ro (More G s₁.heap h)) ys ((ds.filter pz).map f) → Q (.ref D) { s₁ with heap := h, toks := tk }) :
    CompAt w A env scope cl elt target ifs Q xv s' := ⟨s₁, δ, ε, G, P, ds, pz, f, Ro, M, I, K, hQ⟩
theorem filter_tt {δ : Type} (ds : List δ) : ds.filter (fun _ => true) = ds := List.filter_eq_self.mpr fun _ _ => rfl
theorem assignG {w : World} {A : Around} {s : Shared} {Q : Unit → Shared → Prop} {E : Value → Shared → Prop} {g : Heap} {env : Env} {m : Str → Option Value} {news : List (Addr × Obj)} {x : Str} {p : Pos} {v : Value}
    (F : Fr g env.locals s.heap m) (N : News g env.locals s.heap news) (hx : env.kindOf x = some .local) (hp : (env.scope.kind == .class || (env.scope.kind == .module && env.locals != env.globals)) = false)
    (hQ : ∀ h' tk', Fr g env.locals h' (fun z => if z = x then some v else m z) → News g env.locals h' news → Q () { s with heap := h', toks := tk' }) :
    wpAny (MO w) A (assign (.Name x p) env v) Q E s :=
  wpAny_assign_Name (wpAny_storeName_local hx F.ns (fun h' hn hs => hQ h' _ (F.set hn hs) (N.set hs)) hp)
theorem assignG2 {w : World} {A : Around} {s : Shared} {Q : Unit → Shared → Prop} {E : Value → Shared → Prop} {g : Heap} {env : Env} {m : Str → Option Value} {news : List (Addr × Obj)} {x y : Str} {p q r : Pos} {k : Nat} {t : Addr} {u v : Value}
    (hh : A.handled = none) (ht : IsTup s.heap t #[u, v]) (F : Fr g env.locals s.heap m) (N : News g env.locals s.heap news) (hx : env.kindOf x = some .local) (hy : env.kindOf y = some .local) (hp : (env.scope.kind == .class || (env.scope.kind == .module && env.locals != env.globals)) = false)
    (hQ : ∀ h' tk', Fr g env.locals h' (fun z => if z = y then some v else if z = x then some u else m z) → News g env.locals h' news → Q () { s with heap := h', toks := tk' }) :
    wpAny (MO w) A (assign (.Tuple [.Name x p, .Name y q] k r) env (.ref t)) Q E s := by
  refine assign_Tuple_tuple hh ht rfl rfl fun h₅ he => ?_
  have he' : Ext s.heap h₅ := fun b o e => he b o (Nat.ne_of_lt (Heap.lt_size e)) e
  refine assignInOrder_cons (assignG (Fr.keeps F he') (News.grown N he') hx hp fun h₆ tk₆ F₆ N₆ => ?_)
  refine assignInOrder_cons (assignG F₆ N₆ hy hp fun h₇ tk₇ F₇ N₇ => ?_)
  exact assignInOrder_nil (hQ h₇ _ F₇ N₇)
theorem News.add {g h : Heap} {L : Addr} {nw : List (Addr × Obj)} {p : Addr × Obj} (N : News g L h nw) (hp : p ∈ nw) : News g L h (p :: nw) := fun q hq => (List.mem_cons.mp hq).elim (fun e => e ▸ N p hp) (N q)
theorem ldG {w : World} {A : Around} {s : Shared} {Q E : Value → Shared → Prop} {g : Heap} {env : Env} {m : Str → Option Value} {x : Str} {pos : Pos} {v : Value}
    (F : Fr g env.locals s.heap m) (hv : m x = some v) (hk : env.scope.kind = .function) (hl : env.kindOf x = some .local) (hd : (x == ("__debug__" : Str)) = false) (h : Q v s) :
    wpAny (MO w) A (eval (.Name x pos) env) Q E s := wpAny_Name (wpAny_loadName_local hk hl F.ns hv h) hd
theorem News.store {g h h' : Heap} {L S : Addr} {nw : List (Addr × Obj)} {o' : Obj} (N : News g L h nw) (hs : Heap.SameBut S h h') (ho : h'.get? S = some o') (hL : S ≠ L) (hg : g.get? S = none) : News g L h' ((S, o') :: nw.filter fun p => decide (p.1 ≠ S)) := fun p hp => by
  rcases List.mem_cons.mp hp with rfl | hp
  · exact ⟨ho, hL, hg⟩
  · obtain ⟨h1, h2⟩ := List.mem_filter.mp hp
    exact ⟨hs.extBut _ _ (of_decide_eq_true h2) (N p h1).1, (N p h1).2⟩
theorem Gn.store {G : Gs} {S : Addr} {nw : List (Addr × Obj)} {o' : Obj} {b : Addr} {o : Obj} (e : Gn G nw b o) (hb : b ≠ S) : Gn G ((S, o') :: nw.filter fun p => decide (p.1 ≠ S)) b o :=
  ⟨e.1.elim .inl fun e => .inr (List.mem_cons_of_mem _ (List.mem_filter.mpr ⟨e, decide_eq_true hb⟩)), e.2⟩
theorem paired_snoc {α : Type} {F : Value → α → Prop} {vs : List Value} {xs : List α} {v : Value} {x : α} (h : Paired F vs xs) (k : F v x) : Paired F (vs ++ [v]) (xs ++ [x]) := paired_append h (.cons k .nil)
theorem paired_snoc_inv {α : Type} {F : Value → α → Prop} {xs : List α} : ∀ {vs : List Value} {x : α}, Paired F vs (xs ++ [x]) → ∃ vi v, vs = vi ++ [v] ∧ Paired F vi xs ∧ F v x := by
  induction xs with
  | nil =>
    intro vs x h
    cases h with
    | cons h t => cases t; exact ⟨[], _, rfl, .nil, h⟩
  | cons a xs ih =>
    intro vs x h
    cases h with
    | cons h t =>
      obtain ⟨vi, v, rfl, h1, h2⟩ := ih t
      exact ⟨_ :: vi, v, rfl, .cons h h1, h2⟩
theorem sum_cast (f : Nat → Nat) : ∀ r : List Nat, (((r.map f).sum : Nat) : Int) = (r.map fun k => ((f k : Nat) : Int)).sum
  | [] => rfl
  | k :: r => by
    have := sum_cast f r
    simp only [List.map_cons, List.sum_cons, Int.natCast_add, this]
theorem ints_get {vs : List Value} {r : List Nat} (h : IntsAre vs (r.map fun (i : Nat) => (i : Int))) {i : Nat} (hi : i < r.length) : ∃ t, vs[i]? = some (.int ((r.getD i 0 : Nat) : Int) t) := by
  obtain ⟨t, ht⟩ := h.get i ((r.getD i 0 : Nat) : Int) (by simp [List.getElem?_eq_getElem hi, hi])
  exact ⟨t, ht⟩
theorem ints_of {vs : List Value} {r : List Nat} (h : IntsAre vs (r.map fun (i : Nat) => (i : Int))) {i : Nat} {v : Value} (hv : vs[i]? = some v) : ∃ k t, r[i]? = some k ∧ v = .int ((k : Nat) : Int) t := by
  have hl := h.length
  rw [List.length_map] at hl
  have hi : i < r.length := by rw [← hl]; exact (List.getElem?_eq_some_iff.mp hv).1
  obtain ⟨t, ht⟩ := ints_get h hi
  rw [hv] at ht; cases ht
  exact ⟨_, t, by simp [List.getElem?_eq_getElem hi, hi], rfl⟩
theorem for_ledK {w : World} {A : Around} {env : Env} {target : Expr} {body : List Stmt} {G₀ : Gs} {g : Heap} {nw₀ kp : List (Addr × Obj)} {m₀ : Str → Option Value} {G : Gs} {s₁ s' : Shared} {xv : Value} {n : Nat} {P : Nat → Value → Heap → Prop} {Q : Flow → Shared → Prop}
    (Inv : Nat → (Str → Option Value) → Gs → Prop) (I : Itb w A target G s₁ s' xv n P) (F : Fr g env.locals s₁.heap m₀) (N : News g env.locals s₁.heap nw₀) (K : News g env.locals s₁.heap kp) (hGL : ∀ o, ¬ G env.locals o) (h0 : Inv 0 m₀ (Gn G₀ nw₀))
    (turn : ∀ i v h tk m nw own, i < n → Inv i m (Gn G₀ nw) → Fr g env.locals h m → News g env.locals h nw → News g env.locals h own → (∀ p ∈ kp, p ∈ own) → (∀ p ∈ own, p ∈ kp ∨ s₁.heap.get? p.1 = none ∨ ∃ o, G p.1 o) → P i v h →
      wpAny (MO w) A (assign target env v) (fun _ s₃ => wpAny (MO w) A (execs body env) (LedPost G₀ g env.locals Inv Q i own s₁) (fun _ _ => False) s₃) (fun _ _ => False) { s₁ with heap := h, toks := tk })
    (done : ∀ h tk m nw, Inv n m (Gn G₀ nw) → Fr g env.locals h m → News g env.locals h nw → News g env.locals h kp → Q .next { s₁ with heap := h, toks := tk }) :
    ForAt2 w A env target body Q xv s' := by
  refine ⟨s₁, G, n, P, I, fun I h₂ tk₂ fp wr St Ti => ⟨fun i s => ∃ h tk m nw, s = { s₁ with heap := h, toks := tk } ∧ Inv i m (Gn G₀ nw) ∧ Fr g env.locals h m ∧ News g env.locals h nw ∧ News g env.locals h kp ∧ ∀ p ∈ nw, p.1 ∉ wr, ?_, ?_, ?_, ?_⟩⟩
  · rintro i s h' tk' ⟨h, tk, m, nw, rfl, hI, F', N', K', hw⟩ k
    refine ⟨h', tk', m, nw, rfl, hI, Fr.wr F' F Ti.new k, fun p hp => ⟨k _ _ (hw p hp) (N' p hp).1, (N' p hp).2⟩, fun p hp => ⟨k _ _ (fun q => ?_) (K' p hp).1, (K' p hp).2⟩, hw⟩
    have := (K p hp).1; rw [Ti.new _ q] at this; cases this
  · exact ⟨h₂, tk₂, m₀, nw₀, rfl, h0, Fr.keeps F Ti.ext, News.grown N Ti.ext, News.grown K Ti.ext, fun p hp q => by have := (N p hp).1; rw [Ti.new _ q] at this; cases this⟩
  · rintro i v s₂ hi ⟨h, tk, m, nw, rfl, hI, F', N', K', hw⟩ hP hal
    obtain ⟨Md, W⟩ := Ti.turns
    have hLf : env.locals ∉ fp := fun q => by
      rcases Ti.src _ q with e | ⟨o, e⟩
      · obtain ⟨o, e'⟩ := Fr.get_L F; rw [e] at e'; cases e'
      · exact hGL o e
    refine wpAny_mono (turn i v h tk m nw (PyProof.Rows.ownOf g fp h ++ kp) hi hI F' N' (News.append (news_ownOf hLf) K') (fun p hp => List.mem_append_right _ hp) (fun p hp => (List.mem_append.mp hp).elim (fun hp => .inr (Ti.src _ (ownOf_sub p hp))) .inl) hP) (fun _ s₃ x => wpAny_mono x (fun fl s₄ y => ?_) fun _ _ z => z) fun _ _ z => z
    have key : (∃ h₄ tk m nw, s₄ = { s₁ with heap := h₄, toks := tk } ∧ Inv (i + 1) m (Gn G₀ nw) ∧ Fr g env.locals h₄ m ∧ News g env.locals h₄ nw ∧ ∀ p ∈ PyProof.Rows.ownOf g fp h ++ kp, h₄.get? p.1 = some p.2) →
        (∃ h₄ tk m nw, s₄ = { s₁ with heap := h₄, toks := tk } ∧ Inv (i + 1) m (Gn G₀ nw) ∧ Fr g env.locals h₄ m ∧ News g env.locals h₄ nw ∧ News g env.locals h₄ kp ∧ ∀ p ∈ nw, p.1 ∉ wr) ∧ ∀ b ∈ fp, ∀ o, h.get? b = some o → s₄.heap.get? b = some o := by
      rintro ⟨h₄, tk₄, m₄, nw₄, rfl, hI₄, F₄, N₄, ho⟩
      have kept : ∀ b ∈ fp, ∀ o, h.get? b = some o → h₄.get? b = some o := fun b hb o e => by
        cases hg : g.get? b with
        | some o' =>
          have := F'.keep b o' hg
          rw [e] at this; cases this
          exact F₄.keep b o hg
        | none => exact ho _ (List.mem_append_left _ (mem_ownOf hb hg e))
      refine ⟨⟨h₄, tk₄, m₄, nw₄.filter fun p => okc p.2, rfl, (by rw [Gn.filter]; exact hI₄), F₄, fun p hp => N₄ p (List.mem_filter.mp hp).1, fun p hp => ⟨ho p (List.mem_append_right _ hp), (K p hp).2⟩, fun p hp q => ?_⟩, kept⟩
      obtain ⟨o, ho1, ho2⟩ := hal _ q
      have h1 := kept _ (W.sub _ q) o ho1
      have h2 := (N₄ p (List.mem_filter.mp hp).1).1
      rw [h1] at h2; cases h2
      have h3 := (List.mem_filter.mp hp).2
      rw [ho2] at h3; cases h3
    cases fl with
    | ret v => exact y
    | brk => exact y
    | next => exact key y
    | cont => exact key y
  · rintro s₂ ⟨h, tk, m, nw, rfl, hI, F', N', K', hw⟩
    exact done h tk m nw hI F' N' K'
theorem paired_at {α : Type} {F : Value → α → Prop} {vs : List Value} {xs : List α} (p : Paired F vs xs) : ∀ {i : Nat} {x : α}, xs[i]? = some x → ∃ v, vs[i]? = some v ∧ F v x := by
  induction p with
  | nil => intro i x e; cases e
  | cons h t ih =>
    intro i x e
    cases i with
    | zero => cases e; exact ⟨_, rfl, h⟩
    | succ i => exact ih (i := i) e
theorem item_rows {w : World} {A : Around} {s : Shared} {Q E : Value → Shared → Prop} {G : Gs} {b : Addr} {vsz : List Value} {xs : List (List Nat)} {x : List Nat} {k : Nat} {u : Tok} {value slice : Expr} (hL : Lst G b vsz) (hP : Paired (fun v r => Rd G (dataN r) v) vsz xs) (hs : Sub G s.heap) (hk : xs[k]? = some x) (hf : k < 1000)
    (h : ∀ sa svs, Lst G sa svs → IntsAre svs (x.map fun (i : Nat) => (i : Int)) → Q (.ref sa) s)
    (hs1 : subscripted slice false (.ref b) (.int (k : Int) u) = operate [.ref b, .int (k : Int) u] (getItem (.ref b) (.int (k : Int) u)) := by with_unfolding_all rfl) (hg : ∀ r, letTemporaryGo value (.ref b) r = pure () := by intro _; with_unfolding_all rfl) :
    wpAny (MO w) A (subscriptTail value slice (.ref b) (.int (k : Int) u)) Q E s := by
  obtain ⟨v, hv, hr⟩ := paired_at hP hk
  obtain ⟨sa, svs, rfl, h1, h2⟩ := rd_ints hr
  exact item_listL (hL.isList hs) (Int.natCast_nonneg _) (by omega) (by simpa using hv) (h sa svs h1 h2) hs1 hg
theorem LedPost.br {G₀ : Gs} {g : Heap} {L : Addr} {Inv : Nat → (Str → Option Value) → Gs → Prop} {Q : Flow → Shared → Prop} {i : Nat} {own : List (Addr × Obj)} {s₁ s₄ : Shared} (h : Q .next s₄) : LedPost G₀ g L Inv Q i own s₁ .brk s₄ := h
end

-- Rows
section
theorem zoff14 : True := by w_top off; trivial
theorem deed_open {G : Gs} {n : Int} {v : Value} (h : Rd G (deedD n) v) : ∃ (T : Addr) (t1 t2 t3 : Tok) (ra : Addr), v = .ref T ∧ Tup G T [.int (n.fmod 4) t1, .int ((n.fdiv 4).fmod 4) t2, .int ((n.fdiv 16).fmod 2) t3, .ref ra] ∧ Rd G (.list ((rowOf n).map .int)) (.ref ra) := by
  obtain ⟨T, us, rfl, hTT, u1, r1, rfl, ⟨t1, rfl⟩, u2, r2, rfl, ⟨t2, rfl⟩, u3, r3, rfl, ⟨t3, rfl⟩, u4, r4, rfl, ⟨ra, rvs, rfl, hrl, hrr⟩, rfl⟩ := h
  exact ⟨T, t1, t2, t3, ra, rfl, hTT, ra, rvs, rfl, hrl, hrr⟩
local macro_rules | `(tactic| walk_at "subscriptTail") => `(tactic| (k_here; (with_reducible show wpAny _ _ (subscriptTail _ _ (Value.ref _) (Value.ref _)) _ _ _); refine Stop.out ?_))
local macro_rules | `(tactic| walk_at "subscriptTail") => `(tactic| (k_here; (with_reducible refine atRI ?_); k_dflt refine item_tupleT (by with_reducible assumption) (by decide) (by decide) rfl rfl ?_))
local macro_rules | `(tactic| walk_at "binaryOp Add ref ref") => `(tactic| (refine Stop.out ?_))
noncomputable def cutP (p : Int × Nat) : Bool := [0, 3].any fun x => x == p.1.fmod 4
noncomputable def leftP (n : Int) : Bool := n.fmod 4 != 3
noncomputable def keepP (p : Int × Nat) : Bool := p.2 == 0 || p.1.fmod 4 != 2
noncomputable def cutN (own : List Int) : Nat := ((own.zipIdx.filter cutP).map (·.2)).foldl max 0
noncomputable def leftN (own : List Int) : List Int := (own.drop (cutN own)).filter leftP
noncomputable def rowsN (hue : Int) (ns : List Int) : List (List Int) := ((leftN (ns.filter fun n => decide ((n.fdiv 4).fmod 4 = hue))).zipIdx.filter keepP).map fun p => rowOf p.1
theorem foldl_max_ge : ∀ (l : List Nat) (a : Nat), a ≤ l.foldl max a ∧ ∀ x ∈ l, x ≤ l.foldl max a
  | [], a => ⟨Nat.le_refl _, fun _ h => nomatch h⟩
  | y :: l, a => by
    have h := foldl_max_ge l (max a y)
    refine ⟨Nat.le_trans (Nat.le_max_left _ _) h.1, fun x hx => ?_⟩
    rcases List.mem_cons.mp hx with rfl | hx
    · exact Nat.le_trans (Nat.le_max_right _ _) h.1
    · exact h.2 x hx
theorem foldl_max_mem : ∀ (l : List Nat) (a : Nat), l.foldl max a = a ∨ l.foldl max a ∈ l
  | [], a => .inl rfl
  | y :: l, a => by
    rcases foldl_max_mem l (max a y) with h | h
    · rw [List.foldl_cons, h]
      rcases Nat.le_total a y with k | k
      · rw [Nat.max_eq_right k]; exact .inr (.head _)
      · rw [Nat.max_eq_left k]; exact .inl rfl
    · exact .inr (List.mem_cons_of_mem _ h)
theorem max_is {l : List Nat} {l' : List Int} {M : Int} (e : l' = l.map fun (k : Nat) => (k : Int)) (h1 : M ∈ [0] ++ l') (h2 : ∀ a, a ∈ [0] ++ l' → a ≤ M) : M = ((l.foldl max 0 : Nat) : Int) := by
  subst e
  have hg := foldl_max_ge l 0
  apply Int.le_antisymm
  · rcases List.mem_append.mp h1 with h | h
    · rw [List.mem_singleton.mp h]; exact Int.natCast_nonneg _
    · obtain ⟨k, hk, rfl⟩ := List.mem_map.mp h
      exact Int.ofNat_le.mpr (hg.2 k hk)
  · rcases foldl_max_mem l 0 with h | h
    · rw [h]; exact h2 _ (List.mem_append_left _ (List.mem_singleton.mpr rfl))
    · exact h2 _ (List.mem_append_right _ (List.mem_map.mpr ⟨_, h, rfl⟩))
set_option maxHeartbeats 8000000 in
theorem rows_c (w : World) (a : Addr) (vs0 : List Value) (ns : List Int) (hue : Int) (th : Tok) (G : Gs) {A : Around} {s : Shared} {Q E : Value → Shared → Prop} (C : Can w A s.heap [] 1 20) (hG : Sub G s.heap) (hL : Lst G a vs0) (hR : RdL G (ns.map deedD) vs0) (hns : ns.length ≤ 11)
    (hret : ∀ v h' tk', Ext s.heap h' → Rd (More G s.heap h') (.list ((rowsN hue ns).map fun r => .list (r.map .int))) v → Q v { s with heap := h', toks := tk' }) :
    wpAny (MO w) A (call (.ref 234) [.ref a, .int hue th]) Q E s := by
  refine wpAny_call ?_
  obtain ⟨hnd, dp, fr, gd, un⟩ := A
  obtain rfl : hnd = none := C.handled
  refine' enterC (d := 0) (u := 16) (binds := [(Str.ofString "deeds", .ref a), (Str.ofString "hue", .int hue th)]) C ?k1 ?k2 (BindsTo.of_eq ?k3) ?k4 ?k5 ?k6 ?k7 ?k8 ?k9
  case k1 => k_is
  case k2 => k_is
  case k3 => exact rfl
  case k4 => exact rfl
  case k5 => decide
  case k7 => exact rfl
  case k8 => exact rfl
  case k9 => exact rfl
  case k6 =>
    intro g L' h₁ tk0 cells hg bd F N Y
    k_cells Y
    have hgE : Ext s.heap g := fun b o e => hg b o e (by simp)
    obtain ⟨hh, hdp, hun, X, p, loose, mean, mg, mb, env, outer, A₀, base, hA, hf, hke, B, T⟩ := bd
    have hGg : Sub G g := hG.ext hgE
    k_steps
    rename Fr _ _ _ _ => F1
    rename News _ _ _ _ => N1
    obtain ⟨th', hcell⟩ : ∃ th', Heap.IsCell _ (L' + 1) (some (.int hue th')) := ⟨_, _, (N1 _ (.head _)).1, by assumption⟩
    have hLg := Gn.sub hGg F1 N1
    have hvl : vs0.length = ns.length := by have := RdL.length hR; rwa [List.length_map] at this
    have hrel : ∀ (i : Nat) (v : Value), vs0[i]? = some v → ∃ n, ns[i]? = some n ∧ Rd G (deedD n) v := by
      intro i v hv
      obtain ⟨d, hd1, hd2⟩ := RdL.get hR hv
      obtain ⟨nn, he1, rfl⟩ : ∃ e, ns[i]? = some e ∧ deedD e = d := by simpa using hd1
      exact ⟨nn, he1, hd2⟩
    refine compF (δ := Int) (ε := Int) (ds := ns) (pz := fun n => decide ((n.fdiv 4).fmod 4 = hue)) (f := id) (Ro := fun G v n => Rd G (deedD n) v) (itb_listN rfl hvl (Fin'.lst.gn hL) hLg (.inl ⟨_, _, rfl⟩)) hGg F1 N1 (cmp_list (fun n v => Rd G (deedD n) v) hrel hLg (by omega) (fun _ _ _ _ x h => Rd.mono x _ _ h) rfl rfl ?_ ?_) (fun y e => Rd.fin _ _) ?_
    · rintro n v C h tk m Q E hr hm hn hx hQ
      obtain ⟨T, t1, t2, t3, ra, rfl, hT, _⟩ := deed_open hr
      have hTu := hT.isTup (hGg.ext (Ext.trans F1.keep hx))
      have hce := IsCell.ext' hcell hx
      refine wpAny_tests_one ?_
      k_steps
      exact hQ _ _ Ext.rfl'
    · rintro n v C h tk m G' Q E hr hp hm hn hx hle hsub hQ
      k_steps
      exact hQ _ _ _ Ext.rfl' (((Rd.fin _ _).gn hr).mono (hle.trans le_more))
    intro D1 h1 tk1 ys1 nw1 F2 N2 hD1 hyl1 hL1 hP1
    clear F1 N1
    rw [List.map_id] at hP1
    k_steps
    rename Fr _ _ _ _ => F3
    rename News _ _ _ _ => N3
    have hLg3 := Gn.sub hGg F3 N3
    have hol := List.length_filter_le (fun n : Int => decide ((n.fdiv 4).fmod 4 = hue)) ns
    refine enum_callN rfl (paired_len hP1) hL1 hLg3 fun xv s' I2 => ?_
    refine compF (δ := Int × Nat) (ε := Int) (pz := cutP) (f := fun p => (p.2 : Int)) (Ro := fun _ v k => ∃ t, v = .int k t) (by rw [List.length_zipIdx]; exact I2 _ _ _) hGg F3 N3 (cmp_enum (fun n v => Rd _ (deedD n) v) (fun i v hv => paired_get hP1 hv) hLg3 (by omega) (fun _ _ _ _ x h => h) rfl rfl rfl rfl (by decide) ?_ ?_) (fun y e => Fin'.triv) ?_
    · rintro n i v t C h tk m Q E hr hi hm hm' hn hx hQ
      obtain ⟨T, t1, t2, t3, ra, rfl, hT, _⟩ := deed_open hr
      have hTu := hT.isTup (hLg3.ext hx)
      refine wpAny_tests_one ?_
      k_steps
      refine wpAny_newTuple ?_
      have FX := (Fr.keeps F3 hx).push { cls := .type "tuple", data := .seq #[.int 0 (tk + 1), .int 3 (tk + 1 + 1)] }
      have NX := News.push (Fr.keeps F3 hx) (News.grown N3 hx) { cls := .type "tuple", data := .seq #[.int 0 (tk + 1), .int 3 (tk + 1 + 1)] }
      clear F3 N3
      k_steps
      exact hQ _ _ (fun b o e => Heap.get?_push_of_some _ e)
    · rintro n i v t C h tk m G' Q E hr hi hp hm hm' hn hx hle hsub hQ
      k_steps
      exact hQ _ _ _ Ext.rfl' ⟨_, rfl⟩
    intro D2 h2 tk2 ys2 nw2 F4 N4 hD2 hyl2 hL2 hP2
    clear F3 N3
    k_steps
    rename Fr _ _ _ _ => F5
    rename News _ _ _ _ => N5
    have hI2 := ints_of_paired hP2
    rw [List.length_zipIdx] at hyl2
    have hil := hI2.length
    refine ⟨?_⟩
    refine add_arrays_ints (its2 := ys2.toArray) (hsz := ?hsz) F5 N5 (News.isList N5 (.head _)) (News.isList N5 (.tail _ (.head _))) (.cons _ _ .nil) (by rw [List.toList_toArray]; exact hI2) fun h6 F6 N6 hI6 => ?_
    case hsz => rw [sizeLine_eq, ← hil]; simp only [List.length_cons, List.length_nil]; omega
    clear F5 N5
    k_steps
    · rename_i _ hb hM
      have := hb 0 (.head _)
      omega
    · rename_i ha hb hM
      rename Fr _ _ _ _ => F7
      rename News _ _ _ _ => N7
      have hMe := max_is (l := (((ns.filter fun n => decide ((n.fdiv 4).fmod 4 = hue)).zipIdx.filter cutP).map (·.2))) (by rw [List.map_map]; rfl) ha hb
      clear hI2 hil hP2 hL2 hI6
      generalize hcd : List.filter (fun n => decide ((n.fdiv 4).fmod 4 = hue)) ns = own at *
      subst hMe
      have hk : List.foldl max 0 (List.map (fun x => x.snd) (List.filter cutP own.zipIdx)) = cutN own := rfl
      rw [hk] at *
      refine ⟨?_⟩
      refine slice_list (items := ys1.toArray) (hsz := ?hsz) F7 N7 ⟨_, (N7 (D1, LCg.lst ys1) (by simp)).1, rfl, _, rfl⟩ (.int _ _) .none fun h8 F8 N8 => ?_
      case hsz => rw [sizeLine_eq, List.size_toArray]; omega
      rw [slicePick_from'] at N8
      clear F7 N7
      have hLg8 := Gn.sub hGg F8 N8
      have hP8 := paired_drop (cutN own) (facts_up N8 hP1 fun p hp => .tail _ (.tail _ (.tail _ (.tail _ (List.mem_append_right _ hp)))))
      clear hP1
      refine compF (δ := Int) (ε := Int) (pz := leftP) (f := id) (Ro := fun G v n => Rd G (deedD n) v) (itb_listN rfl (paired_len hP8) ⟨_, _, ⟨.inr (.head _), rfl⟩, rfl, rfl⟩ hLg8 (.inl ⟨_, _, rfl⟩)) hGg F8 N8 (cmp_list (fun n v => Rd _ (deedD n) v) (fun i v hv => paired_get hP8 hv) hLg8 (by rw [List.length_drop]; omega) (fun _ _ _ _ x h => Rd.mono x _ _ h) rfl rfl ?_ ?_) (fun y e => Rd.fin _ _) ?_
      · rintro n v C h tk m Q E hr hm hn hx hQ
        obtain ⟨T, t1, t2, t3, ra, rfl, hT, _⟩ := deed_open hr
        have hTu := hT.isTup (hLg8.ext hx)
        refine wpAny_tests_one ?_
        k_steps
        exact hQ _ _ Ext.rfl'
      · rintro n v C h tk m G' Q E hr hp hm hn hx hle hsub hQ
        k_steps
        exact hQ _ _ _ Ext.rfl' (hr.mono (hle.trans le_more))
      intro D3 h9 tk9 ys3 nw3 F9 N9 hD3 hyl3 hL3 hP3
      clear F8 N8
      rw [List.map_id] at hP3
      rw [List.length_drop] at hyl3
      have hlen3 := paired_len hP3
      k_steps
      rename Fr _ _ _ _ => FA
      rename News _ _ _ _ => NA
      have hLgA := Gn.sub hGg FA NA
      refine enum_callN rfl hlen3 hL3 hLgA fun xv s' I4 => ?_
      refine compV (δ := Int × Nat) (ε := List Int) (pz := keepP) (f := fun p => rowOf p.1) (Ro := fun G v r => Rd G (.list (r.map .int)) v) (by rw [List.length_zipIdx]; exact I4 _ _ _) hGg FA NA (cmp_enum (fun n v => Rd _ (deedD n) v) (fun i v hv => paired_get hP3 hv) hLgA (by rw [← hlen3]; omega) (fun _ _ _ _ x h => Rd.mono x _ _ h) rfl rfl rfl rfl (by decide) ?_ ?_) (fun y e => Rd.fin _ _) ?_
      · rintro n i v t C h tk m Q E hr hi hm hm' hn hx hQ
        obtain ⟨T, t1, t2, t3, ra, rfl, hT, _⟩ := deed_open hr
        have hTu := hT.isTup (hLgA.ext hx)
        refine wpAny_tests_one ?_
        k_steps
        · rw [show keepP (n, i) = true from by simp [keepP]; omega] at hQ; exact hQ _ _ Ext.rfl'
        · rw [show keepP (n, i) = true from by simp [keepP]; omega] at hQ; exact hQ _ _ Ext.rfl'
        · rw [show keepP (n, i) = false from by simp [keepP]; omega] at hQ; exact hQ _ _ Ext.rfl'
      · rintro n i v t C h tk m G' Q E hr hi hp hm hm' hn hx hle hsub hQ
        obtain ⟨T, t1, t2, t3, ra, rfl, hT, hRr⟩ := deed_open hr
        have hTu := hT.isTup (hLgA.ext hx)
        k_steps
        exact hQ _ _ _ Ext.rfl' (hRr.mono (hle.trans le_more))
      intro D4 hB tkB ys4 nw4 FB NB hD4 hyl4 hL4 hP4
      refine ⟨⟨_, FB⟩, hret _ _ _ (hgE.trans FB.keep) ⟨D4, ys4, rfl, hL4.mono (Gn.ret hgE NB), ?_⟩⟩
      have := RdL.mono (Gn.ret (G := G) hgE NB) _ _ (RdL.of_paired hP4)
      rw [← hcd] at this
      exact this
end

section
local macro_rules | `(tactic| walk_at "eval Name") => `(tactic| (k_here; k_dflt refine ldG (by assumption) (by assumption) (by rfl) (by rfl) (by decide) ?_))
local macro_rules | `(tactic| walk_at "subscriptTail") => `(tactic| (refine Stop.out ?_))
local macro_rules | `(tactic| walk_at "exec For") => `(tactic| (refine Stop.out ?_))
local macro_rules | `(tactic| walk_at "exec For Name Call cons nil") => `(tactic| (refine Stop.out ?_))
local macro_rules | `(tactic| walk_at "exec For Name Subscript cons nil") => `(tactic| (refine Stop.out ?_))
local macro_rules | `(tactic| walk_at "exec For Tuple Call cons nil") => `(tactic| (refine Stop.out ?_))
local macro_rules | `(tactic| walk_at "exec For Name Tuple cons nil") => `(tactic| (refine Stop.out ?_))

-- Sizes
section
theorem zoff15 : True := by w_top off; trivial
noncomputable def szStep (rs : List (List Nat)) (sz : List Nat) : List Nat := let p := rs.map fun r => (r.map fun i => sz.getD i 0).sum; p ++ p.drop 2 ++ p.take 2
noncomputable def szs (rs : List (List Nat)) : Nat → List Nat
  | 0 => List.replicate 8 1
  | k + 1 => szStep rs (szs rs k)
theorem szs_data (rs : List (List Nat)) (i : Nat) : (szs rs (i + 1)).map (fun (i : Nat) => PyData.int (i : Int)) =
    (((rs.map fun r => (((r.map fun k => (szs rs i).getD k 0).sum : Nat) : Int)) ++ (rs.map fun r => (((r.map fun k => (szs rs i).getD k 0).sum : Nat) : Int)).drop 2) ++ (rs.map fun r => (((r.map fun k => (szs rs i).getD k 0).sum : Nat) : Int)).take 2).map .int := by
  show (szStep rs (szs rs i)).map _ = _
  unfold szStep
  simp only [List.map_append, List.map_drop, List.map_take, List.map_map]
  rfl
theorem szs_len (rs : List (List Nat)) (h : rs.length = 4) : ∀ i, (szs rs i).length = 8
  | 0 => rfl
  | i + 1 => by show (szStep rs (szs rs i)).length = 8; unfold szStep; simp [h]
theorem szs_zero (rs : List (List Nat)) : (szs rs 0).map (fun (i : Nat) => PyData.int (i : Int)) = ((List.replicate (Int.toNat 8) [(1 : Int)]).flatten).map PyData.int := rfl
theorem item_intsT {w : World} {A : Around} {s : Shared} {Q E : Value → Shared → Prop} {G : Gs} {b : Addr} {vs : List Value} {x : List Nat} {k : Nat} {u : Tok} {value slice : Expr} (hL : Lst G b vs) (hI : IntsAre vs (x.map fun (i : Nat) => (i : Int))) (hs : Sub G s.heap) (hk : k < x.length) (hf : k < 1000)
    (h : ∀ t, Q (.int ((x.getD k 0 : Nat) : Int) t) s)
    (hs1 : subscripted slice false (.ref b) (.int (k : Int) u) = operate [.ref b, .int (k : Int) u] (getItem (.ref b) (.int (k : Int) u)) := by with_unfolding_all rfl) :
    wpAny (MO w) A (subscriptTail value slice (.ref b) (.int (k : Int) u)) Q E s := by
  obtain ⟨t, ht⟩ := ints_get hI hk
  exact tail_any (hL.isList hs).typeIs slot_list_getitem.lookup (wpAny_getItem_list (hL.isList hs) (Int.natCast_nonneg _) (by omega) (by simpa using ht) (h t)) hs1
local macro_rules | `(tactic| walk_at "binaryOp Add ref ref") => `(tactic| (refine Stop.out ?_))
noncomputable def SzI (L' a : Addr) (rs : List (List Nat)) (g hh1 : Heap) (i : Nat) (m : Str → Option Value) (G' : Gs) : Prop :=
  m (Str.ofString "rules") = some (.ref a) ∧ ∃ o S vs n, G' (L' + 1) o ∧ o.data = .cell (some (.ref S)) ∧ g.get? S = none ∧ (∃ o, hh1.get? S = some o) ∧ G' S (W.listOf vs.toArray n) ∧ Paired (fun v r => Rd (fun b o => b ≠ S ∧ G' b o) (dataN r) v) vs ((List.range (i + 1)).map (szs rs))
set_option maxHeartbeats 8000000 in
theorem sizes_c (w : World) (a : Addr) (rs : List (List Nat)) (G : Gs) {A : Around} {s : Shared} {Q E : Value → Shared → Prop} (C : Can w A s.heap [] 1 20) (hG : Sub G s.heap) (hR : Rd G (dataNN rs) (.ref a)) (hns : rs.length = 4) (hlt : ∀ r ∈ rs, ∀ i ∈ r, i < 8) (hlen : ∀ r ∈ rs, r.length ≤ 3)
    (hret : ∀ v h' tk', Ext s.heap h' → Rd (More G s.heap h') (dataNN ((List.range 4).map (szs rs))) v → Q v { s with heap := h', toks := tk' }) :
    wpAny (MO w) A (call (.ref 239) [.ref a]) Q E s := by
  refine wpAny_call ?_
  obtain ⟨hnd, dp, fr, gd, un⟩ := A
  obtain rfl : hnd = none := C.handled
  refine' enterC (d := 0) (u := 16) (binds := [(Str.ofString "rules", .ref a)]) C ?k1 ?k2 (BindsTo.of_eq ?k3) ?k4 ?k5 ?k6 ?k7 ?k8 ?k9
  case k1 => k_is
  case k2 => k_is
  case k3 => exact rfl
  case k4 => exact rfl
  case k5 => decide
  case k7 => exact rfl
  case k8 => exact rfl
  case k9 => exact rfl
  case k6 =>
    intro g L' h₁ tk0 cells hg bd F N Y
    k_cells Y
    have hgE : Ext s.heap g := fun b o e => hg b o e (by simp)
    obtain ⟨hh, hdp, hun, X, p, loose, mean, mg, mb, env, outer, A₀, base, hA, hf, hke, B, T⟩ := bd
    have hGg : Sub G g := hG.ext hgE
    obtain ⟨a', vsr, e0, hLr, hPr⟩ := rd_lists hR
    cases e0
    have hlr := paired_len hPr
    k_steps
    refine ⟨?_⟩
    refine for_rule2 ?_
    k_steps
    rename IsRange _ _ _ _ _ _ _ _ => hrg
    rename Fr _ _ _ _ => F1
    rename News _ _ _ _ => N1
    rename (_ = Data.cell (some _)) => hcd
    rename IntsAre _ _ => hI1
    rename_i hh1 _ _ _ _ _
    have hcn : g.get? (L' + 1) = none := (N1 _ (.tail _ (.tail _ (.tail _ (.head _))))).2.2
    refine for_led (G := fun _ _ => False) (G₀ := G) (n := 3) (SzI L' a rs g hh1) F1 N1 (fun _ e => e) (itb_range rfl hrg (by decide) (by decide)) ⟨rfl, _, _, [_], 0, ⟨.inr (.tail _ (.tail _ (.tail _ (.head _)))), okc_cell hcd⟩, hcd, (N1 _ (.head _)).2.2, ⟨_, (N1 _ (.head _)).1⟩, ⟨.inr (.head _), rfl⟩, .cons ⟨_, _, rfl, ⟨_, 0, ⟨?_, ⟨.inr (.tail _ (.head _)), rfl⟩⟩, rfl, rfl⟩, ?_⟩ .nil⟩ ?_ ?_
    · rename (_ < _ ∧ _ < _ ∧ AllLt _ _) => l1
      exact Nat.ne_of_lt l1.1
    · rw [szs_zero]; exact RdL.of_ints hI1
    · rintro i v h tk m nw own hi ⟨hm, o, S, vs, n, hc, hcd, hSn, hSl, hS, hP⟩ F2 N2 hown ⟨t, rfl⟩
      have hN2 : News g _ h nw := fun p hp => N2 p (List.mem_append_left _ hp)
      replace hc := Gn.new hGg hc hcn
      have hce : h.IsCell (L' + 1) (some (.ref S)) := ⟨o, (hN2 _ hc).1, hcd⟩
      have hSh := Gn.sub hGg F2 hN2 _ _ hS
      refine assignG F2 (News.add N2 (List.mem_append_left _ hc)) rfl rfl fun h3 tk3 F3 N3 => ?_
      clear F2 N2
      obtain ⟨m', F4, hm'⟩ : ∃ m', Fr g _ h3 m' ∧ m' (Str.ofString "rules") = some (.ref a) := ⟨_, F3, hm⟩
      clear F3
      k_steps
      have hN3 : News g _ h3 nw := fun p hp => N3 p (.tail _ (List.mem_append_left _ hp))
      have hLg3 := Gn.sub hGg F4 hN3
      have hce3 : h3.IsCell (L' + 1) (some (.ref S)) := ⟨o, (hN3 _ hc).1, hcd⟩
      have hS3 := hLg3 _ _ hS
      have hP' := hP
      rw [List.range_succ, List.map_append, List.map_cons, List.map_nil] at hP'
      obtain ⟨vi, vl, hve, _, hvl⟩ := paired_snoc_inv hP'
      obtain ⟨sa, svs, rfl, hLs, hIs⟩ := rd_ints hvl
      have hS4 : h3.get? S = some (W.listOf (vi ++ [Value.ref sa]).toArray n) := by rw [← hve]; exact hS3
      replace hLs := hLs.mono (G' := Gn G nw) (fun b o e => e.2)
      refine compF (δ := List Nat) (ε := Int) (ds := rs) (pz := fun _ => true) (f := fun r => (((r.map fun k => (szs rs i).getD k 0).sum : Nat) : Int)) (Ro := fun _ v k => ∃ t, v = .int k t) (nw := (L' + 1, o) :: (nw ++ own)) (itb_listN rfl hlr (Fin'.lst.gn hLr) (Gn.sub hGg F4 N3) (.inl ⟨_, _, rfl⟩)) hGg F4 N3 (cmp_list (fun r v => r ∈ rs ∧ Rd G (dataN r) v) (fun i v hv => let ⟨x, h1, h2⟩ := paired_get hPr hv; ⟨x, h1, List.mem_of_getElem? h1, h2⟩) (Gn.sub hGg F4 N3) (by omega) (fun _ _ _ _ x h => h) rfl rfl ?_ ?_) (fun y e => Fin'.triv) ?_
      · rintro r v C h tk m Q E hr hm hn hx hQ
        exact wpAny_tests_nil (hQ _ _ Ext.rfl')
      · rintro r v C h tk m G' Q E ⟨hrm, hr⟩ hp hm hn hx hle hsub hQ
        have hl3 := hlen r hrm
        have hl8 := hlt r hrm
        obtain ⟨ra, rvs, rfl, hLra, hIra⟩ := rd_ints hr
        have hcx := IsCell.ext' hce3 hx
        have FX := Fr.keeps F4 hx
        k_steps
        refine compX (δ := Nat) (ε := Int) (ds := r) (pz := fun _ => true) (f := fun k => (((szs rs i).getD k 0 : Nat) : Int)) (Ro := fun _ v k => ∃ t, v = .int k t) (G := G) (itb_listN rfl (by have := hIra.length; simpa using this) hLra (hGg.ext FX.keep) (.inl ⟨_, _, rfl⟩)) (cmp_list (fun k v => k < 8 ∧ ∃ t, v = .int (k : Nat) t) ?_ (hGg.ext FX.keep) (by omega) (fun _ _ _ _ x h => h) rfl rfl ?_ ?_) ?_
        · intro j v hv
          obtain ⟨k, t, h1, h2⟩ := ints_of hIra hv
          exact ⟨k, h1, hl8 k (List.mem_of_getElem? h1), t, h2⟩
        · rintro r v C h tk m Q E hr hm hn hx hQ
          exact wpAny_tests_nil (hQ _ _ Ext.rfl')
        · rintro k v C h tk m G' Q E ⟨hk8, t, rfl⟩ hp hm hn hx2 hle hsub hQ
          have hcy := IsCell.ext' hcx hx2
          k_steps
          refine ⟨?_⟩
          refine item_last (vi := vi) (v := .ref sa) ⟨_, hx2 _ _ (hx _ _ hS4), rfl, _, rfl⟩ ?_
          k_steps
          refine ⟨?_⟩
          refine item_intsT hLs hIs (hLg3.ext (Ext.trans hx hx2)) (by rw [szs_len rs hns]; exact hk8) (by omega) fun t' => ?_
          exact hQ _ _ _ Ext.rfl' ⟨_, rfl⟩
        intro D2 h6 tk6 ys2 hx6 hD6 hD6' hyl6 hP6
        k_steps
        refine sum_ext rfl ⟨LCg.lst ys2, hD6', rfl, _, rfl⟩ (ints_of_paired hP6) fun h7 tk7 t7 hx7 => ?_
        rw [filter_tt, ← sum_cast]
        exact hQ _ _ _ (hx6.trans hx7) ⟨_, rfl⟩
      intro D1 h4 tk4 ys1 nw1 F5 N5 hD1 hyl1 hL1 hP1
      clear F4 N3
      have hS5 : (S, W.listOf vs.toArray n) ∈ nw := Gn.new hGg hS hSn
      have hce5 : h4.IsCell (L' + 1) (some (.ref S)) := ⟨o, (N5 (L' + 1, o) (by simp)).1, hcd⟩
      have N6 := News.add (News.add N5 (p := (S, W.listOf vs.toArray n)) (by simp [hS5])) (p := (L' + 1, o)) (by simp)
      clear N5
      k_steps
      rename Fr _ _ _ _ => F7
      rename News _ _ _ _ => N7
      rw [show (some (2:Int)) = some ((2:Nat):Int) from rfl, slicePick_from'] at N7
      refine ⟨?_⟩
      refine add_arrays (its := ys1.toArray) (hsz := ?hsz) F7 N7 ⟨_, (N7 (D1, LCg.lst ys1) (by simp)).1, rfl, _, rfl⟩ (News.isList N7 (.head _)) fun h8 F8 N8 => ?_
      case hsz => rw [sizeLine_eq]; simp; omega
      clear F7 N7
      k_steps
      rename Fr _ _ _ _ => F9
      rename News _ _ _ _ => N9
      refine ⟨?_⟩
      refine slice_list (items := ys1.toArray) (hsz := ?hsz) F9 N9 ⟨_, (N9 (D1, LCg.lst ys1) (by simp)).1, rfl, _, rfl⟩ .none (.int _ _) fun hA FA NA => ?_
      case hsz => rw [sizeLine_eq]; simp; omega
      rw [show (some (2:Int)) = some ((2:Nat):Int) from rfl, slicePick_upto'] at NA
      clear F9 N9
      refine add_arrays (hsz := ?hsz) FA NA (News.isList NA (.tail _ (.head _))) (News.isList NA (.head _)) fun hB FB NB => ?_
      case hsz => rw [sizeLine_eq]; simp; omega
      have hSlt : S < hA.objs.size := Heap.lt_size (NA (S, W.listOf vs.toArray n) (by simp)).1
      clear FA NA
      k_steps
      have hvs := paired_len hP
      rw [List.length_map, List.length_range] at hvs
      have hNS := NB (S, W.listOf vs.toArray n) (by simp)
      refine append_at (its := vs.toArray) (hsz := by rw [sizeLine_eq, List.size_toArray]; omega) hNS.1 fun h5 hs5 h5l => ?_
      have FC := FB.change hs5 hNS.2.1 hNS.2.2
      have NC := News.store NB hs5 h5l hNS.2.1 hNS.2.2
      have hown' : ∀ p ∈ own, p.1 ≠ S := fun p hp q => by
        obtain ⟨oo, hoo⟩ := hSl
        rcases hown p hp with e | ⟨_, e⟩
        · rw [q] at e; have e' : hh1.get? S = none := e; rw [hoo] at e'; cases e'
        · exact e
      have hcS : L' + 1 ≠ S := fun q => by
        have h1 := (NB (L' + 1, o) (by simp)).1
        have h2 := hNS.1
        rw [q] at h1; rw [h1] at h2; cases h2; cases hcd
      clear FB NB
      k_steps
      rename Fr _ _ _ _ => FD
      rename News _ _ _ _ => ND
      rw [List.push_toArray] at ND
      have hI := ints_of_paired hP1
      rw [filter_tt] at hI
      refine LedPost.nx FD ND (fun p hp => (ND p (.tail _ (List.mem_filter.mpr ⟨by simp [hp], by simpa using hown' p hp⟩))).1) ⟨hm', o, S, vs ++ [.ref hA.objs.size], n + 1, Gn.store ⟨.inr (by simp), okc_cell hcd⟩ hcS, hcd, hSn, hSl, ⟨.inr (.head _), rfl⟩, ?_⟩
      rw [List.range_succ, List.map_append, List.map_cons, List.map_nil]
      refine paired_snoc (Paired.le (fun a b x => Rd.mono (fun b o e => ⟨e.1, Gn.store (Gn.le (fun p hp => by simp [hp]) _ _ e.2) e.1⟩) _ _ x) hP) ⟨_, _, rfl, ⟨_, 0, ⟨Nat.ne_of_gt hSlt, Gn.store ⟨.inr (.head _), rfl⟩ (Nat.ne_of_gt hSlt)⟩, rfl, rfl⟩, ?_⟩
      rw [szs_data]
      refine RdL.of_ints ?_
      have hJ := (hI.append (hI.drop 2)).append (hI.take 2)
      simpa only [List.toList_toArray] using hJ
    · rintro h tk m nw ⟨hm, o, S, vs, n, hc, hcd, hSn, hSl, hS, hP⟩ F2 N2
      replace hc := Gn.new hGg hc hcn
      have hce : h.IsCell (L' + 1) (some (.ref S)) := ⟨o, (N2 _ hc).1, hcd⟩
      have N3 := News.add N2 hc
      dsimp only
      k_steps
      rename Fr _ _ _ _ => FC
      rename News _ _ _ _ => NC
      have k := Gn.ret (G := G) hgE (nw := nw) (fun p hp => NC p (.tail _ hp))
      refine ⟨⟨_, FC⟩, hret _ _ _ (hgE.trans FC.keep) ⟨S, vs, rfl, ⟨_, n, k _ _ hS, rfl, rfl⟩, RdL.of_paired (Paired.le (fun a b x => Rd.mono (fun b o e => k _ _ e.2) _ _ x) hP)⟩⟩
end

-- Spot
section
theorem zoff16 : True := by w_top off; trivial
noncomputable def stepIn (sz : List Nat) : List Nat → Nat → Int → Nat × Int
  | [], spot, place => (spot, place)
  | p :: r, spot, place => if place < ((sz.getD p 0 : Nat) : Int) then (p, place) else stepIn sz r spot (place - ((sz.getD p 0 : Nat) : Int))
noncomputable def spotAt (rs : List (List Nat)) : Nat → Nat → Int → Nat → Nat
  | 0, spot, _, turned => spot ^^^ turned
  | k + 1, spot, place, turned =>
    if 3 < spot then (let q := stepIn (szs rs k) (rs.getD (spot ^^^ 6) []) (spot ^^^ 6) ((((szs rs (k + 1)).getD spot 0 : Nat) : Int) - 1 - place); spotAt rs k q.1 q.2 (turned ^^^ 6))
    else (let q := stepIn (szs rs k) (rs.getD spot []) spot place; spotAt rs k q.1 q.2 turned)
theorem step_drop {sz r : List Nat} {j p spot : Nat} {place : Int} (h : r[j]? = some p) : stepIn sz (r.drop j) spot place = if place < ((sz.getD p 0 : Nat) : Int) then (p, place) else stepIn sz (r.drop (j + 1)) spot (place - ((sz.getD p 0 : Nat) : Int)) := by
  obtain ⟨hj, e⟩ := List.getElem?_eq_some_iff.mp h
  rw [List.drop_eq_getElem_cons hj, e, stepIn]
theorem xor6 : ∀ k : Nat, k < 8 → Builtin.bitXor (k : Int) 6 = ((k ^^^ 6 : Nat) : Int) := by
  have h : ∀ k : Fin 8, Builtin.bitXor ((k.val : Nat) : Int) 6 = ((k.val ^^^ 6 : Nat) : Int) := by decide
  exact fun k hk => h ⟨k, hk⟩
theorem xor6_lt : ∀ k : Nat, k < 8 → 3 < k → k ^^^ 6 < 4 := by
  have h : ∀ k : Fin 8, 3 < k.val → k.val ^^^ 6 < 4 := by decide
  exact fun k hk => h ⟨k, hk⟩
theorem xorT : ∀ k t : Nat, k < 8 → t < 8 → Builtin.bitXor (k : Int) (t : Int) = ((k ^^^ t : Nat) : Int) := by
  have h : ∀ k t : Fin 8, Builtin.bitXor ((k.val : Nat) : Int) ((t.val : Nat) : Int) = ((k.val ^^^ t.val : Nat) : Int) := by decide
  exact fun k t hk ht => h ⟨k, hk⟩ ⟨t, ht⟩
theorem rng_ok (n : Nat) (h : n < 4) : Builtin.Range.small (n : Int) 0 (-1) = true ∧ Builtin.Range.rangeSize (n : Int) 0 (-1) = (n : Int) := by
  have h' : ∀ n : Fin 4, Builtin.Range.small ((n.val : Nat) : Int) 0 (-1) = true ∧ Builtin.Range.rangeSize ((n.val : Nat) : Int) 0 (-1) = ((n.val : Nat) : Int) := by decide
  exact h' ⟨n, h⟩
noncomputable def SpI (a b : Addr) (rs : List (List Nat)) (rounds spot : Nat) (place : Int) (i : Nat) (m : Str → Option Value) (_ : Gs) : Prop :=
  m (Str.ofString "rules") = some (.ref a) ∧ m (Str.ofString "sizes") = some (.ref b) ∧ ∃ (sp tu : Nat) (pl : Int) (u1 u2 u3 : Tok), m (Str.ofString "spot") = some (.int (sp : Int) u1) ∧ m (Str.ofString "place") = some (.int pl u2) ∧ m (Str.ofString "turned") = some (.int (tu : Int) u3) ∧ sp < 8 ∧ tu < 8 ∧ spotAt rs (rounds - i) sp pl tu = spotAt rs rounds spot place 0
noncomputable def SpM (a b : Addr) (rs : List (List Nat)) (rounds spot : Nat) (place : Int) (k : Nat) (t : Tok) (m2 : Str → Option Value) : Prop :=
  ∃ (sp2 tu2 : Nat) (pl2 : Int) (w1 w2 w3 : Tok), m2 (Str.ofString "rules") = some (.ref a) ∧ m2 (Str.ofString "sizes") = some (.ref b) ∧ m2 (Str.ofString "spot") = some (.int (sp2 : Int) w1) ∧ m2 (Str.ofString "place") = some (.int pl2 w2) ∧ m2 (Str.ofString "turned") = some (.int (tu2 : Int) w3) ∧ m2 (Str.ofString "step") = some (.int ((k + 1 : Nat) : Int) t) ∧ sp2 < 4 ∧ tu2 < 8 ∧ spotAt rs k (stepIn (szs rs k) (rs.getD sp2 []) sp2 pl2).1 (stepIn (szs rs k) (rs.getD sp2 []) sp2 pl2).2 tu2 = spotAt rs rounds spot place 0
noncomputable def SpJ (a b : Addr) (rs : List (List Nat)) (k : Nat) (t : Tok) (tu2 sp2 : Nat) (w3 w1 : Tok) (r : List Nat) (pl2 : Int) (j : Nat) (m : Str → Option Value) (_ : Gs) : Prop :=
  m (Str.ofString "rules") = some (.ref a) ∧ m (Str.ofString "sizes") = some (.ref b) ∧ m (Str.ofString "step") = some (.int ((k + 1 : Nat) : Int) t) ∧ m (Str.ofString "turned") = some (.int (tu2 : Int) w3) ∧ m (Str.ofString "spot") = some (.int (sp2 : Int) w1) ∧ ∃ pl w2, m (Str.ofString "place") = some (.int pl w2) ∧ stepIn (szs rs k) (r.drop j) sp2 pl = stepIn (szs rs k) r sp2 pl2
set_option maxHeartbeats 8000000 in
theorem spot_c (w : World) (a b : Addr) (rs : List (List Nat)) (spot rounds : Nat) (place : Int) (t1 t2 t3 : Tok) (G : Gs) {A : Around} {s : Shared} {Q E : Value → Shared → Prop} (C : Can w A s.heap [] 1 20) (hG : Sub G s.heap) (hR : Rd G (dataNN rs) (.ref a)) (hZ : Rd G (dataNN ((List.range 4).map (szs rs))) (.ref b)) (hns : rs.length = 4) (hlt : ∀ r ∈ rs, ∀ i ∈ r, i < 8) (hlen : ∀ r ∈ rs, r.length ≤ 3) (hsp : spot < 8) (hro : rounds < 4)
    (hret : ∀ t h' tk', Ext s.heap h' → Q (.int ((spotAt rs rounds spot place 0 : Nat) : Int) t) { s with heap := h', toks := tk' }) :
    wpAny (MO w) A (call (.ref 246) [.ref a, .ref b, .int (spot : Int) t1, .int (rounds : Int) t2, .int place t3]) Q E s := by
  refine wpAny_call ?_
  obtain ⟨hnd, dp, fr, gd, un⟩ := A
  obtain rfl : hnd = none := C.handled
  refine' enter (d := 0) (u := 16) (binds := [(Str.ofString "rules", .ref a), (Str.ofString "sizes", .ref b), (Str.ofString "spot", .int (spot : Int) t1), (Str.ofString "rounds", .int (rounds : Int) t2), (Str.ofString "place", .int place t3)]) C ?k1 ?k2 (BindsTo.of_eq ?k3) ?k4 ?k5 ?k6 ?k7 ?k8 ?k9
  case k1 => k_is
  case k2 => k_is
  case k3 => exact rfl
  case k4 => exact locs rfl
  case k6 => exact rfl
  case k7 => exact rfl
  case k8 => exact rfl
  case k9 => decide
  case k5 =>
    intro g L' h₁ hg bd F N
    have hgE : Ext s.heap g := fun b o e => hg b o e (by simp)
    have hGg : Sub G g := hG.ext hgE
    obtain ⟨hh, hdp, hun, X, p, loose, mean, mg, mb, env, outer, A₀, base, hA, hf, hke, B, T⟩ := bd
    obtain ⟨a', vsr, e0, hLr, hPr⟩ := rd_lists hR
    cases e0
    obtain ⟨b', vsz, e0, hLz, hPz⟩ := rd_lists hZ
    cases e0
    k_steps
    refine ⟨?_⟩
    refine for_rule2 ?_
    k_steps
    rename IsRange _ _ _ _ _ _ _ _ => hrg
    rename Fr _ _ _ _ => F1
    rename News _ _ _ _ => N1
    refine for_led (G := fun _ _ => False) (G₀ := G) (n := rounds) (SpI a b rs rounds spot place) F1 N1 (fun _ e => e) (itb_range rfl hrg (rng_ok _ hro).1 (rng_ok _ hro).2) ⟨rfl, rfl, spot, 0, place, _, _, _, rfl, rfl, rfl, hsp, by decide, rfl⟩ ?_ ?_
    · rintro i v h tk m nw own hi ⟨hm1, hm2, sp, tu, pl, u1, u2, u3, hm3, hm4, hm5, h6, h7, h8⟩ F2 N2 hown ⟨t, rfl⟩
      obtain ⟨k, hk⟩ : ∃ k, rounds - i = k + 1 := ⟨rounds - i - 1, by omega⟩
      have hk2 : rounds - (i + 1) = k := by omega
      have hkv : (rounds : Int) + (i : Nat) * (-1) = ((k + 1 : Nat) : Int) := by omega
      rw [hkv]
      rw [hk] at h8
      refine assignG F2 N2 rfl rfl fun h3 tk3 F3 N3 => ?_
      obtain ⟨m1, F4, q1, q2, q3, q4, q5, q6⟩ : ∃ m1, Fr g _ h3 m1 ∧ m1 (Str.ofString "rules") = some (.ref a) ∧ m1 (Str.ofString "sizes") = some (.ref b) ∧ m1 (Str.ofString "spot") = some (.int (sp : Int) u1) ∧ m1 (Str.ofString "place") = some (.int pl u2) ∧ m1 (Str.ofString "turned") = some (.int (tu : Int) u3) ∧ m1 (Str.ofString "step") = some (.int ((k + 1 : Nat) : Int) t) := ⟨_, F3, hm1, hm2, hm3, hm4, hm5, rfl⟩
      clear F2 N2 F3
      have hz : ∀ j, j < 4 → ((List.range 4).map (szs rs))[j]? = some (szs rs j) := fun j hj => by simp [hj]
      refine wpAny_execs_cons (wpAny_mono (Q := fun fl s' => Stop (fl = Flow.next ∧ ∃ h5 tk5 m2, s' = { heap := h5, gens := s.gens, drawn := s.drawn, toks := tk5, os := s.os } ∧ Fr g L' h5 m2 ∧ News g L' h5 (nw ++ own) ∧ SpM a b rs rounds spot place k t m2)) ?_ (fun fl s' hq => ?_) (fun _ _ z => z))
      · k_steps
        · rename Fr _ _ _ _ => F5
          refine ⟨?_⟩
          refine item_rows hLz hPz (hGg.ext F5.keep) (hz (k + 1) (by omega)) (by omega) fun sa svs hLs hIs => ?_
          k_steps
          refine ⟨?_⟩
          refine item_intsT hLs hIs (hGg.ext F5.keep) (by rw [szs_len rs hns]; exact h6) (by omega) fun t' => ?_
          k_steps
          rename Fr _ _ _ _ => F6
          rename News _ _ _ _ => N6
          rename (3 < _) => h3s
          rw [xor6 sp h6, xor6 tu h7] at F6
          have hx4 := xor6_lt sp h6 (by omega)
          exact Stop.mk ⟨rfl, _, _, _, rfl, F6, N6, sp ^^^ 6, tu ^^^ 6, _, _, _, _, q1, q2, rfl, rfl, rfl, q6, hx4, Nat.xor_lt_two_pow (n := 3) h7 (by decide), by rw [← h8]; show _ = ite _ _ _; rw [if_pos (by omega)]⟩
        · rename (¬ 3 < _) => h3s
          exact Stop.mk ⟨rfl, _, _, _, rfl, F4, N3, sp, tu, _, _, _, _, q1, q2, q3, q4, q5, q6, by omega, h7, by rw [← h8]; show _ = ite _ _ _; rw [if_neg (by omega)]⟩
      obtain ⟨rfl, h5, tk5, m2, rfl, F7, N7, sp2, tu2, pl2, w1, w2, w3, r1, r2, r3, r4, r5, r6, hsp2, htu2, hres⟩ := hq.out
      clear F4 N3
      dsimp only
      k_steps
      · clear q1 q2 q3 q4 q5 q6
        refine ⟨?_⟩
        refine for_rule2 ?_
        k_steps
        rename Fr _ _ _ _ => F8
        rename News _ _ _ _ => N8
        have hr2 : rs[sp2]? = some (rs.getD sp2 []) := by simp [show sp2 < rs.length by omega]
        have hrm := List.mem_of_getElem? hr2
        generalize rs.getD sp2 [] = r at hr2 hres hrm
        refine ⟨?_⟩
        refine item_rows hLr hPr (hGg.ext F8.keep) hr2 (by omega) fun ra rvs hLra hIra => ?_
        refine for_ledK (G := G) (G₀ := G) (n := r.length) (kp := nw ++ own) (nw₀ := []) (SpJ a b rs k t tu2 sp2 w3 w1 r pl2) (itb_listN rfl (by have := hIra.length; simpa using this) hLra (hGg.ext F8.keep) (.inl ⟨_, _, rfl⟩)) F8 News.nil N8 (Sub.off hGg F8) ⟨r1, r2, r6, r5, r3, pl2, w2, r4, rfl⟩ ?_ ?_
        · rintro j v h5 tk5 m5 nw5 own5 hj ⟨g1, g2, g3, g4, g5, pl3, w4, g6, g7⟩ F9 N9 K9 hkk hown5 hv
          obtain ⟨p, tp, hp, rfl⟩ := ints_of hIra hv
          have hp8 := hlt r hrm p (List.mem_of_getElem? hp)
          refine assignG F9 K9 rfl rfl fun h6' tk6 F10 N10 => ?_
          obtain ⟨m6, F11, z1, z2, z3, z4, z5, z6, z7⟩ : ∃ m6, Fr g _ h6' m6 ∧ m6 (Str.ofString "rules") = some (.ref a) ∧ m6 (Str.ofString "sizes") = some (.ref b) ∧ m6 (Str.ofString "step") = some (.int ((k + 1 : Nat) : Int) t) ∧ m6 (Str.ofString "turned") = some (.int (tu2 : Int) w3) ∧ m6 (Str.ofString "spot") = some (.int (sp2 : Int) w1) ∧ m6 (Str.ofString "place") = some (.int pl3 w4) ∧ m6 (Str.ofString "piece") = some (.int (p : Int) tp) := ⟨_, F10, g1, g2, g3, g4, g5, g6, rfl⟩
          clear F8 F9 F10 N9 K9 g1 g2 g3 g4 g5 g6 r1 r2 r3 r4 r5 r6
          k_steps
          rw [show ((k + 1 : Nat) : Int) - 1 = (k : Int) by omega]
          refine ⟨?_⟩
          refine item_rows hLz hPz (hGg.ext F11.keep) (hz k (by omega)) (by omega) fun sa svs hLs hIs => ?_
          k_steps
          refine ⟨?_⟩
          refine item_intsT hLs hIs (hGg.ext F11.keep) (by rw [szs_len rs hns]; exact hp8) (by omega) fun t' => ?_
          k_steps
          · rename Fr _ _ _ _ => FC
            rename News _ _ _ _ => NC
            rename (_ < _) => hlt2
            show LedPost _ _ _ _ _ _ _ _ Flow.brk _
            refine LedPost.br ?_
            dsimp only
            k_steps
            refine LedPost.nx FC (fun p hp => NC p (hkk p hp)) (fun p hp => (NC p (hkk p (List.mem_append_right _ hp))).1) ⟨z1, z2, p, tu2, pl3, _, _, _, rfl, z6, z4, hp8, htu2, ?_⟩
            rw [← g7, step_drop hp, if_pos hlt2] at hres
            rw [hk2]; exact hres
          · rename Fr _ _ _ _ => FC
            rename News _ _ _ _ => NC
            rename (¬ (_ < _)) => hlt2
            refine LedPost.nx FC NC (fun p hp => (NC p hp).1) ⟨z1, z2, z3, z4, z5, _, _, rfl, ?_⟩
            rw [← g7, step_drop hp, if_neg hlt2]
        · rintro h5 tk5 m5 nw5 ⟨g1, g2, g3, g4, g5, pl3, w4, g6, g7⟩ F9 N9 K9
          rw [List.drop_length] at g7
          rw [← g7] at hres
          dsimp only
          k_steps
          refine LedPost.nx F9 K9 (fun p hp => (K9 p (List.mem_append_right _ hp)).1) ⟨g1, g2, sp2, tu2, pl3, _, _, _, g5, g6, g4, by omega, htu2, ?_⟩
          rw [hk2]; exact hres
    · rintro h tk m nw ⟨hm1, hm2, sp, tu, pl, u1, u2, u3, hm3, hm4, hm5, h6, h7, h8⟩ F2 N2
      rw [Nat.sub_self] at h8
      dsimp only
      k_steps
      rename Fr _ _ _ _ => FC
      rw [xorT sp tu h6 h7, show sp ^^^ tu = _ from h8]
      exact ⟨⟨_, FC⟩, hret _ _ _ (hgE.trans FC.keep)⟩
end

-- Col
section
theorem zoff17 : True := by w_top off; trivial
theorem slice_listT {w : World} {A : Around} {E : Value → Shared → Prop} {s : Shared} {h₀ : Heap} {L : Addr} {m : Str → Option Value} {news : List (Addr × Obj)} {value slice : Expr} {l : Addr} {items : Array Value} {vl vu : Value} {lo hi : Option Int} {ops : List Value} {Q : Value → Shared → Prop}
    (F : Fr h₀ L s.heap m) (N : News h₀ L s.heap news) (hl : s.heap.IsList l items) (pl : IsPart vl lo) (pu : IsPart vu hi) (hsz : items.size ≤ sizeLine)
    (h : ∀ h', Fr h₀ L h' m → News h₀ L h' ((s.heap.objs.size + 1, { cls := .type "list", data := .seq (slicePick items lo hi none) }) :: news) → Q (.ref (s.heap.objs.size + 1)) { s with heap := h' })
    (hs : subscripted slice false (.ref l) (.ref s.heap.objs.size) = operate ops (getItem (.ref l) (.ref s.heap.objs.size)) := by with_unfolding_all rfl) :
    wpAny (MO w) A (subscriptTail value slice (.ref l) (.ref s.heap.objs.size)) Q E { s with heap := s.heap.push { cls := .type "slice", data := .fields #[vl, vu, .none] } } := by
  refine tail_any (s := { s with heap := s.heap.push { cls := .type "slice", data := .fields #[vl, vu, .none] } }) (Heap.IsList.typeIs (s := { s with heap := s.heap.push { cls := .type "slice", data := .fields #[vl, vu, .none] } }) (hl.push _)) list_getitem_lookup
    (wpAny_getItem_list_slice (hl.push _) (Heap.IsSliceOf.new ..) pl pu .none (by simp) ?_ hsz) hs
  have N1 := News.push (F.push { cls := .type "slice", data := .fields #[vl, vu, .none] }) (N.grown fun _ _ e => Heap.get?_push_of_some _ e) { cls := .type "list", data := .seq (slicePick items lo hi none) }
  rw [Heap.size_push] at N1
  show Q (.ref (s.heap.push _).objs.size) _
  rw [Heap.size_push]
  exact h _ ((F.push _).push _) N1
noncomputable def marksN (ns : List Int) : List Int := ns.take 8 ++ [0, 3, 9, 15, 6, 12, 1, 7].drop (ns.take 8).length
theorem marksN_len (ns : List Int) : (marksN ns).length = 8 := by
  unfold marksN
  rw [List.length_append, List.length_drop, List.length_take]
  simp only [List.length_cons, List.length_nil]; omega
noncomputable def hsN (ns : List Int) : List UInt64 := (marksN ns).zipIdx.map fun p => hueV p.2 p.1
theorem FT.fin {v : Value} {x : F3} : Fin' (fun G => FT G v x) := Fin'.ex fun _ => Fin'.ex fun _ => Fin'.ex fun _ => Fin'.ex fun _ => Fin'.and Fin'.triv Fin'.tup
local macro_rules | `(tactic| walk_at "binaryOp Add ref ref") => `(tactic| (refine Stop.out ?_))
set_option maxHeartbeats 8000000 in
theorem col_c (w : World) (a : Addr) (vs : List Value) (ns : List Int) (G : Gs) {A : Around} {s : Shared} {Q E : Value → Shared → Prop} (C : Can w A s.heap [] 2 24) (hG : Sub G s.heap) (hL : Lst G a vs) (hI : IntsAre vs ns) (hn : ns.length ≤ 63)
    (hret : ∀ v h' tk', Ext s.heap h' → (∃ p vs, v = .ref p ∧ Lst (More G s.heap h') p vs ∧ Paired (FT (More G s.heap h')) vs (((hsN ns).take 4).map (fun h => hsvF h fHalf fOne) ++ ((hsN ns).drop 4).map fun h => hsvF h fOne fHalf)) → Q v { s with heap := h', toks := tk' }) :
    wpAny (MO w) A (call (.ref 212) [.ref a]) Q E s := by
  refine wpAny_call ?_
  obtain ⟨hnd, dp, fr, gd, un⟩ := A
  obtain rfl : hnd = none := C.handled
  refine' enter (d := 1) (u := 20) (binds := [(Str.ofString "script", .ref a)]) C ?k1 ?k2 (BindsTo.of_eq ?k3) ?k4 ?k5 ?k6 ?k7 ?k8 ?k9
  case k1 => k_is
  case k2 => k_is
  case k3 => exact rfl
  case k4 => exact locs rfl
  case k6 => exact rfl
  case k7 => exact rfl
  case k8 => exact rfl
  case k9 => decide
  case k5 =>
    intro g L' h₁ hg bd F N
    have hgE : Ext s.heap g := fun b o e => hg b o e (by simp)
    have hGg : Sub G g := hG.ext hgE
    have bd' := bd.less (d' := 1) (u' := 8) (by decide) (by decide)
    obtain ⟨hh, hdp, hun, X, p, loose, mean, mg, mb, env, outer, A₀, base, hA, hf, hke, B, T⟩ := bd
    have hLg : g.IsList a vs.toArray := hL.isList hGg
    k_steps
    refine ⟨?_⟩
    rename Fr _ _ _ _ => F1
    rename News _ _ _ _ => N1
    rename (_ < _ ∧ _ < _) => l1
    rename_i hIt _ _ _ _ _ _
    refine slice_listT F1 N1 (News.isList N1 (.tail _ (.head _))) (.int _ _) .none (by rw [sizeLine_eq]; exact (by omega : 8 ≤ 16777216)) fun h3 F3 N3 => ?_
    rw [slicePick_from'] at N3
    refine add_arrays_ints (hsz := ?hsz) F3 N3 (News.isList N3 (.tail _ (.tail _ (.tail _ (.head _))))) (News.isList N3 (.head _)) (ms := [0, 3, 9, 15, 6, 12, 1, 7].drop (ns.take 8).length) (ns := ns.take 8) ?i1 ?i2 fun h4 F4 N4 I4 => ?_
    case i1 => simp only [List.toList_toArray]; assumption
    case i2 =>
      rw [List.toList_toArray]
      exact IntsAre.drop (.cons _ _ (.cons _ _ (.cons _ _ (.cons _ _ (.cons _ _ (.cons _ _ (.cons _ _ (.cons _ _ .nil)))))))) _
    case hsz => rw [sizeLine_eq, List.length_drop, List.length_take]; simp only [List.length_cons, List.length_nil]; omega
    clear F3 N3 F1 N1
    k_steps
    rename Fr _ _ _ _ => F5
    rename News _ _ _ _ => N5
    have hlen : (ns.take 8 ++ [0, 3, 9, 15, 6, 12, 1, 7].drop (ns.take 8).length).length = 8 := marksN_len ns
    have hvl := I4.length.trans hlen
    have hLg5 := Gn.sub hGg F5 N5
    refine enum_callN (n := (marksN ns).zipIdx.length) rfl (by rw [List.length_zipIdx, marksN_len]; exact hvl) ⟨_, _, ⟨.inr (.head _), rfl⟩, rfl, rfl⟩ hLg5 fun xv s' I5 => ?_
    refine compF (δ := Int × Nat) (ε := UInt64) (ds := (marksN ns).zipIdx) (pz := fun _ => true) (f := fun p => hueV p.2 p.1) (Ro := fun _ v k => ∃ t, v = .float k t) (I5 _ _ _) hGg F5 N5 (cmp_enum (fun n v => ∃ t, v = .int n t) ?_ hLg5 (by rw [marksN_len]; omega) (fun _ _ _ _ x h => h) rfl rfl rfl rfl (by decide) ?_ ?_) (fun y e => Fin'.triv) ?_
    · intro i v hv
      obtain ⟨t, ht⟩ := I4.get i ((marksN ns).getD i 0) (by
        have hi : i < (marksN ns).length := by rw [marksN_len]; have := (List.getElem?_eq_some_iff.mp hv).1; omega
        show (marksN ns)[i]? = _
        simp [List.getElem?_eq_getElem hi, hi])
      rw [hv] at ht; cases ht
      have hi : i < (marksN ns).length := by rw [marksN_len]; have := (List.getElem?_eq_some_iff.mp hv).1; omega
      exact ⟨_, by simp [List.getElem?_eq_getElem hi, hi], t, rfl⟩
    · rintro n i v t C h tk m Q E hr hi hm hm' hn hx hQ
      exact wpAny_tests_nil (hQ _ _ Ext.rfl')
    · rintro n i v t C h tk m G' Q E ⟨u, rfl⟩ hi hp hm hm' hn hx hle hsub hQ
      rw [marksN_len] at hi
      have e0 : ((i : Nat) : Int).fmod 4 = ((i % 4 : Nat) : Int) := by rw [Int.fmod_eq_emod_of_nonneg _ (by omega)]; omega
      have n1 := Int.fmod_lt_of_pos n (by omega : (0:Int) < 16)
      have n2 := Int.fmod_nonneg_of_pos n (by omega : (0:Int) < 16)
      have n3 := Int.fmod_lt_of_pos (n.fdiv 16) (by omega : (0:Int) < 3)
      have n4 := Int.fmod_nonneg_of_pos (n.fdiv 16) (by omega : (0:Int) < 3)
      have f1 : Float64.ofFrac (decide (((i : Nat) : Int).fmod 4 < 0) != decide ((4 : Int) < 0)) (((i : Nat) : Int).fmod 4).natAbs (Int.natAbs 4) = Float64.ofFrac false (i % 4) 4 := by
        rw [e0, decide_eq_false (by omega), decide_eq_false (by omega), Int.natAbs_natCast]; rfl
      have f2 : Float64.ofFrac (decide (n.fmod 16 < 0) != decide ((64 : Int) < 0)) (n.fmod 16).natAbs (Int.natAbs 64) = Float64.ofFrac false (n.fmod 16).toNat 64 := by
        rw [decide_eq_false (by omega), decide_eq_false (by omega), show (n.fmod 16).natAbs = (n.fmod 16).toNat by omega]; rfl
      have f3 : Float64.ofInt ((n.fdiv 16).fmod 3) = Float64.ofInt ((((n.fdiv 16).fmod 3).toNat : Nat) : Int) := by rw [Int.toNat_of_nonneg n4]
      have g1 : Float64.isInf (Float64.ofFrac false (i % 4) 4) = false := frac_ok.1 ⟨i % 4, Nat.mod_lt _ (by omega)⟩
      have g2 : Float64.isInf (Float64.ofFrac false (n.fmod 16).toNat 64) = false := frac_ok.2 ⟨(n.fmod 16).toNat, by omega⟩
      have g3 : ((n.fdiv 16).fmod 3).natAbs < 1000 := by omega
      clear n1 n2 n3 n4
      have g3' := Flt.Hid.mk g3
      clear g3
      k_steps
      all_goals first
        | (exfalso; rename (Float64.isInf (Float64.ofFrac _ (Int.natAbs (Int.fmod (Nat.cast i) 4)) _) = true) => q; rw [f1, g1] at q; cases q)
        | (exfalso; rename (Float64.isInf (Float64.ofFrac _ (Int.natAbs (Int.fmod n 16)) _) = true) => q; rw [f2, g2] at q; cases q)
        | (exfalso; rename ((_ : Nat) ≤ _) => q; exact absurd (Nat.lt_of_le_of_lt q g3'.out) (by decide))
        | (rw [f1, f2, f3]; exact hQ _ _ _ Ext.rfl' ⟨_, rfl⟩)
    intro D2 h2 tk2 ys2 nw2 F6 N6 hD2 hyl2 hL2 hP2
    clear F5 N5
    rw [filter_tt] at hP2
    have hy2 : ys2.length = 8 := by rw [paired_len hP2, List.length_map, List.length_zipIdx, marksN_len]
    have hue : ∀ h ∈ ((marksN ns).zipIdx.map fun p => hueV p.2 p.1), Float64.isFinite (Float64.mul h 4618441417868443648) = true ∧ (hsvI h).natAbs < 1000 := by
      intro h hh
      obtain ⟨⟨n, i⟩, _, rfl⟩ := List.mem_map.mp hh
      have n1 := Int.fmod_lt_of_pos n (by omega : (0:Int) < 16)
      have n2 := Int.fmod_nonneg_of_pos n (by omega : (0:Int) < 16)
      have n3 := Int.fmod_lt_of_pos (n.fdiv 16) (by omega : (0:Int) < 3)
      have n4 := Int.fmod_nonneg_of_pos (n.fdiv 16) (by omega : (0:Int) < 3)
      exact hue_ok ⟨i % 4, Nat.mod_lt _ (by omega)⟩ ⟨(n.fmod 16).toNat, by omega⟩ ⟨((n.fdiv 16).fmod 3).toNat, by omega⟩
    generalize hhs : ((marksN ns).zipIdx.map fun p => hueV p.2 p.1) = hs at hP2 hue
    k_steps
    rename Fr _ _ _ _ => F8
    rename News _ _ _ _ => N8
    rw [show (some (4:Int)) = some ((4:Nat):Int) from rfl, slicePick_upto', List.toList_toArray] at N8
    have hLg8 := Gn.sub hGg F8 N8
    have hP8 := paired_take 4 hP2
    refine compF (δ := UInt64) (ε := F3) (pz := fun _ => true) (f := fun h => hsvF h fHalf fOne) (Ro := fun G v x => FT G v x) (itb_listN rfl (paired_len hP8) ⟨_, _, ⟨.inr (.head _), rfl⟩, rfl, rfl⟩ hLg8 (.inl ⟨_, _, rfl⟩)) hGg F8 N8 (cmp_list (fun d v => d ∈ hs ∧ ∃ t, v = .float d t) (fun i v hv => let ⟨x, h1, h2⟩ := paired_get hP8 hv; ⟨x, h1, List.mem_of_mem_take (List.mem_of_getElem? h1), h2⟩) hLg8 (by rw [List.length_take]; omega) (fun _ _ _ _ x h => FT.mono h x) rfl rfl ?_ ?_) (fun y e => FT.fin) ?_
    · rintro n v C h tk m Q E hr hm hn hx hQ
      exact wpAny_tests_nil (hQ _ _ Ext.rfl')
    · rintro n v C h tk m G' Q E ⟨hnm, u, rfl⟩ hp hm hn hx hle hsub hQ
      have FX := Fr.keeps F8 hx
      k_steps
      exact hsv_c w n fHalf fOne _ _ _ (by decide +kernel) (hue n hnm).1 (hue n hnm).2 (bd'.can FX News.nil) fun v' h' tk' hx' hv' => hQ _ _ _ hx' (hv' _)
    intro D9 h9 tk9 ys9 nw9 F9 N9 hD9 hyl9 hL9 hP9
    rw [filter_tt] at hP9
    clear F8 N8
    k_steps
    refine ⟨?_⟩
    have zD := (N9 (D2, LCg.lst ys2) (by simp)).1
    refine slice_list (items := ys2.toArray) (hsz := ?hsz) F9 N9 ⟨_, zD, rfl, _, rfl⟩ (.int _ _) .none fun hA FA NA => ?_
    case hsz => rw [sizeLine_eq, List.size_toArray]; omega
    rw [show (some (4:Int)) = some ((4:Nat):Int) from rfl, slicePick_from', List.toList_toArray] at NA
    have hLgA := Gn.sub hGg FA NA
    have hPA := paired_drop 4 hP2
    clear F9 N9 hL9
    refine compF (δ := UInt64) (ε := F3) (pz := fun _ => true) (f := fun h => hsvF h fOne fHalf) (Ro := fun G v x => FT G v x) (itb_listN rfl (paired_len hPA) ⟨_, _, ⟨.inr (.head _), rfl⟩, rfl, rfl⟩ hLgA (.inl ⟨_, _, rfl⟩)) hGg FA NA (cmp_list (fun d v => d ∈ hs ∧ ∃ t, v = .float d t) (fun i v hv => let ⟨x, h1, h2⟩ := paired_get hPA hv; ⟨x, h1, List.mem_of_mem_drop (List.mem_of_getElem? h1), h2⟩) hLgA (by rw [List.length_drop, ← paired_len hP2]; omega) (fun _ _ _ _ x h => FT.mono h x) rfl rfl ?_ ?_) (fun y e => FT.fin) ?_
    · rintro n v C h tk m Q E hr hm hn hx hQ
      exact wpAny_tests_nil (hQ _ _ Ext.rfl')
    · rintro n v C h tk m G' Q E ⟨hnm, u, rfl⟩ hp hm hn hx hle hsub hQ
      have FX := Fr.keeps FA hx
      k_steps
      exact hsv_c w n fOne fHalf _ _ _ (by decide +kernel) (hue n hnm).1 (hue n hnm).2 (bd'.can FX News.nil) fun v' h' tk' hx' hv' => hQ _ _ _ hx' (hv' _)
    intro DB hB tkB ysB nwB FB NB hDB hylB hLB hPB
    rw [filter_tt] at hPB
    clear FA NA
    k_steps
    have hhl : hs.length = 8 := by rw [← paired_len hP2]; exact hy2
    refine ⟨?_⟩
    refine add_arrays (its := ys9.toArray) (its2 := ysB.toArray) (hsz := ?hsz) FB NB ⟨_, (NB (D9, LCg.lst ys9) (by simp)).1, rfl, _, rfl⟩ ⟨_, (NB _ (.head _)).1, rfl, _, rfl⟩ fun hC FC NC => ?_
    case hsz =>
      rw [List.length_take] at hyl9
      rw [List.length_drop] at hylB
      rw [sizeLine_eq, List.size_toArray, List.size_toArray]; omega
    refine ⟨⟨_, FC⟩, hret _ _ _ (hgE.trans FC.keep) ⟨_, _, rfl, ⟨_, 0, Gn.ret hgE NC _ _ ⟨.inr (.head _), rfl⟩, rfl, rfl⟩, ?_⟩⟩
    rw [show hsN ns = hs from hhs]
    refine paired_append (Paired.le (fun a b x => FT.mono x (Gn.ret hgE fun p hp => NC p (.tail _ (.tail _ (List.mem_append_right _ (.tail _ hp)))))) hP9) (Paired.le (fun a b x => FT.mono x (Gn.ret hgE fun p hp => NC p (.tail _ hp))) hPB)
end

-- Cst
section
theorem stCellK {M : Model} {A : Around} {env : Env} {E : Value → Shared → Prop} {Q : Unit → Shared → Prop} {s : Shared} {x : Str} {v : Value} {G : Gs} {g : Heap} {L c : Addr} {o : Obj} {m : Str → Option Value} {nw own rest : List (Addr × Obj)}
    (F : Fr g L s.heap m) (N : News g L s.heap nw) (cl : ∀ p ∈ own ++ (c, o) :: rest, p ∈ nw) (h1 : ∀ p ∈ own, p.1 ≠ c) (h2 : ∀ p ∈ rest, p.1 ≠ c) (hd : ∃ v₀, o.data = .cell v₀)
    (hk : env.scope.kind = .function) (hl : env.kindOf x = some .cell) (hc : env.cells.lookup x = some c)
    (h : ∀ h' o' nw', Fr g L h' m → News g L h' ((own ++ (c, o') :: rest) ++ nw') → o'.data = .cell (some v) →
      (∀ R : Gs → Prop, Fin' R → R (Gn G nw) → R (Gn G ((own ++ (c, o') :: rest) ++ nw'))) → Q () { s with heap := h' }) :
    wpAny M A (storeName env x v) Q E s := by
  obtain ⟨v₀, hd⟩ := hd
  have hm : (c, o) ∈ nw := cl _ (List.mem_append_right _ (.head _))
  have hmem := N _ hm
  refine wpAny_storeName_cell hk hl hc ⟨o, hmem.1, hd⟩ fun h' hv hs => ?_
  obtain ⟨o', ho', hd'⟩ := hv
  have N' : News g L h' ((c, o') :: nw.filter fun p => decide (p.1 ≠ c)) := by
    intro p hp
    rcases List.mem_cons.mp hp with rfl | hp
    · exact ⟨ho', hmem.2⟩
    · have hp := List.mem_filter.mp hp
      have hpc : p.1 ≠ c := of_decide_eq_true hp.2
      exact ⟨(hs.2 p.1 hpc).trans (N p hp.1).1, (N p hp.1).2⟩
  have sub : ∀ p ∈ (own ++ (c, o') :: rest) ++ nw.filter (fun p => decide (p.1 ≠ c)), p ∈ (c, o') :: nw.filter (fun p => decide (p.1 ≠ c)) := by
    intro p hp
    rcases List.mem_append.mp hp with hp | hp
    · rcases List.mem_append.mp hp with hp | hp
      · exact List.mem_cons_of_mem _ (List.mem_filter.mpr ⟨cl p (List.mem_append_left _ hp), decide_eq_true (h1 p hp)⟩)
      · rcases List.mem_cons.mp hp with rfl | hp
        · exact .head _
        · exact List.mem_cons_of_mem _ (List.mem_filter.mpr ⟨cl p (List.mem_append_right _ (.tail _ hp)), decide_eq_true (h2 p hp)⟩)
    · exact List.mem_cons_of_mem _ hp
  refine h h' o' _ ⟨F.ns.sameBut hs (Ne.symm hmem.2.1), fun b ob e => (hs.2 b (fun q => ?_)).trans (F.keep b ob e), F.above⟩ (fun p hp => N' p (sub p hp)) hd' fun R f r => ?_
  · rw [q, hmem.2.2] at e; cases e
  · refine f.mono (Gn.le fun p hp => ?_) (Fin'.cell (o' := o') f N hm hd r)
    exact List.mem_append.mpr (by
      rcases List.mem_cons.mp hp with rfl | hp
      · exact .inl (List.mem_append_right _ (.head _))
      · exact .inr hp)
end

-- Cmp3
section
section
variable {w : World} {A : Around} {env : Env} {scope : Scope} {cl : List (Str × Addr)} {elt : Expr} {ifs : List Expr} {G : Gs} {s₁ : Shared} {δ ε : Type} {ds : List δ} {f : δ → ε} {Ro : Gs → Value → ε → Prop} {vs : List Value}
theorem cmp_col {x y z : Str} {p q r r' : Pos} {k : Nat} {pz : δ → Bool} (c : δ → F3) (hvs : Paired (fun v d => FT G v (c d)) vs ds) (hsub : Sub G s₁.heap) (hlen : ds.length ≤ 1000) (mono : ∀ G G' y e, Le G G' → Ro G y e → Ro G' y e) (hh : A.handled = none) (hkind : scope.kind = .function)
    (hx : scope.names.lookup x = some .local) (hy : scope.names.lookup y = some .local) (hz : scope.names.lookup z = some .local) (hxy : x ≠ y) (hxz : x ≠ z) (hyz : y ≠ z)
    (tests : ∀ d t1 t2 t3 C h tk m (Q : Bool → Shared → Prop) (E : Value → Shared → Prop), d ∈ ds → m x = some (.float (c d).1 t1) → m y = some (.float (c d).2.1 t2) → m z = some (.float (c d).2.2 t3) → h.Ns C m → Ext s₁.heap h → (∀ h' tk', Ext h h' → Q (pz d) { s₁ with heap := h', toks := tk' }) →
      wpAny (MO w) A (testsOf ifs (compEnvC scope cl C env)) Q E { s₁ with heap := h, toks := tk })
    (helt : ∀ d t1 t2 t3 C h tk m G' (Q : Value → Shared → Prop) (E : Value → Shared → Prop), d ∈ ds → pz d = true → m x = some (.float (c d).1 t1) → m y = some (.float (c d).2.1 t2) → m z = some (.float (c d).2.2 t3) → h.Ns C m → Ext s₁.heap h → Le G G' → Sub G' h → (∀ y h' tk', Ext h h' → Ro (More G' h h') y (f d) → Q y { s₁ with heap := h', toks := tk' }) →
      wpAny (MO w) A (eval elt (compEnvC scope cl C env)) Q E { s₁ with heap := h, toks := tk }) :
    Cmp w A env scope cl elt (.Tuple [.Name x p, .Name y q, .Name z r'] k r) ifs G s₁ (fun i v _ => vs[i]? = some v) ds pz f Ro
      (fun i m => ∃ d t1 t2 t3, ds[i]? = some d ∧ m x = some (.float (c d).1 t1) ∧ m y = some (.float (c d).2.1 t2) ∧ m z = some (.float (c d).2.2 t3)) := by
  refine ⟨hsub, by rw [sizeLine_eq]; omega, mono, ?_, ?_, ?_⟩
  · intro i v C s₂ m₂ Q E hi hv hx' hn hQ
    obtain ⟨d, hd, a, t1, t2, t3, rfl, hT⟩ := paired_get hvs hv
    exact assign_three hh hkind hx hy hz hxy hxz hyz (hT.isTup fun b o e => hx' _ _ (hsub b o e)) hn fun h₃ tk₃ m₃ hn₃ m1 m2 m3 hk => hQ h₃ tk₃ m₃ hn₃ ⟨d, t1, t2, t3, hd, m1, m2, m3⟩ hk
  · rintro i d C s₃ m₃ Q E hd ⟨d', t1, t2, t3, hd', m1, m2, m3⟩ hn hx' ⟨h3, tk3, rfl⟩ hQ
    rw [hd] at hd'; cases hd'
    exact tests d t1 t2 t3 C h3 tk3 m₃ Q E (List.mem_of_getElem? hd) m1 m2 m3 hn hx' hQ
  · rintro i d C s₃ m₃ G' Q E hd hp ⟨d', t1, t2, t3, hd', m1, m2, m3⟩ hn hx' hle hs ⟨h3, tk3, rfl⟩ hQ
    rw [hd] at hd'; cases hd'
    exact helt d t1 t2 t3 C h3 tk3 m₃ G' Q E (List.mem_of_getElem? hd) hp m1 m2 m3 hn hx' hle hs hQ
end
end

-- ColG
section
noncomputable def mkO (k : Nat) (c : F3) : Bool :=
  let mx := fmax c.1 c.2.1 c.2.2; let mn := fmin c.1 c.2.1 c.2.2; let hu := hlsH c.1 c.2.1 c.2.2 mx mn
  (Float64.cmp mn mx == some Ordering.eq) == false && !Float64.isZero (Float64.add mx mn) && !Float64.isZero (Float64.sub mx mn) && !Float64.isZero (Float64.sub (Float64.sub 4611686018427387904 mx) mn) &&
  Float64.isFinite (Float64.mul hu (Float64.ofInt 4)) && Flt.toInt Float64.truncOf (Float64.mul hu (Float64.ofInt 4)) == ((k % 4 : Nat) : Int) && ((Float64.cmp (hlsL mx mn) 4602678819172646912 == some Ordering.lt) == decide (4 ≤ k))
noncomputable def negC (c : F3) : F3 := (Float64.sub (Float64.ofInt 1) c.1, Float64.sub (Float64.ofInt 1) c.2.1, Float64.sub (Float64.ofInt 1) c.2.2)
theorem nameOk_of {k : Nat} {c : F3} (hk : k < 8) (h : mkO k c = true) : ∃ mx mn hu, NameOk c.1 c.2.1 c.2.2 k mx mn hu := by
  unfold mkO at h
  simp only [Bool.and_eq_true, beq_iff_eq, Bool.not_eq_true'] at h
  obtain ⟨⟨⟨⟨⟨⟨h1, h2⟩, h3⟩, h4⟩, h5⟩, h6⟩, h7⟩ := h
  exact ⟨_, _, _, rfl, rfl, h1, by rw [h2]; decide, by rw [h3]; decide, by rw [h4]; decide, rfl, h5, h6, h7, hk⟩
noncomputable def colC (k : Nat) (n : Int) : F3 := if k < 4 then palC k (n.fmod 16).toNat ((n.fdiv 16).fmod 3).toNat else darC (k - 4) (n.fmod 16).toNat ((n.fdiv 16).fmod 3).toNat
noncomputable def fcN {α : Type} (n : Nat) (k : Nat → α) : α := Nat.rec (motive := fun _ => α) (k 0) (fun m _ => k (m + 1)) n
theorem fcN_eq {α : Type} (n : Nat) (k : Nat → α) : fcN n k = k n := by cases n <;> rfl
noncomputable def fz {α : Type} (x : UInt64) (k : UInt64 → α) : α := fcN x.toNat fun n => k (UInt64.ofNat n)
theorem fz_eq {α : Type} (x : UInt64) (k : UInt64 → α) : fz x k = k x := by unfold fz; rw [fcN_eq]; simp
noncomputable def pick {α : Type} (j : Nat) (f s v : UInt64) (K : UInt64 → UInt64 → UInt64 → α) : α :=
  fz (Float64.mul v (Float64.sub 4607182418800017408 s)) fun p =>
  if j = 0 ∨ j = 2 ∨ j = 4 then fz (Float64.mul v (Float64.sub 4607182418800017408 (Float64.mul s (Float64.sub 4607182418800017408 f)))) fun t => if j = 0 then K v t p else if j = 2 then K p v t else K t p v
  else fz (Float64.mul v (Float64.sub 4607182418800017408 (Float64.mul s f))) fun q => if j = 1 then K q v p else if j = 3 then K p q v else K v p q
theorem pick_eq {α : Type} (h s v : UInt64) (K : UInt64 → UInt64 → UInt64 → α) : pick ((hsvI h).fmod 6).toNat (hsvf h) s v K = K (hsvF h s v).1 (hsvF h s v).2.1 (hsvF h s v).2.2 := by
  have h1 := Int.fmod_lt_of_pos (hsvI h) (by omega : (0:Int) < 6)
  have h2 := Int.fmod_nonneg_of_pos (hsvI h) (by omega : (0:Int) < 6)
  unfold pick hsvF
  simp only [fz_eq]
  generalize (hsvI h).fmod 6 = i at h1 h2
  have : i = 0 ∨ i = 1 ∨ i = 2 ∨ i = 3 ∨ i = 4 ∨ i = 5 := by omega
  rcases this with rfl | rfl | rfl | rfl | rfl | rfl <;> rfl
noncomputable def chk (k : Nat) (x y z : UInt64) : Bool :=
  fz (fmax x y z) fun mx => fz (fmin x y z) fun mn => fz (hlsD x y z mx mn) fun dd => fz (Float64.div dd 4618441417868443648) fun qq => fz (Float64.divmod qq 4607182418800017408).snd fun hu => fz (Float64.mul hu (Float64.ofInt 4)) fun h4 => fz (Float64.add mx mn) fun sm =>
  (Float64.cmp mn mx == some Ordering.eq) == false && !Float64.isZero sm && !Float64.isZero (Float64.sub mx mn) && !Float64.isZero (Float64.sub (Float64.sub 4611686018427387904 mx) mn) &&
  Float64.isFinite h4 && Flt.toInt Float64.truncOf h4 == ((k % 4 : Nat) : Int) && ((Float64.cmp (hlsL mx mn) 4602678819172646912 == some Ordering.lt) == decide (4 ≤ k))
theorem chk_eq (k : Nat) (c : F3) : chk k c.1 c.2.1 c.2.2 = mkO k c := by unfold chk; simp only [fz_eq]; rfl
noncomputable def chk2 (k : Nat) (x y z : UInt64) : Bool := chk k x y z && fz (Float64.sub (Float64.ofInt 1) x) fun x => fz (Float64.sub (Float64.ofInt 1) y) fun y => fz (Float64.sub (Float64.ofInt 1) z) fun z => chk (k ^^^ 6) x y z
theorem chk2_eq (k : Nat) (c : F3) : chk2 k c.1 c.2.1 c.2.2 = (mkO k c && mkO (k ^^^ 6) (negC c)) := by unfold chk2; simp only [fz_eq]; rw [chk_eq, ← chk_eq (k ^^^ 6) (negC c)]; rfl
noncomputable def all4 (i a : Nat) : Bool := fz (hueB i a 0) fun h => fcN ((hsvI h).fmod 6).toNat fun j => fz (hsvf h) fun f => pick j f fHalf fOne (chk2 i) && pick j f fOne fHalf (chk2 (i + 4))
theorem all4_eq (i a : Nat) : all4 i a = ((mkO i (palC i a 0) && mkO (i ^^^ 6) (negC (palC i a 0))) && (mkO (i + 4) (darC i a 0) && mkO ((i + 4) ^^^ 6) (negC (darC i a 0)))) := by
  unfold all4; simp only [fz_eq, fcN_eq]; rw [pick_eq, pick_eq, chk2_eq, chk2_eq]; rfl
noncomputable def sameA (i a : Nat) : Bool := fz (hueB i a 0) fun h' => fcN ((hsvI h').fmod 6).toNat fun j => fz (hsvf h') fun f => (fz (hueB i a 1) fun h => ((hsvI h).fmod 6).toNat == j && hsvf h == f) && (fz (hueB i a 2) fun h => ((hsvI h).fmod 6).toNat == j && hsvf h == f)
theorem sameA_eq (i a : Nat) : sameA i a = ((((hsvI (hueB i a 1)).fmod 6).toNat == ((hsvI (hueB i a 0)).fmod 6).toNat && hsvf (hueB i a 1) == hsvf (hueB i a 0)) && (((hsvI (hueB i a 2)).fmod 6).toNat == ((hsvI (hueB i a 0)).fmod 6).toNat && hsvf (hueB i a 2) == hsvf (hueB i a 0))) := by unfold sameA; simp only [fz_eq, fcN_eq]
theorem all4_ok : ∀ (i : Fin 4) (a : Fin 16), all4 i.val a.val = true := by decide +kernel
theorem sameA_ok : ∀ (i : Fin 4) (a : Fin 16), sameA i.val a.val = true := by decide +kernel
theorem hsvF_congr {h h' : UInt64} (s v : UInt64) (e1 : ((hsvI h).fmod 6).toNat = ((hsvI h').fmod 6).toNat) (e2 : hsvf h = hsvf h') : hsvF h s v = hsvF h' s v := by
  have a1 := Int.fmod_nonneg_of_pos (hsvI h) (by omega : (0:Int) < 6)
  have a2 := Int.fmod_nonneg_of_pos (hsvI h') (by omega : (0:Int) < 6)
  have e3 : (hsvI h).fmod 6 = (hsvI h').fmod 6 := by omega
  unfold hsvF hsvT hsvQ
  rw [e3, e2]
theorem hue_b (i : Fin 4) (a : Fin 16) (b : Fin 3) (s v : UInt64) : hsvF (hueB i.val a.val b.val) s v = hsvF (hueB i.val a.val 0) s v := by
  have h := sameA_ok i a
  rw [sameA_eq] at h
  simp only [Bool.and_eq_true, beq_iff_eq] at h
  match b with
  | 0 => rfl
  | 1 => exact hsvF_congr s v h.1.1 h.1.2
  | 2 => exact hsvF_congr s v h.2.1 h.2.2
theorem all_ok (i : Fin 4) (a : Fin 16) : (mkO i.val (palC i.val a.val 0) = true ∧ mkO (i.val ^^^ 6) (negC (palC i.val a.val 0)) = true) ∧ (mkO (i.val + 4) (darC i.val a.val 0) = true ∧ mkO ((i.val + 4) ^^^ 6) (negC (darC i.val a.val 0)) = true) := by
  have h := all4_ok i a
  rw [all4_eq] at h
  simp only [Bool.and_eq_true] at h
  exact h
theorem pal_b (i : Fin 4) (a : Fin 16) (b : Fin 3) : palC i.val a.val b.val = palC i.val a.val 0 := hue_b i a b _ _
theorem dar_b (i : Fin 4) (a : Fin 16) (b : Fin 3) : darC i.val a.val b.val = darC i.val a.val 0 := hue_b i a b _ _
theorem pal_ok (i : Fin 4) (a : Fin 16) (b : Fin 3) : mkO i.val (palC i.val a.val b.val) = true := by rw [pal_b]; exact (all_ok i a).1.1
theorem dar_ok (i : Fin 4) (a : Fin 16) (b : Fin 3) : mkO (i.val + 4) (darC i.val a.val b.val) = true := by rw [dar_b]; exact (all_ok i a).2.1
theorem npal_ok (i : Fin 4) (a : Fin 16) (b : Fin 3) : mkO (i.val ^^^ 6) (negC (palC i.val a.val b.val)) = true := by rw [pal_b]; exact (all_ok i a).1.2
theorem ndar_ok (i : Fin 4) (a : Fin 16) (b : Fin 3) : mkO ((i.val + 4) ^^^ 6) (negC (darC i.val a.val b.val)) = true := by rw [dar_b]; exact (all_ok i a).2.2
theorem ab_lt (n : Int) : (n.fmod 16).toNat < 16 ∧ ((n.fdiv 16).fmod 3).toNat < 3 := by
  have h1 := Int.fmod_lt_of_pos n (by omega : (0:Int) < 16)
  have h2 := Int.fmod_nonneg_of_pos n (by omega : (0:Int) < 16)
  have h3 := Int.fmod_lt_of_pos (n.fdiv 16) (by omega : (0:Int) < 3)
  have h4 := Int.fmod_nonneg_of_pos (n.fdiv 16) (by omega : (0:Int) < 3)
  omega
theorem col_name {k : Nat} (hk : k < 8) (n : Int) : ∃ mx mn hu, NameOk (colC k n).1 (colC k n).2.1 (colC k n).2.2 k mx mn hu := by
  obtain ⟨h1, h2⟩ := ab_lt n
  refine nameOk_of hk ?_
  unfold colC
  by_cases h : k < 4
  · rw [if_pos h]; exact pal_ok ⟨k, h⟩ ⟨_, h1⟩ ⟨_, h2⟩
  · rw [if_neg h]
    have := dar_ok ⟨k - 4, by omega⟩ ⟨_, h1⟩ ⟨_, h2⟩
    rwa [show (⟨k - 4, by omega⟩ : Fin 4).val + 4 = k from by simp; omega] at this
theorem col_neg {k : Nat} (hk : k < 8) (n : Int) : ∃ mx mn hu, NameOk (negC (colC k n)).1 (negC (colC k n)).2.1 (negC (colC k n)).2.2 (k ^^^ 6) mx mn hu := by
  obtain ⟨h1, h2⟩ := ab_lt n
  have hx : ∀ k : Fin 8, k.val ^^^ 6 < 8 := by decide
  refine nameOk_of (hx ⟨k, hk⟩) ?_
  unfold colC
  by_cases h : k < 4
  · rw [if_pos h]; exact npal_ok ⟨k, h⟩ ⟨_, h1⟩ ⟨_, h2⟩
  · rw [if_neg h]
    have := ndar_ok ⟨k - 4, by omega⟩ ⟨_, h1⟩ ⟨_, h2⟩
    rwa [show (⟨k - 4, by omega⟩ : Fin 4).val + 4 = k from by simp; omega] at this
end

-- Cols
section
theorem list8 {α : Type} : ∀ {l : List α}, l.length = 8 → ∃ a b c d e f g h, l = [a, b, c, d, e, f, g, h]
  | [a, b, c, d, e, f, g, h], _ => ⟨a, b, c, d, e, f, g, h, rfl⟩
theorem paired_of_map {α β : Type} {F : Value → β → Prop} {c : α → β} : ∀ {vs : List Value} {ds : List α}, Paired F vs (ds.map c) → Paired (fun v d => F v (c d)) vs ds
  | _, [], .nil => .nil
  | _, _ :: _, .cons x t => .cons x (paired_of_map t)
theorem cols_gen {α β : Type} (H : Nat → Int → α) (P D : α → β) {ms : List Int} (h : ms.length = 8) :
    ((ms.zipIdx.map fun p => H p.2 p.1).take 4).map P ++ ((ms.zipIdx.map fun p => H p.2 p.1).drop 4).map D = (List.range 8).map fun k => if k < 4 then P (H k (ms.getD k 0)) else D (H k (ms.getD k 0)) := by
  obtain ⟨a, b, c, d, e, f, g, i, rfl⟩ := list8 h
  rfl
theorem colC_eq {k : Nat} (hk : k < 8) (n : Int) : colC k n = if k < 4 then hsvF (hueV k n) fHalf fOne else hsvF (hueV k n) fOne fHalf := by
  unfold colC hueV palC darC
  by_cases h : k < 4
  · rw [if_pos h, if_pos h, Nat.mod_eq_of_lt h]
  · rw [if_neg h, if_neg h, show k % 4 = k - 4 by omega]
theorem cols_eq (ns : List Int) : ((hsN ns).take 4).map (fun h => hsvF h fHalf fOne) ++ ((hsN ns).drop 4).map (fun h => hsvF h fOne fHalf) = (List.range 8).map fun k => colC k ((marksN ns).getD k 0) := by
  unfold hsN
  rw [cols_gen hueV (fun h => hsvF h fHalf fOne) (fun h => hsvF h fOne fHalf) (marksN_len ns)]
  refine List.map_congr_left fun k hk => ?_
  exact (colC_eq (List.mem_range.mp hk) _).symm
end

-- Repl
section
theorem zoff18 : True := by w_top off; trivial
noncomputable def fm (c : Nat) (v l : List Nat) : List Nat := l.flatMap fun a => if a = c then v else [a]
theorem fm_append (c : Nat) (v a b : List Nat) : fm c v (a ++ b) = fm c v a ++ fm c v b := by simp [fm]
theorem fm_free (c : Nat) (v : List Nat) : ∀ l : List Nat, c ∉ l → fm c v l = l
  | [], _ => rfl
  | k :: r, h => by
    have h1 : ¬ k = c := fun e => h (e ▸ List.mem_cons_self ..)
    have h2 : c ∉ r := fun m => h (List.mem_cons_of_mem _ m)
    show (if k = c then v else [k]) ++ fm c v r = _
    rw [if_neg h1, fm_free c v r h2]; rfl
theorem fm_one (c : Nat) (v : List Nat) : fm c v [c] = v := by simp [fm]
theorem fm_join (c : Nat) (v : Str) : ∀ parts : List Str, (∀ p ∈ parts, c ∉ p.cps.toList) → fm c v.cps.toList (Str.join ⟨#[c]⟩ parts).cps.toList = (Str.join v parts).cps.toList
  | [], _ => rfl
  | [p], h => fm_free c _ _ (h p (List.mem_singleton.mpr rfl))
  | p :: q :: r, h => by
    have ih := fm_join c v (q :: r) fun a ha => h a (List.mem_cons_of_mem _ ha)
    show fm c _ (p ++ ⟨#[c]⟩ ++ Str.join ⟨#[c]⟩ (q :: r)).cps.toList = (p ++ v ++ Str.join v (q :: r)).cps.toList
    simp only [Str.cps_append, Array.toList_append]
    rw [fm_append, fm_append, ih, fm_free c _ _ (h p (List.mem_cons_self ..))]
    show p.cps.toList ++ fm c _ [c] ++ _ = _
    rw [fm_one]
noncomputable def rep (x k v : Str) : Str := Txt.join v (Txt.split x k)
theorem rep_law (x v : Str) (c : Nat) : (rep x ⟨#[c]⟩ v).cps.toList = fm c v.cps.toList x.cps.toList := by
  unfold rep
  show (Builtin.Str.glued v _).cps.toList = _
  rw [StrLaws.glued_eq_join, ← fm_join c v _ (StrLaws.split_free x c), StrLaws.join_split]
noncomputable def repAll (x : Str) : List (Str × Str) → Str
  | [] => x
  | p :: ps => repAll (rep x p.1 p.2) ps
noncomputable def OkP : List (Str × Str) → Str → Prop
  | [], _ => True
  | p :: ps, x => p.1.length = 1 ∧ p.2.length ≤ 10 ∧ x.length ≤ 1000 ∧ (rep x p.1 p.2).length ≤ 1000 ∧ OkP ps (rep x p.1 p.2)
theorem parts_le (x : Str) (k : Str) : (Builtin.Str.partsBetween x (Builtin.Str.occurrences x k 0 x.length (x.length + 1)) k.length).length ≤ x.length + 2 := by
  rw [length_partsBetween]
  have := StrLaws.occ_length_le x k 0 x.length (x.length + 1)
  omega
inductive Flat : List Value → List (Str × Str) → Prop
  | nil : Flat [] []
  | cons {a b t u vs ps} : Flat vs ps → Flat (.str a t :: .str b u :: vs) ((a, b) :: ps)
theorem Flat.len {vs : List Value} {ps : List (Str × Str)} (h : Flat vs ps) : vs.length = 2 * ps.length := by
  induction h with
  | nil => rfl
  | cons _ ih => simp only [List.length_cons]; omega
theorem seqI (k n : Nat) (h : k < n) : seqIndex? (k : Int) n = some k := by
  unfold seqIndex?
  have h0 : ¬ ((k : Int) < 0) := by omega
  simp [h0, h]
local macro_rules | `(tactic| walk_at "subscriptTail") => `(tactic| (k_here; (with_reducible refine atRI ?_); k_dflt refine item_tupleT (by with_reducible assumption) (by decide) (by decide) rfl rfl ?_))
local macro_rules | `(tactic| walk_at "WhlRest") => `(tactic| (refine Stop.out ?_))
local macro_rules | `(tactic| walk_at "exec While Name cons nil") => `(tactic| (refine Stop.out ?_))
local macro_rules | `(tactic| walk_at "exec While") => `(tactic| (refine Stop.out ?_))
local macro_rules | `(tactic| walk_at "truthy ref") => `(tactic| (refine Stop.out ?_))
local macro_rules | `(tactic| walk_at "call builtin:str.split cons nil") => `(tactic| (refine Stop.out ?_))
local macro_rules | `(tactic| walk_at "call builtin:str.join cons nil") => `(tactic| (refine Stop.out ?_))
set_option maxHeartbeats 8000000 in
theorem replace_c (w : World) (x : Str) (t : Tok) (vs : List Value) (ps : List (Str × Str)) (hps : Flat vs ps) (hlen : ps.length ≤ 100) (hok : OkP ps x) {A : Around} {s : Shared} {Q E : Value → Shared → Prop} (C : Can w A s.heap [] 1 20)
    (hret : ∀ t h' tk', Ext s.heap h' → Q (.str (repAll x ps) t) { s with heap := h', toks := tk' }) :
    wpAny (MO w) A (call (.ref 200) (.str x t :: vs)) Q E s := by
  refine wpAny_call ?_
  obtain ⟨hnd, dp, fr, gd, un⟩ := A
  obtain rfl : hnd = none := C.handled
  refine' enterB (d := 0) (u := 16) (Bn := fun h₂ binds => ∃ d, binds = [(Str.ofString "text", .str x t), (Str.ofString "pairs", .ref d)] ∧ s.heap.get? d = none ∧ h₂.get? d = some { cls := .type "tuple", data := .seq vs.toArray }) C ?k1 ?k2 ?k3 ?k4 ?k5 ?k6 ?k7 ?k8 ?k9
  case k1 => k_is
  case k2 => k_is
  case k3 =>
    intro A E Q hQ
    suffices hh : wpAny (MO w) A (newTuple vs >>= fun d => pure [(Str.ofString "text", .str x t), (Str.ofString "pairs", d)]) Q E s by
      cases vs with
      | nil => exact hh
      | cons v vs' => exact hh
    have hvl := hps.len
    exact wpAny_bind (wpAny_newTuple (hsz := by rw [sizeLine_eq]; omega) (wpAny_pure (hQ _ _ _ (fun b o e => Heap.get?_push_of_some _ e) ⟨_, rfl, size_none _, Heap.get?_push_size _ rfl⟩)))
  case k4 =>
    rintro h₂ binds ⟨d, rfl, _⟩
    exact locs rfl
  case k6 => exact rfl
  case k7 => exact rfl
  case k8 => exact rfl
  case k9 => decide
  case k5 =>
    rintro h₂ tk₂ binds g L' h₁ hx2 ⟨d, rfl, hd0, hd1⟩ hg bd F N
    have hgE : Ext s.heap g := fun b o e => hg b o (hx2 _ _ e) (by simp)
    have hdg : g.get? d = some { cls := .type "tuple", data := .seq vs.toArray } := hg _ _ hd1 (by simp)
    obtain ⟨hh, hdp, hun, X, p, loose, mean, mg, mb, env, outer, A₀, base, hA, hf, hke, B, T⟩ := bd
    k_steps
    refine ⟨?_⟩
    refine whl_start 0 ?_
    obtain ⟨m, F', hm1, hm2⟩ : ∃ m, Fr g L' h₁ m ∧ m (Str.ofString "text") = some (.str x t) ∧ m (Str.ofString "pairs") = some (.ref d) := ⟨_, F, rfl, rfl⟩
    obtain ⟨nwd, N', hD⟩ : ∃ nwd, News g L' h₁ nwd ∧ (g.get? d = some { cls := .type "tuple", data := .seq vs.toArray } ∨ (d, { cls := .type "tuple", data := .seq vs.toArray }) ∈ nwd) := ⟨[], N, .inl hdg⟩
    clear F N hdg hd1 hd0 hg C
    generalize tk₂ + _ = tk
    generalize hR : repAll x ps = R0 at hret
    have tup : ∀ {d : Addr} {vs : List Value} {h : Heap} {m : Str → Option Value} {nwd : List (Addr × Obj)}, Fr g L' h m → News g L' h nwd → (g.get? d = some { cls := .type "tuple", data := .seq vs.toArray } ∨ (d, { cls := .type "tuple", data := .seq vs.toArray }) ∈ nwd) → IsTup h d vs.toArray := fun F N hD => ⟨_, hD.elim (F.keep _ _) fun e => (N _ e).1, rfl, _, rfl⟩
    induction ps generalizing vs x d t h₁ tk m nwd with
    | nil =>
      cases hps
      obtain rfl : x = R0 := hR
      have hT := tup F' N' hD
      refine whl_turn (k := 0) (by passes_own) ?_
      k_steps
      refine ⟨?_⟩
      refine truthy_tuple hT (by decide) ?_
      k_steps
      exact ⟨⟨_, F'⟩, hret _ _ _ (hgE.trans F'.keep)⟩
    | cons p ps ih =>
      obtain ⟨a, b⟩ := p
      cases hps with
      | cons hps =>
        rename_i ta tb vs
        obtain ⟨o1, o2, o3, o4, o5⟩ := hok
        have hvl := hps.len
        have hT := tup F' N' hD
        refine whl_turn (k := 0) (by passes_own) ?_
        k_steps
        have hlen' : ps.length ≤ 100 := by simp only [List.length_cons] at hlen; omega
        refine ⟨?_⟩
        refine truthy_tuple hT (by simp only [List.size_toArray, List.length_cons]; omega) ?_
        k_steps
        refine ⟨?_⟩
        refine item_tupleT (j := 1) (x := .str b tb) hT (by decide) (by decide) (seqI 1 _ (by simp only [List.length_cons]; omega)) rfl ?_
        k_steps
        refine ⟨?_⟩
        refine item_tupleT (j := 0) (x := .str a ta) hT (by decide) (by decide) (seqI 0 _ (by simp only [List.length_cons]; omega)) rfl ?_
        k_steps
        have hrl : (rep x a b).length = ((Txt.split x a).map (·.length)).sum + ((Txt.split x a).length - 1) * b.length := size_glued b (Txt.split x a)
        refine ⟨?_⟩
        refine SCH.split1 (P := fun h' => Ext h₁ h') (hsz := by rw [sizeLine_eq]; omega) (hsz2 := by have := parts_le x a; rw [sizeLine_eq]; omega) (fun h ob p => p.trans fun b o e => Heap.get?_push_of_some _ e) Ext.rfl' (by have o1' : a.length = 1 := o1; rw [o1']; rfl) fun D l h' k ht hx hl => ?_
        have F2 := Fr.keeps F' hx
        have N2 := News.grown N' hx
        clear F' N'
        k_steps
        refine ⟨?_⟩
        refine SC.join hl ht (joinOk_of ?_) fun t' k' => ?_
        · have o4' : (rep x a b).length ≤ 1000 := o4
          have o2' : b.length ≤ 10 := o2
          rw [hrl] at o4'
          cases hn : (Txt.split x a).length with
          | zero => rw [Nat.zero_mul]; omega
          | succ n => rw [hn] at o4'; rw [Nat.succ_mul]; simp only [Nat.succ_sub_one] at o4'; omega
        k_steps
        rename Fr _ _ _ _ => F3
        rename News _ _ _ _ => N3
        refine ⟨?_⟩
        refine slice_tuple_from (a := 2) (hsz := by rw [sizeLine_eq]; simp only [List.size_toArray, List.length_cons]; omega) F3 N3 (tup F3 N3 hD) (by decide) (by simp only [List.size_toArray, List.length_cons]; omega) fun h5 F5 N5 => ?_
        clear F3 N3
        k_steps
        rename Fr _ _ _ _ => F6
        rename News _ _ _ _ => N6
        refine ⟨?_⟩
        exact ih _ _ _ hps hlen' o5 _ _ _ F6 rfl rfl _ N6 (.inr (.head _)) _ hR
end

-- PairsH
section
noncomputable def dgS (k : Nat) : Str := ⟨#[48 + k]⟩
noncomputable def dgs (l : List Nat) : Str := ⟨(l.map (48 + ·)).toArray⟩
noncomputable abbrev namesD : PyData := .list ((List.range 8).map fun k => .str (nmS k))
noncomputable def negD0 : List (PyData × PyData) := (List.range 8).map fun k => (.str (nmS k), .str (nmS (k ^^^ 6)))
noncomputable def NegD (w : World) (G : Gs) (d : Addr) : Prop := ∃ o kvs, G d o ∧ (d == sysModules) = false ∧ o.IsDictOf (strKind PySem.Challenge.rw_pk0113_01.row.prog w) kvs ∧ PyProof.V.FlatPairs PyData.str kvs negD0
theorem NegD.tab {w : World} {G : Gs} {d : Addr} {h : Heap} (x : NegD w G d) (hs : Sub G h) : StrTab PySem.Challenge.rw_pk0113_01.row.prog w h d negD0 := by
  obtain ⟨o, kvs, h1, h2, h3, h4⟩ := x
  exact ⟨h2, kvs, Heap.dictOf_iff.mpr ⟨o, hs _ _ h1, h3⟩, h4⟩
theorem NegD.fin {w : World} {d : Addr} : Fin' (fun G => NegD w G d) := fun G r => by
  obtain ⟨o, kvs, h1, h2, h3, h4⟩ := r
  refine ⟨[d], fun G' k => ⟨o, kvs, k d (.head _) o h1 ?_, h2, h3, h4⟩⟩
  obtain ⟨es, ep, ⟨hc, _⟩, hd, _⟩ := h3
  unfold okd okc; rw [hd, hc]; rfl
theorem neg_item {w : World} {A : Around} {s : Shared} {Q E : Value → Shared → Prop} {G : Gs} {d : Addr} {k : Nat} {t : Tok} {value slice : Expr} (hD : NegD w G d) (hs : Sub G s.heap) (hk : k < 8) (h : ∀ t', Q (.str (nmS (k ^^^ 6)) t') { s with toks := s.toks + 1 })
    (hs1 : subscripted slice false (.ref d) (.str (nmS k) t) = operate [.ref d, .str (nmS k) t] (getItem (.ref d) (.str (nmS k) t)) := by with_unfolding_all rfl) (hg : ∀ r, letTemporaryGo value (.ref d) r = pure () := by intro _; with_unfolding_all rfl) :
    wpAny (MO w) A (subscriptTail value slice (.ref d) (.str (nmS k) t)) Q E s := by
  have hl : lookup (.str (nmS k)) negD0 = some (.str (nmS (k ^^^ 6))) := by
    have h : k = 0 ∨ k = 1 ∨ k = 2 ∨ k = 3 ∨ k = 4 ∨ k = 5 ∨ k = 6 ∨ k = 7 := eight hk
    rcases h with rfl | rfl | rfl | rfl | rfl | rfl | rfl | rfl <;> first | rfl | kernel_rfl
  refine item_strTab (hD.tab hs) hl (fun v hv => ?_) hs1 hg
  obtain ⟨t', rfl⟩ := PyProof.V.Flat.str_inv hv
  exact h t'
theorem strRev (n : Nat) : Builtin.Str.strSliceIndices none none (-1) n = sliceRange ((n : Int) - 1) (-1) (-1) := rfl
theorem rev_str {w : World} {A : Around} {s : Shared} {Q E : Value → Shared → Prop} {x : Str} {t u : Tok} {value slice : Expr} (h : ∀ t' k, Q (.str ⟨x.cps.toList.reverse.toArray⟩ t') { s with heap := s.heap.push { cls := .type "slice", data := .fields #[.none, .none, .int (-1) u] }, toks := k })
    (hsz : x.length ≤ 1000) {ops : List Value}
    (hs : subscripted slice false (.str x t) (.ref s.heap.objs.size) = operate ops (getItem (.str x t) (.ref s.heap.objs.size)) := by with_unfolding_all rfl)
    (ht : ∀ r, letTemporaryGo value (.str x t) r = pure () := by intro _; with_unfolding_all rfl) :
    wpAny (MO w) A (subscriptTail value slice (.str x t) (.ref s.heap.objs.size)) Q E { s with heap := s.heap.push { cls := .type "slice", data := .fields #[.none, .none, .int (-1) u] } } := by
  refine tail_of_ItemOn ⟨"str", _, F.slot_str_getitem.lookup, typeIs_str _ _ _, wpAny_getItem_str_slice (l := none) (u := none) (st := some (-1, u)) ⟨_, Heap.get?_push_size _ rfl, rfl, rfl⟩ rfl (post_val_or_str ?_)⟩ hs ht
  have e : (⟨((slicePicked x none none (some (-1, u))).filterMap (x.cps[·]?)).toArray⟩ : Str) = ⟨x.cps.toList.reverse.toArray⟩ := by
    congr 1
    show ((Builtin.Str.strSliceIndices none none (-1) x.length).filterMap (x.cps[·]?)).toArray = _
    rw [strRev]
    show ((sliceRange ((x.cps.size : Int) - 1) (-1) (-1)).filterMap (x.cps[·]?)).toArray = _
    rw [krv_sliceRange, krv_range, List.filterMap_reverse, krv_all]
  have hc : ¬ ((((some (-1, u) : Option (Int × Tok)).map (·.1)).getD 1 == 1 && (slicePicked x none none (some (-1, u))).length == x.length) = true) := by simp
  rw [if_neg hc, e]
  refine ⟨?_, h⟩
  rw [sizeLine_eq]
  show (x.cps.toList.reverse.toArray).size ≤ _
  have : x.length = x.cps.size := rfl
  simp; omega
theorem extend_at {w : World} {A : Around} {s : Shared} {Q E : Value → Shared → Prop} {D b : Addr} {its its2 : Array Value} {n n2 : Nat} (ho : s.heap.get? D = some { cls := .type "list", data := .seq its n }) (hb : s.heap.get? b = some { cls := .type "list", data := .seq its2 n2 }) (hsz : its.size + its2.size ≤ 1000)
    (h : ∀ h' n', Heap.SameBut D s.heap h' → h'.get? D = some { cls := .type "list", data := .seq (its.toList ++ its2.toList).toArray n' } → Q .none { s with heap := h' }) :
    wpAny (MO w) A (call (.builtin "list.extend") [.ref D, .ref b]) Q E s := by
  have hsz' : its.size + its2.size ≤ sizeLine := by rw [sizeLine_eq]; omega
  refine call_meets PySem.F.slot_list_extend ⟨_, ho, rfl⟩ PySem.F.entry_list_extend (PySem.F.args_list_extend_2 _ _) (AutoSeq1.list_extend_list_list_0 D its n b its2 n2 (extend_door hsz') (Nat.le_trans (Nat.le_add_right _ _) hsz')) ⟨ho, hb, ?_⟩
  have e : its ++ its2 = (its.toList ++ its2.toList).toArray := by simp
  refine h _ (if (its ++ its2).size == its.size then n else n + 1) (Heap.SameBut.update ..) ?_
  rw [Heap.get?_update_self _ ho (by rw [mapSeq_app]; rfl), mapSeq_app, e]
theorem isStrOf_at (k : Str) {vs : List Value} {ns : List Str} (p : StrsAre vs ns) : ∀ (j : Nat) (h1 : j < vs.length) (h2 : j < ns.length), isStrOf k vs[j] = (ns[j] == k) := by
  induction p with
  | nil => intro j h1; cases h1
  | cons n t _ ih =>
    intro j h1 h2
    cases j with
    | zero => rfl
    | succ j => exact ih j (Nat.lt_of_succ_lt_succ h1) (Nat.lt_of_succ_lt_succ h2)
theorem names_strs {G : Gs} : ∀ {ns : List Str} {vs : List Value}, RdL G (ns.map .str) vs → StrsAre vs ns
  | [], _, h => by cases h; exact .nil
  | n :: ns, _, h => by obtain ⟨v, r, rfl, ⟨t, rfl⟩, h3⟩ := h; exact .cons _ _ (names_strs h3)
theorem index_nm {w : World} {A : Around} {s : Shared} {Q E : Value → Shared → Prop} {G : Gs} {a : Addr} {k : Nat} {t : Tok} (hN : Rd G namesD (.ref a)) (hs : Sub G s.heap) (hk : k < 8) (h : ∀ t', Q (.int (k : Int) t') { s with toks := s.toks + 1 }) :
    wpAny (MO w) A (call (.builtin "list.index") [.ref a, .str (nmS k) t]) Q E s := by
  obtain ⟨a', vs, e0, hL, hR⟩ := hN
  cases e0
  have hi : StrsAre vs ((List.range 8).map nmS) := names_strs (by rw [List.map_map]; exact hR)
  obtain ⟨⟨cls, dd, data, sl⟩, ho, hc, n, hd⟩ := hL.isList hs
  simp only at hc hd
  subst hc hd
  have hlen : vs.length = 8 := by have := RdL.length hR; simpa using this
  refine call_meets PySem.F.slot_list_index ⟨_, ho, rfl⟩ PySem.F.entry_list_index (PySem.F.args_list_index_2 _ _)
    (PySem.SeqAt.list_indexAt a vs.toArray n dd sl (.str (nmS k) t) (isStrOf (nmS k)) k (by simp [hlen, hk]) (by omega) ?_ ?_) ⟨ho, fun y hy => (eq_isStrOf (nmS k) t hi y (by simpa using hy)).at _ _, h _⟩
  · show isStrOf (nmS k) vs[k] = true
    rw [isStrOf_at _ hi k (by omega) (by simp [hk])]
    simp
  · intro j hjs hlt
    show isStrOf (nmS k) vs[j] = false
    rw [isStrOf_at _ hi j (by simpa using hjs) (by simp; omega)]
    simp only [List.getElem_map, List.getElem_range]
    exact beq_eq_false_iff_ne.mpr fun e => by have := nm_inj (by omega) hk e; omega
theorem txt_at {l : List Nat} {i : Nat} {v : Value} (h : SignAt (txt l) i v) : ∃ k t, l[i]? = some k ∧ v = .str (nmS k) t := by
  obtain ⟨c, u, hc, rfl⟩ := h
  have hc' : (l[i]?).map (fun i => letters.getD i 97) = some c := by simpa [txt] using hc
  cases hl : l[i]? with
  | none => rw [hl] at hc'; cases hc'
  | some k => rw [hl] at hc'; cases hc'; exact ⟨k, u, rfl, rfl⟩
theorem txt_size (l : List Nat) : (txt l).cps.size = l.length := by simp [txt]
theorem txt_rev (l : List Nat) : (⟨(txt l).cps.toList.reverse.toArray⟩ : Str) = txt l.reverse := by simp [txt]
theorem cmp_str {w : World} {A : Around} {env : Env} {scope : Scope} {cl : List (Str × Addr)} {elt : Expr} {ifs : List Expr} {G : Gs} {s₁ : Shared} {ε : Type} {l : List Nat} {f : Nat → ε} {Ro : Gs → Value → ε → Prop} {x : Str} {p : Pos} {pz : Nat → Bool} (hsub : Sub G s₁.heap) (hlen : l.length ≤ 1000) (mono : ∀ G G' y e, Le G G' → Ro G y e → Ro G' y e) (hkind : scope.kind = .function) (hx : scope.names.lookup x = some .local)
    (tests : ∀ d C h tk m (Q : Bool → Shared → Prop) (E : Value → Shared → Prop), d ∈ l → (∃ t, m x = some (.str (nmS d) t)) → h.Ns C m → Ext s₁.heap h → (∀ h' tk', Ext h h' → Q (pz d) { s₁ with heap := h', toks := tk' }) →
      wpAny (MO w) A (testsOf ifs (compEnvC scope cl C env)) Q E { s₁ with heap := h, toks := tk })
    (helt : ∀ d t C h tk m G' (Q : Value → Shared → Prop) (E : Value → Shared → Prop), d ∈ l → pz d = true → m x = some (.str (nmS d) t) → h.Ns C m → Ext s₁.heap h → Le G G' → Sub G' h → (∀ y h' tk', Ext h h' → Ro (More G' h h') y (f d) → Q y { s₁ with heap := h', toks := tk' }) →
      wpAny (MO w) A (eval elt (compEnvC scope cl C env)) Q E { s₁ with heap := h, toks := tk }) :
    Cmp w A env scope cl elt (.Name x p) ifs G s₁ (fun i v _ => SignAt (txt l) i v) l pz f Ro (fun i m => ∃ k t, l[i]? = some k ∧ m x = some (.str (nmS k) t)) := by
  refine ⟨hsub, by rw [sizeLine_eq]; omega, mono, ?_, ?_, ?_⟩
  · intro i v C s₂ m₂ Q E hi hv hx' hn hQ
    obtain ⟨k, t, hk, rfl⟩ := txt_at hv
    exact assign_name hkind hx hn fun h₃ tk₃ m₃ hn₃ hm hk' => hQ h₃ tk₃ m₃ hn₃ ⟨k, t, hk, hm⟩ hk'
  · rintro i d C s₃ m₃ Q E hd ⟨k, t, hk, hm⟩ hn hx' ⟨h3, tk3, rfl⟩ hQ
    rw [hd] at hk; cases hk
    exact tests d C h3 tk3 m₃ Q E (List.mem_of_getElem? hd) ⟨t, hm⟩ hn hx' hQ
  · rintro i d C s₃ m₃ G' Q E hd hp ⟨k, t, hk, hm⟩ hn hx' hle hs ⟨h3, tk3, rfl⟩ hQ
    rw [hd] at hk; cases hk
    exact helt d t C h3 tk3 m₃ G' Q E (List.mem_of_getElem? hd) hp hm hn hx' hle hs hQ
theorem itb_txt {w : World} {A : Around} {G : Gs} {s₁ : Shared} {l : List Nat} {t : Tok} {x : Str} {p : Pos} (hh : A.handled = none) : Itb w A (.Name x p) G s₁ s₁ (.str (txt l) t) l.length (fun i v _ => SignAt (txt l) i v) :=
  txt_size l ▸ itb_str hh
theorem join_dfold (e : Str) (he : e.cps = #[]) : ∀ (l : List Nat) (a : Array Nat), (l.map dgS).foldl (fun acc p => acc ++ e.cps ++ p.cps) a = a ++ (l.map (48 + ·)).toArray
  | [], a => by simp
  | i :: l, a => by
    rw [List.map_cons, List.foldl_cons, join_dfold e he l]
    simp [he, dgS]
theorem join_dg (l : List Nat) : Txt.join (Str.ofString "") (l.map dgS) = dgs l := by
  cases l with
  | nil => rfl
  | cons i l =>
    show (⟨(l.map dgS).foldl _ (dgS i).cps⟩ : Str) = _
    rw [join_dfold (Str.ofString "") rfl]
    simp [dgs, dgS]
theorem sum_dg : ∀ l : List Nat, (((l.map dgS).map (·.length)).sum) = l.length
  | [] => rfl
  | i :: l => by
    have := sum_dg l
    simp only [List.map_cons, List.sum_cons, List.length_cons, this]
    have : (dgS i).length = 1 := rfl
    omega
theorem join_letters {w : World} {A : Around} {s : Shared} {Q E : Value → Shared → Prop} {D : Addr} {ys : List Value} {l : List Nat} {t : Tok} (hl : s.heap.IsList D ys.toArray) (hP : Paired (fun v y => ∃ t, v = Value.str y t) ys (l.map nmS)) (hlen : l.length ≤ 1000)
    (h : ∀ t' k, Q (.str (txt l) t') { s with toks := k }) : wpAny (MO w) A (call (.builtin "str.join") [.str (Str.ofString "") t, .ref D]) Q E s := by
  refine join_list (items := ys.toArray) hl (by rw [List.toList_toArray]; exact StrsAre.of_paired hP) ?_ fun tj kj => ?_
  · rw [sum_nm, List.length_map]
    show _ + _ * 0 ≤ _
    omega
  · rw [join_nm]; exact h _ _
theorem join_digits {w : World} {A : Around} {s : Shared} {Q E : Value → Shared → Prop} {D : Addr} {ys : List Value} {l : List Nat} {t : Tok} (hl : s.heap.IsList D ys.toArray) (hP : Paired (fun v y => ∃ t, v = Value.str y t) ys (l.map dgS)) (hlen : l.length ≤ 1000)
    (h : ∀ t' k, Q (.str (dgs l) t') { s with toks := k }) : wpAny (MO w) A (call (.builtin "str.join") [.str (Str.ofString "") t, .ref D]) Q E s := by
  refine join_list (items := ys.toArray) hl (by rw [List.toList_toArray]; exact StrsAre.of_paired hP) ?_ fun tj kj => ?_
  · rw [sum_dg, List.length_map]
    show _ + _ * 0 ≤ _
    omega
  · rw [join_dg]; exact h _ _
theorem xor6_lt8 : ∀ k : Nat, k < 8 → k ^^^ 6 < 8 := by
  have h : ∀ k : Fin 8, k.val ^^^ 6 < 8 := by decide
  exact fun k hk => h ⟨k, hk⟩
theorem rev_txt {w : World} {A : Around} {s : Shared} {Q E : Value → Shared → Prop} {l : List Nat} {t u : Tok} {value slice : Expr} {g : Heap} {L : Addr} {m : Str → Option Value} {news : List (Addr × Obj)} (F : Fr g L s.heap m) (N : News g L s.heap news) (hlen : l.length ≤ 1000)
    (h : ∀ h' t' k, Fr g L h' m → News g L h' news → Q (.str (txt l.reverse) t') { s with heap := h', toks := k }) {ops : List Value}
    (hs : subscripted slice false (.str (txt l) t) (.ref s.heap.objs.size) = operate ops (getItem (.str (txt l) t) (.ref s.heap.objs.size)) := by with_unfolding_all rfl)
    (ht : ∀ r, letTemporaryGo value (.str (txt l) t) r = pure () := by intro _; with_unfolding_all rfl) :
    wpAny (MO w) A (subscriptTail value slice (.str (txt l) t) (.ref s.heap.objs.size)) Q E { s with heap := s.heap.push { cls := .type "slice", data := .fields #[.none, .none, .int (-1) u] } } :=
  rev_str (fun t' k => by rw [txt_rev]; exact h _ t' k (F.push _) (News.grown N fun _ _ e => Heap.get?_push_of_some _ e)) (by show (txt l).cps.size ≤ 1000; rw [txt_size]; exact hlen) hs ht
theorem dig_eq : ∀ k : Nat, k < 8 → Str.ofString (toString ((k : Nat) : Int)) = dgS k := by
  have hd : ∀ k : Fin 8, (Str.ofString (toString ((k.val : Nat) : Int))) = dgS k.val := by decide +kernel
  exact fun k hk => hd ⟨k, hk⟩
end

-- Pairs
section
theorem zoff19 : True := by w_top off; trivial
noncomputable def pairs4 (rs : List (List Nat)) (i : Nat) : List (Str × Str) := (List.range i).flatMap fun k => [(nmS k, dgs (rs.getD k [])), (nmS (k ^^^ 6), dgs ((rs.getD k []).reverse.map (· ^^^ 6)))]
theorem pairs4_succ (rs : List (List Nat)) (i : Nat) : pairs4 rs (i + 1) = pairs4 rs i ++ [(nmS i, dgs (rs.getD i [])), (nmS (i ^^^ 6), dgs ((rs.getD i []).reverse.map (· ^^^ 6)))] := by
  unfold pairs4
  rw [List.range_succ, List.flatMap_append]; simp
theorem pairs4_len (rs : List (List Nat)) : ∀ i, (pairs4 rs i).length = 2 * i
  | 0 => rfl
  | i + 1 => by rw [pairs4_succ, List.length_append, pairs4_len rs i]; rfl
theorem Flat.append {vs us : List Value} {ps qs : List (Str × Str)} (h : Flat vs ps) (k : Flat us qs) : Flat (vs ++ us) (ps ++ qs) := by
  induction h with
  | nil => exact k
  | cons _ ih => exact .cons ih
local macro_rules | `(tactic| walk_at "getMethod ref") => `(tactic| (k_here; (with_reducible show wpAny _ _ (getMethod (Value.ref _) (PySem.Str.ofString "index") _) _ _ _); refine Stop.out ?_))
local macro_rules | `(tactic| k_inst) => `(tactic| exact InstAt.up (by assumption) (Fr.keep (by assumption)))
local macro_rules | `(tactic| walk_at "call builtin:str.upper") => `(tactic| (k_here; (try dsimp only); refine up_call (by first | assumption | omega) ?_; intros; try dsimp only))
local macro_rules | `(tactic| walk_at "call builtin:str.join cons nil") => `(tactic| (refine Stop.out ?_))
local macro_rules | `(tactic| walk_at "call builtin:list.extend cons nil") => `(tactic| (refine Stop.out ?_))
noncomputable def PrI (L' x P a dn : Addr) (rs : List (List Nat)) (i : Nat) (m : Str → Option Value) (G' : Gs) : Prop :=
  m (Str.ofString "table") = some (.ref x) ∧ m (Str.ofString "pairs") = some (.ref P) ∧ (∃ o, G' (L' + 1) o ∧ o.data = .cell (some (.ref a))) ∧ (∃ o, G' (L' + 1 + 1) o ∧ o.data = .cell (some (.ref dn))) ∧ ∃ vs n, G' P (W.listOf vs.toArray n) ∧ Flat vs (pairs4 rs i)
noncomputable def PrJ (P : Addr) (rs : List (List Nat)) (j : Nat) (m : Str → Option Value) (G' : Gs) : Prop :=
  m (Str.ofString "pairs") = some (.ref P) ∧ ∃ vs n, G' P (W.listOf vs.toArray n) ∧ Flat vs (pairs4 rs 4 ++ (List.range j).map fun k => (dgS k, nmS k))
set_option maxHeartbeats 8000000 in
theorem pairs_c (w : World) (x hl a dn : Addr) (rs : List (List Nat)) (es : List (Nat × Str)) (G : Gs) {A : Around} {s : Shared} {Q E : Value → Shared → Prop} (C : Can w A s.heap [] 3 40) (hG : Sub G s.heap)
    (hT : Tb G x hl) (hE : Rd G (.list (es.map entD)) (.ref hl)) (hlt : ∀ e ∈ es, e.1 < 8) (hN : Rd G namesD (.ref a)) (hNo : ∃ o, G a o ∧ o.dict = none) (hD : NegD w G dn)
    (hrl : ∀ k, k < 4 → (match es.find? (fun e => decide (e.1 % 4 = k)) with | some e => e.2 | none => nmS k) = txt (rs.getD k [])) (hr1 : ∀ k, k < 4 → 1 ≤ (rs.getD k []).length ∧ (rs.getD k []).length ≤ 3) (hr8 : ∀ k, k < 4 → ∀ j ∈ rs.getD k [], j < 8)
    (hret : ∀ v h' tk', Ext s.heap h' → (∃ p vs, v = .ref p ∧ Lst (More G s.heap h') p vs ∧ Flat vs (pairs4 rs 4 ++ (List.range 8).map fun k => (dgS k, nmS k))) → Q v { s with heap := h', toks := tk' }) :
    wpAny (MO w) A (call (.ref 229) [.ref x, .ref a, .ref dn]) Q E s := by
  refine wpAny_call ?_
  obtain ⟨hnd, dp, fr, gd, un⟩ := A
  obtain rfl : hnd = none := C.handled
  refine' enterC (d := 2) (u := 36) (binds := [(Str.ofString "table", .ref x), (Str.ofString "names", .ref a), (Str.ofString "negative", .ref dn)]) C ?k1 ?k2 (BindsTo.of_eq ?k3) ?k4 ?k5 ?k6 ?k7 ?k8 ?k9
  case k1 => k_is
  case k2 => k_is
  case k3 => exact rfl
  case k4 => exact rfl
  case k5 => decide
  case k7 => exact rfl
  case k8 => exact rfl
  case k9 => exact rfl
  case k6 =>
    intro g L' h₁ tk0 cells hg bd F N Y
    k_cells Y
    have hgE : Ext s.heap g := fun b o e => hg b o e (by simp)
    have hGg : Sub G g := hG.ext hgE
    have bd' := bd.less (d' := 2) (u' := 16) (by decide) (by decide)
    obtain ⟨hh, hdp, hun, X, p, loose, mean, mg, mb, env, outer, A₀, base, hA, hf, hke, B, T⟩ := bd
    have hNN := hN
    obtain ⟨a', vn, e0, hLn, hRn⟩ := hN
    cases e0
    have hT' := hT
    obtain ⟨dx, hs, tkx, nx, hx1, hx2⟩ := hT'
    have hI : InstAt g x (instObj 175 dx) 175 (some (dictOf [⟨hs, .str (Str.ofString "_headers") tkx, .ref hl⟩] nx)) := ⟨hGg _ _ hx1, rfl, rfl, hGg _ _ hx2⟩
    k_steps
    refine ⟨?_⟩
    refine for_rule2 ?_
    k_steps
    rename Fr _ _ _ _ => F1
    rename News _ _ _ _ => N1
    rename_i P _ _ hh1
    have hvn : vn.length = 8 := by have := RdL.length hRn; simpa using this
    have n1 := N1 _ (.head _)
    have n2 := N1 _ (.tail _ (.head _))
    have n3 := N1 _ (.tail _ (.tail _ (.head _)))
    refine ⟨?_⟩
    refine slice_list (items := vn.toArray) (hsz := ?hsz) F1 N1 (hLn.isList (hGg.ext F1.keep)) .none (.int _ _) fun h3 F3 N3 => ?_
    case hsz => rw [sizeLine_eq]; simp; omega
    rw [show (some (4:Int)) = some ((4:Nat):Int) from rfl, slicePick_upto', List.toList_toArray] at N3
    have n4 := N3 _ (.head _)
    refine for_led (G := Gn G [(_, _)]) (G₀ := G) (n := 4) (PrI L' x P a dn rs) F3 N3 (Gn.off hGg F3 (fun p hp => by rw [List.mem_singleton.mp hp]; exact n4)) (itb_listN (vs := vn.take 4) rfl (by rw [List.length_take, hvn]; rfl) ⟨_, _, ⟨.inr (.head _), rfl⟩, rfl, rfl⟩ (Gn.sub hGg F3 (fun p hp => by rw [List.mem_singleton.mp hp]; exact n4)) (.inl ⟨_, _, rfl⟩)) ⟨rfl, rfl, ⟨_, ⟨.inr (.tail _ (.tail _ (.tail _ (.head _)))), okc_cell (by assumption)⟩, by assumption⟩, ⟨_, ⟨.inr (.tail _ (.tail _ (.head _))), okc_cell (by assumption)⟩, by assumption⟩, [], 0, ⟨.inr (.tail _ (.head _)), rfl⟩, .nil⟩ ?_ ?_
    · rintro i v h tk m nw own hi ⟨hm1, hm2, ⟨oA, hA1, hA2⟩, ⟨oN, hN1, hN2⟩, vs, n, hP, hF⟩ F2 N2 hown hv
      replace hA1 := Gn.new hGg hA1 n3.2.2
      replace hN1 := Gn.new hGg hN1 n2.2.2
      replace hP := Gn.new hGg hP n1.2.2
      have hown' : ∀ p ∈ own, p.1 ≠ P := fun p hp q => by
        have hPl := Heap.lt_size n1.1
        rcases hown p hp with e | ⟨o, e, _⟩
        · have h2 := (N3 (P, W.listOf #[] 0) (.tail _ (.head _))).1
          rw [q] at e; rw [show h3.get? P = none from e] at h2; cases h2
        · rcases e with e | e
          · have := hGg _ _ e; rw [q, n1.2.2] at this; cases this
          · have e2 := congrArg Prod.fst (List.mem_singleton.mp e)
            rw [q] at e2
            exact absurd e2 (Nat.ne_of_lt (Nat.lt_succ_of_lt hPl))
      rw [List.getElem?_take] at hv
      rw [if_pos hi] at hv
      obtain ⟨d, hd1, hd2⟩ := RdL.get hRn hv
      obtain ⟨tn, rfl⟩ : ∃ t, v = .str (nmS i) t := by
        have : d = .str (nmS i) := by
          rw [List.getElem?_map, List.getElem?_range (by omega)] at hd1
          exact (Option.some.inj hd1).symm
        rw [this] at hd2; exact hd2
      refine assignG F2 (News.add (News.add (News.add N2 (List.mem_append_left _ hP)) (List.mem_cons_of_mem _ (List.mem_append_left _ hA1))) (List.mem_cons_of_mem _ (List.mem_cons_of_mem _ (List.mem_append_left _ hN1)))) rfl rfl fun h4 tk4 F4 N4 => ?_
      clear F2 N2
      obtain ⟨m1, F5, q1, q2, q3⟩ : ∃ m1, Fr g _ h4 m1 ∧ m1 (Str.ofString "table") = some (.ref x) ∧ m1 (Str.ofString "pairs") = some (.ref P) ∧ m1 (Str.ofString "name") = some (.str (nmS i) tn) := ⟨_, F4, hm1, hm2, rfl⟩
      clear F4
      k_steps
      obtain ⟨hrl1, hrl3⟩ := hr1 i hi
      have hrl8 := hr8 i hi
      have hrule := hrl i hi
      refine get_c3 w x hl (i % 4 + 4) (by omega) _ es G (bd'.can F5 N4).drop (by exact hGg.ext F5.keep) hT hE hlt _ fun v5 h5 tk5 hx5 hv5 => ?_
      rw [show (i % 4 + 4) % 4 = i by omega] at hv5
      obtain ⟨t5, rfl⟩ : ∃ t, v5 = .str (txt (rs.getD i [])) t := by
        rw [← hrule]
        cases hfi : es.find? (fun e => decide (e.1 % 4 = i)) with
        | some e => rw [hfi] at hv5; exact hv5
        | none => rw [hfi] at hv5; exact ⟨_, hv5⟩
      have F6 := Fr.keeps F5 hx5
      have N6 := News.grown N4 hx5
      clear F5 N4
      generalize hrd : rs.getD i [] = r at hrl1 hrl3 hrl8 hrule
      k_steps
      rename Fr _ _ _ _ => F7
      rename News _ _ _ _ => N7
      refine ⟨?_⟩
      refine rev_txt F7 N7 (by omega) fun h8 t8 k8 F8 N8 => ?_
      clear F7 N7
      have hg8 := Gn.sub hGg F8 N8
      have hce8 : h8.IsCell (L' + 1 + 1) (some (.ref dn)) := ⟨oN, (N8 _ (.head _)).1, hN2⟩
      refine compV (δ := Nat) (ε := Str) (ds := r.reverse) (pz := fun _ => true) (f := fun k => nmS (k ^^^ 6)) (Ro := fun _ v y => ∃ t, v = .str y t) (itb_txt rfl) hGg F8 N8 (cmp_str hg8 (by rw [List.length_reverse]; omega) (fun _ _ _ _ _ h => h) rfl rfl ?_ ?_) (fun _ _ => Fin'.triv) ?_
      · rintro d C h tk m Q E hd hm hn hx hQ
        exact wpAny_tests_nil (hQ _ _ Ext.rfl')
      · rintro d t C h tk m G' Q E hd hp hm hn hx hle hsub hQ
        have hcx := IsCell.ext' hce8 hx
        have hd8 := hrl8 d (List.mem_reverse.mp hd)
        k_steps
        refine ⟨?_⟩
        refine neg_item hD (hGg.ext (Ext.trans F8.keep hx)) hd8 fun t' => ?_
        exact hQ _ _ _ Ext.rfl' ⟨_, rfl⟩
      intro D9 h9 tk9 ys9 nw9 F9 N9 hD9 hyl9 hL9 hP9
      rw [filter_tt] at hP9
      clear F8 N8
      k_steps
      refine ⟨?_⟩
      refine join_letters (l := r.reverse.map (· ^^^ 6)) ⟨LCg.lst ys9, (N9 _ (.head _)).1, rfl, _, rfl⟩ (by rw [List.map_map]; exact hP9) (by simp; omega) fun t10 k10 => ?_
      have N10 : News g _ h9 ((L' + 1 + 1, oN) :: (L' + 1, oA) :: (P, W.listOf vs.toArray n) :: (nw ++ own)) := fun p hp => N9 p (.tail _ (List.mem_append_right _ hp))
      clear N9 hL9 hP9
      have ho8 : ∀ j ∈ r.reverse.map (· ^^^ 6), j < 8 := fun j hj => by
        obtain ⟨q, hq, rfl⟩ := List.mem_map.mp hj
        exact xor6_lt8 q (hrl8 q (List.mem_reverse.mp hq))
      have ho3 : (r.reverse.map (· ^^^ 6)).length ≤ 3 := by simp; omega
      generalize hod : r.reverse.map (· ^^^ 6) = o at ho8 ho3
      k_steps
      rename Fr _ _ _ _ => F11
      rename News _ _ _ _ => N11
      have hg11 := Gn.sub hGg F11 N11
      have hce11 : Heap.IsCell _ (L' + 1) (some (.ref a)) := ⟨oA, (N11 (L' + 1, oA) (by simp)).1, hA2⟩
      refine compV (δ := Nat) (ε := Str) (ds := r) (pz := fun _ => true) (f := dgS) (Ro := fun _ v y => ∃ t, v = .str y t) (itb_txt rfl) hGg F11 N11 (cmp_str hg11 (by omega) (fun _ _ _ _ _ h => h) rfl rfl ?_ ?_) (fun _ _ => Fin'.triv) ?_
      · rintro d C h tk m Q E hd hm hn hx hQ
        exact wpAny_tests_nil (hQ _ _ Ext.rfl')
      · rintro d t C h tk m G' Q E hd hp hm hn hx hle hsub hQ
        have hcx := IsCell.ext' hce11 hx
        have hd8 := hrl8 d hd
        have FX := Fr.keeps F11 hx
        k_steps
        refine ⟨?_⟩
        refine getMethod_list_of F.slot_list_index F.type_list_index (by exact hLn.isList (hGg.ext FX.keep)) (by obtain ⟨o, h1, h2⟩ := hNo; exact ⟨o, FX.keep _ _ (hGg _ _ h1), h2⟩) ?_
        k_steps
        refine index_nm hNN (by exact hGg.ext FX.keep) hd8 fun t11 => ?_
        k_steps
        rw [dig_eq d hd8]
        exact hQ _ _ _ Ext.rfl' ⟨_, rfl⟩
      intro D12 h12 tk12 ys12 nw12 F12 N12 hD12 hyl12 hL12 hP12
      rw [filter_tt] at hP12
      clear F11 N11
      k_steps
      refine ⟨?_⟩
      refine join_digits (l := r) ⟨LCg.lst ys12, (N12 _ (.head _)).1, rfl, _, rfl⟩ hP12 (by omega) fun t13 k13 => ?_
      have N13 : News g _ h12 ((L' + 1 + 1, oN) :: (L' + 1, oA) :: (P, W.listOf vs.toArray n) :: (nw ++ own)) := fun p hp => N12 p (.tail _ (List.mem_append_right _ hp))
      clear N12 hL12 hP12
      k_steps
      rename Fr _ _ _ _ => F14
      rename News _ _ _ _ => N14
      rename (_ < _ ∧ _ < _ ∧ _ < _ ∧ AllLt _ _) => l14
      have hF14 : vs.length ≤ 500 := by have := hF.len; rw [pairs4_len] at this; omega
      have z14 := N14 (P, W.listOf vs.toArray n) (by simp)
      refine ⟨?_⟩
      refine extend_at z14.1 (N14 _ (.head _)).1 (by simp; omega) fun h15 n15 hs15 ho15 => ?_
      have F15 := F14.change hs15 z14.2.1 z14.2.2
      have N15 := News.store N14 hs15 ho15 z14.2.1 z14.2.2
      have hc1 : L' + 1 ≠ P := fun q => by
        have h1 := (N14 (L' + 1, oA) (by simp)).1
        have h2 := z14.1
        rw [q] at h1; rw [h1] at h2; cases h2; cases hA2
      have hc2 : L' + 1 + 1 ≠ P := fun q => by
        have h1 := (N14 (L' + 1 + 1, oN) (by simp)).1
        have h2 := z14.1
        rw [q] at h1; rw [h1] at h2; cases h2; cases hN2
      have N16 : News g L' h15 ((L' + 1 + 1, oN) :: (L' + 1, oA) :: (P, W.listOf (vs ++ [Value.str (nmS i) tn, Value.str (dgs r) t13]).toArray n15) :: (nw ++ own).filter fun p => decide (p.1 ≠ P)) := fun p hp => by
        rcases List.mem_cons.mp hp with rfl | hp
        · exact N15 _ (.tail _ (List.mem_filter.mpr ⟨.tail _ (.head _), decide_eq_true hc2⟩))
        · rcases List.mem_cons.mp hp with rfl | hp
          · exact N15 _ (.tail _ (List.mem_filter.mpr ⟨.tail _ (.tail _ (.head _)), decide_eq_true hc1⟩))
          · rcases List.mem_cons.mp hp with rfl | hp
            · exact N15 _ (.head _)
            · obtain ⟨m1, m2⟩ := List.mem_filter.mp hp
              exact N15 _ (.tail _ (List.mem_filter.mpr ⟨.tail _ (.tail _ (.tail _ (.tail _ m1))), m2⟩))
      generalize hnw16 : (nw ++ own).filter (fun p => decide (p.1 ≠ P)) = nw16 at N16
      clear F14 N14 N15
      k_steps
      rename Fr _ _ _ _ => F17
      refine ⟨?_⟩
      refine neg_item hD (hGg.ext F17.keep) (by omega) fun t17 => ?_
      k_steps
      rename Fr _ _ _ _ => F18
      rename News _ _ _ _ => N18
      have hg18 := Gn.sub hGg F18 N18
      have hce18 : Heap.IsCell _ (L' + 1) (some (.ref a)) := ⟨oA, (N18 (L' + 1, oA) (by simp)).1, hA2⟩
      refine compV (δ := Nat) (ε := Str) (ds := o) (pz := fun _ => true) (f := dgS) (Ro := fun _ v y => ∃ t, v = .str y t) (itb_txt rfl) hGg F18 N18 (cmp_str hg18 (by omega) (fun _ _ _ _ _ h => h) rfl rfl ?_ ?_) (fun _ _ => Fin'.triv) ?_
      · rintro d C h tk m Q E hd hm hn hx hQ
        exact wpAny_tests_nil (hQ _ _ Ext.rfl')
      · rintro d t C h tk m G' Q E hd hp hm hn hx hle hsub hQ
        have hcx := IsCell.ext' hce18 hx
        have hd8 := ho8 d hd
        have FX := Fr.keeps F18 hx
        k_steps
        refine ⟨?_⟩
        refine getMethod_list_of F.slot_list_index F.type_list_index (by exact hLn.isList (hGg.ext FX.keep)) (by obtain ⟨o, h1, h2⟩ := hNo; exact ⟨o, FX.keep _ _ (hGg _ _ h1), h2⟩) ?_
        k_steps
        refine index_nm hNN (by exact hGg.ext FX.keep) hd8 fun t11 => ?_
        k_steps
        rw [dig_eq d hd8]
        exact hQ _ _ _ Ext.rfl' ⟨_, rfl⟩
      intro D19 h19 tk19 ys19 nw19 F19 N19 hD19 hyl19 hL19 hP19
      rw [filter_tt] at hP19
      clear F18 N18
      k_steps
      refine ⟨?_⟩
      refine join_digits (l := o) ⟨LCg.lst ys19, (N19 _ (.head _)).1, rfl, _, rfl⟩ hP19 (by omega) fun t20 k20 => ?_
      have N20 : News g _ h19 ((L' + 1 + 1, oN) :: (L' + 1, oA) :: (P, W.listOf (vs ++ [Value.str (nmS i) tn, Value.str (dgs r) t13]).toArray n15) :: nw16) := fun p hp => N19 p (.tail _ (List.mem_append_right _ hp))
      clear N19 hL19 hP19
      k_steps
      rename Fr _ _ _ _ => F21
      rename News _ _ _ _ => N21
      have z21 := N21 (P, W.listOf (vs ++ [Value.str (nmS i) tn, Value.str (dgs r) t13]).toArray n15) (by simp)
      refine ⟨?_⟩
      refine extend_at z21.1 (N21 _ (.head _)).1 (by simp; omega) fun h22 n22 hs22 ho22 => ?_
      have F22 := F21.change hs22 z21.2.1 z21.2.2
      have N22 := News.store N21 hs22 ho22 z21.2.1 z21.2.2
      clear F21 N21
      k_steps
      have hF2 := Flat.append (Flat.append hF (.cons (a := nmS i) (b := dgs r) (t := tn) (u := t13) .nil)) (.cons (a := nmS (i ^^^ 6)) (b := dgs o) (t := t17) (u := t20) .nil)
      rw [List.append_assoc, List.append_assoc] at hF2
      refine LedPost.nx F22 N22 (fun p hp => (N22 p (.tail _ (List.mem_filter.mpr ⟨.tail _ (.tail _ (.tail _ (.tail _ ?_))), decide_eq_true (hown' p hp)⟩))).1) ⟨q1, q2, ⟨oA, ⟨.inr (.tail _ (List.mem_filter.mpr ⟨.tail _ (.tail _ (.head _)), decide_eq_true hc1⟩)), okc_cell hA2⟩, hA2⟩, ⟨oN, ⟨.inr (.tail _ (List.mem_filter.mpr ⟨.tail _ (.head _), decide_eq_true hc2⟩)), okc_cell hN2⟩, hN2⟩, _, _, ⟨.inr (.head _), rfl⟩, ?_⟩
      · rw [← hnw16]; exact List.mem_filter.mpr ⟨List.mem_append_right _ hp, decide_eq_true (hown' p hp)⟩
      · rw [pairs4_succ, hrd, hod]
        show Flat ((vs ++ [_, _]) ++ [_, _]) _
        rw [List.append_assoc]
        exact hF2
    · rintro h tk m nw ⟨hm1, hm2, ⟨oA, hA1, hA2⟩, ⟨oN, hN1, hN2⟩, vs, n, hP, hF⟩ F2 N2
      replace hA1 := Gn.new hGg hA1 n3.2.2
      replace hN1 := Gn.new hGg hN1 n2.2.2
      replace hP := Gn.new hGg hP n1.2.2
      have N4 := News.add (News.add (News.add N2 hP) (List.mem_cons_of_mem _ hA1)) (List.mem_cons_of_mem _ (List.mem_cons_of_mem _ hN1))
      clear N2
      have hPh := (N4 _ (.tail _ (.tail _ (.head _)))).1
      dsimp only
      k_steps
      refine ⟨?_⟩
      refine for_rule2 ?_
      k_steps
      refine enum_callN rfl hvn (Fin'.lst.gn hLn : Lst (Gn G []) a vn) (Gn.sub hGg F2 News.nil) fun xv s' I3 => ?_
      refine for_ledK (G := Gn G []) (G₀ := G) (kp := []) (PrJ P rs) (I3 _ _ _) F2 N4 News.nil (Gn.off hGg F2 News.nil) ⟨hm2, vs, n, ⟨.inr (.tail _ (.tail _ (.head _))), rfl⟩, by simpa using hF⟩ ?_ ?_
      · rintro j v h5 tk5 m5 nw5 own5 hj ⟨g1, vs5, n5', hP5, hF5⟩ F5 N5 K5 _ hown5 ⟨T5, t5, x5, rfl, hx5, hT5⟩
        replace hP5 := Gn.new hGg hP5 n1.2.2
        have hown' : ∀ p ∈ own5, p.1 ≠ P := fun p hp q => by
          rcases hown5 p hp with e | e | ⟨o, e, _⟩
          · cases e
          · rw [q] at e; rw [show h.get? P = none from e] at hPh; cases hPh
          · rcases e with e | e
            · have := hGg _ _ e; rw [q, n1.2.2] at this; cases this
            · cases e
        obtain ⟨d, hd1, hd2⟩ := RdL.get hRn hx5
        obtain ⟨tn, rfl⟩ : ∃ t, x5 = .str (nmS j) t := by
          have : d = .str (nmS j) := by
            rw [List.getElem?_map, List.getElem?_range (by omega)] at hd1
            exact (Option.some.inj hd1).symm
          rw [this] at hd2; exact hd2
        refine assignG2 rfl hT5 F5 (News.add (News.append N5 K5) (List.mem_append_left _ hP5)) rfl rfl rfl fun h6 tk6 F6 N6 => ?_
        clear F5
        obtain ⟨m1, F7, q1, q2, q3⟩ : ∃ m1, Fr g _ h6 m1 ∧ m1 (Str.ofString "pairs") = some (.ref P) ∧ m1 (Str.ofString "name") = some (.str (nmS j) tn) ∧ m1 (Str.ofString "k") = some (.int (j : Nat) t5) := ⟨_, F6, g1, rfl, rfl⟩
        clear F6
        k_steps
        rename Fr _ _ _ _ => F8
        rename News _ _ _ _ => N8
        rw [dig_eq j hj] at N8
        have hlen5 : vs5.length ≤ 500 := by
          have := hF5.len
          rw [List.length_append, pairs4_len, List.length_map, List.length_range] at this; omega
        have z8 := N8 (P, W.listOf vs5.toArray n5') (.tail _ (.head _))
        refine ⟨?_⟩
        refine extend_at z8.1 (N8 _ (.head _)).1 (by simp; omega) fun h9 n9 hs9 ho9 => ?_
        have F9 := F8.change hs9 z8.2.1 z8.2.2
        have N9 := News.store N8 hs9 ho9 z8.2.1 z8.2.2
        clear F8 N8
        k_steps
        refine LedPost.nx F9 N9 (fun p hp => (N9 p (.tail _ (List.mem_filter.mpr ⟨.tail _ (.tail _ (List.mem_append_right _ hp)), decide_eq_true (hown' p hp)⟩))).1) ⟨q1, _, _, ⟨.inr (.head _), rfl⟩, ?_⟩
        rw [List.range_succ, List.map_append, ← List.append_assoc]
        exact Flat.append hF5 (.cons .nil)
      · rintro h5 tk5 m5 nw5 ⟨g1, vs5, n5', hP5, hF5⟩ F5 N5 _
        replace hP5 := Gn.new hGg hP5 n1.2.2
        have N6 := News.add N5 hP5
        clear N5
        dsimp only
        k_steps
        rename Fr _ _ _ _ => FC
        rename News _ _ _ _ => NC
        have k := Gn.ret (G := G) hgE NC
        exact ⟨⟨_, FC⟩, hret _ _ _ (hgE.trans FC.keep) ⟨P, vs5, rfl, ⟨_, _, k _ _ ⟨.inr (.head _), rfl⟩, rfl, rfl⟩, hF5⟩⟩
end

-- DComp
section
noncomputable abbrev knS (w : World) := strKind PySem.Challenge.rw_pk0113_01.row.prog w
section
variable {w : World} {A : Around} {env : Env} {scope : Scope} {cl : List (Str × Addr)} {kx vx target iter : Expr} {ifs : List Expr} {pos : Pos} {G : Gs} {s₁ : Shared} {n : Nat} {P : Nat → Value → Heap → Prop}
theorem codeAny_compLoop_anyD {s : Shared} {R : Result → Shared → Prop} {it : Value} {D : Addr} {env : Env} (I : Nat → Shared → Prop)
    (turn : ∀ n s, I n s → wpAny (MO w) A (pyNext it) (fun r s₁ => match r with
      | none => R (.ok .next) s₁
      | some v => wpAny (MO w) A (letOwnedTupleGo target it v) (fun _ s₁' => wpAny (MO w) A (assign target env v) (fun _ s₂ =>
          wpAny (MO w) A (forIn ifs true fun c r => if r = true then do let ok ← isTrue c env (eval c env); pure (ForInStep.yield ok) else pure (ForInStep.yield r)) (fun ok s₃ =>
            if ok = true then wpAny (MO w) A (eval kx env) (fun kv s₄ => wpAny (MO w) A (eval vx env) (fun vv s₅ =>
              wpAny (MO w) A (dictSet D kv vv) (fun _ s₆ => ∃ m, m < n ∧ I m s₆) (fun _ _ => False) s₅) (fun _ _ => False) s₄) (fun _ _ => False) s₃
            else ∃ m, m < n ∧ I m s₃) (fun _ _ => False) s₂) (fun _ _ => False) s₁') (fun _ _ => False) s₁) (fun _ _ => False) s)
    (n : Nat) (h : I n s) :
    codeAny (MO w) A (.compLoop (.DictComp kx vx [⟨target, iter, ifs, 0⟩] scope pos) 0 it (.ref D) env) R s := by
  refine codeAny_loop rfl I (fun n s hI => ?_) n h
  show wpAny _ A ((compTurn (.DictComp kx vx [⟨target, iter, ifs, 0⟩] scope pos) 0 it (.ref D) env).onRaise (fun x => do noteFrame x env; theTreesLotGoes x)) _ _ s
  refine wpAny_noted ?_
  rw [compTurn_dict]
  refine wpAny_bind (wpAny_standAt (wpAny_bind (wpAny_mono (turn n s hI) (fun r s₁ h₁ => ?_) fun _ _ h' => h'.elim)))
  cases r with
  | none => exact wpAny_pure h₁
  | some v =>
    refine wpAny_bind (wpAny_mono h₁ (fun _ s₁' h₁' => ?_) fun _ _ h' => h'.elim)
    refine wpAny_bind (wpAny_mono h₁' (fun _ s₂ h₂ => wpAny_bind (wpAny_mono h₂ (fun ok s₃ h₃ => ?_) fun _ _ h' => h'.elim)) fun _ _ h' => h'.elim)
    cases ok with
    | false => exact wpAny_pure ⟨rfl, h₃⟩
    | true =>
      exact wpAny_bind (wpAny_bind (wpAny_mono h₃ (fun kv s₄ h₄ => wpAny_bind (wpAny_holding (wpAny_mono h₄ (fun vv s₅ h₅ => wpAny_bind (wpAny_standAt (wpAny_holding (wpAny_mono h₅ (fun _ s₆ h₆ => wpAny_pure ⟨rfl, h₆⟩) fun _ _ h' => h'.elim)))) fun _ _ h' => h'.elim))) fun _ _ h' => h'.elim))
theorem dcomp_core {h₂ : Heap} {tk₂ : Nat} {I : Addr} {fp wr : List Addr} {St : Nat → Heap → Prop} {E : Value → Shared → Prop} {RR : Value → Addr → Result → Shared → Prop}
    (T : Itr w A target G s₁.heap h₂ I n P fp wr St) (hsz : n ≤ sizeLine)
    (hcell : ∀ y ∈ scope.names, y.2 ≠ .cell) (hkind : scope.kind = .function)
    (M : Nat → (Str → Option Value) → Prop) (J : Nat → List (Str × Value) → Prop) (hJ0 : J 0 []) (hJl : ∀ i kvs, J i kvs → kvs.length ≤ i)
    (hassign : ∀ i v C (s₂ : Shared) m₂ (Q : Unit → Shared → Prop) (E : Value → Shared → Prop), i < n → P i v s₂.heap → Ext s₁.heap s₂.heap → s₂.heap.Ns C m₂ →
      (∀ h₃ tk₃ m₃, h₃.Ns C m₃ → M i m₃ → (∀ b o, b ≠ C → s₂.heap.get? b = some o → h₃.get? b = some o) → Q () { s₂ with heap := h₃, toks := tk₃ }) → wpAny (MO w) A (assign target (compEnvC scope cl C env) v) Q E s₂)
    (helt : ∀ i C h tk m₃ kvs (Q : Value → Value → Shared → Prop), i < n → M i m₃ → h.Ns C m₃ → Ext s₁.heap h → J i kvs →
      (∀ k t v h₅ tk₅, Ext h h₅ → J (i + 1) (stored kvs k v) → Q (.str k t) v { s₁ with heap := h₅, toks := tk₅ }) → wpAny (MO w) A (eval kx (compEnvC scope cl C env)) (fun kv s₄ => wpAny (MO w) A (eval vx (compEnvC scope cl C env)) (fun vv s₅ => Q kv vv s₅) (fun _ _ => False) s₄) (fun _ _ => False) { s₁ with heap := h, toks := tk })
    (hfin : ∀ C D h tk m' kvs, Ext s₁.heap h → h.Ns C m' → h.DictOf (knS w) D kvs → s₁.heap.get? C = none → s₁.heap.get? D = none → C ≠ D → (∀ b o, s₁.heap.get? b = some o → b < D) → J n kvs → RR (.ref D) C (.ok .next) { s₁ with heap := h, toks := tk }) :
    wpAny (MO w) A newDict (fun acc s₃ => wpAny (MO w) A (newFunctionEnv scope env.globals cl [] env.qual none .none (some env)) (fun cenv s₄ =>
      codeAny (MO w) A (.compStart (.DictComp kx vx [⟨target, iter, [], 0⟩] scope pos) 0 (.ref I) acc { cenv with scope := relabel scope env }) (RR acc cenv.locals) s₄) E s₃) E { s₁ with heap := h₂, toks := tk₂ } := by
  obtain ⟨Md, W⟩ := T.turns
  refine wpAny_newObj_type (wpAny_newFunctionEnv hcell (by intro y hy; simp at hy) (fun h₁ hns₁ hsb₁ => ?_) hkind)
  dsimp only at hns₁ hsb₁ ⊢
  have hnew : (h₂.push { cls := .type "dict", dict := none, data := .dict #[] }).DictOf (knS w) h₂.objs.size [] := Heap.DictOf.new h₂
  generalize hH2 : h₂.push { cls := .type "dict", dict := none, data := .dict #[] } = H2 at hns₁ hsb₁ hnew ⊢
  have hC : H2.objs.size = h₂.objs.size + 1 := by rw [← hH2, Heap.size_push]
  have hDC : h₂.objs.size ≠ H2.objs.size := by rw [hC]; exact Nat.ne_of_lt (Nat.lt_succ_self _)
  have below : ∀ b, b < h₂.objs.size → b ≠ H2.objs.size ∧ b ≠ h₂.objs.size := fun b hb => ⟨by rw [hC]; exact Nat.ne_of_lt (Nat.lt_succ_of_lt hb), Nat.ne_of_lt hb⟩
  have hDf : h₂.objs.size ∉ fp := fun hm => Nat.lt_irrefl _ (T.lt _ hm)
  have hCf : H2.objs.size ∉ fp := fun hm => by have := T.lt _ hm; rw [hC] at this; exact Nat.lt_irrefl _ (Nat.lt_of_succ_lt this)
  have hDw : h₂.objs.size ∉ wr := fun hm => hDf (W.sub _ hm)
  have hCw : H2.objs.size ∉ wr := fun hm => hCf (W.sub _ hm)
  have old : Ext h₂ h₁ := fun b o e => hsb₁.extBut b o (below b (Heap.lt_size e)).1 (Heap.get?_push_of_some _ (hH2 ▸ Heap.get?_push_of_some _ e))
  have hacc : h₁.DictOf (knS w) h₂.objs.size [] := hnew.at fun o e => hsb₁.extBut _ _ hDC (Heap.get?_push_of_some _ e)
  have hst₁ : St 0 h₁ := W.frame _ _ _ T.st fun b _ o e => old b o e
  have fresh : ∀ a, h₂.objs.size ≤ a → s₁.heap.get? a = none := fun a ha => ext_none T.ext (by
    cases e : h₂.get? a with
    | none => rfl
    | some o' => exact absurd (Heap.lt_size e) (Nat.not_lt.mpr ha))
  have hD₀ := fresh h₂.objs.size (Nat.le_refl _)
  have hC₀ := fresh H2.objs.size (by rw [hC]; exact Nat.le_succ _)
  have off₀ : ∀ b o, s₁.heap.get? b = some o → b ≠ H2.objs.size ∧ b ≠ h₂.objs.size ∧ b ∉ wr := fun b o e =>
    ⟨fun q => (by rw [q, hC₀] at e; cases e), fun q => (by rw [q, hD₀] at e; cases e), fun q => (by rw [T.new b q] at e; cases e)⟩
  have loop : ∀ s₃ : Shared, s₃ = { s₁ with heap := h₁, toks := tk₂ + ([] : List (Str × Value)).length } →
      codeAny (MO w) A (.compLoop (.DictComp kx vx [⟨target, iter, [], 0⟩] scope pos) 0 (.ref I) (.ref h₂.objs.size) (compEnvC scope cl H2.objs.size env)) (RR (.ref h₂.objs.size) H2.objs.size) s₃ := by
    rintro s₃ rfl
    refine codeAny_compLoop_anyD
      (fun k s' => ∃ h' tk i kvs m', s' = { s₁ with heap := h', toks := tk } ∧ i ≤ n ∧ k = n + 1 - i ∧ St i h' ∧ Ext s₁.heap h' ∧ h'.Ns H2.objs.size m' ∧ h'.DictOf (knS w) h₂.objs.size kvs ∧ J i kvs) ?_ (n + 1)
      ⟨h₁, _, 0, [], _, rfl, Nat.zero_le _, rfl, hst₁, T.ext.trans old, hns₁, hacc, hJ0⟩
    rintro k s' ⟨h', tk, i, kvs, m', rfl, hi, rfl, hst', hx', hn', hD', hJ⟩
    by_cases hlt : i < n
    · refine W.item i _ _ _ hlt hst' fun v h₃ tk₃ hMd hk₃ => ?_
      refine W.go i v _ _ _ hMd fun h₄ hP hst₄ hk₄ => ?_
      have k₄ : ∀ b o, b ∉ wr → h'.get? b = some o → h₄.get? b = some o := fun b o hb e => hk₄ b o hb (hk₃ b o hb e)
      refine hassign i v H2.objs.size { s₁ with heap := h₄, toks := tk₃ } _ _ _ hlt hP (fun b o e => k₄ b o (off₀ b o e).2.2 (hx' b o e)) (hn'.at' fun o e => k₄ _ o hCw e) fun h₅ tk₅ m₅ hn₅ hM₅ hk₅ => ?_
      have k₅ : ∀ b o, b ≠ H2.objs.size → b ∉ wr → h'.get? b = some o → h₅.get? b = some o := fun b o hb hw e => hk₅ b o hb (k₄ b o hw e)
      have hx₅ : Ext s₁.heap h₅ := fun b o e => k₅ b o (off₀ b o e).1 (off₀ b o e).2.2 (hx' b o e)
      have hst₅ : St (i + 1) h₅ := W.frame _ _ _ hst₄ fun b hb o e => hk₅ b o (fun q => hCf (q ▸ hb)) e
      have hD₅ : h₅.DictOf (knS w) h₂.objs.size kvs := hD'.at fun o e => k₅ _ o hDC hDw e
      refine wpAny_tests_nil ?_
      simp only [if_true]
      refine helt i H2.objs.size h₅ tk₅ m₅ kvs (fun kv vv s₅ => wpAny (MO w) A (dictSet h₂.objs.size kv vv) _ _ s₅) hlt hM₅ hn₅ hx₅ hJ fun kk t v h₆ tk₆ hx₆ hJ₆ => ?_
      refine wpAny_dictSet_pairs (hsz := Nat.le_trans (hJl _ _ hJ) (Nat.le_trans hi hsz)) (knd := knS w) (k := kk) (by first | rfl | exact strKind_is _ w _ _) (hD₅.at fun o e => hx₆ _ o e) fun h₇ hl₇ hs₇ => ?_
      refine ⟨n + 1 - (i + 1), by omega, h₇, _, i + 1, _, m₅, rfl, hlt, rfl, W.frame _ _ _ hst₅ fun b hb o e => hs₇.extBut b o (fun q => hDf (q ▸ hb)) (hx₆ b o e),
        fun b o e => hs₇.extBut b o (off₀ b o e).2.1 (hx₆ b o (hx₅ b o e)), (hn₅.at' fun o e => hx₆ _ o e).sameBut hs₇ (Ne.symm hDC), hl₇, hJ₆⟩
    · obtain rfl : i = n := Nat.le_antisymm hi (Nat.not_lt.mp hlt)
      refine W.done _ _ _ hst' fun h₃ tk₃ hk₃ => ?_
      exact hfin _ _ h₃ tk₃ m' kvs (fun b o e => hk₃ b o (off₀ b o e).2.2 (hx' b o e)) (hn'.at' fun o e => hk₃ _ o hCw e) (hD'.at fun o e => hk₃ _ o hDw e) hC₀ hD₀ (Ne.symm hDC) (fun b o e => Heap.lt_size (T.ext b o e)) hJ
  exact codeAny_compStart_dict (loop _ rfl) (T.self 0 _ _ _ hst₁ (loop _ rfl))
end
end

-- DComp2
section
noncomputable def DictAtA (w : World) (A : Around) (env : Env) (scope : Scope) (cl : List (Str × Addr)) (kx vx target : Expr) (y : Str) (Q : Flow → Shared → Prop) (xv : Value) (s' : Shared) : Prop :=
  ∃ (s₁ : Shared) (n : Nat) (G : Gs) (P : Nat → Value → Heap → Prop) (M : Nat → (Str → Option Value) → Prop) (J : Nat → List (Str × Value) → Prop) (m : Str → Option Value),
    Itb w A target G s₁ s' xv n P ∧ n ≤ sizeLine ∧ J 0 [] ∧ (∀ i kvs, J i kvs → kvs.length ≤ i) ∧
    (∀ i v C (s₂ : Shared) m₂ (Q : Unit → Shared → Prop) (E : Value → Shared → Prop), i < n → P i v s₂.heap → Ext s₁.heap s₂.heap → s₂.heap.Ns C m₂ →
      (∀ h₃ tk₃ m₃, h₃.Ns C m₃ → M i m₃ → (∀ b o, b ≠ C → s₂.heap.get? b = some o → h₃.get? b = some o) → Q () { s₂ with heap := h₃, toks := tk₃ }) → wpAny (MO w) A (assign target (compEnvC scope cl C env) v) Q E s₂) ∧
    (∀ i C h tk m₃ kvs (Q : Value → Value → Shared → Prop), i < n → M i m₃ → h.Ns C m₃ → Ext s₁.heap h → J i kvs →
      (∀ k t v h₅ tk₅, Ext h h₅ → J (i + 1) (stored kvs k v) → Q (.str k t) v { s₁ with heap := h₅, toks := tk₅ }) → wpAny (MO w) A (eval kx (compEnvC scope cl C env)) (fun kv s₄ => wpAny (MO w) A (eval vx (compEnvC scope cl C env)) (fun vv s₅ => Q kv vv s₅) (fun _ _ => False) s₄) (fun _ _ => False) { s₁ with heap := h, toks := tk }) ∧
    s₁.heap.Ns env.locals m ∧
    ∀ D h tk kvs, h.Ns env.locals (fun z => if z = y then some (.ref D) else m z) → (∀ b o, b ≠ env.locals → s₁.heap.get? b = some o → h.get? b = some o) → h.DictOf (knS w) D kvs → s₁.heap.get? D = none → D ≠ env.locals → (∀ b o, s₁.heap.get? b = some o → b < D) → J n kvs → Q .next { s₁ with heap := h, toks := tk }
section
variable {w : World} {A : Around} {env : Env} {scope : Scope} {cl : List (Str × Addr)} {kx vx target iter : Expr} {pos : Pos}
theorem dcompA {E : Value → Shared → Prop} {Q : Flow → Shared → Prop} {s : Shared} {y : Str} {py spos : Pos}
    (hsw : swapsWith (.DictComp kx vx [⟨target, iter, [], 0⟩] scope pos) (some (.Name y py)) spos.line env = pure true)
    (hclos : closureFor scope env = pure cl) (hcell : ∀ y ∈ scope.names, y.2 ≠ .cell) (hkind : scope.kind = .function)
    (hnames : ∀ y ∈ scope.names, y.2 = .local → scope.names.lookup y.1 = some .local)
    (hy : env.kindOf y = some .local) (hp : (env.scope.kind == .class || (env.scope.kind == .module && env.locals != env.globals)) = false)
    (h : wpAny (MO w) A (eval iter env) (DictAtA w A env scope cl kx vx target y Q) E s)
    (hs : ∀ x, foldedSetIterable iter env x = pure x := by intro _; rfl) :
    wpAny (MO w) A (exec (.Assign [.Name y py] (.DictComp kx vx [⟨target, iter, [], 0⟩] scope pos) spos) env) Q E s := by
  rw [exec_Assign_Name_used _ _ _ _ hsw]
  refine wpAny_bind (wpAny_standAt (wpAny_bind ?_))
  show wpAny _ A (do let _ ← comprehension (.DictComp kx vx [⟨target, iter, [], 0⟩] scope pos) scope env _ newDict false (eval iter env) (some (assign (.Name y py) env))) _ _ s
  refine wpAny_bind (wpAny_mono (wpAny_comprehension_free (use := some (assign (.Name y py) env)) (Q := fun _ s' => Q .next s') rfl hs hclos hkind hnames
    (wpAny_mono h (fun xv s' h₁ => ?_) fun _ _ e => e)) (fun _ s' hq => wpAny_pure (wpAny_pure hq)) fun _ _ e => e)
  obtain ⟨s₁, n, G, P, M, J, m, I, hsz, hJ0, hJl, hassign, helt, hL, hQ⟩ := h₁
  refine I _ _ fun It h₂ tk₂ fp wr St T => dcomp_core T hsz hcell hkind M J hJ0 hJl hassign helt ?_
  intro C D h tk m' kvs hx hn hD hC hD' hCD hDb hJ
  obtain ⟨oL, _, _, hoL, _⟩ := id hL
  have hLC : env.locals ≠ C := fun q => by rw [q, hC] at hoL; cases hoL
  have hLD : env.locals ≠ D := fun q => by rw [q, hD'] at hoL; cases hoL
  show wpAny _ A (assign (.Name y py) env (.ref D)) _ _ _
  refine wpAny_assign_Name (wpAny_storeName_local hy (hL.at' fun o e => hx _ o e) (fun h₃ hn₃ hs₃ => ?_) hp)
  refine ⟨m', hn.sameBut hs₃ (Ne.symm hLC), fun h'' hs'' => ?_⟩
  have k : ∀ b o, b ≠ env.locals → b ≠ C → h.get? b = some o → h''.get? b = some o := fun b o h1 h2 e => hs''.extBut b o h2 (hs₃.extBut b o h1 e)
  exact hQ D h'' _ kvs (hn₃.at' fun o e => hs''.extBut _ o hLC e) (fun b o hb e => k b o hb (fun q => by rw [q, hC] at e; cases e) (hx b o e)) (hD.at fun o e => k _ o (Ne.symm hLD) (Ne.symm hCD) e) hD' (Ne.symm hLD) hDb hJ
theorem dcompB {E : Value → Shared → Prop} {Q : Flow → Shared → Prop} {s : Shared} {y : Str} {py spos : Pos}
    (h1 : swapsWith (.DictComp kx vx [⟨target, iter, [], 0⟩] scope pos) (some (.Name y py)) spos.line env = pure true ∧ closureFor scope env = pure cl ∧ scope.kind = .function ∧ env.kindOf y = some .local ∧
      (env.scope.kind == .class || (env.scope.kind == .module && env.locals != env.globals)) = false ∧ ∀ x, foldedSetIterable iter env x = pure x)
    (h2 : (∀ y ∈ scope.names, y.2 ≠ .cell) ∧ ∀ y ∈ scope.names, y.2 = .local → scope.names.lookup y.1 = some .local)
    (h : wpAny (MO w) A (eval iter env) (DictAtA w A env scope cl kx vx target y Q) E s) :
    wpAny (MO w) A (exec (.Assign [.Name y py] (.DictComp kx vx [⟨target, iter, [], 0⟩] scope pos) spos) env) Q E s := dcompA h1.1 h1.2.1 h2.1 h1.2.2.1 h2.2 h1.2.2.2.1 h1.2.2.2.2.1 h h1.2.2.2.2.2
end
noncomputable def NegJ (i : Nat) (kvs : List (Str × Value)) : Prop := kvs.length = i ∧ i ≤ 8 ∧ ∀ j, j < i → ∃ t, kvs[j]? = some (nmS j, .str (nmS (j ^^^ 6)) t)
theorem NegJ.step {i : Nat} {kvs : List (Str × Value)} (h : NegJ i kvs) (hi : i < 8) (t : Tok) : NegJ (i + 1) (stored kvs (nmS i) (.str (nmS (i ^^^ 6)) t)) := by
  obtain ⟨h1, h2, h3⟩ := h
  have ha : ¬ kvs.any (fun kv => decide (kv.1 = nmS i)) = true := by
    intro q
    obtain ⟨kv, hk, e⟩ := List.any_eq_true.mp q
    obtain ⟨j, hj, e2⟩ := List.getElem_of_mem hk
    obtain ⟨t, ht⟩ := h3 j (by omega)
    rw [List.getElem?_eq_getElem hj, e2] at ht
    cases ht
    have := nm_inj (by omega) hi (of_decide_eq_true e)
    omega
  unfold stored
  rw [if_neg ha]
  refine ⟨by rw [List.length_append, h1]; rfl, by omega, fun j hj => ?_⟩
  by_cases hji : j < i
  · obtain ⟨t, ht⟩ := h3 j hji
    exact ⟨t, by rw [List.getElem?_append_left (by omega)]; exact ht⟩
  · obtain rfl : j = i := by omega
    exact ⟨t, by rw [List.getElem?_append_right (by omega), h1, Nat.sub_self]; rfl⟩
end

-- Plain
section
/-! the table: get_all's rows -/
noncomputable def rowTxt (r : List Int) : Str := txt (r.map Int.toNat)
noncomputable def Hh (k : Nat) (es : List (Nat × Str)) : List Str := (es.filter fun e => decide (e.1 % 4 = k)).map (·.2)
noncomputable def rowsF (own : List Int) : List Str := (((leftN own).zipIdx.filter keepP).map fun p => rowOf p.1).map rowTxt
noncomputable def stepH (acc : List Str) (n : Int) : List Str :=
  if n.fmod 4 = 0 then [rowTxt (rowOf n)] else if n.fmod 4 = 1 then acc ++ [rowTxt (rowOf n)] else if n.fmod 4 = 2 then (if acc = [] then [rowTxt (rowOf n)] else acc) else []
theorem let_mod (n : Int) : letN n % 4 = hueN n := by have := hue_lt n; unfold letN; omega
theorem Hh_step (k : Nat) (es : List (Nat × Str)) (n : Int) : Hh k (stepE es n) = if hueN n = k then stepH (Hh k es) n else Hh k es := by
  unfold stepE stepH Hh
  rw [let_mod]
  have hv : rowTxt (rowOf n) = txt (rowN n) := rfl
  rw [hv]
  by_cases hk : hueN n = k
  · subst hk
    rw [if_pos rfl]
    have hl : ((letN n, txt (rowN n)) :: []).filter (fun e : Nat × Str => decide (e.1 % 4 = hueN n)) = [(letN n, txt (rowN n))] := by
      rw [List.filter_cons_of_pos (by simp [let_mod])]; rfl
    have hf : (es.filter fun e => !decide (e.1 % 4 = hueN n)).filter (fun e : Nat × Str => decide (e.1 % 4 = hueN n)) = [] := by
      rw [List.filter_filter]
      refine List.filter_eq_nil_iff.mpr fun a _ => by simp
    split
    · rw [List.filter_append, hl, hf]; rfl
    · split
      · rw [List.filter_append, hl, List.map_append]; rfl
      · split
        · cases hfi : es.find? (fun e => decide (e.1 % 4 = hueN n)) with
          | some e =>
            dsimp only
            have hm := List.mem_of_find?_eq_some hfi
            have hp := List.find?_some hfi
            rw [if_neg]
            intro q
            have : e ∈ es.filter fun e => decide (e.1 % 4 = hueN n) := List.mem_filter.mpr ⟨hm, hp⟩
            rw [List.map_eq_nil_iff.mp q] at this; cases this
          | none =>
            dsimp only
            have h0 : es.filter (fun e => decide (e.1 % 4 = hueN n)) = [] := List.filter_eq_nil_iff.mpr fun a ha => List.find?_eq_none.mp hfi a ha
            rw [List.filter_append, hl, h0]; rfl
        · rw [hf]; rfl
  · rw [if_neg hk]
    have hl : ((letN n, txt (rowN n)) :: []).filter (fun e : Nat × Str => decide (e.1 % 4 = k)) = [] := by
      rw [List.filter_cons_of_neg (by simp [let_mod, hk])]; rfl
    have hf : (es.filter fun e => !decide (e.1 % 4 = hueN n)).filter (fun e : Nat × Str => decide (e.1 % 4 = k)) = es.filter fun e => decide (e.1 % 4 = k) := by
      rw [List.filter_filter]
      refine List.filter_congr fun a _ => ?_
      by_cases h : a.1 % 4 = k
      · simp [h, Ne.symm hk]
      · simp [h]
    split
    · rw [List.filter_append, hl, hf, List.append_nil]
    · split
      · rw [List.filter_append, hl, List.append_nil]
      · split
        · split
          · rfl
          · rw [List.filter_append, hl, List.append_nil]
        · rw [hf]
theorem Hh_fold (k : Nat) : ∀ (ns : List Int) (es : List (Nat × Str)), Hh k (ns.foldl stepE es) = (ns.filter fun n => decide (hueN n = k)).foldl stepH (Hh k es)
  | [], _ => rfl
  | n :: ns, es => by
    rw [List.foldl_cons, Hh_fold k ns, Hh_step]
    by_cases h : hueN n = k
    · rw [if_pos h, List.filter_cons_of_pos (by simp [h]), List.foldl_cons]
    · rw [if_neg h, List.filter_cons_of_neg (by simp [h])]
theorem max_snoc (l : List Nat) (x : Nat) (a : Nat) : (l ++ [x]).foldl max a = max (l.foldl max a) x := by simp [List.foldl_append]
theorem cut_snoc (own : List Int) (n : Int) : cutN (own ++ [n]) = if n.fmod 4 = 0 ∨ n.fmod 4 = 3 then max (cutN own) own.length else cutN own := by
  unfold cutN
  rw [List.zipIdx_append, List.filter_append, List.map_append]
  simp only [List.zipIdx_cons, List.zipIdx_nil]
  by_cases h : n.fmod 4 = 0 ∨ n.fmod 4 = 3
  · have hc : cutP (n, 0 + own.length) = true := by unfold cutP; rcases h with h | h <;> simp [h]
    rw [if_pos h, List.filter_cons_of_pos hc, List.filter_nil, List.map_cons, List.map_nil, max_snoc]
    simp
  · have hc : ¬ cutP (n, 0 + own.length) = true := by
      unfold cutP
      simp only [List.any_cons, List.any_nil, Bool.or_false, Bool.or_eq_true, beq_iff_eq]
      exact fun q => h (q.imp Eq.symm Eq.symm)
    rw [if_neg h, List.filter_cons_of_neg hc, List.filter_nil, List.map_nil, List.append_nil]
theorem cut_le (own : List Int) : cutN own ≤ own.length := by
  unfold cutN
  rcases foldl_max_mem ((own.zipIdx.filter cutP).map (·.2)) 0 with h | h
  · rw [h]; exact Nat.zero_le _
  · obtain ⟨p, hp, he⟩ := List.mem_map.mp h
    have := List.snd_lt_of_mem_zipIdx (List.mem_filter.mp hp).1
    omega
theorem left_nil {own : List Int} : rowsF own = [] ↔ leftN own = [] := by
  unfold rowsF
  constructor
  · intro h
    cases hl : leftN own with
    | nil => rfl
    | cons a l =>
      rw [hl] at h
      simp [keepP] at h
  · intro h; rw [h]; rfl
theorem rowsF_snoc (own : List Int) (n : Int) : rowsF (own ++ [n]) = stepH (rowsF own) n := by
  have h4 := Int.fmod_lt_of_pos n (by omega : (0:Int) < 4)
  have h0 := Int.fmod_nonneg_of_pos n (by omega : (0:Int) < 4)
  have hcl := cut_le own
  unfold stepH
  by_cases h : n.fmod 4 = 0 ∨ n.fmod 4 = 3
  · have hd : (own ++ [n]).drop (cutN (own ++ [n])) = [n] := by
      rw [cut_snoc, if_pos h, Nat.max_eq_right hcl]; simp
    rcases h with h | h
    · rw [if_pos h]
      unfold rowsF leftN
      rw [hd]
      simp [leftP, keepP, h]
    · rw [if_neg (by omega), if_neg (by omega), if_neg (by omega)]
      unfold rowsF leftN
      rw [hd]
      simp [leftP, h]
  · have hd : leftN (own ++ [n]) = leftN own ++ [n] := by
      unfold leftN
      rw [cut_snoc, if_neg h, List.drop_append_of_le_length hcl, List.filter_append]
      congr 1
      rw [List.filter_cons_of_pos (by simp [leftP]; omega)]; rfl
    have hz : ((leftN own ++ [n]).zipIdx.filter keepP) = (leftN own).zipIdx.filter keepP ++ [(n, (leftN own).length)].filter keepP := by
      rw [List.zipIdx_append, List.filter_append]; simp
    rw [if_neg (by omega)]
    by_cases h1 : n.fmod 4 = 1
    · rw [if_pos h1]
      unfold rowsF
      rw [hd, hz, List.filter_cons_of_pos (by simp [keepP, h1])]
      simp
    · have h2 : n.fmod 4 = 2 := by omega
      rw [if_neg h1, if_pos h2]
      by_cases hn : leftN own = []
      · rw [if_pos (left_nil.mpr hn)]
        unfold rowsF
        rw [hd, hn]; simp [keepP]
      · rw [if_neg (fun q => hn (left_nil.mp q))]
        unfold rowsF
        have : (leftN own).length ≠ 0 := fun q => hn (List.length_eq_zero_iff.mp q)
        rw [hd, hz, List.filter_cons_of_neg (by simp [keepP, h2, this])]
        simp
theorem rowsF_rev : ∀ l : List Int, l.reverse.foldl stepH [] = rowsF l.reverse
  | [] => rfl
  | a :: l => by rw [List.reverse_cons, List.foldl_append, rowsF_rev l, rowsF_snoc]; rfl
theorem rowsF_fold (own : List Int) : own.foldl stepH [] = rowsF own := by
  have := rowsF_rev own.reverse
  rwa [List.reverse_reverse] at this
theorem hue_eq (n : Int) (k : Nat) : (n.fdiv 4).fmod 4 = (k : Int) ↔ hueN n = k := by
  have h2 := Int.fmod_nonneg_of_pos (n.fdiv 4) (by omega : (0:Int) < 4)
  unfold hueN; omega
theorem told_eq (k : Nat) (ns : List Int) : Hh k (ns.foldl stepE []) = (rowsN (k : Int) ns).map rowTxt := by
  rw [Hh_fold, show Hh k [] = [] from rfl, rowsF_fold]
  unfold rowsN rowsF
  congr 6
  funext n
  exact decide_eq_decide.mpr (hue_eq n k).symm
noncomputable def ruleN (ns : List Int) (k : Nat) : List Nat := match rowsN (k : Int) ns with | [] => [k] | r :: _ => r.map Int.toNat
noncomputable def rulesN (ns : List Int) : List (List Nat) := (List.range 4).map (ruleN ns)
theorem rulesN_len (ns : List Int) : (rulesN ns).length = 4 := by simp [rulesN]
theorem rulesN_get (ns : List Int) {k : Nat} (hk : k < 4) : (rulesN ns).getD k [] = ruleN ns k := by simp [rulesN, hk]
theorem rows_mem {k : Int} {ns : List Int} {r : List Int} (h : r ∈ rowsN k ns) : ∃ n, r = rowOf n := by
  unfold rowsN at h
  obtain ⟨p, _, rfl⟩ := List.mem_map.mp h
  exact ⟨_, rfl⟩
theorem rule_first (ns : List Int) {k : Nat} (hk : k < 4) : (match (ns.foldl stepE []).find? (fun e => decide (e.1 % 4 = k)) with | some e => e.2 | none => nmS k) = txt ((rulesN ns).getD k []) := by
  have h := told_eq k ns
  rw [rulesN_get ns hk]
  unfold Hh at h
  unfold ruleN
  have hh := List.head?_filter (p := fun e : Nat × Str => decide (e.1 % 4 = k)) (l := ns.foldl stepE [])
  have h2 := congrArg List.head? h
  rw [List.head?_map, List.head?_map, hh] at h2
  cases hf : (ns.foldl stepE []).find? (fun e => decide (e.1 % 4 = k)) with
  | none =>
    rw [hf] at h2
    cases hr : rowsN (k : Int) ns with
    | nil => rfl
    | cons r l => rw [hr] at h2; cases h2
  | some e =>
    rw [hf] at h2
    cases hr : rowsN (k : Int) ns with
    | nil => rw [hr] at h2; cases h2
    | cons r l => rw [hr] at h2; exact Option.some.inj h2
theorem ruleN_ok (ns : List Int) {k : Nat} (hk : k < 4) : 1 ≤ (ruleN ns k).length ∧ (ruleN ns k).length ≤ 3 ∧ ∀ j ∈ ruleN ns k, j < 8 := by
  unfold ruleN
  cases hr : rowsN (k : Int) ns with
  | nil => exact ⟨Nat.le_refl _, by show 1 ≤ 3; decide, fun j hj => by rw [List.mem_singleton.mp hj]; omega⟩
  | cons r l =>
    obtain ⟨n, rfl⟩ := rows_mem (hr ▸ List.mem_cons_self .. : r ∈ rowsN (k : Int) ns)
    dsimp only
    rw [List.length_map]
    refine ⟨(row_len n).1, (row_len n).2, fun j hj => ?_⟩
    obtain ⟨x, hx, rfl⟩ := List.mem_map.mp hj
    have := row_le n x hx
    omega
theorem rulesN_mem {ns : List Int} {r : List Nat} (h : r ∈ rulesN ns) : r.length ≤ 3 ∧ ∀ j ∈ r, j < 8 := by
  obtain ⟨k, hk, rfl⟩ := List.mem_map.mp h
  have := ruleN_ok ns (List.mem_range.mp hk)
  exact ⟨this.2.1, this.2.2⟩
/-! the words -/
noncomputable def rule8 (rs : List (List Nat)) (s : Nat) : List Nat := if s < 4 then rs.getD s [] else (rs.getD (s ^^^ 6) []).reverse.map (· ^^^ 6)
noncomputable def word (rs : List (List Nat)) : Nat → Nat → List Nat
  | 0, s => [s]
  | k + 1, s => (rule8 rs s).flatMap (word rs k)
theorem word_succ (rs : List (List Nat)) : ∀ k s, word rs (k + 1) s = (word rs k s).flatMap (rule8 rs)
  | 0, s => by
    show (rule8 rs s).flatMap (fun x => [x]) = [s].flatMap (rule8 rs)
    simp
  | k + 1, s => by
    show (rule8 rs s).flatMap (word rs (k + 1)) = ((rule8 rs s).flatMap (word rs k)).flatMap (rule8 rs)
    rw [List.flatMap_assoc]
    congr 1
    funext x
    exact word_succ rs k x
theorem x66 (k : Nat) : k ^^^ 6 ^^^ 6 = k := by rw [Nat.xor_assoc]; simp
theorem x6lt : ∀ k, k < 8 → (k < 4 ↔ ¬ k ^^^ 6 < 4) := by
  have h : ∀ k : Fin 8, (k.val < 4 ↔ ¬ k.val ^^^ 6 < 4) := by decide
  exact fun k hk => h ⟨k, hk⟩
theorem rule8_neg (rs : List (List Nat)) {s : Nat} (hs : s < 8) : rule8 rs (s ^^^ 6) = (rule8 rs s).reverse.map (· ^^^ 6) := by
  unfold rule8
  have hx := x6lt s hs
  by_cases h : s < 4
  · rw [if_pos h, if_neg (hx.mp h), x66]
  · rw [if_neg h, if_pos (by have := not_congr hx; omega), ← List.map_reverse, List.reverse_reverse, List.map_map]
    simp [Function.comp_def, x66]
structure RsOk (rs : List (List Nat)) : Prop where
  len : rs.length = 4
  lt : ∀ r ∈ rs, ∀ j ∈ r, j < 8
  le : ∀ r ∈ rs, r.length ≤ 3
theorem RsOk.get {rs : List (List Nat)} (R : RsOk rs) {k : Nat} (hk : k < 4) : rs.getD k [] ∈ rs := by
  rw [List.getD_eq_getElem?_getD, List.getElem?_eq_getElem (by rw [R.len]; exact hk)]
  exact List.getElem_mem _
theorem rule8_lt {rs : List (List Nat)} (R : RsOk rs) {s : Nat} (hs : s < 8) : ∀ j ∈ rule8 rs s, j < 8 := by
  intro j hj
  unfold rule8 at hj
  have hx := x6lt s hs
  split at hj
  · exact R.lt _ (R.get (by assumption)) j hj
  · obtain ⟨q, hq, rfl⟩ := List.mem_map.mp hj
    exact xor6_lt8 q (R.lt _ (R.get (by have := not_congr hx; omega)) q (List.mem_reverse.mp hq))
theorem rule8_le {rs : List (List Nat)} (R : RsOk rs) {s : Nat} (hs : s < 8) : (rule8 rs s).length ≤ 3 := by
  unfold rule8
  have hx := x6lt s hs
  split
  · exact R.le _ (R.get (by assumption))
  · rw [List.length_map, List.length_reverse]
    exact R.le _ (R.get (by have := not_congr hx; omega))
theorem word_neg {rs : List (List Nat)} (R : RsOk rs) : ∀ k s, s < 8 → word rs k (s ^^^ 6) = (word rs k s).reverse.map (· ^^^ 6)
  | 0, s, _ => rfl
  | k + 1, s, hs => by
    show (rule8 rs (s ^^^ 6)).flatMap (word rs k) = ((rule8 rs s).flatMap (word rs k)).reverse.map (· ^^^ 6)
    rw [rule8_neg rs hs]
    have hl := rule8_lt R hs
    generalize rule8 rs s = l at hl
    induction l with
    | nil => rfl
    | cons a l ih =>
      have ha := word_neg R k a (hl a (List.mem_cons_self ..))
      rw [List.reverse_cons, List.map_append, List.flatMap_append, ih fun j hj => hl j (List.mem_cons_of_mem _ hj)]
      rw [List.flatMap_cons, List.reverse_append, List.map_append]
      congr 1
      rw [← ha]; simp
theorem word_lt {rs : List (List Nat)} (R : RsOk rs) : ∀ k s, s < 8 → ∀ j ∈ word rs k s, j < 8
  | 0, s, hs, j, hj => by rw [List.mem_singleton.mp hj]; exact hs
  | k + 1, s, hs, j, hj => by
    obtain ⟨a, ha, hj⟩ := List.mem_flatMap.mp hj
    exact word_lt R k a (rule8_lt R hs a ha) j hj
theorem word_len {rs : List (List Nat)} (R : RsOk rs) : ∀ k s, s < 8 → (word rs k s).length ≤ 3 ^ k
  | 0, s, _ => Nat.le_refl _
  | k + 1, s, hs => by
    have hl := rule8_lt R hs
    have hle := rule8_le R hs
    have : ∀ l : List Nat, (∀ j ∈ l, j < 8) → (l.flatMap (word rs k)).length ≤ l.length * 3 ^ k := by
      intro l
      induction l with
      | nil => intro _; simp
      | cons a l ih =>
        intro h
        have h1 := word_len R k a (h a (List.mem_cons_self ..))
        have h2 := ih fun j hj => h j (List.mem_cons_of_mem _ hj)
        rw [List.flatMap_cons, List.length_append, List.length_cons, Nat.succ_mul]; omega
    show ((rule8 rs s).flatMap (word rs k)).length ≤ 3 ^ (k + 1)
    have h1 := this _ hl
    have h2 := Nat.mul_le_mul_right (3 ^ k) hle
    rw [Nat.pow_succ]; omega
/-! sizes -/
theorem szs_eq {rs : List (List Nat)} (R : RsOk rs) : ∀ k s, s < 8 → (szs rs k).getD s 0 = (word rs k s).length
  | 0, s, hs => by
    have : s = 0 ∨ s = 1 ∨ s = 2 ∨ s = 3 ∨ s = 4 ∨ s = 5 ∨ s = 6 ∨ s = 7 := eight hs
    rcases this with rfl | rfl | rfl | rfl | rfl | rfl | rfl | rfl <;> rfl
  | k + 1, s, hs => by
    have key : ∀ r : List Nat, (∀ j ∈ r, j < 8) → (r.map fun i => (szs rs k).getD i 0).sum = (r.flatMap (word rs k)).length := by
      intro r
      induction r with
      | nil => intro _; rfl
      | cons a r ih =>
        intro h
        rw [List.map_cons, List.sum_cons, ih fun j hj => h j (List.mem_cons_of_mem _ hj), szs_eq R k a (h a (List.mem_cons_self ..)), List.flatMap_cons, List.length_append]
    have low : ∀ s, s < 4 → ((rs.map fun r => (r.map fun i => (szs rs k).getD i 0).sum)).getD s 0 = (word rs (k + 1) s).length := by
      intro s hs
      show _ = ((rule8 rs s).flatMap (word rs k)).length
      unfold rule8
      rw [if_pos hs, ← key _ (R.lt _ (R.get hs))]
      rw [List.getD_eq_getElem?_getD, List.getD_eq_getElem?_getD, List.getElem?_map, List.getElem?_eq_getElem (by rw [R.len]; exact hs)]
      rfl
    show (szStep rs (szs rs k)).getD s 0 = _
    unfold szStep
    dsimp only
    have hpl : (rs.map fun r => (r.map fun i => (szs rs k).getD i 0).sum).length = 4 := by rw [List.length_map]; exact R.len
    generalize hp : (rs.map fun r => (r.map fun i => (szs rs k).getD i 0).sum) = p at low hpl
    obtain ⟨a, b, c, d, rfl⟩ : ∃ a b c d, p = [a, b, c, d] := by
      match p, hpl with
      | [a, b, c, d], _ => exact ⟨a, b, c, d, rfl⟩
    by_cases h : s < 4
    · rw [← low s h]
      have : s = 0 ∨ s = 1 ∨ s = 2 ∨ s = 3 := by omega
      rcases this with rfl | rfl | rfl | rfl <;> rfl
    · have hn : (word rs (k + 1) s).length = (word rs (k + 1) (s ^^^ 6)).length := by
        rw [word_neg R (k + 1) s hs, List.length_map, List.length_reverse]
      have hx := x6lt s hs
      rw [hn, ← low (s ^^^ 6) (by have := not_congr hx; omega)]
      have : s = 4 ∨ s = 5 ∨ s = 6 ∨ s = 7 := by omega
      rcases this with rfl | rfl | rfl | rfl <;> rfl
/-! the way down -/
theorem step_word {rs : List (List Nat)} (R : RsOk rs) (k : Nat) : ∀ (r : List Nat) (sp : Nat) (p : Nat), (∀ j ∈ r, j < 8) → p < (r.flatMap (word rs k)).length →
    ∃ q j : Nat, stepIn (szs rs k) r sp (p : Int) = (q, (j : Int)) ∧ q < 8 ∧ j < (word rs k q).length ∧ (r.flatMap (word rs k))[p]? = (word rs k q)[j]?
  | [], _, p, _, h => absurd h (by simp)
  | a :: r, sp, p, hl, h => by
    have ha := hl a (List.mem_cons_self ..)
    unfold stepIn
    rw [szs_eq R k a ha]
    by_cases hp : p < (word rs k a).length
    · rw [if_pos (by omega)]
      refine ⟨a, p, rfl, ha, hp, ?_⟩
      rw [List.flatMap_cons, List.getElem?_append_left hp]
    · rw [if_neg (by omega)]
      rw [List.flatMap_cons, List.length_append] at h
      obtain ⟨q, j, h1, h2, h3, h4⟩ := step_word R k r sp (p - (word rs k a).length) (fun j hj => hl j (List.mem_cons_of_mem _ hj)) (by omega)
      refine ⟨q, j, ?_, h2, h3, ?_⟩
      · rw [← h1]; congr 1; omega
      · rw [List.flatMap_cons, List.getElem?_append_right (by omega)]; exact h4
theorem spot_word {rs : List (List Nat)} (R : RsOk rs) : ∀ (k s p t : Nat), s < 8 → p < (word rs k s).length → (word rs k s)[p]?.map (· ^^^ t) = some (spotAt rs k s (p : Int) t)
  | 0, s, p, t, _, h => by
    obtain rfl : p = 0 := by have : (word rs 0 s).length = 1 := rfl; omega
    rfl
  | k + 1, s, p, t, hs, h => by
    unfold spotAt
    by_cases h3 : 3 < s
    · rw [if_pos h3, szs_eq R (k + 1) s hs]
      have hx := xor6_lt s hs h3
      have hs6 : s ^^^ 6 < 8 := by omega
      have hw := word_neg R (k + 1) (s ^^^ 6) hs6
      rw [x66] at hw
      have hL : (word rs (k + 1) s).length = (word rs (k + 1) (s ^^^ 6)).length := by rw [hw]; simp
      have hpos : (word rs (k + 1) (s ^^^ 6)) = (rs.getD (s ^^^ 6) []).flatMap (word rs k) := by
        show (rule8 rs (s ^^^ 6)).flatMap (word rs k) = _
        unfold rule8; rw [if_pos hx]
      obtain ⟨q, j, h1, h2, h3', h4⟩ := step_word R k (rs.getD (s ^^^ 6) []) (s ^^^ 6) ((word rs (k + 1) s).length - 1 - p) (R.lt _ (R.get hx)) (by rw [← hpos, ← hL]; omega)
      rw [show (((word rs (k + 1) s).length : Nat) : Int) - 1 - (p : Int) = (((word rs (k + 1) s).length - 1 - p : Nat) : Int) by omega, h1]
      rw [← spot_word R k q j (t ^^^ 6) h2 h3', ← h4, ← hpos]
      have : (word rs (k + 1) s)[p]? = (word rs (k + 1) (s ^^^ 6))[(word rs (k + 1) s).length - 1 - p]?.map (· ^^^ 6) := by
        rw [hL]
        conv => lhs; rw [hw]
        rw [List.getElem?_map, List.getElem?_reverse (by omega)]
      rw [this, Option.map_map]
      congr 1
      funext x
      show x ^^^ 6 ^^^ t = x ^^^ (t ^^^ 6)
      rw [Nat.xor_comm t 6, Nat.xor_assoc]
    · rw [if_neg h3]
      have hx : s < 4 := by omega
      have hpos : (word rs (k + 1) s) = (rs.getD s []).flatMap (word rs k) := by
        show (rule8 rs s).flatMap (word rs k) = _
        unfold rule8; rw [if_pos hx]
      rw [hpos] at h
      obtain ⟨q, j, h1, h2, h3', h4⟩ := step_word R k (rs.getD s []) s p (R.lt _ (R.get hx)) h
      rw [h1, ← spot_word R k q j t h2 h3', ← h4, ← hpos]
theorem due_eq {rs : List (List Nat)} (R : RsOk rs) {k s : Nat} (hs : s < 8) : (List.range (word rs k s).length).map (fun p => spotAt rs k s ((p : Nat) : Int) 0) = word rs k s := by
  refine List.ext_getElem? fun i => ?_
  rw [List.getElem?_map]
  by_cases h : i < (word rs k s).length
  · rw [List.getElem?_range h]
    have := spot_word R k s i 0 hs h
    rw [List.getElem?_eq_getElem h] at this ⊢
    simpa using this.symm
  · rw [List.getElem?_eq_none (by simpa using h), List.getElem?_eq_none (by simpa using h)]; rfl
end

-- Plain2
section
set_option maxRecDepth 10000
noncomputable def sim : List (Nat × List Nat) → Nat → List Nat
  | [], a => [a]
  | p :: r, a => if a = p.1 then p.2 else sim r a
noncomputable def fms (l : List Nat) (ps : List (Nat × List Nat)) : List Nat := ps.foldl (fun l p => fm p.1 p.2 l) l
noncomputable def toS (p : Nat × List Nat) : Str × Str := (⟨#[p.1]⟩, ⟨p.2.toArray⟩)
theorem sim_free : ∀ (ps : List (Nat × List Nat)) (a : Nat), (∀ p ∈ ps, a ≠ p.1) → sim ps a = [a]
  | [], _, _ => rfl
  | p :: r, a, h => by
    unfold sim
    rw [if_neg (h p (List.mem_cons_self ..)), sim_free r a fun q hq => h q (List.mem_cons_of_mem _ hq)]
theorem fms_sim : ∀ (ps : List (Nat × List Nat)) (l : List Nat), (∀ p ∈ ps, ∀ x ∈ p.2, ∀ q ∈ ps, x ≠ q.1) → fms l ps = l.flatMap (sim ps)
  | [], l, _ => by show l = l.flatMap fun x => [x]; simp
  | p :: r, l, h => by
    show fms (fm p.1 p.2 l) r = _
    rw [fms_sim r _ fun q hq x hx z hz => h q (List.mem_cons_of_mem _ hq) x hx z (List.mem_cons_of_mem _ hz)]
    unfold fm
    rw [List.flatMap_assoc]
    congr 1
    funext a
    show _ = sim (p :: r) a
    unfold sim
    by_cases e : a = p.1
    · rw [if_pos e, if_pos e]
      have hv : ∀ v : List Nat, (∀ x ∈ v, x ∈ p.2) → v.flatMap (sim r) = v := by
        intro v
        induction v with
        | nil => intro _; rfl
        | cons x v ih =>
          intro hx
          rw [List.flatMap_cons, ih fun y hy => hx y (List.mem_cons_of_mem _ hy), sim_free r x fun q hq => h p (List.mem_cons_self ..) x (hx x (List.mem_cons_self ..)) q (List.mem_cons_of_mem _ hq)]
          rfl
      exact hv _ fun _ hx => hx
    · rw [if_neg e, if_neg e]; simp
theorem repAll_cps : ∀ (ps : List (Nat × List Nat)) (x : Str), (repAll x (ps.map toS)).cps.toList = fms x.cps.toList ps
  | [], _ => rfl
  | p :: r, x => by
    show (repAll (rep x (toS p).1 (toS p).2) (r.map toS)).cps.toList = fms (fm p.1 p.2 x.cps.toList) r
    rw [repAll_cps r, show (toS p).1 = ⟨#[p.1]⟩ from rfl, rep_law]
    rfl
theorem str_len (x : Str) : x.length = x.cps.toList.length := by show x.cps.size = _; simp
theorem okp_of : ∀ (ps : List (Nat × List Nat)) (x : Str), (∀ p ∈ ps, p.2.length ≤ 10) → (∀ i, (fms x.cps.toList (ps.take i)).length ≤ 1000) → OkP (ps.map toS) x
  | [], _, _, _ => trivial
  | p :: r, x, h1, h2 => by
    have e : (rep x (toS p).1 (toS p).2).cps.toList = fm p.1 p.2 x.cps.toList := rep_law x ⟨p.2.toArray⟩ p.1
    refine ⟨rfl, ?_, ?_, ?_, okp_of r _ (fun q hq => h1 q (List.mem_cons_of_mem _ hq)) fun i => ?_⟩
    · have := h1 p (List.mem_cons_self ..)
      rw [str_len]; exact this
    · rw [str_len]; exact h2 0
    · rw [str_len, e]; exact h2 1
    · rw [e]; exact h2 (i + 1)
theorem OkP.append : ∀ {ps qs : List (Str × Str)} {x : Str}, OkP ps x → OkP qs (repAll x ps) → OkP (ps ++ qs) x
  | [], _, _, _, h => h
  | _ :: _, _, _, ⟨a, b, c, d, e⟩, h => ⟨a, b, c, d, OkP.append e h⟩
theorem repAll_append : ∀ (ps qs : List (Str × Str)) (x : Str), repAll x (ps ++ qs) = repAll (repAll x ps) qs
  | [], _, _ => rfl
  | p :: ps, qs, x => repAll_append ps qs (rep x p.1 p.2)
theorem sim_le : ∀ (ps : List (Nat × List Nat)) (a : Nat), (∀ p ∈ ps, p.2.length ≤ 3) → (sim ps a).length ≤ 3
  | [], _, _ => by show 1 ≤ 3; decide
  | p :: r, a, h => by
    unfold sim
    split
    · exact h p (List.mem_cons_self ..)
    · exact sim_le r a fun q hq => h q (List.mem_cons_of_mem _ hq)
theorem flat_le (f : Nat → List Nat) (h : ∀ a, (f a).length ≤ 3) : ∀ l : List Nat, (l.flatMap f).length ≤ 3 * l.length
  | [] => by simp
  | a :: l => by
    have := flat_le f h l
    have := h a
    rw [List.flatMap_cons, List.length_append, List.length_cons]; omega
theorem grp (ps : List (Nat × List Nat)) (x : Str) (hf : ∀ p ∈ ps, ∀ x ∈ p.2, ∀ q ∈ ps, x ≠ q.1) (h3 : ∀ p ∈ ps, p.2.length ≤ 3) (hx : x.length ≤ 300) : OkP (ps.map toS) x ∧ (repAll x (ps.map toS)).cps.toList = x.cps.toList.flatMap (sim ps) := by
  refine ⟨okp_of ps x (fun p hp => Nat.le_trans (h3 p hp) (by decide)) fun i => ?_, by rw [repAll_cps, fms_sim ps _ hf]⟩
  have hm : ∀ p ∈ ps.take i, p ∈ ps := fun p hp => List.mem_of_mem_take hp
  rw [fms_sim (ps.take i) _ fun p hp x hx q hq => hf p (hm p hp) x hx q (hm q hq)]
  have := flat_le (sim (ps.take i)) (fun a => sim_le _ a fun p hp => h3 p (hm p hp)) x.cps.toList
  rw [str_len] at hx
  omega
noncomputable def lt8 (i : Nat) : Nat := letters.getD i 97
noncomputable def P1 (rs : List (List Nat)) : List (Nat × List Nat) := (List.range 4).flatMap fun k => [(lt8 k, (rs.getD k []).map (48 + ·)), (lt8 (k ^^^ 6), ((rs.getD k []).reverse.map (· ^^^ 6)).map (48 + ·))]
noncomputable def P2 : List (Nat × List Nat) := (List.range 8).map fun k => (48 + k, [lt8 k])
noncomputable def thePairs (rs : List (List Nat)) : List (Str × Str) := pairs4 rs 4 ++ (List.range 8).map fun k => (dgS k, nmS k)
theorem thePairs_eq (rs : List (List Nat)) : thePairs rs = (P1 rs).map toS ++ P2.map toS := by
  unfold thePairs pairs4 P1 P2
  rw [show List.range 4 = [0, 1, 2, 3] from rfl, show List.range 8 = [0, 1, 2, 3, 4, 5, 6, 7] from rfl]
  rfl
theorem lt8_big : ∀ i, 56 ≤ lt8 i := by
  intro i
  unfold lt8
  rw [List.getD_eq_getElem?_getD]
  cases h : letters[i]? with
  | none => decide
  | some c =>
    have h2 : ∀ c ∈ letters, 56 ≤ c := by decide
    exact h2 c (List.mem_of_getElem? h)
theorem P1_mem {rs : List (List Nat)} (R : RsOk rs) {p : Nat × List Nat} (hp : p ∈ P1 rs) : (∃ i, p.1 = lt8 i) ∧ p.2.length ≤ 3 ∧ ∀ x ∈ p.2, x < 56 := by
  obtain ⟨k, hk, hp⟩ := List.mem_flatMap.mp hp
  have hk := List.mem_range.mp hk
  have hle := R.le _ (R.get hk)
  have hlt := R.lt _ (R.get hk)
  simp only [List.mem_cons, List.not_mem_nil, or_false] at hp
  rcases hp with rfl | rfl
  · refine ⟨⟨_, rfl⟩, by simpa using hle, fun x hx => ?_⟩
    obtain ⟨y, hy, rfl⟩ := List.mem_map.mp hx
    have := hlt y hy; omega
  · refine ⟨⟨_, rfl⟩, by simpa using hle, fun x hx => ?_⟩
    obtain ⟨y, hy, rfl⟩ := List.mem_map.mp hx
    obtain ⟨z, hz, rfl⟩ := List.mem_map.mp hy
    have := xor6_lt8 z (hlt z (List.mem_reverse.mp hz)); omega
theorem P2_mem {p : Nat × List Nat} (hp : p ∈ P2) : p.1 < 56 ∧ ∃ i, p.2 = [lt8 i] := by
  obtain ⟨k, hk, rfl⟩ := List.mem_map.mp hp
  have := List.mem_range.mp hk
  exact ⟨by show 48 + k < 56; omega, _, rfl⟩
theorem sim1 (rs : List (List Nat)) : ∀ i, i < 8 → sim (P1 rs) (lt8 i) = (rule8 rs i).map (48 + ·) := by
  intro i hi
  unfold P1 rule8
  rw [show List.range 4 = [0, 1, 2, 3] from rfl]
  have : i = 0 ∨ i = 1 ∨ i = 2 ∨ i = 3 ∨ i = 4 ∨ i = 5 ∨ i = 6 ∨ i = 7 := eight hi
  rcases this with rfl | rfl | rfl | rfl | rfl | rfl | rfl | rfl <;> rfl
theorem sim2 : ∀ i, i < 8 → sim P2 (48 + i) = [lt8 i] := by
  have h : ∀ i : Fin 8, sim P2 (48 + i.val) = [lt8 i.val] := by decide
  exact fun i hi => h ⟨i, hi⟩
theorem str_ext : ∀ {x y : Str}, x.cps.toList = y.cps.toList → x = y
  | ⟨a⟩, ⟨b⟩, h => by rw [show a = b from Array.ext' h]
theorem txt_cps (l : List Nat) : (txt l).cps.toList = l.map lt8 := by show (l.map _).toArray.toList = _; rw [List.toList_toArray]; rfl
theorem round_eq {rs : List (List Nat)} (R : RsOk rs) (l : List Nat) (hl : ∀ j ∈ l, j < 8) (hle : l.length ≤ 100) : OkP (thePairs rs) (txt l) ∧ repAll (txt l) (thePairs rs) = txt (l.flatMap (rule8 rs)) := by
  have g1 := grp (P1 rs) (txt l) (fun p hp x hx q hq => by
    obtain ⟨⟨i, hi⟩, _, _⟩ := P1_mem R hq
    have := (P1_mem R hp).2.2 x hx
    have := lt8_big i
    omega) (fun p hp => (P1_mem R hp).2.1) (by show (txt l).cps.size ≤ 300; rw [txt_size]; omega)
  have hc := txt_cps l
  have e1 : (repAll (txt l) ((P1 rs).map toS)).cps.toList = (l.flatMap (rule8 rs)).map (48 + ·) := by
    rw [g1.2, hc]
    clear g1 hc hle
    induction l with
    | nil => rfl
    | cons a l ih =>
      rw [List.map_cons, List.flatMap_cons, List.flatMap_cons, List.map_append, ih fun j hj => hl j (List.mem_cons_of_mem _ hj), sim1 rs a (hl a (List.mem_cons_self ..))]
  have hlen : (repAll (txt l) ((P1 rs).map toS)).length ≤ 300 := by
    rw [str_len, e1, List.length_map]
    have : ∀ l : List Nat, (∀ j ∈ l, j < 8) → (l.flatMap (rule8 rs)).length ≤ 3 * l.length := by
      intro l
      induction l with
      | nil => intro _; simp
      | cons a l ih =>
        intro h
        have h1 := rule8_le R (h a (List.mem_cons_self ..))
        have h2 := ih fun j hj => h j (List.mem_cons_of_mem _ hj)
        rw [List.flatMap_cons, List.length_append, List.length_cons]; omega
    have := this l hl; omega
  have g2 := grp P2 (repAll (txt l) ((P1 rs).map toS)) (fun p hp x hx q hq => by
    obtain ⟨i, hi⟩ := (P2_mem hp).2
    have := (P2_mem hq).1
    rw [hi] at hx
    rw [List.mem_singleton.mp hx]
    have := lt8_big i
    omega) (fun p hp => by obtain ⟨i, hi⟩ := (P2_mem hp).2; rw [hi]; show 1 ≤ 3; decide) hlen
  rw [thePairs_eq]
  refine ⟨OkP.append g1.1 g2.1, ?_⟩
  rw [repAll_append]
  have e2 : (repAll (repAll (txt l) ((P1 rs).map toS)) (P2.map toS)).cps.toList = (l.flatMap (rule8 rs)).map lt8 := by
    rw [g2.2, e1]
    have h8 : ∀ j ∈ l.flatMap (rule8 rs), j < 8 := fun j hj => by
      obtain ⟨a, ha, hj⟩ := List.mem_flatMap.mp hj
      exact rule8_lt R (hl a ha) j hj
    generalize l.flatMap (rule8 rs) = m at h8
    induction m with
    | nil => rfl
    | cons a m ih =>
      rw [List.map_cons, List.flatMap_cons, ih fun j hj => h8 j (List.mem_cons_of_mem _ hj), sim2 a (h8 a (List.mem_cons_self ..))]; rfl
  exact str_ext (e2.trans (txt_cps _).symm)
theorem round_word {rs : List (List Nat)} (R : RsOk rs) {k s : Nat} (hk : k < 3) (hs : s < 8) : OkP (thePairs rs) (txt (word rs k s)) ∧ repAll (txt (word rs k s)) (thePairs rs) = txt (word rs (k + 1) s) := by
  have := round_eq R (word rs k s) (word_lt R k s hs) (by
    have h1 := word_len R k s hs
    have : k = 0 ∨ k = 1 ∨ k = 2 := by omega
    rcases this with rfl | rfl | rfl <;> (simp at h1; omega))
  rw [← word_succ] at this
  exact this
end

-- Cmp4
section
section
variable {w : World} {A : Around} {env : Env} {scope : Scope} {cl : List (Str × Addr)} {elt : Expr} {G : Gs} {s₁ : Shared} {ε : Type} {Ro : Gs → Value → ε → Prop}
theorem cmp_rng {x : Str} {p : Pos} {n : Nat} {f : Nat → ε} (hsub : Sub G s₁.heap) (hlen : n ≤ 1000) (mono : ∀ G G' y e, Le G G' → Ro G y e → Ro G' y e) (hkind : scope.kind = .function) (hx : scope.names.lookup x = some .local)
    (helt : ∀ i t C h tk m G' (Q : Value → Shared → Prop) (E : Value → Shared → Prop), i < n → m x = some (.int (i : Nat) t) → h.Ns C m → Ext s₁.heap h → Le G G' → Sub G' h → (∀ y h' tk', Ext h h' → Ro (More G' h h') y (f i) → Q y { s₁ with heap := h', toks := tk' }) →
      wpAny (MO w) A (eval elt (compEnvC scope cl C env)) Q E { s₁ with heap := h, toks := tk }) :
    Cmp w A env scope cl elt (.Name x p) [] G s₁ (fun i v _ => ∃ t, v = .int (0 + i * 1) t) (List.range n) (fun _ => true) f Ro (fun i m => ∃ t, m x = some (.int (i : Nat) t)) := by
  refine ⟨hsub, by rw [sizeLine_eq, List.length_range]; omega, mono, ?_, ?_, ?_⟩
  · rintro i v C s₂ m₂ Q E hi ⟨t, rfl⟩ hx' hn hQ
    rw [show (0 : Int) + (i : Nat) * 1 = ((i : Nat) : Int) by omega]
    exact assign_name hkind hx hn fun h₃ tk₃ m₃ hn₃ hm hk => hQ h₃ tk₃ m₃ hn₃ ⟨t, hm⟩ hk
  · rintro i d C s₃ m₃ Q E hd ⟨t, hm⟩ hn hx' ⟨h3, tk3, rfl⟩ hQ
    exact wpAny_tests_nil (hQ _ _ Ext.rfl')
  · rintro i d C s₃ m₃ G' Q E hd hp ⟨t, hm⟩ hn hx' hle hs ⟨h3, tk3, rfl⟩ hQ
    obtain ⟨hi, rfl⟩ : i < n ∧ i = d := by
      obtain ⟨h1, h2⟩ := List.getElem?_eq_some_iff.mp hd
      rw [List.length_range] at h1
      rw [List.getElem_range] at h2
      exact ⟨h1, h2⟩
    exact helt i t C h3 tk3 m₃ G' Q E hi hm hn hx' hle hs hQ
theorem itb_rng {r : Addr} {n : Nat} {t u v : Tok} {x : Str} {p : Pos} (hh : A.handled = none) (hr : IsRange s₁.heap r 0 (n : Int) 1 t u v) (hn : n ≤ 1000) :
    Itb w A (.Name x p) G s₁ s₁ (.ref r) (List.range n).length (fun i v _ => ∃ t, v = .int (0 + i * 1) t) := by
  refine itb_range hh hr ?_ ?_
  · exact small_one (by decide) (by decide) (by omega) (by omega)
  · rw [List.length_range]
    unfold Builtin.Range.rangeSize
    simp
    omega
end
end

-- LawH
section
noncomputable def keepB {w : World} {b : List Stmt} {s : Scope} {oc od name params dV kV doc pm an cdv ct osl} (_ : (hd.heap_39 w.params).lookup 251 = some ⟨oc, od, .func (fnOf name (Str.ofString "law") params b s dV kV doc pm an cdv ct), osl⟩) : List Stmt := b
noncomputable def keepS {w : World} {b : List Stmt} {s : Scope} {oc od name params dV kV doc pm an cdv ct osl} (_ : (hd.heap_39 w.params).lookup 251 = some ⟨oc, od, .func (fnOf name (Str.ofString "law") params b s dV kV doc pm an cdv ct), osl⟩) : Scope := s
noncomputable def lawB (w : World) : List Stmt := by
  refine' keepB (w := w) ?h
  case h => k_is
noncomputable def lawS (w : World) : Scope := by
  refine' keepS (w := w) ?h
  case h => k_is
theorem hasO {w : World} {o : Obj} (h : (hd.heap_39 w.params).lookup 251 = some o) : ∃ o, (hd.heap_39 w.params).lookup 251 = some o := ⟨o, h⟩
theorem has251 (w : World) : ∃ o, (hd.heap_39 w.params).lookup 251 = some o := by
  refine' hasO ?h
  case h => k_is
noncomputable abbrev lawE (w : World) (L fa : Addr) (cd : Value) : Env := envOfC (Str.ofString "law") (lawS w) L fa cd
noncomputable abbrev lawA (w : World) (L fa : Addr) (cd : Value) : Around := callerA.deeper (lawE w L fa cd)
structure Ctx (w : World) (g : Heap) : Prop where
  X : (hd.heap_39 w.params).In g
  T : ∃ p loose mean mg mb, Top p loose mean mg mb g
  K : Below callerA g [] g
theorem Ctx.bd {w : World} {g : Heap} (c : Ctx w g) {L : Addr} {env : Env} (h1 : env.frame = some L) (h2 : env.scope.kind = .function) : Bd w (callerA.deeper env) g L 12 200 := by
  obtain ⟨p, loose, mean, mg, mb, T⟩ := c.T
  exact ⟨rfl, (by decide : callerA.depth + 1 + 12 < recursionLimit), (by decide : callerA.units + 3 + 200 < cLine), c.X, p, loose, mean, mg, mb, env, [], callerA, g, rfl, h1, h2, c.K, T⟩
noncomputable abbrev cells7 (L : Addr) (o1 o2 o3 o4 o5 o6 o7 : Obj) : List (Addr × Obj) :=
  [(L + 1 + 1 + 1 + 1 + 1 + 1 + 1, o7), (L + 1 + 1 + 1 + 1 + 1 + 1, o6), (L + 1 + 1 + 1 + 1 + 1, o5), (L + 1 + 1 + 1 + 1, o4), (L + 1 + 1 + 1, o3), (L + 1 + 1, o2), (L + 1, o1)]
noncomputable def St (g : Heap) (L : Addr) (G : Gs) (c1 c2 c3 c4 c5 c6 c7 : Option Value) (M : (Str → Option Value) → Prop) (R : Gs → Prop) (h : Heap) : Prop :=
  ∃ m o1 o2 o3 o4 o5 o6 o7 nw, Fr g L h m ∧ News g L h (cells7 L o1 o2 o3 o4 o5 o6 o7 ++ nw) ∧ o1.data = .cell c1 ∧ o2.data = .cell c2 ∧ o3.data = .cell c3 ∧ o4.data = .cell c4 ∧ o5.data = .cell c5 ∧ o6.data = .cell c6 ∧ o7.data = .cell c7 ∧ M m ∧ R (Gn G (cells7 L o1 o2 o3 o4 o5 o6 o7 ++ nw))
theorem execs_drop {l : List Stmt} {n : Nat} {st : Stmt} (h : l[n]? = some st) : l.drop n = st :: l.drop (n + 1) := by
  obtain ⟨hn, e⟩ := List.getElem?_eq_some_iff.mp h
  rw [List.drop_eq_getElem_cons hn, e]
theorem execs_at {w : World} {A : Around} {env : Env} {Q : Flow → Shared → Prop} {E : Value → Shared → Prop} {s : Shared} {l : List Stmt} {n : Nat} {st : Stmt} (h : l[n]? = some st) (k : wpAny (MO w) A (execs (st :: l.drop (n + 1)) env) Q E s) : wpAny (MO w) A (execs (l.drop n) env) Q E s := execs_drop h ▸ k
theorem ne_rd {w : World} {A : Around} {E Q : Value → Shared → Prop} {s : Shared} {G : Gs} {a b : Value} {da db : PyData} (hs : Sub G s.heap) (ra : Rd G da a) (rb : Rd G db b) (ha : da.canLay0 = true) (hb : db.canLay0 = true)
    (hu : A.units + min da.depth db.depth < cLine) (h : Q (.bool (!PyData.eqv da db)) s) : wpAny (MO w) A (compareOp .NotEq a b) Q E s := by
  obtain ⟨_, r1⟩ := Rd.reads hs _ _ ra
  obtain ⟨_, r2⟩ := Rd.reads hs _ _ rb
  exact SeqAt.compareNe_reads r1 r2 ha hb hu h
structure Bse (w : World) (g : Heap) (G : Gs) (a : Addr) (vs : List Value) (sc : List Int) : Prop where
  ctx : Ctx w g
  hG : Sub G g
  L0 : Lst G a vs
  I : IntsAre vs sc
  len : sc.length ≤ 63
noncomputable abbrev deedsN (sc : List Int) : List Int := 10816 :: 3413 :: 106 :: 689 :: 482 :: sc.take 6
noncomputable def R3 (C1 D1 D2 : Addr) (sc : List Int) (mk : Nat → Int) (G : Gs) : Prop :=
  Rd G (.list ((deedsN sc).map deedD)) (.ref D1) ∧ (∃ cs, Lst G C1 cs ∧ Paired (fun v k => FT G v (colC k (mk k))) cs (List.range 8)) ∧ Rd G namesD (.ref D2) ∧ ∃ o, G D2 o ∧ okd o = true ∧ o.dict = none
theorem Fin'.at2 {a : Addr} : Fin' (fun G => ∃ o, G a o ∧ okd o = true ∧ o.dict = none) := fun G r => let ⟨o, h1, h2, h3⟩ := r; ⟨[a], fun _ k => ⟨o, k a (.head _) o h1 h2, h2, h3⟩⟩
theorem R3.fin {C1 D1 D2 : Addr} {sc : List Int} {mk : Nat → Int} : Fin' (R3 C1 D1 D2 sc mk) :=
  Fin'.and (Rd.fin _ _) (Fin'.and (Fin'.ex fun cs => Fin'.and Fin'.lst (Paired.fin (Ro := fun G v k => FT G v (colC k (mk k))) (fun _ _ => FT.fin) _ _)) (Fin'.and (Rd.fin _ _) Fin'.at2))
noncomputable abbrev lS (s : String) : Str := Str.ofString s
noncomputable def M3 (a C1 : Addr) (m : Str → Option Value) : Prop := m (lS "script") = some (.ref a) ∧ m (lS "colours") = some (.ref C1)
theorem NegJ.flat {kvs : List (Str × Value)} (h : NegJ 8 kvs) : PyProof.V.FlatPairs PyData.str kvs negD0 := by
  obtain ⟨h1, _, h3⟩ := h
  obtain ⟨p0, p1, p2, p3, p4, p5, p6, p7, rfl⟩ := list8 h1
  obtain ⟨t0, e0⟩ := h3 0 (by omega)
  obtain ⟨t1, e1⟩ := h3 1 (by omega)
  obtain ⟨t2, e2⟩ := h3 2 (by omega)
  obtain ⟨t3, e3⟩ := h3 3 (by omega)
  obtain ⟨t4, e4⟩ := h3 4 (by omega)
  obtain ⟨t5, e5⟩ := h3 5 (by omega)
  obtain ⟨t6, e6⟩ := h3 6 (by omega)
  obtain ⟨t7, e7⟩ := h3 7 (by omega)
  cases e0; cases e1; cases e2; cases e3; cases e4; cases e5; cases e6; cases e7
  unfold negD0
  rw [show List.range 8 = [0, 1, 2, 3, 4, 5, 6, 7] from rfl]
  simp only [List.map_cons, List.map_nil]
  exact .cons (.str _ _) (.cons (.str _ _) (.cons (.str _ _) (.cons (.str _ _) (.cons (.str _ _) (.cons (.str _ _) (.cons (.str _ _) (.cons (.str _ _) .nil)))))))
noncomputable def M4 (a dn : Addr) (m : Str → Option Value) : Prop := m (lS "script") = some (.ref a) ∧ m (lS "negative") = some (.ref dn)
noncomputable def R4 (w : World) (D1 D2 dn : Addr) (sc : List Int) (G : Gs) : Prop :=
  Rd G (.list ((deedsN sc).map deedD)) (.ref D1) ∧ Rd G namesD (.ref D2) ∧ (∃ o, G D2 o ∧ okd o = true ∧ o.dict = none) ∧ NegD w G dn
theorem R4.fin {w : World} {D1 D2 dn : Addr} {sc : List Int} : Fin' (R4 w D1 D2 dn sc) :=
  Fin'.and (Rd.fin _ _) (Fin'.and (Rd.fin _ _) (Fin'.and Fin'.at2 NegD.fin))
theorem Tb.fin {x hl : Addr} : Fin' (fun G => Tb G x hl) := Fin'.ex fun _ => Fin'.ex fun _ => Fin'.ex fun _ => Fin'.ex fun _ => Fin'.and (Fin'.at rfl) (Fin'.at rfl)
noncomputable abbrev esN (sc : List Int) : List (Nat × Str) := (deedsN sc).foldl stepE []
noncomputable def R5 (w : World) (D1 D2 dn x hl : Addr) (sc : List Int) (G : Gs) : Prop := R4 w D1 D2 dn sc G ∧ Tb G x hl ∧ Rd G (.list ((esN sc).map entD)) (.ref hl)
theorem R5.fin {w : World} {D1 D2 dn x hl : Addr} {sc : List Int} : Fin' (R5 w D1 D2 dn x hl sc) := Fin'.and R4.fin (Fin'.and Tb.fin (Rd.fin _ _))
theorem deedsN_len (sc : List Int) : (deedsN sc).length ≤ 11 := by simp only [List.length_cons, List.length_take]; omega
noncomputable abbrev rowD (r : List Int) : PyData := .list (r.map .int)
noncomputable abbrev rowsD (sc : List Int) (k : Nat) : PyData := .list ((rowsN (k : Int) (deedsN sc)).map rowD)
noncomputable def M6 (a dn rw : Addr) (m : Str → Option Value) : Prop := m (lS "script") = some (.ref a) ∧ m (lS "negative") = some (.ref dn) ∧ m (lS "rows") = some (.ref rw)
noncomputable def R6 (w : World) (D1 D2 dn x hl rw : Addr) (sc : List Int) (G : Gs) : Prop := R5 w D1 D2 dn x hl sc G ∧ Rd G (.list ((List.range 4).map (rowsD sc))) (.ref rw)
theorem R6.fin {w : World} {D1 D2 dn x hl rw : Addr} {sc : List Int} : Fin' (R6 w D1 D2 dn x hl rw sc) := Fin'.and R5.fin (Rd.fin _ _)
theorem News.pack {g h : Heap} {L : Addr} {nw : List (Addr × Obj)} (cells : List (Addr × Obj)) (N : News g L h nw) (hs : ∀ p ∈ cells, p ∈ nw) : News g L h (cells ++ nw) := fun p hp => (List.mem_append.mp hp).elim (fun q => N p (hs p q)) (N p)
noncomputable abbrev toldD (sc : List Int) (k : Nat) : PyData := .list ((Hh k (esN sc)).map .str)
noncomputable def M7 (a dn rw td : Addr) (m : Str → Option Value) : Prop := m (lS "script") = some (.ref a) ∧ m (lS "negative") = some (.ref dn) ∧ m (lS "rows") = some (.ref rw) ∧ m (lS "told") = some (.ref td)
noncomputable def R7 (w : World) (D1 D2 dn x hl rw td : Addr) (sc : List Int) (G : Gs) : Prop := R6 w D1 D2 dn x hl rw sc G ∧ Rd G (.list ((List.range 4).map (toldD sc))) (.ref td)
theorem esN_lt (sc : List Int) : ∀ e ∈ esN sc, e.1 < 8 := fold_lt _ _ (fun e he => nomatch he)
theorem esN_len (sc : List Int) : (esN sc).length ≤ 11 := by
  have h1 := fold_len (deedsN sc) []
  have h2 := deedsN_len sc
  simp only [List.length_nil] at h1
  show ((deedsN sc).foldl stepE []).length ≤ 11; omega
theorem canLayAll_map {α : Type} (f : α → PyData) : ∀ l : List α, (∀ x ∈ l, (f x).canLay0 = true) → PyData.canLayAll0 (l.map f) = true
  | [], _ => rfl
  | x :: l, h => by
    rw [List.map_cons, PyData.canLayAll0, h x (List.mem_cons_self ..), canLayAll_map f l fun y hy => h y (List.mem_cons_of_mem _ hy)]; rfl
theorem depthAll_map {α : Type} (f : α → PyData) (n : Nat) : ∀ l : List α, (∀ x ∈ l, (f x).depth ≤ n) → PyData.depthAll (l.map f) ≤ n
  | [], _ => Nat.zero_le _
  | x :: l, h => by
    rw [List.map_cons, PyData.depthAll]
    exact Nat.max_le.mpr ⟨h x (List.mem_cons_self ..), depthAll_map f n l fun y hy => h y (List.mem_cons_of_mem _ hy)⟩
theorem lt8_small (i : Nat) : lt8 i < 0x110000 := by
  unfold lt8
  rw [List.getD_eq_getElem?_getD]
  cases h : letters[i]? with
  | none => decide
  | some c =>
    have h2 : ∀ c ∈ letters, c < 0x110000 := by decide
    exact h2 c (List.mem_of_getElem? h)
theorem txt_ok (l : List Nat) : PyData.canLay0 (.str (txt l)) = true := by
  rw [PyData.canLay0]
  unfold PyData.strOk txt
  rw [List.all_toArray, List.all_map]
  exact List.all_eq_true.mpr fun i _ => decide_eq_true (lt8_small i)
theorem toldD_ok (sc : List Int) (k : Nat) (hk : k < 4) : (toldD sc k).canLay0 = true := by
  unfold toldD
  rw [PyData.canLay0, told_eq, List.map_map]
  exact canLayAll_map _ _ fun r _ => txt_ok _
theorem told_ok (sc : List Int) : (PyData.list ((List.range 4).map (toldD sc))).canLay0 = true := by
  rw [PyData.canLay0]
  exact canLayAll_map _ _ fun k hk => toldD_ok sc k (List.mem_range.mp hk)
theorem told_depth (sc : List Int) : (PyData.list ((List.range 4).map (toldD sc))).depth ≤ 2 := by
  rw [PyData.depth]
  refine Nat.succ_le_succ (depthAll_map _ 1 _ fun k _ => ?_)
  unfold toldD
  rw [PyData.depth]
  refine Nat.succ_le_succ (depthAll_map _ 0 _ fun k _ => ?_)
  rw [PyData.depth]; exact Nat.le_refl _
theorem rows_len (k : Int) (ns : List Int) : (rowsN k ns).length ≤ ns.length := by
  unfold rowsN leftN
  rw [List.length_map]
  refine Nat.le_trans (List.length_filter_le _ _) ?_
  rw [List.length_zipIdx]
  refine Nat.le_trans (List.length_filter_le _ _) ?_
  rw [List.length_drop]
  exact Nat.le_trans (Nat.sub_le _ _) (List.length_filter_le _ _)
noncomputable abbrev rsN (sc : List Int) : List (List Nat) := rulesN (deedsN sc)
theorem rsN_ok (sc : List Int) : RsOk (rsN sc) := ⟨rulesN_len _, fun _ hr => (rulesN_mem hr).2, fun _ hr => (rulesN_mem hr).1⟩
noncomputable def M9 (a rw P : Addr) (m : Str → Option Value) : Prop := m (lS "script") = some (.ref a) ∧ m (lS "rows") = some (.ref rw) ∧ m (lS "pairs") = some (.ref P)
noncomputable def PrAt (sc : List Int) (P : Addr) (G : Gs) : Prop := ∃ vs, Lst G P vs ∧ Flat vs (thePairs (rsN sc))
theorem PrAt.fin {sc : List Int} {P : Addr} : Fin' (PrAt sc P) := Fin'.ex fun _ => Fin'.and Fin'.lst Fin'.triv
noncomputable def R9 (D2 rw P : Addr) (sc : List Int) (G : Gs) : Prop := Rd G namesD (.ref D2) ∧ Rd G (.list ((List.range 4).map (rowsD sc))) (.ref rw) ∧ PrAt sc P G
theorem R9.fin {D2 rw P : Addr} {sc : List Int} : Fin' (R9 D2 rw P sc) := Fin'.and (Rd.fin _ _) (Fin'.and (Rd.fin _ _) PrAt.fin)
theorem rowD_eq (n : Int) : rowD (rowOf n) = dataN ((rowOf n).map Int.toNat) := by
  show PyData.list _ = PyData.list _
  rw [List.map_map]
  congr 1
  refine List.map_congr_left fun r hr => ?_
  have := row_le n r hr
  show PyData.int r = PyData.int ((r.toNat : Nat) : Int)
  rw [Int.toNat_of_nonneg this.1]
noncomputable def ruleF (ns : List Int) (p : Nat × Nat) : List Nat := match rowsN (p.1 : Int) ns with | [] => [p.2] | r :: _ => r.map Int.toNat
theorem ruleF_all (ns : List Int) : (List.range 4).zipIdx.map (ruleF ns) = rulesN ns := rfl
noncomputable def M10 (a P : Addr) (m : Str → Option Value) : Prop := m (lS "script") = some (.ref a) ∧ m (lS "pairs") = some (.ref P)
noncomputable def R10 (D2 P Ru : Addr) (sc : List Int) (G : Gs) : Prop := Rd G namesD (.ref D2) ∧ PrAt sc P G ∧ Rd G (dataNN (rsN sc)) (.ref Ru)
theorem R10.fin {D2 P Ru : Addr} {sc : List Int} : Fin' (R10 D2 P Ru sc) := Fin'.and (Rd.fin _ _) (Fin'.and PrAt.fin (Rd.fin _ _))
theorem rowsD_ok (sc : List Int) (k : Nat) : (rowsD sc k).canLay0 = true := by
  unfold rowsD
  rw [PyData.canLay0]
  refine canLayAll_map _ _ fun r _ => ?_
  unfold rowD
  rw [PyData.canLay0]
  exact canLayAll_map _ _ fun _ _ => rfl
noncomputable abbrev szD (sc : List Int) : PyData := dataNN ((List.range 4).map (szs (rsN sc)))
noncomputable def R11 (D2 P Ru Sz : Addr) (sc : List Int) (G : Gs) : Prop := R10 D2 P Ru sc G ∧ Rd G (szD sc) (.ref Sz)
theorem R11.fin {D2 P Ru Sz : Addr} {sc : List Int} : Fin' (R11 D2 P Ru Sz sc) := Fin'.and R10.fin (Rd.fin _ _)
noncomputable def firN (sc : List Int) : Nat := ((sc.take 6).sum.fmod 8).toNat
noncomputable def M12 (P : Addr) (sc : List Int) (m : Str → Option Value) : Prop := m (lS "pairs") = some (.ref P) ∧ ∃ t, m (lS "first") = some (.int ((firN sc : Nat) : Int) t)
noncomputable def bodyOf : Stmt → List Stmt
  | .For _ _ b _ _ => b
  | _ => []
noncomputable def outB (w : World) : List Stmt := bodyOf ((lawB w).getD 13 (.Pass ⟨0, 0, 0, 0⟩))
noncomputable def innB (w : World) : List Stmt := bodyOf ((outB w).getD 1 (.Pass ⟨0, 0, 0, 0⟩))
theorem firN_lt (sc : List Int) : firN sc < 8 := by
  have h1 := Int.fmod_lt_of_pos (sc.take 6).sum (by omega : (0:Int) < 8)
  have h2 := Int.fmod_nonneg_of_pos (sc.take 6).sum (by omega : (0:Int) < 8)
  unfold firN; omega
end

section
local macro_rules | `(tactic| walk_at "execs cons") => `(tactic| (refine Stop.out ?_))
local macro_rules | `(tactic| walk_at "call ref") => `(tactic| (refine Stop.out ?_))
local macro_rules | `(tactic| walk_at "exec Assign cons DictComp") => `(tactic| (k_here; (with_reducible apply dcompB); (case h1 => with_unfolding_all exact ⟨rfl, rfl, rfl, rfl, rfl, fun _ => rfl⟩); (case h2 => decide)))
local macro_rules | `(tactic| walk_at "compareOp NotEq ref ref") => `(tactic| (refine Stop.out ?_))
local macro_rules | `(tactic| walk_at "compareOp NotEq str str") => `(tactic| (refine Stop.out ?_))
local macro_rules | `(tactic| walk_at "call builtin:str.join") => `(tactic| (refine Stop.out ?_))
local macro_rules | `(tactic| k_inst) => `(tactic| (with_reducible assumption))

-- Law0
section
theorem zoff20 : True := by w_top off; trivial
theorem ints_rel {vs : List Value} {ns : List Int} (h : IntsAre vs ns) {i : Nat} {v : Value} (hv : vs[i]? = some v) : ∃ n, ns[i]? = some n ∧ ∃ t, v = .int n t := by
  have hl := h.length
  have hi : i < ns.length := by rw [← hl]; exact (List.getElem?_eq_some_iff.mp hv).1
  obtain ⟨t, ht⟩ := h.get i ns[i] (List.getElem?_eq_getElem hi)
  rw [hv] at ht; cases ht
  exact ⟨_, List.getElem?_eq_getElem hi, t, rfl⟩
set_option maxHeartbeats 8000000 in
theorem law0 {w : World} {g : Heap} {G : Gs} {a fa L : Addr} {vs : List Value} {sc : List Int} {cd : Value} {Q : Flow → Shared → Prop} {E : Value → Shared → Prop} {s : Shared} (B : Bse w g G a vs sc)
    (S : St g L G none none none none none none none (fun m => m (lS "script") = some (.ref a)) (fun _ => True) s.heap)
    (next : ∀ D1 h tk, St g L G (some (.ref D1)) none none none none none none (fun m => m (lS "script") = some (.ref a)) (fun G => Rd G (.list ((deedsN sc).map deedD)) (.ref D1)) h → wpAny (MO w) (lawA w L fa cd) (execs ((lawB w).drop 1) (lawE w L fa cd)) Q E { s with heap := h, toks := tk }) :
    wpAny (MO w) (lawA w L fa cd) (execs ((lawB w).drop 0) (lawE w L fa cd)) Q E s := by
  have bd := B.ctx.bd (L := L) (env := lawE w L fa cd) rfl rfl
  obtain ⟨⟨X, ⟨p, loose, mean, mg, mb, T⟩, K⟩, hG, L0, hI, hlen⟩ := B
  obtain ⟨m, o1, o2, o3, o4, o5, o6, o7, nw, F, N, d1, d2, d3, d4, d5, d6, d7, hm1, _⟩ := S
  refine execs_at (by unfold lawB keepB; rfl) ?_
  generalize hrest : (lawB w).drop (0 + 1) = rest
  unfold lawA lawE lawS keepS
  simp only [cells7, List.cons_append, List.nil_append] at N
  refine wpAny_execs_cons ?_
  have hLg : g.IsList a vs.toArray := L0.isList hG
  k_steps
  rename Fr _ _ _ _ => F1
  rename News _ _ _ _ => N1
  rename IntsAre _ ([10816, 3413, 106, 689, 482] ++ _) => hI1
  have hLg1 := Gn.sub hG F1 N1
  refine compV (δ := Int) (ε := Int) (pz := fun _ => true) (f := id) (Ro := fun G v n => Rd G (deedD n) v) (itb_listN rfl hI1.length ⟨_, _, ⟨.inr (.head _), rfl⟩, rfl, rfl⟩ hLg1 (.inl ⟨_, _, rfl⟩)) hG F1 N1 (cmp_list (fun n v => ∃ t, v = .int n t) (fun i v hv => ints_rel hI1 hv) hLg1 ?_ (fun _ _ _ _ x h => Rd.mono x _ _ h) rfl rfl ?_ ?_) (fun y e => Rd.fin _ _) ?_
  · rw [List.length_append, List.length_take]; simp only [List.length_cons, List.length_nil]; omega
  · rintro n v C h tk m Q E hr hm hn hx hQ
    exact wpAny_tests_nil (hQ _ _ Ext.rfl')
  · rintro n v C h tk m G' Q E ⟨u, rfl⟩ hp hm hn hx hle hsub hQ
    have FX := Fr.keeps F1 hx
    k_steps
    refine ⟨?_⟩
    exact deed_c w n _ ((bd.can FX News.nil).less (by decide) (by decide)) fun v' h' tk' hx' hv' => hQ _ _ _ hx' (hv' _)
  intro D1 h1 tk1 ys1 nw1 F2 N2 hD1 hyl1 hL1 hP1
  rw [filter_tt, List.map_id] at hP1
  clear F1 N1
  k_steps
  refine stCellK (G := G) (c := L + 1) (own := [_, _, _, _, _, _]) (rest := []) F2 N2 (fun p hp => .tail _ (List.mem_append_right nw1 (.tail _ (.tail _ (.tail _ (List.mem_append_left nw hp : p ∈ [_, _, _, _, _, _, _] ++ nw)))))) ?_ ?_ ?_ rfl rfl rfl ?_
  · intro p hp; simp only [List.mem_cons, List.not_mem_nil, or_false] at hp; rcases hp with rfl | rfl | rfl | rfl | rfl | rfl <;> exact Nat.ne_of_gt (by repeat first | exact Nat.lt_succ_self _ | refine Nat.lt_succ_of_lt ?_)
  · intro p hp; cases hp
  · exact ⟨_, d1⟩
  intro h2 o1' nw2 F3 N3 d1' tr
  subst hrest
  exact next D1 _ _ ⟨m, o1', o2, o3, o4, o5, o6, o7, nw2, F3, N3, d1', d2, d3, d4, d5, d6, d7, hm1, tr _ (Rd.fin _ _) ⟨D1, ys1, rfl, hL1, RdL.of_paired hP1⟩⟩
end

-- Law1
section
noncomputable def R1 (C1 D1 : Addr) (sc : List Int) (mk : Nat → Int) (G : Gs) : Prop := Rd G (.list ((deedsN sc).map deedD)) (.ref D1) ∧ ∃ cs, Lst G C1 cs ∧ Paired (fun v k => FT G v (colC k (mk k))) cs (List.range 8)
theorem R1.fin {C1 D1 : Addr} {sc : List Int} {mk : Nat → Int} : Fin' (R1 C1 D1 sc mk) := Fin'.and (Rd.fin _ _) (Fin'.ex fun _ => Fin'.and Fin'.lst (Paired.fin (Ro := fun G v k => FT G v (colC k (mk k))) (fun _ _ => FT.fin) _ _))
set_option maxHeartbeats 8000000 in
theorem law1 {w : World} {g : Heap} {G : Gs} {a fa L D1 : Addr} {vs : List Value} {sc : List Int} {cd : Value} {Q : Flow → Shared → Prop} {E : Value → Shared → Prop} {s : Shared} (B : Bse w g G a vs sc)
    (S : St g L G (some (.ref D1)) none none none none none none (fun m => m (lS "script") = some (.ref a)) (fun G => Rd G (.list ((deedsN sc).map deedD)) (.ref D1)) s.heap)
    (next : ∀ C1 mk h tk, St g L G (some (.ref D1)) none none none none none none (M3 a C1) (R1 C1 D1 sc mk) h → wpAny (MO w) (lawA w L fa cd) (execs ((lawB w).drop 2) (lawE w L fa cd)) Q E { s with heap := h, toks := tk }) :
    wpAny (MO w) (lawA w L fa cd) (execs ((lawB w).drop 1) (lawE w L fa cd)) Q E s := by
  have bd := B.ctx.bd (L := L) (env := lawE w L fa cd) rfl rfl
  obtain ⟨⟨X, ⟨p, loose, mean, mg, mb, T⟩, K⟩, hG, L0, hI, hlen⟩ := B
  obtain ⟨m, o1, o2, o3, o4, o5, o6, o7, nw, F, N, d1, d2, d3, d4, d5, d6, d7, hm1, hR⟩ := S
  refine execs_at (by unfold lawB keepB; rfl) ?_
  generalize hrest : (lawB w).drop (1 + 1) = rest
  unfold lawA lawE lawS keepS
  simp only [cells7, List.cons_append, List.nil_append] at N hR
  refine wpAny_execs_cons ?_
  have hs := Gn.sub hG F N
  k_steps
  refine ⟨?_⟩
  refine col_c w a vs sc (Gn G _) ((bd.can F News.nil).less (by decide) (by decide)) hs (Fin'.gn Fin'.lst L0) hI (by omega) fun v h1 tk1 hx1 hv => ?_
  obtain ⟨C1, cs, rfl, hC1⟩ := hv
  obtain ⟨nw1, F1, N1, hC4⟩ := call_own (R := fun G => Lst G C1 cs ∧ Paired (FT G) cs _) hG F N hx1 (Fin'.and Fin'.lst (Paired.fin (Ro := fun G v x => FT G v x) (fun y e => FT.fin) _ _)) hC1
  rw [cols_eq] at hC4
  have hle := Gn.le (G := G) (fun p (hp : p ∈ cells7 L o1 o2 o3 o4 o5 o6 o7 ++ nw) => List.mem_append_right nw1 hp)
  have hR2 : R1 C1 D1 sc (fun k => (marksN sc).getD k 0) (Gn G _) := ⟨Rd.mono hle _ _ hR, cs, hC4.1, paired_of_map (c := fun k => colC k ((marksN sc).getD k 0)) (F := FT (Gn G _)) hC4.2⟩
  have N2 := News.pack [_, _, _, _, _, _, _] N1 (fun p hp => List.mem_append_right nw1 (List.mem_append_left nw hp : p ∈ [_, _, _, _, _, _, _] ++ nw))
  clear hC1 hC4 hle hs hR N1
  simp only [List.cons_append, List.nil_append] at N2
  k_steps
  rename Fr _ _ _ _ => F3
  rename News _ _ _ _ => N3
  subst hrest
  exact next C1 _ _ _ ⟨_, o1, o2, o3, o4, o5, o6, o7, _, F3, N3, d1, d2, d3, d4, d5, d6, d7, ⟨hm1, rfl⟩, R1.fin.mono (Gn.le fun p hp => List.mem_append_right (cells7 L o1 o2 o3 o4 o5 o6 o7) hp) hR2⟩
end

-- Law2
section
set_option maxHeartbeats 8000000 in
theorem law2 {w : World} {g : Heap} {G : Gs} {a fa L D1 C1 : Addr} {vs : List Value} {sc : List Int} {mk : Nat → Int} {cd : Value} {Q : Flow → Shared → Prop} {E : Value → Shared → Prop} {s : Shared} (B : Bse w g G a vs sc)
    (S : St g L G (some (.ref D1)) none none none none none none (M3 a C1) (R1 C1 D1 sc mk) s.heap)
    (next : ∀ D2 h tk, St g L G (some (.ref D1)) (some (.ref D2)) none none none none none (M3 a C1) (R3 C1 D1 D2 sc mk) h → wpAny (MO w) (lawA w L fa cd) (execs ((lawB w).drop 3) (lawE w L fa cd)) Q E { s with heap := h, toks := tk }) :
    wpAny (MO w) (lawA w L fa cd) (execs ((lawB w).drop 2) (lawE w L fa cd)) Q E s := by
  have bd := B.ctx.bd (L := L) (env := lawE w L fa cd) rfl rfl
  obtain ⟨⟨X, ⟨p, loose, mean, mg, mb, T⟩, K⟩, hG, L0, hI, hlen⟩ := B
  obtain ⟨m, o1, o2, o3, o4, o5, o6, o7, nw, F, N, d1, d2, d3, d4, d5, d6, d7, ⟨hm1, hm2⟩, hR⟩ := S
  refine execs_at (by unfold lawB keepB; rfl) ?_
  generalize hrest : (lawB w).drop (2 + 1) = rest
  unfold lawA lawE lawS keepS
  simp only [cells7, List.cons_append, List.nil_append] at N hR
  refine wpAny_execs_cons ?_
  have hs := Gn.sub hG F N
  obtain ⟨hR1, cs, hC1, hC2⟩ := id hR
  k_steps
  refine compV (δ := Nat) (ε := Nat) (ds := List.range 8) (pz := fun _ => true) (f := id) (Ro := fun _ v k => ∃ t, v = .str (nmS k) t) (itb_listN rfl (paired_len hC2) hC1 hs (.inr ⟨_, _, _, rfl⟩)) hG F N
    (cmp_col (fun k => colC k (mk k)) hC2 hs (by decide) (fun _ _ _ _ _ h => h) rfl rfl rfl rfl rfl (by decide) (by decide) (by decide) ?_ ?_) (fun y e => Fin'.triv) ?_
  · intro d t1 t2 t3 C h tk m Q E hd m1 m2 m3 hn hx hQ
    exact wpAny_tests_nil (hQ _ _ Ext.rfl')
  · intro d t1 t2 t3 C h tk m G' Q E hd hp m1 m2 m3 hn hx hle hsub hQ
    have FX := Fr.keeps F hx
    obtain ⟨mx, mn, hu, O⟩ := col_name (List.mem_range.mp hd) (mk d)
    k_steps
    refine ⟨?_⟩
    exact name_c w _ _ _ _ _ _ d mx mn hu O ((bd.can FX News.nil).less (by decide) (by decide)) fun t h' tk' hx' => hQ _ _ _ hx' ⟨t, rfl⟩
  intro D2 h2 tk2 ys nw2 F2 N2 hD2 hyl2 hL2 hP2
  rw [filter_tt, List.map_id] at hP2
  have hleR : Le (Gn G (cells7 L o1 o2 o3 o4 o5 o6 o7 ++ nw)) (Gn G ((D2, LCg.lst ys) :: (nw2 ++ (cells7 L o1 o2 o3 o4 o5 o6 o7 ++ nw)))) := Gn.le fun p hp => .tail _ (List.mem_append_right nw2 hp)
  have hR2 : R3 C1 D1 D2 sc mk (Gn G ((D2, LCg.lst ys) :: (nw2 ++ (cells7 L o1 o2 o3 o4 o5 o6 o7 ++ nw)))) := by
    obtain ⟨r1, r2⟩ := R1.fin.mono hleR hR
    exact ⟨r1, r2, ⟨D2, ys, rfl, hL2, RdL.of_paired (f := fun k => PyData.str (nmS k)) hP2⟩, _, ⟨.inr (.head _), rfl⟩, rfl, rfl⟩
  clear hs hR hR1 hC1 hC2 F N
  k_steps
  refine stCellK (G := G) (c := L + 1 + 1) (own := [_, _, _, _, _]) (rest := [_]) F2 N2 (fun p hp => .tail _ (List.mem_append_right nw2 (List.mem_append_left nw hp : p ∈ [_, _, _, _, _, _, _] ++ nw))) ?_ ?_ ?_ rfl rfl rfl ?_
  · intro p hp; simp only [List.mem_cons, List.not_mem_nil, or_false] at hp; rcases hp with rfl | rfl | rfl | rfl | rfl <;> exact Nat.ne_of_gt (by repeat first | exact Nat.lt_succ_self _ | refine Nat.lt_succ_of_lt ?_)
  · intro p hp; simp only [List.mem_cons, List.not_mem_nil, or_false] at hp; rcases hp with rfl; exact Nat.ne_of_lt (by repeat first | exact Nat.lt_succ_self _ | refine Nat.lt_succ_of_lt ?_)
  · exact ⟨_, d2⟩
  intro h3 o2' nw3 F3 N3 d2' tr
  subst hrest
  exact next D2 _ _ ⟨m, o1, o2', o3, o4, o5, o6, o7, nw3, F3, N3, d1, d2', d3, d4, d5, d6, d7, ⟨hm1, hm2⟩, tr _ R3.fin hR2⟩
end

-- Law3
section
theorem same8 : PyData.eqv namesD (.list [.str (lS "a"), .str (lS "b"), .str (lS "c"), .str (lS "d"), .str (lS "A"), .str (lS "B"), .str (lS "C"), .str (lS "D")]) = true := by decide
set_option maxHeartbeats 8000000 in
theorem law3 {w : World} {g : Heap} {G : Gs} {a fa L D1 D2 C1 : Addr} {vs : List Value} {sc : List Int} {mk : Nat → Int} {cd : Value} {Q : Flow → Shared → Prop} {E : Value → Shared → Prop} {s : Shared} (B : Bse w g G a vs sc)
    (S : St g L G (some (.ref D1)) (some (.ref D2)) none none none none none (M3 a C1) (R3 C1 D1 D2 sc mk) s.heap)
    (next : ∀ h tk, St g L G (some (.ref D1)) (some (.ref D2)) none none none none none (M3 a C1) (R3 C1 D1 D2 sc mk) h → wpAny (MO w) (lawA w L fa cd) (execs ((lawB w).drop 4) (lawE w L fa cd)) Q E { s with heap := h, toks := tk }) :
    wpAny (MO w) (lawA w L fa cd) (execs ((lawB w).drop 3) (lawE w L fa cd)) Q E s := by
  obtain ⟨⟨X, ⟨p, loose, mean, mg, mb, T⟩, K⟩, hG, L0, hI, hlen⟩ := B
  obtain ⟨m, o1, o2, o3, o4, o5, o6, o7, nw, F, N, d1, d2, d3, d4, d5, d6, d7, ⟨hm1, hm2⟩, hR⟩ := S
  refine execs_at (by unfold lawB keepB; rfl) ?_
  generalize hrest : (lawB w).drop (3 + 1) = rest
  unfold lawA lawE lawS keepS
  simp only [cells7, List.cons_append, List.nil_append] at N hR
  refine wpAny_execs_cons ?_
  k_steps
  rename Fr _ _ _ _ => F1
  rename News _ _ _ _ => N1
  refine ⟨?_⟩
  have hs := Gn.sub hG F1 N1
  refine ne_rd hs (Rd.mono (Gn.le fun p hp => .tail _ hp) _ _ hR.2.2.1) (db := .list [.str (lS "a"), .str (lS "b"), .str (lS "c"), .str (lS "d"), .str (lS "A"), .str (lS "B"), .str (lS "C"), .str (lS "D")]) ⟨_, _, rfl, ⟨_, _, ⟨.inr (.head _), rfl⟩, rfl, rfl⟩, ?_⟩ (by decide +kernel) (by decide +kernel) (by show callerA.units + 3 + 1 < cLine; decide) ?_
  · exact ⟨_, _, rfl, ⟨_, rfl⟩, _, _, rfl, ⟨_, rfl⟩, _, _, rfl, ⟨_, rfl⟩, _, _, rfl, ⟨_, rfl⟩, _, _, rfl, ⟨_, rfl⟩, _, _, rfl, ⟨_, rfl⟩, _, _, rfl, ⟨_, rfl⟩, _, _, rfl, ⟨_, rfl⟩, rfl⟩
  rw [same8]
  k_steps
  rename Fr _ _ _ _ => F2
  rename News _ _ _ _ => N2
  subst hrest
  exact next _ _ ⟨m, o1, o2, o3, o4, o5, o6, o7, nw, F2, fun p hp => N2 p (.tail _ hp), d1, d2, d3, d4, d5, d6, d7, ⟨hm1, hm2⟩, hR⟩
end

-- Law4
section
set_option maxHeartbeats 8000000 in
theorem law4 {w : World} {g : Heap} {G : Gs} {a fa L D1 D2 C1 : Addr} {vs : List Value} {sc : List Int} {mk : Nat → Int} {cd : Value} {Q : Flow → Shared → Prop} {E : Value → Shared → Prop} {s : Shared} (B : Bse w g G a vs sc)
    (S : St g L G (some (.ref D1)) (some (.ref D2)) none none none none none (M3 a C1) (R3 C1 D1 D2 sc mk) s.heap)
    (next : ∀ dn h tk, St g L G (some (.ref D1)) (some (.ref D2)) none none none none none (M4 a dn) (R4 w D1 D2 dn sc) h → wpAny (MO w) (lawA w L fa cd) (execs ((lawB w).drop 5) (lawE w L fa cd)) Q E { s with heap := h, toks := tk }) :
    wpAny (MO w) (lawA w L fa cd) (execs ((lawB w).drop 4) (lawE w L fa cd)) Q E s := by
  have bd := B.ctx.bd (L := L) (env := lawE w L fa cd) rfl rfl
  obtain ⟨⟨X, ⟨p, loose, mean, mg, mb, T⟩, K⟩, hG, L0, hI, hlen⟩ := B
  obtain ⟨m, o1, o2, o3, o4, o5, o6, o7, nw, F, N, d1, d2, d3, d4, d5, d6, d7, ⟨hm1, hm2⟩, hR⟩ := S
  refine execs_at (by unfold lawB keepB; rfl) ?_
  generalize hrest : (lawB w).drop (4 + 1) = rest
  unfold lawA lawE lawS keepS
  simp only [cells7, List.cons_append, List.nil_append] at N hR
  refine wpAny_execs_cons ?_
  obtain ⟨hR1, ⟨cs, hC1, hC2⟩, hR2, hR3⟩ := hR
  k_steps
  have hs := Gn.sub hG F N
  refine ⟨s, 8, Gn G _, fun i v _ => cs[i]? = some v, fun i m => ∃ t1 t2 t3, m (lS "r") = some (.float (colC i (mk i)).1 t1) ∧ m (lS "g") = some (.float (colC i (mk i)).2.1 t2) ∧ m (lS "b") = some (.float (colC i (mk i)).2.2 t3), NegJ, m, itb_listN rfl (paired_len hC2) hC1 hs (.inr ⟨_, _, _, rfl⟩), by rw [sizeLine_eq]; omega, ⟨rfl, by omega, fun j hj => absurd hj (by omega)⟩, fun i kvs h => Nat.le_of_eq h.1, ?_, ?_, F.ns, ?_⟩
  · intro i v C s₂ m₂ Q E hi hv hx hn hQ
    obtain ⟨d, hd, A1, t1, t2, t3, rfl, hT⟩ := paired_get hC2 hv
    obtain rfl : i = d := by rw [List.getElem?_range hi] at hd; exact Option.some.inj hd
    exact assign_three rfl rfl rfl rfl rfl (by decide) (by decide) (by decide) (hT.isTup fun b o e => hx _ _ (hs b o e)) hn fun h₃ tk₃ m₃ hn₃ m1 m2 m3 hk => hQ h₃ tk₃ m₃ hn₃ ⟨t1, t2, t3, m1, m2, m3⟩ hk
  · rintro i C h tk m' kvs Q hi ⟨t1, t2, t3, m1, m2, m3⟩ hn hx hJ hQ
    have FX := Fr.keeps F hx
    obtain ⟨mx, mn, hu, O⟩ := col_name hi (mk i)
    obtain ⟨mx2, mn2, hu2, O2⟩ := col_neg hi (mk i)
    k_steps
    refine ⟨?_⟩
    refine name_c w _ _ _ _ _ _ i mx mn hu O ((bd.can FX News.nil).less (by decide) (by decide)) fun t h' tk' hx' => ?_
    have FY := Fr.keeps FX hx'
    have hn2 := hn.at' fun o e => hx' _ o e
    k_steps
    refine ⟨?_⟩
    exact name_c w _ _ _ _ _ _ (i ^^^ 6) mx2 mn2 hu2 O2 ((bd.can FY News.nil).less (by decide) (by decide)) fun t2 h2 tk2 hx2 => hQ _ _ _ _ _ (Ext.trans hx' hx2) (hJ.step hi t2)
  · rintro D h tk kvs hn hk hD hDn hDL hDb hJ
    obtain ⟨oD, hoD, hoI⟩ := Heap.dictOf_iff.mp hD
    have hgL := Fr.g_L F
    have F1 : Fr g L h (fun z => if z = lS "negative" then some (.ref D) else m z) := ⟨hn, fun b o e => hk b o (fun (q : b = L) => by rw [q, hgL] at e; cases e) (F.keep b o e), F.above⟩
    have N1 : News g L h _ := fun p hp => ⟨hk _ _ (N p hp).2.1 (N p hp).1, (N p hp).2⟩
    have hD3 : (3 : Nat) < D := by
      obtain ⟨oL, hoL⟩ := Fr.get_L F
      have h1 : L < D := hDb _ _ hoL
      obtain ⟨o3', ho3⟩ := has251 w
      have h3 := Nat.lt_trans (by decide : 3 < 251) (Heap.lt_size (X 251 o3' ho3))
      exact Nat.lt_of_lt_of_le h3 (Nat.le_trans F.above (Nat.le_of_lt h1))
    have hsys : (D == sysModules) = false := beq_eq_false_iff_ne.mpr (Nat.ne_of_gt (Nat.lt_trans (by decide : 1 < 3) hD3))
    have hok : okd oD = true := by
      obtain ⟨es, ep, ⟨hc, _⟩, hd, _⟩ := hoI
      unfold okd okc; rw [hd, hc]; rfl
    have N2 : News g L h (cells7 L o1 o2 o3 o4 o5 o6 o7 ++ ((D, oD) :: nw)) := by
      intro p hp
      rcases List.mem_append.mp hp with hp | hp
      · exact N1 p (List.mem_append_left nw hp : p ∈ cells7 L o1 o2 o3 o4 o5 o6 o7 ++ nw)
      · rcases List.mem_cons.mp hp with rfl | hp
        · exact ⟨hoD, hDL, ext_none F.keep hDn⟩
        · exact N1 p (List.mem_append_right (cells7 L o1 o2 o3 o4 o5 o6 o7) hp : p ∈ cells7 L o1 o2 o3 o4 o5 o6 o7 ++ nw)
    have hle : Le (Gn G (cells7 L o1 o2 o3 o4 o5 o6 o7 ++ nw)) (Gn G (cells7 L o1 o2 o3 o4 o5 o6 o7 ++ ((D, oD) :: nw))) := Gn.le fun p hp => (List.mem_append.mp hp).elim (fun hp => List.mem_append_left _ hp) fun hp => List.mem_append_right _ (.tail _ hp)
    subst hrest
    exact next D _ _ ⟨_, o1, o2, o3, o4, o5, o6, o7, (D, oD) :: nw, F1, N2, d1, d2, d3, d4, d5, d6, d7, ⟨hm1, rfl⟩, Rd.mono hle _ _ hR1, Rd.mono hle _ _ hR2, Fin'.at2.mono hle hR3, oD, kvs, ⟨.inr (List.mem_append_right _ (.head _)), okd.okc hok⟩, hsys, hoI, hJ.flat⟩
end

-- Law5
section
set_option maxHeartbeats 8000000 in
theorem law5 {w : World} {g : Heap} {G : Gs} {a fa L D1 D2 dn : Addr} {vs : List Value} {sc : List Int} {cd : Value} {Q : Flow → Shared → Prop} {E : Value → Shared → Prop} {s : Shared} (B : Bse w g G a vs sc)
    (S : St g L G (some (.ref D1)) (some (.ref D2)) none none none none none (M4 a dn) (R4 w D1 D2 dn sc) s.heap)
    (next : ∀ x hl h tk, St g L G (some (.ref D1)) (some (.ref D2)) (some (.ref x)) none none none none (M4 a dn) (R5 w D1 D2 dn x hl sc) h → wpAny (MO w) (lawA w L fa cd) (execs ((lawB w).drop 6) (lawE w L fa cd)) Q E { s with heap := h, toks := tk }) :
    wpAny (MO w) (lawA w L fa cd) (execs ((lawB w).drop 5) (lawE w L fa cd)) Q E s := by
  have bd := B.ctx.bd (L := L) (env := lawE w L fa cd) rfl rfl
  obtain ⟨⟨X, ⟨p, loose, mean, mg, mb, T⟩, K⟩, hG, L0, hI, hlen⟩ := B
  obtain ⟨m, o1, o2, o3, o4, o5, o6, o7, nw, F, N, d1, d2, d3, d4, d5, d6, d7, ⟨hm1, hm2⟩, hR⟩ := S
  refine execs_at (by unfold lawB keepB; rfl) ?_
  generalize hrest : (lawB w).drop (5 + 1) = rest
  unfold lawA lawE lawS keepS
  simp only [cells7, List.cons_append, List.nil_append] at N hR
  refine wpAny_execs_cons ?_
  have hs := Gn.sub hG F N
  obtain ⟨D1', vs1, e0, hL1, hP1⟩ := id hR.1
  cases e0
  k_steps
  refine ⟨?_⟩
  refine tab_c w D1 vs1 (deedsN sc) (Gn G _) ((bd.can F News.nil).less (by decide) (by decide)) hs hL1 hP1 (deedsN_len sc) fun h1 tk1 x hl hx1 hT hE => ?_
  obtain ⟨nw1, F1, N1, hR1⟩ := call_own (R := fun G => Tb G x hl ∧ Rd G (.list ((esN sc).map entD)) (.ref hl)) hG F N hx1 (Fin'.and Tb.fin (Rd.fin _ _)) ⟨hT, hE⟩
  have hR2 : R5 w D1 D2 dn x hl sc (Gn G _) := ⟨R4.fin.mono (Gn.le fun p hp => List.mem_append_right nw1 hp) hR, hR1.1, hR1.2⟩
  clear hR hR1 hL1 hP1 hE hT hs
  k_steps
  refine stCellK (G := G) (c := L + 1 + 1 + 1) (own := [_, _, _, _]) (rest := [_, _]) F1 N1 (fun p hp => List.mem_append_right _ (List.mem_append_left nw hp : p ∈ [_, _, _, _, _, _, _] ++ nw)) ?_ ?_ ?_ rfl rfl rfl ?_
  · intro p hp; simp only [List.mem_cons, List.not_mem_nil, or_false] at hp; rcases hp with rfl | rfl | rfl | rfl <;> exact Nat.ne_of_gt (by repeat first | exact Nat.lt_succ_self _ | refine Nat.lt_succ_of_lt ?_)
  · intro p hp; simp only [List.mem_cons, List.not_mem_nil, or_false] at hp; rcases hp with rfl | rfl <;> exact Nat.ne_of_lt (by repeat first | exact Nat.lt_succ_self _ | refine Nat.lt_succ_of_lt ?_)
  · exact ⟨_, d3⟩
  intro h2 o3' nw2 F2 N2 d3' tr
  subst hrest
  exact next x hl _ _ ⟨m, o1, o2, o3', o4, o5, o6, o7, nw2, F2, N2, d1, d2, d3', d4, d5, d6, d7, ⟨hm1, hm2⟩, tr _ R5.fin hR2⟩
end

-- Law6
section
set_option maxHeartbeats 8000000 in
theorem law6 {w : World} {g : Heap} {G : Gs} {a fa L D1 D2 dn x hl : Addr} {vs : List Value} {sc : List Int} {cd : Value} {Q : Flow → Shared → Prop} {E : Value → Shared → Prop} {s : Shared} (B : Bse w g G a vs sc)
    (S : St g L G (some (.ref D1)) (some (.ref D2)) (some (.ref x)) none none none none (M4 a dn) (R5 w D1 D2 dn x hl sc) s.heap)
    (next : ∀ rw h tk, St g L G (some (.ref D1)) (some (.ref D2)) (some (.ref x)) none none none none (M6 a dn rw) (R6 w D1 D2 dn x hl rw sc) h → wpAny (MO w) (lawA w L fa cd) (execs ((lawB w).drop 7) (lawE w L fa cd)) Q E { s with heap := h, toks := tk }) :
    wpAny (MO w) (lawA w L fa cd) (execs ((lawB w).drop 6) (lawE w L fa cd)) Q E s := by
  have bd := B.ctx.bd (L := L) (env := lawE w L fa cd) rfl rfl
  obtain ⟨⟨X, ⟨p, loose, mean, mg, mb, T⟩, K⟩, hG, L0, hI, hlen⟩ := B
  obtain ⟨m, o1, o2, o3, o4, o5, o6, o7, nw, F, N, d1, d2, d3, d4, d5, d6, d7, ⟨hm1, hm2⟩, hR⟩ := S
  refine execs_at (by unfold lawB keepB; rfl) ?_
  generalize hrest : (lawB w).drop (6 + 1) = rest
  unfold lawA lawE lawS keepS
  simp only [cells7, List.cons_append, List.nil_append] at N hR
  refine wpAny_execs_cons ?_
  k_steps
  rename IsRange _ _ _ _ _ _ _ _ => hrg
  rename Fr _ _ _ _ => F1
  rename News _ _ _ _ => N1
  have hs := Gn.sub hG F1 N1
  obtain ⟨D1', vs1, e0, hL1, hP1⟩ := id hR.1.1
  cases e0
  refine compF (δ := Nat) (ε := Nat) (ds := List.range 4) (pz := fun _ => true) (f := id) (Ro := fun G v k => Rd G (rowsD sc k) v) (itb_rng (n := 4) rfl hrg (by omega)) hG F1 N1 (cmp_rng hs (by omega) (fun _ _ _ _ x h => Rd.mono x _ _ h) rfl rfl ?_) (fun y e => Rd.fin _ _) ?_
  · rintro i t C h tk m' G' Q E hi hm hn hx hle hsub hQ
    have FX := Fr.keeps F1 hx
    have hcx : Heap.IsCell h (L + 1) (some (.ref D1)) := ⟨o1, hx _ _ (N1 (L + 1, o1) (by simp)).1, d1⟩
    k_steps
    refine ⟨?_⟩
    exact rows_c w D1 vs1 (deedsN sc) i _ G' ((bd.can FX News.nil).less (by decide) (by decide)) hsub (hL1.mono hle) (RdL.mono hle _ _ hP1) (deedsN_len sc) fun v h2 tk2 hx2 hv => hQ _ _ _ hx2 hv
  intro rw h2 tk2 ys nw2 F2 N2 hD2 hyl hL2 hP2
  rw [filter_tt, List.map_id] at hP2
  subst hrest
  have N3 := News.pack [_, _, _, _, _, _, _] N2 (fun p hp => .tail _ (List.mem_append_right nw2 (List.mem_append_left nw hp : p ∈ [_, _, _, _, _, _, _] ++ nw)))
  exact next rw _ _ ⟨_, o1, o2, o3, o4, o5, o6, o7, _, F2, N3, d1, d2, d3, d4, d5, d6, d7, ⟨hm1, hm2, rfl⟩, R5.fin.mono (Gn.le fun p hp => List.mem_append_right _ (.tail _ (List.mem_append_right nw2 hp))) hR, Rd.mono (Gn.le fun p hp => List.mem_append_right _ hp) _ _ ⟨rw, ys, rfl, hL2, RdL.of_paired hP2⟩⟩
end

-- Law7
section
set_option maxHeartbeats 8000000 in
theorem law7 {w : World} {g : Heap} {G : Gs} {a fa L D1 D2 dn x hl rw : Addr} {vs : List Value} {sc : List Int} {cd : Value} {Q : Flow → Shared → Prop} {E : Value → Shared → Prop} {s : Shared} (B : Bse w g G a vs sc)
    (S : St g L G (some (.ref D1)) (some (.ref D2)) (some (.ref x)) none none none none (M6 a dn rw) (R6 w D1 D2 dn x hl rw sc) s.heap)
    (next : ∀ td h tk, St g L G (some (.ref D1)) (some (.ref D2)) (some (.ref x)) none none none none (M7 a dn rw td) (R7 w D1 D2 dn x hl rw td sc) h → wpAny (MO w) (lawA w L fa cd) (execs ((lawB w).drop 8) (lawE w L fa cd)) Q E { s with heap := h, toks := tk }) :
    wpAny (MO w) (lawA w L fa cd) (execs ((lawB w).drop 7) (lawE w L fa cd)) Q E s := by
  have bd := B.ctx.bd (L := L) (env := lawE w L fa cd) rfl rfl
  obtain ⟨⟨X, ⟨p, loose, mean, mg, mb, T⟩, K⟩, hG, L0, hI, hlen⟩ := B
  obtain ⟨m, o1, o2, o3, o4, o5, o6, o7, nw, F, N, d1, d2, d3, d4, d5, d6, d7, ⟨hm1, hm2, hm3⟩, hR⟩ := S
  refine execs_at (by unfold lawB keepB; rfl) ?_
  generalize hrest : (lawB w).drop (7 + 1) = rest
  unfold lawA lawE lawS keepS
  simp only [cells7, List.cons_append, List.nil_append] at N hR
  refine wpAny_execs_cons ?_
  k_steps
  rename Fr _ _ _ _ => F1
  rename News _ _ _ _ => N1
  have hs := Gn.sub hG F1 N1
  obtain ⟨hT, hE⟩ := And.right (And.left hR)
  have hT' := hT
  obtain ⟨dx, hsh, tkx, nx, hx1, hx2⟩ := hT'
  rw [show Str.ofString "AbCd" = txt [4, 1, 6, 3] from rfl]
  refine compF (δ := Nat) (ε := Nat) (ds := [4, 1, 6, 3]) (pz := fun _ => true) (f := fun i => i % 4) (Ro := fun G v k => Rd G (toldD sc k) v) (itb_txt rfl) hG F1 N1 (cmp_str hs (by decide) (fun _ _ _ _ x h => Rd.mono x _ _ h) rfl rfl ?_ ?_) (fun y e => Rd.fin _ _) ?_
  · rintro d C h tk m Q E hd hm hn hx hQ
    exact wpAny_tests_nil (hQ _ _ Ext.rfl')
  · rintro d t C h tk m' G' Q E hd hp hm hn hx hle hsub hQ
    have FX := Fr.keeps F1 hx
    have hcx : Heap.IsCell h (L + 1 + 1 + 1) (some (.ref x)) := ⟨o3, hx _ _ (N1 (L + 1 + 1 + 1, o3) (by simp)).1, d3⟩
    have hIx : InstAt h x (instObj 175 dx) 175 (some (dictOf [⟨hsh, .str (Str.ofString "_headers") tkx, .ref hl⟩] nx)) := ⟨hx _ _ (hs _ _ hx1), rfl, rfl, hx _ _ (hs _ _ hx2)⟩
    k_steps
    refine ⟨?_⟩
    have hd8 : d < 8 := by simp only [List.mem_cons, List.not_mem_nil, or_false] at hd; omega
    refine getall_c w x hl d hd8 t (esN sc) G' ((bd.can FX News.nil).less (by decide) (by decide)) hsub (hT.mono hle) (Rd.mono hle _ _ hE) (esN_lt sc) (by have := esN_len sc; omega) fun v h2 tk2 hx2 hv => hQ _ _ _ hx2 ?_
    show Rd _ (.list ((Hh (d % 4) (esN sc)).map .str)) v
    unfold Hh
    rw [List.map_map]
    exact hv
  intro td h2 tk2 ys nw2 F2 N2 hD2 hyl hL2 hP2
  rw [filter_tt] at hP2
  subst hrest
  have N3 := News.pack [_, _, _, _, _, _, _] N2 (fun p hp => .tail _ (List.mem_append_right nw2 (List.mem_append_left nw hp : p ∈ [_, _, _, _, _, _, _] ++ nw)))
  exact next td _ _ ⟨_, o1, o2, o3, o4, o5, o6, o7, _, F2, N3, d1, d2, d3, d4, d5, d6, d7, ⟨hm1, hm2, hm3, rfl⟩, R6.fin.mono (Gn.le fun p hp => List.mem_append_right _ (.tail _ (List.mem_append_right nw2 hp))) hR, Rd.mono (Gn.le fun p hp => List.mem_append_right _ hp) _ _ ⟨td, ys, rfl, hL2, RdL.of_paired hP2⟩⟩
end

-- Law8
section
theorem names_item {w : World} {A : Around} {s : Shared} {Q E : Value → Shared → Prop} {G : Gs} {a : Addr} {k : Nat} {i : Int} {u : Tok} {value slice : Expr} (hN : Rd G namesD (.ref a)) (hs : Sub G s.heap) (hi : i = ((k : Nat) : Int)) (hk : k < 8)
    (h : ∀ t, Q (.str (nmS k) t) s)
    (hs1 : subscripted slice false (.ref a) (.int i u) = operate [.ref a, .int i u] (getItem (.ref a) (.int i u)) := by with_unfolding_all rfl) (hg : ∀ r, letTemporaryGo value (.ref a) r = pure () := by intro _; with_unfolding_all rfl) :
    wpAny (MO w) A (subscriptTail value slice (.ref a) (.int i u)) Q E s := by
  subst hi
  obtain ⟨a', vs, e0, hL, hR⟩ := hN
  cases e0
  obtain ⟨v, hv, t, rfl⟩ := RdL.get' hR (i := k) (d := .str (nmS k)) (by rw [List.getElem?_map, List.getElem?_range hk]; rfl)
  exact item_listL (hL.isList hs) (Int.natCast_nonneg _) (by omega) (by simpa using hv) (h t) hs1 hg
set_option maxHeartbeats 8000000 in
theorem law8 {w : World} {g : Heap} {G : Gs} {a fa L D1 D2 dn x hl rw td : Addr} {vs : List Value} {sc : List Int} {cd : Value} {Q : Flow → Shared → Prop} {E : Value → Shared → Prop} {s : Shared} (B : Bse w g G a vs sc)
    (S : St g L G (some (.ref D1)) (some (.ref D2)) (some (.ref x)) none none none none (M7 a dn rw td) (R7 w D1 D2 dn x hl rw td sc) s.heap)
    (next : ∀ h tk, St g L G (some (.ref D1)) (some (.ref D2)) (some (.ref x)) none none none none (M6 a dn rw) (R6 w D1 D2 dn x hl rw sc) h → wpAny (MO w) (lawA w L fa cd) (execs ((lawB w).drop 9) (lawE w L fa cd)) Q E { s with heap := h, toks := tk }) :
    wpAny (MO w) (lawA w L fa cd) (execs ((lawB w).drop 8) (lawE w L fa cd)) Q E s := by
  have bd := B.ctx.bd (L := L) (env := lawE w L fa cd) rfl rfl
  obtain ⟨⟨X, ⟨p, loose, mean, mg, mb, T⟩, K⟩, hG, L0, hI, hlen⟩ := B
  obtain ⟨m, o1, o2, o3, o4, o5, o6, o7, nw, F, N, d1, d2, d3, d4, d5, d6, d7, ⟨hm1, hm2, hm3, hm4⟩, hR⟩ := S
  refine execs_at (by unfold lawB keepB; rfl) ?_
  generalize hrest : (lawB w).drop (8 + 1) = rest
  unfold lawA lawE lawS keepS
  simp only [cells7, List.cons_append, List.nil_append] at N hR
  refine wpAny_execs_cons ?_
  have hs := Gn.sub hG F N
  have hN : Rd (Gn G (cells7 L o1 o2 o3 o4 o5 o6 o7 ++ nw)) namesD (.ref D2) := hR.1.1.1.2.1
  obtain ⟨rw', vsr, e0, hLr, hRr⟩ := id hR.1.2
  cases e0
  k_steps
  refine compV (δ := Nat) (ε := Nat) (ds := List.range 4) (pz := fun _ => true) (f := id) (Ro := fun G v k => Rd G (toldD sc k) v) (itb_listN rfl (by have := RdL.length hRr; simpa using this) hLr hs (.inl ⟨_, _, rfl⟩)) hG F N
    (cmp_list (fun k v => Rd (Gn G (cells7 L o1 o2 o3 o4 o5 o6 o7 ++ nw)) (rowsD sc k) v) (fun i v hv => ?_) hs (by decide) (fun _ _ _ _ x h => Rd.mono x _ _ h) rfl rfl ?_ ?_) (fun y e => Rd.fin _ _) ?_
  · obtain ⟨d, hd1, hd2⟩ := RdL.get hRr hv
    obtain ⟨e, he1, rfl⟩ : ∃ e, (List.range 4)[i]? = some e ∧ rowsD sc e = d := by simpa using hd1
    exact ⟨e, he1, hd2⟩
  · rintro d v C h tk m' Q E hd hm hn hx hQ
    exact wpAny_tests_nil (hQ _ _ Ext.rfl')
  · rintro k v C h tk m' G' Q E hk hp hm hn hx hle hsub hQ
    have FX := Fr.keeps F hx
    have hcx : Heap.IsCell h (L + 1 + 1) (some (.ref D2)) := ⟨o2, hx _ _ (N (L + 1 + 1, o2) (by simp)).1, d2⟩
    obtain ⟨ao, vso, rfl, hLo, hRo⟩ := hk
    have hlo := RdL.length hRo
    rw [List.length_map] at hlo
    k_steps
    refine compX (δ := List Int) (ε := Str) (ds := rowsN (k : Int) (deedsN sc)) (pz := fun _ => true) (f := rowTxt) (Ro := fun _ v y => ∃ t, v = .str y t) (itb_listN rfl hlo hLo (hs.ext hx) (.inl ⟨_, _, rfl⟩))
      (cmp_list (fun r v => (∃ n, r = rowOf n) ∧ Rd (Gn G (cells7 L o1 o2 o3 o4 o5 o6 o7 ++ nw)) (rowD r) v) (fun i v hv => ?_) (hs.ext hx) (by have := rows_len k (deedsN sc); have := deedsN_len sc; omega) (fun _ _ _ _ _ h => h) rfl rfl ?_ ?_) ?_
    · obtain ⟨d, hd1, hd2⟩ := RdL.get hRo hv
      obtain ⟨e, he1, rfl⟩ : ∃ e, (rowsN (k : Int) (deedsN sc))[i]? = some e ∧ rowD e = d := by simpa using hd1
      exact ⟨e, he1, rows_mem (List.mem_of_getElem? he1), hd2⟩
    · rintro d v C h tk m' Q E hd hm hn hx hQ
      exact wpAny_tests_nil (hQ _ _ Ext.rfl')
    · rintro r v C h2 tk2 m2 G2 Q E ⟨⟨n, rfl⟩, hr⟩ hp hm hn hx2 hle hsub hQ
      have FY := Fr.keeps FX hx2
      have hcy := IsCell.ext' hcx hx2
      obtain ⟨ar, vsr2, rfl, hLr2, hRr2⟩ := hr
      have hlr2 := RdL.length hRr2
      rw [List.length_map] at hlr2
      have hr3 := row_len n
      k_steps
      refine compX (δ := Int) (ε := Str) (ds := rowOf n) (pz := fun _ => true) (f := fun i => nmS i.toNat) (Ro := fun _ v y => ∃ t, v = .str y t) (itb_listN rfl hlr2 hLr2 (hs.ext (Ext.trans hx hx2)) (.inl ⟨_, _, rfl⟩))
        (cmp_list (fun i v => (0 ≤ i ∧ i < 8) ∧ ∃ t, v = .int i t) (fun i v hv => ?_) (hs.ext (Ext.trans hx hx2)) (by omega) (fun _ _ _ _ _ h => h) rfl rfl ?_ ?_) ?_
      · obtain ⟨d, hd1, hd2⟩ := RdL.get hRr2 hv
        obtain ⟨e, he1, rfl⟩ : ∃ e, (rowOf n)[i]? = some e ∧ PyData.int e = d := by simpa using hd1
        exact ⟨e, he1, row_le n e (List.mem_of_getElem? he1), hd2⟩
      · rintro d v C h tk m' Q E hd hm hn hx hQ
        exact wpAny_tests_nil (hQ _ _ Ext.rfl')
      · rintro i v C h3 tk3 m3 G3 Q E ⟨⟨hi0, hi8⟩, ti, rfl⟩ hp hm hn hx3 hle hsub hQ
        have hcz := IsCell.ext' hcy hx3
        k_steps
        refine ⟨?_⟩
        refine names_item hN (hs.ext (Ext.trans (Ext.trans hx hx2) hx3)) (k := i.toNat) (by omega) (by omega) fun t => ?_
        exact hQ _ _ _ Ext.rfl' ⟨_, rfl⟩
      intro D3 h3 tk3 ys3 hx3 hD3 hD3' hyl3 hP3
      rw [filter_tt] at hP3
      k_steps
      refine ⟨?_⟩
      refine join_letters (l := (rowOf n).map Int.toNat) ⟨LCg.lst ys3, hD3', rfl, _, rfl⟩ (by rw [List.map_map]; exact hP3) (by rw [List.length_map]; omega) fun t4 k4 => ?_
      exact hQ _ _ _ hx3 ⟨_, rfl⟩
    intro D4 h4 tk4 ys4 hx4 hD4 hD4' hyl4 hP4
    rw [filter_tt] at hP4
    refine hQ _ _ _ hx4 ⟨D4, ys4, rfl, ⟨LCg.lst ys4, _, .inr ⟨hD4, hD4'⟩, rfl, rfl⟩, ?_⟩
    show RdL _ ((Hh k (esN sc)).map .str) ys4
    rw [told_eq]
    exact RdL.of_paired (f := PyData.str) (Paired.le (fun a b x => x) hP4)
  intro D5 h5 tk5 ys5 nw5 F5 N5 hD5 hyl5 hL5 hP5
  rw [filter_tt, List.map_id] at hP5
  have hs5 := Gn.sub hG F5 N5
  have hle5 : Le (Gn G (cells7 L o1 o2 o3 o4 o5 o6 o7 ++ nw)) (Gn G ((D5, LCg.lst ys5) :: (nw5 ++ (cells7 L o1 o2 o3 o4 o5 o6 o7 ++ nw)))) := Gn.le fun p hp => .tail _ (List.mem_append_right nw5 hp)
  have hq : PyData.eqv (.list ((List.range 4).map (toldD sc))) (.list ((List.range 4).map (toldD sc))) = true := SeqAt.eqv_refl _ (told_ok sc)
  k_steps
  refine ⟨?_⟩
  refine ne_rd hs5 (Rd.mono hle5 _ _ hR.2) (db := .list ((List.range 4).map (toldD sc))) ⟨D5, ys5, rfl, hL5, RdL.of_paired hP5⟩ (told_ok sc) (told_ok sc) ?_ ?_
  · have := told_depth sc
    have h2 : min (PyData.list ((List.range 4).map (toldD sc))).depth (PyData.list ((List.range 4).map (toldD sc))).depth ≤ 2 := Nat.le_trans (Nat.min_le_left _ _) this
    exact Nat.lt_of_le_of_lt (Nat.add_le_add_left h2 _) (by show callerA.units + 3 + 2 < cLine; decide)
  rw [hq]
  have N6 : News g L h5 (cells7 L o1 o2 o3 o4 o5 o6 o7 ++ nw) := fun p hp => N5 p (.tail _ (List.mem_append_right nw5 hp))
  clear N5 N hs5 hle5 hq hP5 hL5
  k_steps
  rename Fr _ _ _ _ => F7
  rename News _ _ _ _ => N7
  subst hrest
  exact next _ _ ⟨m, o1, o2, o3, o4, o5, o6, o7, nw, F7, N7, d1, d2, d3, d4, d5, d6, d7, ⟨hm1, hm2, hm3⟩, hR.1⟩
end

-- Law9
section
set_option maxHeartbeats 8000000 in
theorem law9 {w : World} {g : Heap} {G : Gs} {a fa L D1 D2 dn x hl rw : Addr} {vs : List Value} {sc : List Int} {cd : Value} {Q : Flow → Shared → Prop} {E : Value → Shared → Prop} {s : Shared} (B : Bse w g G a vs sc)
    (S : St g L G (some (.ref D1)) (some (.ref D2)) (some (.ref x)) none none none none (M6 a dn rw) (R6 w D1 D2 dn x hl rw sc) s.heap)
    (next : ∀ P h tk, St g L G (some (.ref D1)) (some (.ref D2)) (some (.ref x)) none none none none (M9 a rw P) (R9 D2 rw P sc) h → wpAny (MO w) (lawA w L fa cd) (execs ((lawB w).drop 10) (lawE w L fa cd)) Q E { s with heap := h, toks := tk }) :
    wpAny (MO w) (lawA w L fa cd) (execs ((lawB w).drop 9) (lawE w L fa cd)) Q E s := by
  have bd := B.ctx.bd (L := L) (env := lawE w L fa cd) rfl rfl
  obtain ⟨⟨X, ⟨p, loose, mean, mg, mb, T⟩, K⟩, hG, L0, hI, hlen⟩ := B
  obtain ⟨m, o1, o2, o3, o4, o5, o6, o7, nw, F, N, d1, d2, d3, d4, d5, d6, d7, ⟨hm1, hm2, hm3⟩, hR⟩ := S
  refine execs_at (by unfold lawB keepB; rfl) ?_
  generalize hrest : (lawB w).drop (9 + 1) = rest
  unfold lawA lawE lawS keepS
  simp only [cells7, List.cons_append, List.nil_append] at N hR
  refine wpAny_execs_cons ?_
  have hs := Gn.sub hG F N
  obtain ⟨⟨⟨hDe, hNa, ⟨oN, hN1, hN2, hN3⟩, hNg⟩, hT, hE⟩, hRw⟩ := hR
  k_steps
  refine ⟨?_⟩
  refine pairs_c w x hl D2 dn (rsN sc) (esN sc) (Gn G _) ((bd.can F News.nil).less (by decide) (by decide)) hs hT hE (esN_lt sc) hNa ⟨oN, hN1, hN3⟩ hNg (fun k hk => rule_first (deedsN sc) hk) (fun k hk => ?_) (fun k hk => ?_) fun v h1 tk1 hx1 hv => ?_
  · rw [rulesN_get _ hk]; have := ruleN_ok (deedsN sc) hk; exact ⟨this.1, this.2.1⟩
  · rw [rulesN_get _ hk]; exact (ruleN_ok (deedsN sc) hk).2.2
  obtain ⟨P, vsp, rfl, hLp, hFp⟩ := hv
  obtain ⟨nw1, F1, N1, hR1⟩ := call_own (R := PrAt sc P) hG F N hx1 PrAt.fin ⟨vsp, hLp, hFp⟩
  have hle := Gn.le (G := G) (fun p (hp : p ∈ cells7 L o1 o2 o3 o4 o5 o6 o7 ++ nw) => List.mem_append_right nw1 hp)
  have hR2 : R9 D2 rw P sc (Gn G _) := ⟨Rd.mono hle _ _ hNa, Rd.mono hle _ _ hRw, hR1⟩
  have N2 := News.pack [_, _, _, _, _, _, _] N1 (fun p hp => List.mem_append_right nw1 (List.mem_append_left nw hp : p ∈ [_, _, _, _, _, _, _] ++ nw))
  clear hR1 hle hs hDe hNa hN1 hNg hT hE hRw N1
  simp only [List.cons_append, List.nil_append] at N2
  k_steps
  rename Fr _ _ _ _ => F3
  rename News _ _ _ _ => N3
  subst hrest
  exact next P _ _ ⟨_, o1, o2, o3, o4, o5, o6, o7, _, F3, N3, d1, d2, d3, d4, d5, d6, d7, ⟨hm1, hm3, rfl⟩, R9.fin.mono (Gn.le fun p hp => List.mem_append_right (cells7 L o1 o2 o3 o4 o5 o6 o7) hp) hR2⟩
end

-- Law10
section
local macro_rules | `(tactic| walk_at "newList") => `(tactic| (refine Stop.out ?_))
set_option maxHeartbeats 8000000 in
theorem law10 {w : World} {g : Heap} {G : Gs} {a fa L D1 D2 x rw P : Addr} {vs : List Value} {sc : List Int} {cd : Value} {Q : Flow → Shared → Prop} {E : Value → Shared → Prop} {s : Shared} (B : Bse w g G a vs sc)
    (S : St g L G (some (.ref D1)) (some (.ref D2)) (some (.ref x)) none none none none (M9 a rw P) (R9 D2 rw P sc) s.heap)
    (next : ∀ Ru h tk, St g L G (some (.ref D1)) (some (.ref D2)) (some (.ref x)) (some (.ref Ru)) none none none (M10 a P) (R10 D2 P Ru sc) h → wpAny (MO w) (lawA w L fa cd) (execs ((lawB w).drop 11) (lawE w L fa cd)) Q E { s with heap := h, toks := tk }) :
    wpAny (MO w) (lawA w L fa cd) (execs ((lawB w).drop 10) (lawE w L fa cd)) Q E s := by
  have bd := B.ctx.bd (L := L) (env := lawE w L fa cd) rfl rfl
  obtain ⟨⟨X, ⟨p, loose, mean, mg, mb, T⟩, K⟩, hG, L0, hI, hlen⟩ := B
  obtain ⟨m, o1, o2, o3, o4, o5, o6, o7, nw, F, N, d1, d2, d3, d4, d5, d6, d7, ⟨hm1, hm2, hm3⟩, hR⟩ := S
  refine execs_at (by unfold lawB keepB; rfl) ?_
  generalize hrest : (lawB w).drop (10 + 1) = rest
  unfold lawA lawE lawS keepS
  simp only [cells7, List.cons_append, List.nil_append] at N hR
  refine wpAny_execs_cons ?_
  have hs := Gn.sub hG F N
  obtain ⟨rw', vsr, e0, hLr, hRr⟩ := id hR.2.1
  cases e0
  have hvr : vsr.length = 4 := by have := RdL.length hRr; simpa using this
  k_steps
  refine enum_callN rfl hvr hLr hs fun xv s' I => ?_
  refine compV (δ := Nat × Nat) (ε := List Nat) (ds := (List.range 4).zipIdx) (pz := fun _ => true) (f := ruleF (deedsN sc)) (Ro := fun G v r => Rd G (dataN r) v) (I _ _ _) hG F N
    (cmp_enum (fun k v => k < 4 ∧ Rd (Gn G (cells7 L o1 o2 o3 o4 o5 o6 o7 ++ nw)) (rowsD sc k) v) (fun i v hv => ?_) hs (by decide) (fun _ _ _ _ x h => Rd.mono x _ _ h) rfl rfl rfl rfl (by decide) ?_ ?_) (fun y e => Rd.fin _ _) ?_
  · obtain ⟨d, hd1, hd2⟩ := RdL.get hRr hv
    obtain ⟨e, he1, rfl⟩ : ∃ e, (List.range 4)[i]? = some e ∧ rowsD sc e = d := by simpa using hd1
    exact ⟨e, he1, List.mem_range.mp (List.mem_of_getElem? he1), hd2⟩
  · rintro d i v t C h tk m' Q E hd hi hm hm' hn hx hQ
    exact wpAny_tests_nil (hQ _ _ Ext.rfl')
  · rintro k i v t C h tk m' G' Q E ⟨hk, hv⟩ hi hp hm hm' hn hx hle hsub hQ
    have FX := Fr.keeps F hx
    rw [List.length_range] at hi
    obtain ⟨ao, vso, rfl, hLo, hRo⟩ := id hv
    k_steps
    refine ⟨?_⟩
    refine wpAny_newList ?_
    have hxp : Ext h (h.push { cls := .type "list", data := .seq ([] : List Value).toArray }) := fun b o e => Heap.get?_push_of_some _ e
    have hn2 := hn.push { cls := .type "list", data := .seq ([] : List Value).toArray }
    have FY := Fr.keeps FX hxp
    have hsm := hsub.more hxp
    have hne : Rd (More G' h (h.push { cls := .type "list", data := .seq ([] : List Value).toArray })) (.list []) (.ref h.objs.size) := ⟨_, [], rfl, ⟨_, _, .inr ⟨size_none _, Heap.get?_push_size _ rfl⟩, rfl, rfl⟩, rfl⟩
    clear FX
    k_steps
    refine ⟨?_⟩
    refine ne_rd hsm (Rd.mono (hle.trans le_more) _ _ hv) hne (rowsD_ok sc k) rfl (Nat.lt_of_le_of_lt (Nat.add_le_add_left (Nat.min_le_right _ _) _) (by show callerA.units + 3 + 1 < cLine; decide)) ?_
    have hf : ruleF (deedsN sc) (k, i) = match rowsN (k : Int) (deedsN sc) with | [] => [i] | r :: _ => r.map Int.toNat := rfl
    have hmm : ∀ r ∈ rowsN (k : Int) (deedsN sc), ∃ n, r = rowOf n := fun r => rows_mem
    rw [hf] at hQ
    unfold rowsD at *
    generalize rowsN (k : Int) (deedsN sc) = rr at *
    clear hf
    cases rr with
    | nil =>
      rw [show PyData.eqv (.list (([] : List (List Int)).map rowD)) (.list []) = true from by simp [PyData.eqv, PyData.eqvAll]]
      k_steps
      refine ⟨?_⟩
      refine wpAny_newList ?_
      exact hQ _ _ _ (Ext.trans hxp fun b o e => Heap.get?_push_of_some _ e) ⟨_, [.int (i : Nat) t], rfl, ⟨_, _, .inr ⟨ext_none hxp (size_none _), Heap.get?_push_size _ rfl⟩, rfl, rfl⟩, ⟨_, _, rfl, ⟨t, rfl⟩, rfl⟩⟩
    | cons r rr =>
      rw [show PyData.eqv (.list ((r :: rr).map rowD)) (.list []) = false from by simp [PyData.eqv, PyData.eqvAll]]
      k_steps
      refine ⟨?_⟩
      obtain ⟨v0, vr, rfl, hv0, _⟩ := hRo
      obtain ⟨n, rfl⟩ := hmm r (List.mem_cons_self ..)
      refine item_listL (hLo.isList (hs.ext (Ext.trans hx hxp))) (by decide) (by decide) rfl ?_
      rw [rowD_eq] at hv0
      exact hQ _ _ _ hxp (Rd.mono (hle.trans le_more) _ _ hv0)
  intro Ru h2 tk2 ys nw2 F2 N2 hD2 hyl hL2 hP2
  rw [filter_tt, ruleF_all] at hP2
  have hleR : Le (Gn G (cells7 L o1 o2 o3 o4 o5 o6 o7 ++ nw)) (Gn G ((Ru, LCg.lst ys) :: (nw2 ++ (cells7 L o1 o2 o3 o4 o5 o6 o7 ++ nw)))) := Gn.le fun p hp => .tail _ (List.mem_append_right nw2 hp)
  have hR2 : R10 D2 P Ru sc (Gn G ((Ru, LCg.lst ys) :: (nw2 ++ (cells7 L o1 o2 o3 o4 o5 o6 o7 ++ nw)))) := ⟨Rd.mono hleR _ _ hR.1, PrAt.fin.mono hleR hR.2.2, ⟨Ru, ys, rfl, hL2, RdL.of_paired hP2⟩⟩
  k_steps
  refine stCellK (G := G) (c := L + 1 + 1 + 1 + 1) (own := [_, _, _]) (rest := [_, _, _]) F2 N2 (fun p hp => .tail _ (List.mem_append_right nw2 (List.mem_append_left nw hp : p ∈ [_, _, _, _, _, _, _] ++ nw))) ?_ ?_ ?_ rfl rfl rfl ?_
  · intro p hp; simp only [List.mem_cons, List.not_mem_nil, or_false] at hp; rcases hp with rfl | rfl | rfl <;> exact Nat.ne_of_gt (by repeat first | exact Nat.lt_succ_self _ | refine Nat.lt_succ_of_lt ?_)
  · intro p hp; simp only [List.mem_cons, List.not_mem_nil, or_false] at hp; rcases hp with rfl | rfl | rfl <;> exact Nat.ne_of_lt (by repeat first | exact Nat.lt_succ_self _ | refine Nat.lt_succ_of_lt ?_)
  · exact ⟨_, d4⟩
  intro h3 o4' nw3 F3 N3 d4' tr
  subst hrest
  exact next Ru _ _ ⟨m, o1, o2, o3, o4', o5, o6, o7, nw3, F3, N3, d1, d2, d3, d4', d5, d6, d7, ⟨hm1, hm3⟩, tr _ R10.fin hR2⟩
end

-- Law11
section
set_option maxHeartbeats 8000000 in
theorem law11 {w : World} {g : Heap} {G : Gs} {a fa L D1 D2 x P Ru : Addr} {vs : List Value} {sc : List Int} {cd : Value} {Q : Flow → Shared → Prop} {E : Value → Shared → Prop} {s : Shared} (B : Bse w g G a vs sc)
    (S : St g L G (some (.ref D1)) (some (.ref D2)) (some (.ref x)) (some (.ref Ru)) none none none (M10 a P) (R10 D2 P Ru sc) s.heap)
    (next : ∀ Sz h tk, St g L G (some (.ref D1)) (some (.ref D2)) (some (.ref x)) (some (.ref Ru)) (some (.ref Sz)) none none (M10 a P) (R11 D2 P Ru Sz sc) h → wpAny (MO w) (lawA w L fa cd) (execs ((lawB w).drop 12) (lawE w L fa cd)) Q E { s with heap := h, toks := tk }) :
    wpAny (MO w) (lawA w L fa cd) (execs ((lawB w).drop 11) (lawE w L fa cd)) Q E s := by
  have bd := B.ctx.bd (L := L) (env := lawE w L fa cd) rfl rfl
  obtain ⟨⟨X, ⟨p, loose, mean, mg, mb, T⟩, K⟩, hG, L0, hI, hlen⟩ := B
  obtain ⟨m, o1, o2, o3, o4, o5, o6, o7, nw, F, N, d1, d2, d3, d4, d5, d6, d7, ⟨hm1, hm2⟩, hR⟩ := S
  refine execs_at (by unfold lawB keepB; rfl) ?_
  generalize hrest : (lawB w).drop (11 + 1) = rest
  unfold lawA lawE lawS keepS
  simp only [cells7, List.cons_append, List.nil_append] at N hR
  refine wpAny_execs_cons ?_
  have hs := Gn.sub hG F N
  have hRk := rsN_ok sc
  k_steps
  refine ⟨?_⟩
  refine sizes_c w Ru (rsN sc) (Gn G _) ((bd.can F News.nil).less (by decide) (by decide)) hs hR.2.2 hRk.len hRk.lt hRk.le fun v h1 tk1 hx1 hv => ?_
  obtain ⟨nw1, F1, N1, hR1⟩ := call_own (R := fun G => Rd G (szD sc) v) hG F N hx1 (Rd.fin _ _) hv
  obtain ⟨Sz, vsz, rfl, hLz, hRz⟩ := hR1
  have hR2 : R11 D2 P Ru Sz sc (Gn G _) := ⟨R10.fin.mono (Gn.le fun p hp => List.mem_append_right nw1 hp) hR, Sz, vsz, rfl, hLz, hRz⟩
  clear hR hLz hRz hv hs
  k_steps
  refine stCellK (G := G) (c := L + 1 + 1 + 1 + 1 + 1) (own := [_, _]) (rest := [_, _, _, _]) F1 N1 (fun p hp => List.mem_append_right _ (List.mem_append_left nw hp : p ∈ [_, _, _, _, _, _, _] ++ nw)) ?_ ?_ ?_ rfl rfl rfl ?_
  · intro p hp; simp only [List.mem_cons, List.not_mem_nil, or_false] at hp; rcases hp with rfl | rfl <;> exact Nat.ne_of_gt (by repeat first | exact Nat.lt_succ_self _ | refine Nat.lt_succ_of_lt ?_)
  · intro p hp; simp only [List.mem_cons, List.not_mem_nil, or_false] at hp; rcases hp with rfl | rfl | rfl | rfl <;> exact Nat.ne_of_lt (by repeat first | exact Nat.lt_succ_self _ | refine Nat.lt_succ_of_lt ?_)
  · exact ⟨_, d5⟩
  intro h2 o5' nw2 F2 N2 d5' tr
  subst hrest
  exact next Sz _ _ ⟨m, o1, o2, o3, o4, o5', o6, o7, nw2, F2, N2, d1, d2, d3, d4, d5', d6, d7, ⟨hm1, hm2⟩, tr _ R11.fin hR2⟩
end

-- Law12
section
set_option maxHeartbeats 8000000 in
theorem law12 {w : World} {g : Heap} {G : Gs} {a fa L D1 D2 x P Ru Sz : Addr} {vs : List Value} {sc : List Int} {cd : Value} {Q : Flow → Shared → Prop} {E : Value → Shared → Prop} {s : Shared} (B : Bse w g G a vs sc)
    (S : St g L G (some (.ref D1)) (some (.ref D2)) (some (.ref x)) (some (.ref Ru)) (some (.ref Sz)) none none (M10 a P) (R11 D2 P Ru Sz sc) s.heap)
    (next : ∀ h tk, St g L G (some (.ref D1)) (some (.ref D2)) (some (.ref x)) (some (.ref Ru)) (some (.ref Sz)) none none (M12 P sc) (R11 D2 P Ru Sz sc) h → wpAny (MO w) (lawA w L fa cd) (execs ((lawB w).drop 13) (lawE w L fa cd)) Q E { s with heap := h, toks := tk }) :
    wpAny (MO w) (lawA w L fa cd) (execs ((lawB w).drop 12) (lawE w L fa cd)) Q E s := by
  obtain ⟨⟨X, ⟨p, loose, mean, mg, mb, T⟩, K⟩, hG, L0, hI, hlen⟩ := B
  obtain ⟨m, o1, o2, o3, o4, o5, o6, o7, nw, F, N, d1, d2, d3, d4, d5, d6, d7, ⟨hm1, hm2⟩, hR⟩ := S
  refine execs_at (by unfold lawB keepB; rfl) ?_
  generalize hrest : (lawB w).drop (12 + 1) = rest
  unfold lawA lawE lawS keepS
  simp only [cells7, List.cons_append, List.nil_append] at N hR
  refine wpAny_execs_cons ?_
  have hLg : g.IsList a vs.toArray := L0.isList hG
  k_steps
  rename Fr _ _ _ _ => F1
  rename News _ _ _ _ => N1
  subst hrest
  have hf : (((firN sc : Nat) : Int)) = (sc.take 6).sum.fmod 8 := Int.toNat_of_nonneg (Int.fmod_nonneg_of_pos _ (by omega))
  exact next _ _ ⟨_, o1, o2, o3, o4, o5, o6, o7, nw, F1, fun p hp => N1 p (.tail _ hp), d1, d2, d3, d4, d5, d6, d7, ⟨hm2, _, by rw [hf]; rfl⟩, hR⟩
end

-- TurnA
section
theorem star_lst {w : World} {A : Around} {E : Value → Shared → Prop} {s : Shared} {h₀ : Heap} {L a : Addr} {m : Str → Option Value} {news : List (Addr × Obj)} {G : Gs} {ws : List Value} {Q : List Value → Shared → Prop} (F : Fr h₀ L s.heap m) (N : News h₀ L s.heap news) (hL : Lst G a ws) (hs : Sub G s.heap)
    (hz : ws.length ≤ sizeLine) (h : ∀ h', Fr h₀ L h' m → News h₀ L h' news → Q ws { s with heap := h' }) : StarOf (MO w) A E (.ref a) Q s := by
  obtain ⟨o, n, D, hc, hd⟩ := hL
  have D := hs _ _ D
  have hT' : s.TypeIs (.ref a) "list" := ⟨o, D, hc⟩
  have z : wpAny (MO w) A (collect (.ref a)) Q E s := by
    refine wpAny_collect_seq a (.inl rfl) D hc hd (fun h' hk => ?_) (by rw [List.size_toArray]; exact hz)
    rw [List.toList_toArray]
    exact h h' (Fr.keeps F hk) (News.grown N hk)
  unfold StarOf notIterableAtAll
  exact wpAny_bind (wpAny_specialOf hT' PySem.F.slot_list_iter.lookup (wpAny_pure ⟨rfl, z⟩))
set_option maxHeartbeats 8000000 in
theorem turnA {w : World} {g : Heap} {G : Gs} {a fa L D1 D2 x P Ru Sz : Addr} {vs : List Value} {sc : List Int} {cd : Value} {Q : Flow → Shared → Prop} {E : Value → Shared → Prop} {s : Shared} (B : Bse w g G a vs sc)
    {m : Str → Option Value} {o1 o2 o3 o4 o5 o6 o7 : Obj} {nw kp : List (Addr × Obj)} {k0 r : Nat} {t6 t7 tt : Tok} (F : Fr g L s.heap m) (N : News g L s.heap (cells7 L o1 o2 o3 o4 o5 o6 o7 ++ (nw ++ kp)))
    (d1 : o1.data = .cell (some (.ref D1))) (d2 : o2.data = .cell (some (.ref D2))) (d3 : o3.data = .cell (some (.ref x))) (d4 : o4.data = .cell (some (.ref Ru))) (d5 : o5.data = .cell (some (.ref Sz))) (d6 : o6.data = .cell (some (.int (k0 : Int) t6))) (d7 : o7.data = .cell (some (.int (r : Int) t7)))
    (hm1 : m (lS "pairs") = some (.ref P)) (hm2 : m (lS "text") = some (.str (txt (word (rsN sc) (r - 1) k0)) tt)) (hR : R11 D2 P Ru Sz sc (Gn G (cells7 L o1 o2 o3 o4 o5 o6 o7 ++ nw))) (hk0 : k0 < 8) (hr : r < 4)
    (next : ∀ h tk m' tt, Fr g L h m' → News g L h (cells7 L o1 o2 o3 o4 o5 o6 o7 ++ (nw ++ kp)) → m' (lS "pairs") = some (.ref P) → m' (lS "text") = some (.str (txt (word (rsN sc) r k0)) tt) → wpAny (MO w) (lawA w L fa cd) (execs ((innB w).drop 1) (lawE w L fa cd)) Q E { s with heap := h, toks := tk }) :
    wpAny (MO w) (lawA w L fa cd) (execs ((innB w).drop 0) (lawE w L fa cd)) Q E s := by
  have bd := B.ctx.bd (L := L) (env := lawE w L fa cd) rfl rfl
  obtain ⟨⟨X, ⟨p, loose, mean, mg, mb, T⟩, K⟩, hG, L0, hI, hlen⟩ := B
  refine execs_at (by unfold innB outB lawB keepB; rfl) ?_
  generalize hrest : (innB w).drop (0 + 1) = rest
  unfold lawA lawE lawS keepS
  simp only [cells7, List.cons_append, List.nil_append] at N hR
  refine wpAny_execs_cons ?_
  k_steps
  · rename (0 < _) => hr0
    refine ⟨?_⟩
    refine wpAny_execs_cons ?_
    k_steps
    have hle : Le (Gn G (cells7 L o1 o2 o3 o4 o5 o6 o7 ++ nw)) (Gn G (cells7 L o1 o2 o3 o4 o5 o6 o7 ++ (nw ++ kp))) := Gn.le fun p hp => (List.mem_append.mp hp).elim (List.mem_append_left _) fun hp => List.mem_append_right _ (List.mem_append_left kp hp)
    have hs := Gn.sub hG F N
    obtain ⟨vsp, hLp, hFp⟩ := hR.1.2.1
    have hfl := hFp.len
    have hpl : (thePairs (rsN sc)).length = 16 := by unfold thePairs; rw [List.length_append, pairs4_len]; rfl
    refine star_lst F N (hLp.mono hle) hs (by rw [sizeLine_eq]; omega) fun h1 F1 N1 => ?_
    clear F N
    k_steps
    refine ⟨?_⟩
    rw [List.append_nil]
    obtain ⟨r', rfl⟩ : ∃ r', r = r' + 1 := ⟨r - 1, by omega⟩
    rw [Nat.add_sub_cancel] at hm2 ⊢
    obtain ⟨hok, hrep⟩ := round_word (rsN_ok sc) (k := r') (by omega) hk0
    refine replace_c w _ _ _ _ hFp (by omega) hok ((bd.can F1 News.nil).less (by decide) (by decide)) fun t2 h2 tk2 hx2 => ?_
    rw [hrep]
    have F2 := Fr.keeps F1 hx2
    have N2 := News.grown N1 hx2
    clear F1 N1 hs hle hLp hok
    k_steps
    rename Fr _ _ _ _ => F3
    rename News _ _ _ _ => N3
    subst hrest
    exact next _ _ _ _ F3 N3 hm1 rfl
  · rename (¬ _) => hr0
    obtain rfl : r = 0 := by omega
    subst hrest
    exact next _ _ _ tt F N hm1 hm2
end

-- TurnB
section
set_option maxHeartbeats 8000000 in
theorem turnB {w : World} {g : Heap} {G : Gs} {a fa L D1 D2 x P Ru Sz : Addr} {vs : List Value} {sc : List Int} {cd : Value} {Q : Flow → Shared → Prop} {E : Value → Shared → Prop} {s : Shared} (B : Bse w g G a vs sc)
    {m : Str → Option Value} {o1 o2 o3 o4 o5 o6 o7 : Obj} {nw kp : List (Addr × Obj)} {k0 r : Nat} {t6 t7 tt : Tok} (F : Fr g L s.heap m) (N : News g L s.heap (cells7 L o1 o2 o3 o4 o5 o6 o7 ++ (nw ++ kp)))
    (d1 : o1.data = .cell (some (.ref D1))) (d2 : o2.data = .cell (some (.ref D2))) (d3 : o3.data = .cell (some (.ref x))) (d4 : o4.data = .cell (some (.ref Ru))) (d5 : o5.data = .cell (some (.ref Sz))) (d6 : o6.data = .cell (some (.int (k0 : Int) t6))) (d7 : o7.data = .cell (some (.int (r : Int) t7)))
    (hm1 : m (lS "pairs") = some (.ref P)) (hm2 : m (lS "text") = some (.str (txt (word (rsN sc) r k0)) tt)) (hR : R11 D2 P Ru Sz sc (Gn G (cells7 L o1 o2 o3 o4 o5 o6 o7 ++ nw))) (hk0 : k0 < 8) (hr : r < 4)
    (next : ∀ h tk m' D nw2, Fr g L h m' → News g L h (cells7 L o1 o2 o3 o4 o5 o6 o7 ++ nw2) → (∀ p ∈ cells7 L o1 o2 o3 o4 o5 o6 o7 ++ (nw ++ kp), p ∈ cells7 L o1 o2 o3 o4 o5 o6 o7 ++ nw2) → m' (lS "pairs") = some (.ref P) → m' (lS "text") = some (.str (txt (word (rsN sc) r k0)) tt) → m' (lS "due") = some (.ref D) →
      Rd (Gn G (cells7 L o1 o2 o3 o4 o5 o6 o7 ++ nw2)) (dataN (word (rsN sc) r k0)) (.ref D) → wpAny (MO w) (lawA w L fa cd) (execs ((innB w).drop 2) (lawE w L fa cd)) Q E { s with heap := h, toks := tk }) :
    wpAny (MO w) (lawA w L fa cd) (execs ((innB w).drop 1) (lawE w L fa cd)) Q E s := by
  have bd := B.ctx.bd (L := L) (env := lawE w L fa cd) rfl rfl
  obtain ⟨⟨X, ⟨p, loose, mean, mg, mb, T⟩, K⟩, hG, L0, hI, hlen⟩ := B
  refine execs_at (by unfold innB outB lawB keepB; rfl) ?_
  generalize hrest : (innB w).drop (1 + 1) = rest
  unfold lawA lawE lawS keepS
  simp only [cells7, List.cons_append, List.nil_append] at N hR
  refine wpAny_execs_cons ?_
  have hle : Le (Gn G (cells7 L o1 o2 o3 o4 o5 o6 o7 ++ nw)) (Gn G (cells7 L o1 o2 o3 o4 o5 o6 o7 ++ (nw ++ kp))) := Gn.le fun p hp => (List.mem_append.mp hp).elim (List.mem_append_left _) fun hp => List.mem_append_right _ (List.mem_append_left kp hp)
  have hs := Gn.sub hG F N
  have hRk := rsN_ok sc
  have hRu := Rd.mono hle _ _ hR.1.2.2
  have hSz := Rd.mono hle _ _ hR.2
  obtain ⟨Sz', vsz, e0, hLz, hPz⟩ := rd_lists hSz
  cases e0
  have hz : ∀ j, j < 4 → ((List.range 4).map (szs (rsN sc)))[j]? = some (szs (rsN sc) j) := fun j hj => by simp [hj]
  k_steps
  refine ⟨?_⟩
  refine item_rows hLz hPz hs (hz r hr) (by omega) fun sa svs hLs hIs => ?_
  k_steps
  refine ⟨?_⟩
  refine item_intsT hLs hIs hs (by rw [szs_len (rsN sc) hRk.len]; exact hk0) (by omega) fun t' => ?_
  rw [szs_eq hRk r k0 hk0]
  have hwl : (word (rsN sc) r k0).length ≤ 27 := by
    have h1 := word_len hRk r k0 hk0
    have : r = 0 ∨ r = 1 ∨ r = 2 ∨ r = 3 := by omega
    rcases this with rfl | rfl | rfl | rfl <;> (simp at h1; omega)
  clear hLs hIs hLz hPz hz
  k_steps
  rename IsRange _ _ _ _ _ _ _ _ => hrg
  rename Fr _ _ _ _ => F1
  rename News _ _ _ _ => N1
  have hs1 := Gn.sub hG F1 N1
  refine compF (δ := Nat) (ε := Nat) (ds := List.range (word (rsN sc) r k0).length) (pz := fun _ => true) (f := fun i => spotAt (rsN sc) r k0 ((i : Nat) : Int) 0) (Ro := fun _ v y => ∃ t, v = .int ((y : Nat) : Int) t) (itb_rng rfl hrg (by omega)) hG F1 N1 (cmp_rng hs1 (by omega) (fun _ _ _ _ _ h => h) rfl rfl ?_) (fun y e => Fin'.triv) ?_
  · rintro i t C h tk m' G' Q E hi hm hn hx hle hsub hQ
    have FX := Fr.keeps F1 hx
    have hc4 : Heap.IsCell h (L + 1 + 1 + 1 + 1) (some (.ref Ru)) := ⟨o4, hx _ _ (N1 (L + 1 + 1 + 1 + 1, o4) (by simp)).1, d4⟩
    have hc5 : Heap.IsCell h (L + 1 + 1 + 1 + 1 + 1) (some (.ref Sz)) := ⟨o5, hx _ _ (N1 (L + 1 + 1 + 1 + 1 + 1, o5) (by simp)).1, d5⟩
    have hc6 : Heap.IsCell h (L + 1 + 1 + 1 + 1 + 1 + 1) (some (.int (k0 : Int) t6)) := ⟨o6, hx _ _ (N1 (L + 1 + 1 + 1 + 1 + 1 + 1, o6) (by simp)).1, d6⟩
    have hc7 : Heap.IsCell h (L + 1 + 1 + 1 + 1 + 1 + 1 + 1) (some (.int (r : Int) t7)) := ⟨o7, hx _ _ (N1 (L + 1 + 1 + 1 + 1 + 1 + 1 + 1, o7) (by simp)).1, d7⟩
    k_steps
    refine ⟨?_⟩
    exact spot_c w Ru Sz (rsN sc) k0 r i _ _ _ G' ((bd.can FX News.nil).less (by decide) (by decide)) hsub (Rd.mono hle _ _ hRu) (Rd.mono hle _ _ hSz) hRk.len hRk.lt hRk.le hk0 hr fun t2 h2 tk2 hx2 => hQ _ _ _ hx2 ⟨_, rfl⟩
  intro D h2 tk2 ys nw2 F2 N2 hD2 hyl hL2 hP2
  rw [filter_tt, due_eq hRk hk0] at hP2
  subst hrest
  have N3 := News.pack [_, _, _, _, _, _, _] N2 (fun p hp => .tail _ (List.mem_append_right nw2 (List.mem_append_left (nw ++ kp) hp : p ∈ [_, _, _, _, _, _, _] ++ (nw ++ kp))))
  refine next _ _ _ D _ F2 N3 (fun p hp => List.mem_append_right _ (.tail _ (List.mem_append_right nw2 hp))) hm1 hm2 rfl (Rd.mono (Gn.le fun p hp => List.mem_append_right _ hp) _ _ ⟨D, ys, rfl, hL2, ?_⟩)
  exact RdL.of_paired (f := fun (i : Nat) => PyData.int (i : Int)) hP2
end

-- TurnC
section
set_option maxHeartbeats 8000000 in
theorem turnC {w : World} {g : Heap} {G : Gs} {a fa L D D2 P : Addr} {vs : List Value} {sc : List Int} {cd : Value} {Q : Flow → Shared → Prop} {E : Value → Shared → Prop} {s : Shared} (B : Bse w g G a vs sc)
    {m : Str → Option Value} {o1 o2 o3 o4 o5 o6 o7 : Obj} {nw : List (Addr × Obj)} {W : List Nat} {tt : Tok} (F : Fr g L s.heap m) (N : News g L s.heap (cells7 L o1 o2 o3 o4 o5 o6 o7 ++ nw))
    (d2 : o2.data = .cell (some (.ref D2))) (hm1 : m (lS "pairs") = some (.ref P)) (hm2 : m (lS "text") = some (.str (txt W) tt)) (hm3 : m (lS "due") = some (.ref D))
    (hN : Rd (Gn G (cells7 L o1 o2 o3 o4 o5 o6 o7 ++ nw)) namesD (.ref D2)) (hD : Rd (Gn G (cells7 L o1 o2 o3 o4 o5 o6 o7 ++ nw)) (dataN W) (.ref D)) (hW : ∀ j ∈ W, j < 8) (hWl : W.length ≤ 27)
    (next : ∀ h tk, Fr g L h m → News g L h (cells7 L o1 o2 o3 o4 o5 o6 o7 ++ nw) → Q .next { s with heap := h, toks := tk }) :
    wpAny (MO w) (lawA w L fa cd) (execs ((innB w).drop 2) (lawE w L fa cd)) Q E s := by
  obtain ⟨⟨X, ⟨p, loose, mean, mg, mb, T⟩, K⟩, hG, L0, hI, hlen⟩ := B
  refine execs_at (by unfold innB outB lawB keepB; rfl) ?_
  rw [show (innB w).drop (2 + 1) = [] from rfl]
  unfold lawA lawE lawS keepS
  simp only [cells7, List.cons_append, List.nil_append] at N hN hD
  refine wpAny_execs_cons ?_
  have hs := Gn.sub hG F N
  obtain ⟨aD, vD, e0, hLD, hID⟩ := rd_ints hD
  cases e0
  have hlD := hID.length
  rw [List.length_map] at hlD
  k_steps
  refine compV (δ := Nat) (ε := Str) (ds := W) (pz := fun _ => true) (f := nmS) (Ro := fun _ v y => ∃ t, v = .str y t) (itb_listN rfl hlD hLD hs (.inl ⟨_, _, rfl⟩)) hG F N
    (cmp_list (fun i v => i < 8 ∧ ∃ t, v = .int ((i : Nat) : Int) t) (fun i v hv => ?_) hs (by omega) (fun _ _ _ _ _ h => h) rfl rfl ?_ ?_) (fun y e => Fin'.triv) ?_
  · obtain ⟨k, t, h1, h2⟩ := ints_of hID hv
    exact ⟨k, h1, hW k (List.mem_of_getElem? h1), t, h2⟩
  · rintro d v C h tk m' Q E hd hm hn hx hQ
    exact wpAny_tests_nil (hQ _ _ Ext.rfl')
  · rintro i v C h tk m' G' Q E ⟨hi8, ti, rfl⟩ hp hm hn hx hle hsub hQ
    have hcx : Heap.IsCell h (L + 1 + 1) (some (.ref D2)) := ⟨o2, hx _ _ (N (L + 1 + 1, o2) (by simp)).1, d2⟩
    k_steps
    refine ⟨?_⟩
    exact names_item hN (hs.ext hx) rfl hi8 fun t => hQ _ _ _ Ext.rfl' ⟨_, rfl⟩
  intro D5 h5 tk5 ys5 nw5 F5 N5 hD5 hyl5 hL5 hP5
  rw [filter_tt] at hP5
  have N6 : News g L h5 (cells7 L o1 o2 o3 o4 o5 o6 o7 ++ nw) := fun p hp => N5 p (.tail _ (List.mem_append_right nw5 hp))
  have zD := (N5 (D5, LCg.lst ys5) (.head _)).1
  clear N5 N F hs hL5
  simp only [cells7, List.cons_append, List.nil_append] at N6
  k_steps
  refine ⟨?_⟩
  refine join_letters (l := W) ⟨LCg.lst ys5, zD, rfl, _, rfl⟩ hP5 (by omega) fun t6 k6 => ?_
  k_steps
  refine ⟨?_⟩
  refine ne_str ?_
  rw [bne_self_eq_false]
  k_steps
  rename Fr _ _ _ _ => F7
  rename News _ _ _ _ => N7
  exact next _ _ F7 N7
end

-- LoopI
section
theorem stCellK2 {M : Model} {A : Around} {env : Env} {E : Value → Shared → Prop} {Q : Unit → Shared → Prop} {s : Shared} {x : Str} {v : Value} {G : Gs} {g : Heap} {L c : Addr} {o : Obj} {m : Str → Option Value} {nw : List (Addr × Obj)}
    (F : Fr g L s.heap m) (N : News g L s.heap nw) (hm : (c, o) ∈ nw) (hd : ∃ v₀, o.data = .cell v₀)
    (hk : env.scope.kind = .function) (hl : env.kindOf x = some .cell) (hc : env.cells.lookup x = some c)
    (h : ∀ h' o', Fr g L h' m → (∀ b o, b ≠ c → s.heap.get? b = some o → h'.get? b = some o) → h'.get? c = some o' → o'.data = .cell (some v) →
      (∀ R : Gs → Prop, Fin' R → R (Gn G nw) → R (Gn G ((c, o') :: nw.filter fun p => decide (p.1 ≠ c)))) → Q () { s with heap := h' }) :
    wpAny M A (storeName env x v) Q E s := by
  obtain ⟨v₀, hd⟩ := hd
  have hmem := N _ hm
  refine wpAny_storeName_cell hk hl hc ⟨o, hmem.1, hd⟩ fun h' hv hs => ?_
  obtain ⟨o', ho', hd'⟩ := hv
  refine h h' o' ⟨F.ns.sameBut hs (Ne.symm hmem.2.1), fun b ob e => (hs.2 b (fun q => ?_)).trans (F.keep b ob e), F.above⟩ (fun b ob hb e => (hs.2 b hb).trans e) ho' hd' fun R f r => Fin'.cell (o' := o') f N hm hd r
  rw [q, hmem.2.2] at e; cases e
noncomputable def CellIn (G : Gs) (c : Addr) (v : Option Value) : Prop := ∃ o, G c o ∧ o.data = .cell v
noncomputable def InvI (L D1 D2 x P Ru Sz : Addr) (sc : List Int) (k0 : Nat) (j : Nat) (m : Str → Option Value) (G : Gs) : Prop :=
  m (lS "pairs") = some (.ref P) ∧ (∃ tt, m (lS "text") = some (.str (txt (word (rsN sc) (j - 1) k0)) tt)) ∧ R11 D2 P Ru Sz sc G ∧
  CellIn G (L + 1) (some (.ref D1)) ∧ CellIn G (L + 1 + 1) (some (.ref D2)) ∧ CellIn G (L + 1 + 1 + 1) (some (.ref x)) ∧ CellIn G (L + 1 + 1 + 1 + 1) (some (.ref Ru)) ∧ CellIn G (L + 1 + 1 + 1 + 1 + 1) (some (.ref Sz)) ∧
  (∃ t6, CellIn G (L + 1 + 1 + 1 + 1 + 1 + 1) (some (.int (k0 : Int) t6))) ∧ ∃ v, CellIn G (L + 1 + 1 + 1 + 1 + 1 + 1 + 1) v
theorem none_above {g h : Heap} {L c : Addr} {m : Str → Option Value} (F : Fr g L h m) (hc : @LE.le Nat _ L c) : g.get? c = none := by
  cases e : g.get? c with
  | none => rfl
  | some o => exact absurd (Nat.lt_of_lt_of_le (Heap.lt_size e) (Nat.le_trans F.above hc)) (Nat.lt_irrefl _)
theorem cell_new {G : Gs} {g h : Heap} {L c : Addr} {m : Str → Option Value} {nw : List (Addr × Obj)} {v : Option Value} (hG : Sub G g) (F : Fr g L h m) (hc : @LE.le Nat _ L c) (x : CellIn (Gn G nw) c v) : ∃ o, (c, o) ∈ nw ∧ o.data = .cell v :=
  let ⟨o, h1, h2⟩ := x; ⟨o, Gn.new hG h1 (none_above F hc), h2⟩
theorem cell_in {G : Gs} {c : Addr} {nw : List (Addr × Obj)} {v : Option Value} {o : Obj} (h : (c, o) ∈ nw) (hd : o.data = .cell v) : CellIn (Gn G nw) c v := ⟨o, ⟨.inr h, okc_cell hd⟩, hd⟩
theorem mem7 {L : Addr} {o1 o2 o3 o4 o5 o6 o7 : Obj} {nw : List (Addr × Obj)} {p : Addr × Obj} (h : p ∈ nw) : p ∈ cells7 L o1 o2 o3 o4 o5 o6 o7 ++ nw := List.mem_append_right _ h
set_option maxHeartbeats 8000000 in
theorem inner13 {w : World} {g : Heap} {G : Gs} {a fa L D1 D2 x P Ru Sz : Addr} {vs : List Value} {sc : List Int} {cd : Value} {Q : Flow → Shared → Prop} {E : Value → Shared → Prop} {s : Shared} (B : Bse w g G a vs sc)
    {m : Str → Option Value} {nw kp : List (Addr × Obj)} {k0 : Nat} (F : Fr g L s.heap m) (N : News g L s.heap nw) (K : News g L s.heap kp) (hkc : ∀ p ∈ kp, p.1 ≠ L + 1 + 1 + 1 + 1 + 1 + 1 + 1) (hk0 : k0 < 8) (h0 : InvI L D1 D2 x P Ru Sz sc k0 0 m (Gn G nw))
    (next : ∀ h tk m nw, InvI L D1 D2 x P Ru Sz sc k0 4 m (Gn G nw) → Fr g L h m → News g L h nw → News g L h kp → Q .next { s with heap := h, toks := tk }) :
    wpAny (MO w) (lawA w L fa cd) (execs ((outB w).drop 1) (lawE w L fa cd)) Q E s := by
  have BB := B
  obtain ⟨⟨X, ⟨p, loose, mean, mg, mb, T⟩, KK⟩, hG, L0, hI, hlen⟩ := B
  refine execs_at (by unfold outB lawB keepB; rfl) ?_
  rw [show (outB w).drop (1 + 1) = [] from rfl]
  unfold lawA lawE lawS keepS
  refine wpAny_execs_cons ?_
  have N0 := News.append N K
  clear N K
  k_steps
  refine ⟨?_⟩
  refine for_rule2 ?_
  k_steps
  rename IsRange _ _ _ _ _ _ _ _ => hrg
  rename Fr _ _ _ _ => F1
  rename News _ _ _ _ => N1
  have hz := N1
  have N2 : News g L _ nw := fun p hp => N1 p (List.mem_append_left _ hp)
  have K2 : News g L _ kp := fun p hp => N1 p (List.mem_append_right _ hp)
  clear hz
  refine for_ledK (G := fun _ _ => False) (G₀ := G) (n := 4) (InvI L D1 D2 x P Ru Sz sc k0) (itb_range rfl hrg (by decide) (by decide)) F1 N2 K2 (fun _ e => e) h0 ?_ ?_
  · rintro j v h tk m' nw' own hj ⟨hm1, ⟨tt, hm2⟩, hR, c1, c2, c3, c4, c5, ⟨t6, c6⟩, v7, c7⟩ F3 N3 K3 hkk hown ⟨t, rfl⟩
    replace F3 : Fr g L h m' := F3
    replace N3 : News g L h nw' := N3
    replace K3 : News g L h own := K3
    have hown7 : ∀ p ∈ own, p.1 ≠ L + 1 + 1 + 1 + 1 + 1 + 1 + 1 := by
      intro p hp
      rcases hown p hp with q | q | ⟨o, q⟩
      · exact hkc p q
      · intro e
        obtain ⟨t6', o7, hq7, _⟩ := h0.2.2.2.2.2.2.2.2.2
        have h7 := (N2 _ (Gn.new hG hq7 (none_above F1 (by repeat first | exact Nat.le_succ _ | refine Nat.le_succ_of_le ?_)))).1
        rw [e] at q
        rw [show Heap.get? _ (L + 1 + 1 + 1 + 1 + 1 + 1 + 1) = none from q] at h7; cases h7
      · exact q.elim
    obtain ⟨o1, e1, d1⟩ := cell_new hG F3 (by repeat first | exact Nat.le_succ _ | refine Nat.le_succ_of_le ?_) c1
    obtain ⟨o2, e2, d2⟩ := cell_new hG F3 (by repeat first | exact Nat.le_succ _ | refine Nat.le_succ_of_le ?_) c2
    obtain ⟨o3, e3, d3⟩ := cell_new hG F3 (by repeat first | exact Nat.le_succ _ | refine Nat.le_succ_of_le ?_) c3
    obtain ⟨o4, e4, d4⟩ := cell_new hG F3 (by repeat first | exact Nat.le_succ _ | refine Nat.le_succ_of_le ?_) c4
    obtain ⟨o5, e5, d5⟩ := cell_new hG F3 (by repeat first | exact Nat.le_succ _ | refine Nat.le_succ_of_le ?_) c5
    obtain ⟨o6, e6, d6⟩ := cell_new hG F3 (by repeat first | exact Nat.le_succ _ | refine Nat.le_succ_of_le ?_) c6
    obtain ⟨o7, e7, d7⟩ := cell_new hG F3 (by repeat first | exact Nat.le_succ _ | refine Nat.le_succ_of_le ?_) c7
    rw [show (0 : Int) + (j : Nat) * 1 = ((j : Nat) : Int) by omega]
    refine wpAny_assign_Name (stCellK2 (G := G) F3 N3 e7 ⟨_, d7⟩ rfl rfl rfl fun h' o7' F4 keep hc7 d7' tr => ?_)
    have N4 : News g L h' (cells7 L o1 o2 o3 o4 o5 o6 o7' ++ (nw'.filter (fun p => decide (p.1 ≠ L + 1 + 1 + 1 + 1 + 1 + 1 + 1)) ++ own)) := by
      intro p hp
      have hk : ∀ p ∈ nw', p.1 ≠ L + 1 + 1 + 1 + 1 + 1 + 1 + 1 → h'.get? p.1 = some p.2 ∧ p.1 ≠ L ∧ g.get? p.1 = none := fun p hp hne => ⟨keep _ _ hne (N3 p hp).1, (N3 p hp).2⟩
      rcases List.mem_append.mp hp with hp | hp
      · simp only [cells7, List.mem_cons, List.not_mem_nil, or_false] at hp
        rcases hp with rfl | rfl | rfl | rfl | rfl | rfl | rfl
        · exact ⟨hc7, (N3 _ e7).2⟩
        · exact hk _ e6 (Nat.ne_of_lt (by repeat first | exact Nat.lt_succ_self _ | refine Nat.lt_succ_of_lt ?_))
        · exact hk _ e5 (Nat.ne_of_lt (by repeat first | exact Nat.lt_succ_self _ | refine Nat.lt_succ_of_lt ?_))
        · exact hk _ e4 (Nat.ne_of_lt (by repeat first | exact Nat.lt_succ_self _ | refine Nat.lt_succ_of_lt ?_))
        · exact hk _ e3 (Nat.ne_of_lt (by repeat first | exact Nat.lt_succ_self _ | refine Nat.lt_succ_of_lt ?_))
        · exact hk _ e2 (Nat.ne_of_lt (by repeat first | exact Nat.lt_succ_self _ | refine Nat.lt_succ_of_lt ?_))
        · exact hk _ e1 (Nat.ne_of_lt (by repeat first | exact Nat.lt_succ_self _ | refine Nat.lt_succ_of_lt ?_))
      · rcases List.mem_append.mp hp with hp | hp
        · obtain ⟨h1, h2⟩ := List.mem_filter.mp hp
          exact hk p h1 (of_decide_eq_true h2)
        · exact ⟨keep _ _ (hown7 p hp) (K3 p hp).1, (K3 p hp).2⟩
    have hR1 : R11 D2 P Ru Sz sc (Gn G (cells7 L o1 o2 o3 o4 o5 o6 o7' ++ nw'.filter (fun p => decide (p.1 ≠ L + 1 + 1 + 1 + 1 + 1 + 1 + 1)))) := R11.fin.mono (Gn.le fun p hp => by
      rcases List.mem_cons.mp hp with rfl | hp
      · exact List.mem_append_left _ (.head _)
      · exact mem7 hp) (tr _ R11.fin hR)
    generalize nw'.filter (fun p => decide (p.1 ≠ L + 1 + 1 + 1 + 1 + 1 + 1 + 1)) = nwF at N4 hR1
    clear tr N3 K3 F3 c1 c2 c3 c4 c5 c6 c7 hR
    show wpAny (MO w) (lawA w L fa cd) (execs ((innB w).drop 0) (lawE w L fa cd)) _ _ _
    refine turnA BB F4 N4 d1 d2 d3 d4 d5 d6 d7' hm1 hm2 hR1 hk0 hj fun h2 tk2 m2 tt2 F5 N5 hp1 hp2 => ?_
    refine turnB BB F5 N5 d1 d2 d3 d4 d5 d6 d7' hp1 hp2 hR1 hk0 hj fun h3 tk3 m3 D nw3 F6 N6 hsub hq1 hq2 hq3 hD => ?_
    have hmm : ∀ p ∈ cells7 L o1 o2 o3 o4 o5 o6 o7' ++ nwF, p ∈ cells7 L o1 o2 o3 o4 o5 o6 o7' ++ nw3 := fun p hp => hsub p ((List.mem_append.mp hp).elim (List.mem_append_left _) fun hp => mem7 (List.mem_append_left own hp))
    have hwl := word_len (rsN_ok sc) j k0 hk0
    have hj3 : 3 ^ j ≤ 27 := by
      have : j = 0 ∨ j = 1 ∨ j = 2 ∨ j = 3 := by omega
      rcases this with rfl | rfl | rfl | rfl <;> decide
    refine turnC BB F6 N6 d2 hq1 hq2 hq3 (Rd.mono (Gn.le hmm) _ _ hR1.1.1) hD (word_lt (rsN_ok sc) j k0 hk0) (Nat.le_trans hwl hj3) fun h4 tk4 F7 N7 => ?_
    refine LedPost.nx F7 (fun p hp => N7 p (hmm p hp)) (fun p hp => (N7 p (hsub p (mem7 (List.mem_append_right nwF hp)))).1) ⟨hq1, ⟨_, hq2⟩, hR1, cell_in ?_ d1, cell_in ?_ d2, cell_in ?_ d3, cell_in ?_ d4, cell_in ?_ d5, ⟨_, cell_in ?_ d6⟩, _, cell_in ?_ d7'⟩
    all_goals exact List.mem_append_left _ (by simp only [cells7, List.mem_cons, true_or, or_true])
  · intro h tk m' nw' hI F3 N3 K3
    show wpAny _ _ (execs [] _) _ _ _
    exact wpAny_execs_nil (next _ _ _ _ hI F3 N3 K3)
end

-- LoopO
section
set_option maxHeartbeats 8000000 in
theorem turnT {w : World} {g : Heap} {G : Gs} {a fa L D2 P : Addr} {vs : List Value} {sc : List Int} {cd : Value} {Q : Flow → Shared → Prop} {E : Value → Shared → Prop} {s : Shared} (B : Bse w g G a vs sc)
    {m : Str → Option Value} {o1 o2 o3 o4 o5 o6 o7 : Obj} {nw : List (Addr × Obj)} {k0 : Nat} {t6 : Tok} (F : Fr g L s.heap m) (N : News g L s.heap (cells7 L o1 o2 o3 o4 o5 o6 o7 ++ nw))
    (d2 : o2.data = .cell (some (.ref D2))) (d6 : o6.data = .cell (some (.int (k0 : Int) t6))) (hm1 : m (lS "pairs") = some (.ref P)) (hN : Rd (Gn G (cells7 L o1 o2 o3 o4 o5 o6 o7 ++ nw)) namesD (.ref D2)) (hk0 : k0 < 8)
    (next : ∀ h tk m' tt, Fr g L h m' → News g L h (cells7 L o1 o2 o3 o4 o5 o6 o7 ++ nw) → m' (lS "pairs") = some (.ref P) → m' (lS "text") = some (.str (nmS k0) tt) → wpAny (MO w) (lawA w L fa cd) (execs ((outB w).drop 1) (lawE w L fa cd)) Q E { s with heap := h, toks := tk }) :
    wpAny (MO w) (lawA w L fa cd) (execs ((outB w).drop 0) (lawE w L fa cd)) Q E s := by
  obtain ⟨⟨X, ⟨p, loose, mean, mg, mb, T⟩, K⟩, hG, L0, hI, hlen⟩ := B
  refine execs_at (by unfold outB lawB keepB; rfl) ?_
  generalize hrest : (outB w).drop (0 + 1) = rest
  unfold lawA lawE lawS keepS
  simp only [cells7, List.cons_append, List.nil_append] at N hN
  refine wpAny_execs_cons ?_
  have hs := Gn.sub hG F N
  k_steps
  refine ⟨?_⟩
  refine names_item hN hs rfl hk0 fun t => ?_
  clear hs hN
  k_steps
  rename Fr _ _ _ _ => F1
  rename News _ _ _ _ => N1
  subst hrest
  exact next _ _ _ t F1 N1 hm1 rfl
noncomputable def InvO (L D1 D2 x P Ru Sz : Addr) (sc : List Int) (_ : Nat) (m : Str → Option Value) (G : Gs) : Prop :=
  m (lS "pairs") = some (.ref P) ∧ R11 D2 P Ru Sz sc G ∧
  CellIn G (L + 1) (some (.ref D1)) ∧ CellIn G (L + 1 + 1) (some (.ref D2)) ∧ CellIn G (L + 1 + 1 + 1) (some (.ref x)) ∧ CellIn G (L + 1 + 1 + 1 + 1) (some (.ref Ru)) ∧ CellIn G (L + 1 + 1 + 1 + 1 + 1) (some (.ref Sz)) ∧
  (∃ v, CellIn G (L + 1 + 1 + 1 + 1 + 1 + 1) v) ∧ ∃ v, CellIn G (L + 1 + 1 + 1 + 1 + 1 + 1 + 1) v
set_option maxHeartbeats 8000000 in
theorem law13 {w : World} {g : Heap} {G : Gs} {a fa L D1 D2 x P Ru Sz : Addr} {vs : List Value} {sc : List Int} {cd : Value} {Q : Flow → Shared → Prop} {E : Value → Shared → Prop} {s : Shared} (B : Bse w g G a vs sc)
    (S : St g L G (some (.ref D1)) (some (.ref D2)) (some (.ref x)) (some (.ref Ru)) (some (.ref Sz)) none none (M12 P sc) (R11 D2 P Ru Sz sc) s.heap)
    (next : ∀ h tk m, Fr g L h m → wpAny (MO w) (lawA w L fa cd) (execs ((lawB w).drop 14) (lawE w L fa cd)) Q E { s with heap := h, toks := tk }) :
    wpAny (MO w) (lawA w L fa cd) (execs ((lawB w).drop 13) (lawE w L fa cd)) Q E s := by
  have BB := B
  obtain ⟨⟨X, ⟨p, loose, mean, mg, mb, T⟩, K⟩, hG, L0, hI, hlen⟩ := B
  obtain ⟨m, o1, o2, o3, o4, o5, o6, o7, nw, F, N, d1, d2, d3, d4, d5, d6, d7, ⟨hm1, tf, hm2⟩, hR⟩ := S
  refine execs_at (by unfold lawB keepB; rfl) ?_
  generalize hrest : (lawB w).drop (13 + 1) = rest
  unfold lawA lawE lawS keepS
  simp only [cells7, List.cons_append, List.nil_append] at N hR
  refine wpAny_execs_cons ?_
  k_steps
  refine ⟨?_⟩
  refine for_rule2 ?_
  k_steps
  rename Fr _ _ _ _ => F1
  rename News _ _ _ _ => N1
  rename_i TT h1 l1
  have zT := N1 _ (.head _)
  have hx6 : Builtin.bitXor (firN sc : Int) 6 = ((firN sc ^^^ 6 : Nat) : Int) := xor6 _ (firN_lt sc)
  have hit : ∀ (i : Nat) (v : Value), [Value.int (firN sc : Int) tf, Value.int (Builtin.bitXor (firN sc : Int) 6) (s.toks + 1)][i]? = some v → ∃ k0 t, k0 < 8 ∧ v = .int ((k0 : Nat) : Int) t := by
    intro i v hv
    rcases i with _ | _ | i
    · cases hv; exact ⟨_, _, firN_lt sc, rfl⟩
    · cases hv; exact ⟨_, _, xor6_lt8 _ (firN_lt sc), by rw [hx6]⟩
    · cases hv
  refine for_led (G := fun b o => b = TT ∧ o = { cls := .type "tuple", data := .seq #[.int (firN sc : Int) tf, .int (Builtin.bitXor (firN sc : Int) 6) (s.toks + 1)] }) (G₀ := G) (InvO L D1 D2 x P Ru Sz sc) F1 (fun p hp => N1 p (.tail _ hp)) (fun o e => zT.2.1 e.1.symm) (itb_tuple (vs := [.int (firN sc : Int) tf, .int (Builtin.bitXor (firN sc : Int) 6) (s.toks + 1)]) rfl ⟨_, _, ⟨rfl, rfl⟩, rfl, rfl⟩ (fun b o e => by rw [e.1, e.2]; exact zT.1)) ?_ ?_ ?_
  · exact ⟨hm1, hR, cell_in (by simp) d1, cell_in (by simp) d2, cell_in (by simp) d3, cell_in (by simp) d4, cell_in (by simp) d5, ⟨_, cell_in (by simp) d6⟩, _, cell_in (by simp) d7⟩
  · rintro i v h tk m' nw' own hi ⟨hm1, hR, c1, c2, c3, c4, c5, ⟨v6, c6⟩, v7, c7⟩ F3 N3 hown hv
    replace F3 : Fr g L h m' := F3
    replace N3 : News g L h (nw' ++ own) := N3
    obtain ⟨k0, t, hk0, rfl⟩ := hit i v hv
    have hownc : ∀ c o, (c, o) ∈ cells7 L o1 o2 o3 o4 o5 o6 o7 → c ≠ TT → ∀ p ∈ own, p.1 ≠ c := by
      intro c o hc hne p hp e
      rcases hown p hp with q | ⟨o', q⟩
      · have h2 := (N1 (c, o) (.tail _ (List.mem_append_left nw hc))).1
        rw [e] at q
        rw [show Heap.get? _ c = none from q] at h2; cases h2
      · exact hne (e ▸ q.1)
    have hown6 : ∀ p ∈ own, p.1 ≠ L + 1 + 1 + 1 + 1 + 1 + 1 := hownc _ o6 (by simp) (Nat.ne_of_lt l1.2.1)
    have hown7 : ∀ p ∈ own, p.1 ≠ L + 1 + 1 + 1 + 1 + 1 + 1 + 1 := hownc _ o7 (by simp) (Nat.ne_of_lt l1.1)
    obtain ⟨q1, e1, d1⟩ := cell_new hG F3 (by repeat first | exact Nat.le_succ _ | refine Nat.le_succ_of_le ?_) c1
    obtain ⟨q2, e2, d2⟩ := cell_new hG F3 (by repeat first | exact Nat.le_succ _ | refine Nat.le_succ_of_le ?_) c2
    obtain ⟨q3, e3, d3⟩ := cell_new hG F3 (by repeat first | exact Nat.le_succ _ | refine Nat.le_succ_of_le ?_) c3
    obtain ⟨q4, e4, d4⟩ := cell_new hG F3 (by repeat first | exact Nat.le_succ _ | refine Nat.le_succ_of_le ?_) c4
    obtain ⟨q5, e5, d5⟩ := cell_new hG F3 (by repeat first | exact Nat.le_succ _ | refine Nat.le_succ_of_le ?_) c5
    obtain ⟨q6, e6, d6⟩ := cell_new hG F3 (by repeat first | exact Nat.le_succ _ | refine Nat.le_succ_of_le ?_) c6
    obtain ⟨q7, e7, d7⟩ := cell_new hG F3 (by repeat first | exact Nat.le_succ _ | refine Nat.le_succ_of_le ?_) c7
    have N3n : News g L h nw' := fun p hp => N3 p (List.mem_append_left _ hp)
    have K3 : News g L h own := fun p hp => N3 p (List.mem_append_right _ hp)
    refine wpAny_assign_Name (stCellK2 (G := G) F3 N3n e6 ⟨_, d6⟩ rfl rfl rfl fun h' o6' F4 keep hc6 d6' tr => ?_)
    have N4 : News g L h' (cells7 L q1 q2 q3 q4 q5 o6' q7 ++ (nw'.filter (fun p => decide (p.1 ≠ L + 1 + 1 + 1 + 1 + 1 + 1)) ++ own)) := by
      intro p hp
      have hk : ∀ p ∈ nw', p.1 ≠ L + 1 + 1 + 1 + 1 + 1 + 1 → h'.get? p.1 = some p.2 ∧ p.1 ≠ L ∧ g.get? p.1 = none := fun p hp hne => ⟨keep _ _ hne (N3n p hp).1, (N3n p hp).2⟩
      rcases List.mem_append.mp hp with hp | hp
      · simp only [cells7, List.mem_cons, List.not_mem_nil, or_false] at hp
        rcases hp with rfl | rfl | rfl | rfl | rfl | rfl | rfl
        · exact hk _ e7 (Nat.ne_of_gt (by repeat first | exact Nat.lt_succ_self _ | refine Nat.lt_succ_of_lt ?_))
        · exact ⟨hc6, (N3n _ e6).2⟩
        · exact hk _ e5 (Nat.ne_of_lt (by repeat first | exact Nat.lt_succ_self _ | refine Nat.lt_succ_of_lt ?_))
        · exact hk _ e4 (Nat.ne_of_lt (by repeat first | exact Nat.lt_succ_self _ | refine Nat.lt_succ_of_lt ?_))
        · exact hk _ e3 (Nat.ne_of_lt (by repeat first | exact Nat.lt_succ_self _ | refine Nat.lt_succ_of_lt ?_))
        · exact hk _ e2 (Nat.ne_of_lt (by repeat first | exact Nat.lt_succ_self _ | refine Nat.lt_succ_of_lt ?_))
        · exact hk _ e1 (Nat.ne_of_lt (by repeat first | exact Nat.lt_succ_self _ | refine Nat.lt_succ_of_lt ?_))
      · rcases List.mem_append.mp hp with hp | hp
        · obtain ⟨h1, h2⟩ := List.mem_filter.mp hp
          exact hk p h1 (of_decide_eq_true h2)
        · exact ⟨keep _ _ (hown6 p hp) (K3 p hp).1, (K3 p hp).2⟩
    have hR1 : R11 D2 P Ru Sz sc (Gn G (cells7 L q1 q2 q3 q4 q5 o6' q7 ++ nw'.filter (fun p => decide (p.1 ≠ L + 1 + 1 + 1 + 1 + 1 + 1)))) := R11.fin.mono (Gn.le fun p hp => by
      rcases List.mem_cons.mp hp with rfl | hp
      · exact List.mem_append_left _ (.tail _ (.head _))
      · exact mem7 hp) (tr _ R11.fin hR)
    generalize nw'.filter (fun p => decide (p.1 ≠ L + 1 + 1 + 1 + 1 + 1 + 1)) = nwF at N4 hR1
    clear tr N3 N3n K3 F3 c1 c2 c3 c4 c5 c6 c7 hR
    have hmF : ∀ p ∈ cells7 L q1 q2 q3 q4 q5 o6' q7 ++ nwF, p ∈ cells7 L q1 q2 q3 q4 q5 o6' q7 ++ (nwF ++ own) := fun p hp => (List.mem_append.mp hp).elim (List.mem_append_left _) fun hp => mem7 (List.mem_append_left own hp)
    show wpAny (MO w) (lawA w L fa cd) (execs ((outB w).drop 0) (lawE w L fa cd)) _ _ _
    refine turnT BB F4 N4 d2 d6' hm1 (Rd.mono (Gn.le hmF) _ _ hR1.1.1) hk0 fun h2 tk2 m2 tt2 F5 N5 hp1 hp2 => ?_
    refine inner13 BB F5 (fun p hp => N5 p (hmF p hp)) (fun p hp => N5 p (mem7 (List.mem_append_right nwF hp))) hown7 hk0 ⟨hp1, ⟨_, hp2⟩, hR1, cell_in ?_ d1, cell_in ?_ d2, cell_in ?_ d3, cell_in ?_ d4, cell_in ?_ d5, ⟨_, cell_in ?_ d6'⟩, _, cell_in ?_ d7⟩ ?_
    iterate 7 exact List.mem_append_left _ (by simp only [cells7, List.mem_cons, true_or, or_true])
    intro h3 tk3 m3 nw3 ⟨i1, _, i3, i4, i5, i6, i7, i8, ⟨_, i9⟩, i10⟩ F6 N6 K6
    exact LedPost.nx F6 N6 (fun p hp => (K6 p hp).1) ⟨i1, i3, i4, i5, i6, i7, i8, ⟨_, i9⟩, i10⟩
  · intro h tk m' nw' hI F3 N3
    subst hrest
    exact next _ _ _ F3
end

-- LawT
section
set_option maxHeartbeats 8000000 in
theorem law14 {w : World} {g : Heap} {G : Gs} {a fa L : Addr} {vs : List Value} {sc : List Int} {cd : Value} {Q : Flow → Shared → Prop} {E : Value → Shared → Prop} {s : Shared} (_ : Bse w g G a vs sc)
    {m : Str → Option Value} (F : Fr g L s.heap m) (hQ : ∀ h tk m, Fr g L h m → Q (.ret (.bool true)) { s with heap := h, toks := tk }) :
    wpAny (MO w) (lawA w L fa cd) (execs ((lawB w).drop 14) (lawE w L fa cd)) Q E s := by
  refine execs_at (by unfold lawB keepB; rfl) ?_
  rw [show (lawB w).drop (14 + 1) = [] from rfl]
  unfold lawA lawE lawS keepS
  refine wpAny_execs_cons ?_
  k_steps
  exact hQ _ _ _ F
theorem lawT {w : World} {g : Heap} {G : Gs} {a fa L D1 D2 C1 : Addr} {vs : List Value} {sc : List Int} {mk : Nat → Int} {cd : Value} {Q : Flow → Shared → Prop} {E : Value → Shared → Prop} {s : Shared} (B : Bse w g G a vs sc)
    (S : St g L G (some (.ref D1)) (some (.ref D2)) none none none none none (M3 a C1) (R3 C1 D1 D2 sc mk) s.heap) (hQ : ∀ h tk m, Fr g L h m → Q (.ret (.bool true)) { s with heap := h, toks := tk }) :
    wpAny (MO w) (lawA w L fa cd) (execs ((lawB w).drop 3) (lawE w L fa cd)) Q E s :=
  law3 B S fun _ _ S => law4 B S fun _ _ _ S => law5 B S fun _ _ _ _ S => law6 B S fun _ _ _ S => law7 B S fun _ _ _ S => law8 B S fun _ _ S => law9 B S fun _ _ _ S => law10 B S fun _ _ _ S => law11 B S fun _ _ _ S => law12 B S fun _ _ S => law13 B S fun _ _ _ F => law14 B F fun _ _ _ F => hQ _ _ _ F
end

end

end

end Mine
end

-- Fin
section
theorem Mine.zoff21 : True := by w_top off; trivial
open PySem PySem.W PyProof.Rows PySem.Calls PySem.Spec
set_option maxRecDepth 100000
namespace Mine
local macro_rules | `(tactic| k_qdec) => `(tactic| decide +kernel)
local macro_rules | `(tactic| walk_at "execs cons") => `(tactic| (refine Stop.out ?_))
set_option maxHeartbeats 8000000 in
theorem lawX : PySem.Challenge.rw_pk0113_01.Holds := by
  refine hd ?_
  k_go0
  all_goals try k_fold
  rename Frag.In _ _ => KX
  rename Top _ _ _ _ _ _ => T
  rename Below _ _ _ _ => K0
  rename Fr _ _ _ _ => F
  rename News _ _ _ _ => N
  rename IntsAre _ _ => hI
  rename (¬ ((63 : Nat) : Int) < _) => hlen
  rename Heap.IsList _ _ _ => hLs
  rename World => w
  rename Shared => s₁
  have B : Bse w s₁.heap (fun b o => s₁.heap.get? b = some o) _ _ _ := ⟨⟨KX, ⟨_, _, _, _, _, T⟩, K0⟩, fun b o e => e, (let ⟨o, h1, h2, n, h3⟩ := hLs; ⟨o, n, h1, h2, h3⟩), hI, by omega⟩
  have get : ∀ {o : Obj} {v : Option Value}, o.data = .cell v → v = none → o.data = .cell none := fun h e => e ▸ h
  rename (_ = Data.cell _) => r1
  have g1 := And.intro trivial (get r1 rfl)
  clear r1
  rename (_ = Data.cell _) => r2
  have g2 := And.intro trivial (get r2 rfl)
  clear r2
  rename (_ = Data.cell _) => r3
  have g3 := And.intro trivial (get r3 rfl)
  clear r3
  rename (_ = Data.cell _) => r4
  have g4 := And.intro trivial (get r4 rfl)
  clear r4
  rename (_ = Data.cell _) => r5
  have g5 := And.intro trivial (get r5 rfl)
  clear r5
  rename (_ = Data.cell _) => r6
  have g6 := And.intro trivial (get r6 rfl)
  clear r6
  rename (_ = Data.cell _) => r7
  have g7 := And.intro trivial (get r7 rfl)
  clear r7
  refine law0 B ⟨_, _, _, _, _, _, _, _, [], F, N, g1.2, g2.2, g3.2, g4.2, g5.2, g6.2, g7.2, rfl, trivial⟩ fun D1 _ _ S1 => law1 B S1 fun C1 mk _ _ S2 => law2 B S2 fun D2 _ _ S3 => lawT B S3 fun _ _ _ FF => ?_
  clear B F N g1 g2 g3 g4 g5 g6 g7
  show GoodW _ _ _ _ _ _ _
  show GoodW _ _ _ _ _ (.ok (.ret (.bool true))) _
  refine goodW_bool FF (by assumption) (raisesW_false ?_) ?_
  · wrow_none_raised
  · wrow_post
end Mine
end

section
open PySem PySem.W
theorem PySem.Challenge.cw_pk0113_01_holds : PySem.Challenge.rw_pk0113_01.Holds :=
  Mine.lawX
end
