import PyProof.Rows.All
import Wide.All
import OpenK.AllK
import Wide.FinOn
import PySem.Challenge.RW_bq5016_01
open PySem PySem.W PySem.Spec PySem.Calls PyProof.Rows PyProof.V
set_option maxRecDepth 100000
set_option maxHeartbeats 4000000
set_option Elab.async false
namespace Mine
set_option maxRecDepth 100000 in
set_option maxHeartbeats 8000000 in
open_top hd for PySem.Challenge.rw_bq5016_01
section
/-- one entry of a ledger set apart from the others -/
inductive Pick (d : Addr) (o : Obj) : List (Addr × Obj) → List (Addr × Obj) → Prop
  | head {r : List (Addr × Obj)} : (∀ p ∈ r, p.1 ≠ d) → Pick d o ((d, o) :: r) r
  | tail {p : Addr × Obj} {r r' : List (Addr × Obj)} : p.1 ≠ d → Pick d o r r' → Pick d o (p :: r) (p :: r')
theorem Pick.spec {d : Addr} {o : Obj} {l r : List (Addr × Obj)} (h : Pick d o l r) : (∀ p ∈ (d, o) :: r, p ∈ l) ∧ ∀ p ∈ r, p.1 ≠ d := by
  induction h with
  | head h => exact ⟨fun p hp => hp, h⟩
  | tail hne _ ih =>
    refine ⟨fun p hp => ?_, fun p hp => ?_⟩
    · rcases List.mem_cons.mp hp with rfl | hp
      · exact .tail _ (ih.1 _ (.head _))
      · rcases List.mem_cons.mp hp with rfl | hp
        · exact .head _
        · exact .tail _ (ih.1 _ (.tail _ hp))
    · rcases List.mem_cons.mp hp with rfl | hp
      · exact hne
      · exact ih.2 _ hp
theorem news_sub {h₀ h : Heap} {L : Addr} {l l' : List (Addr × Obj)} (N : News h₀ L h l) (hs : ∀ p ∈ l', p ∈ l) : News h₀ L h l' := fun p hp => N p (hs p hp)

theorem deeper_frames {A : Around} {e : Env} {l : List Env} (h : A.frames = some l) : (A.deeper e).frames = some (e :: l) := by
  show A.frames.map (e :: ·) = _
  rw [h]; rfl

/-- what every walk has around it -/
structure Cx (w : World) (A : Around) (h₀ : Heap) (L scr : Addr) (n : Nat) : Prop where
  below : ∃ A₀ base env outer, Below A₀ base outer h₀ ∧ A.frames = some (env :: outer) ∧ env.frame = some L ∧ env.scope.kind = .function
  X : (hd.heap_39 w.params).In h₀
  top : ∃ pp lo mg mb, TopRead pp lo mg mb h₀
  hh : A.handled = none
  scr : ∃ vs ns, h₀.IsList scr vs.toArray ∧ IntsAre vs ns ∧ ns.length ≤ 63
  dep : A.depth + n ≤ 900
  uni : A.units + 10 * n ≤ 9000

theorem Cx.less {w : World} {A : Around} {h₀ : Heap} {L scr : Addr} {n k : Nat} (C : Cx w A h₀ L scr n) (h : k ≤ n) : Cx w A h₀ L scr k :=
  { C with dep := by have := C.dep; omega, uni := by have := C.uni; omega }
theorem Cx.onto {w : World} {A A' : Around} {h₀ : Heap} {L scr : Addr} {n : Nat} (C : Cx w A h₀ L scr (n + 1)) (h1 : A'.frames = A.frames) (h2 : A'.handled = A.handled) (h3 : A'.depth ≤ A.depth + 1) (h4 : A'.units ≤ A.units + 10) : Cx w A' h₀ L scr n :=
  { below := by rw [h1]; exact C.below, X := C.X, top := C.top, hh := h2.trans C.hh, scr := C.scr, dep := by have := C.dep; omega, uni := by have := C.uni; omega }
theorem Cx.room {w : World} {A : Around} {h₀ : Heap} {L scr : Addr} {n : Nat} (C : Cx w A h₀ L scr n) : A.units + 100 < cLine := by
  have := C.uni
  have := cLine_is
  omega

section
variable {w : World} {A : Around} {s : Shared} {h₀ : Heap} {L scr : Addr} {m : Str → Option Value} {news : List (Addr × Obj)} {n : Nat}

theorem enterC {R : Result → Shared → Prop} {name qual : Str} {params : Arguments} {body : List Stmt} {scope : Scope} {dV kV doc pm cdv ct oc : Value} {an od : Option Addr} {osl : Array (Option Value)} {f : Addr} {args : Args} (binds : List (Str × Value))
    (C : Cx w A h₀ L scr (n + 1)) (F : Fr h₀ L s.heap m) (N : News h₀ L s.heap news)
    (ho : (hd.heap_39 w.params).lookup f = some ⟨oc, od, .func (fnOf name qual params body scope dV kV doc pm an cdv ct), osl⟩) (hcd : codeIn (hd.heap_39 w.params) cdv qual = true)
    (hbind : BindsTo s (fnOf name qual params body scope dV kV doc pm an cdv ct) args binds) (hloc : ∀ y ∈ binds, scope.names.lookup y.1 = some .local)
    (hco : scope.isCoroutine = false) (hgen : scope.isGenerator = false) (hk : scope.kind = .function)
    (hcell : ∀ x ∈ scope.names, x.2 ≠ .cell)
    (h : ∀ g L' h₁ pp lo mg mb, Fr g L' h₁ (fun y => binds.reverse.lookup y) → News g L' h₁ news → (hd.heap_39 w.params).In g → TopRead pp lo mg mb g → Cx w (A.deeper (envOf qual scope L' f cdv)) g L' scr n → (∀ q ∈ news, q.1 < L') → h₀.StaysIn g →
      wpAny (model PySem.Challenge.rw_bq5016_01.row.prog w) (A.deeper (envOf qual scope L' f cdv)) (execs body (envOf qual scope L' f cdv))
        (fun fl s' => LeaveK h₀ L m g R (match fl with | .ret v => v | _ => .none) s')
        (fun e s' => wpAny (model PySem.Challenge.rw_bq5016_01.row.prog w) (A.deeper (envOf qual scope L' f cdv)) (leaving (envOf qual scope L' f cdv) e) (fun _ s'' => R (.error e) s'') (fun e' s'' => R (.error e') s'') s')
        { s with heap := h₁, toks := s.toks + binds.length }) : codeAny (model PySem.Challenge.rw_bq5016_01.row.prog w) A (.call (.ref f) args) R s := by
  obtain ⟨A₀, base, env, outer, B, hA, hf, hke⟩ := C.below
  obtain ⟨pp, lo, mg, mb, T⟩ := C.top
  obtain ⟨vs, ns, hS, hI, hlen⟩ := C.scr
  have hdp := C.dep
  refine callX_plain (cl := []) B F N T.nolimit hA hf hke ((C.X.keeps F.keep) _ _ ho) rfl (codeRec_of (C.X.keeps F.keep) hcd) (by have : recursionLimit = 1000 := rfl; omega) hbind hloc ?_ hcell hco hgen hk
  intro g L' h₁ FG F' N' B' st lt
  exact h g L' h₁ pp lo mg mb F' N' (C.X.keeps st) (T.keeps st)
    { below := ⟨_, _, _, _, B', deeper_frames hA, rfl, hk⟩, X := C.X.keeps st, top := ⟨_, _, _, _, T.keeps st⟩, hh := C.hh, scr := ⟨vs, ns, stays_list st hS, hI, hlen⟩, dep := by rw [depth_deeper]; omega, uni := by have := C.uni; rw [units_deeper]; omega } lt st
end
theorem ite_both {c : Prop} [Decidable c] {a b : Prop} (h1 : c → a) (h2 : ¬ c → b) : if c then a else b := by
  by_cases h : c
  · rw [if_pos h]; exact h1 h
  · rw [if_neg h]; exact h2 h
/-- the context at a goal, with less room -/
theorem cx_at {w : World} {A : Around} {h₀ : Heap} {L scr : Addr} {n k : Nat} (C : Cx w A h₀ L scr n) (h : k ≤ n) : Cx w A h₀ L scr k := C.less h
theorem sub_nil {α : Type} {l : List α} : ∀ p ∈ ([] : List α), p ∈ l := fun _ h => nomatch h
theorem sub_cons {α : Type} {a : α} {r l : List α} (h : a ∈ l) (h' : ∀ p ∈ r, p ∈ l) : ∀ p ∈ a :: r, p ∈ l := fun p hp => (List.mem_cons.mp hp).elim (fun e => e ▸ h) (h' p)
theorem sub_app {α : Type} {r r' l : List α} (h : ∀ p ∈ r, p ∈ l) (h' : ∀ p ∈ r', p ∈ l) : ∀ p ∈ r ++ r', p ∈ l := fun p hp => (List.mem_append.mp hp).elim (h p) (h' p)
theorem sub_tail {α : Type} {a : α} {r l : List α} (h : ∀ p ∈ r, p ∈ l) : ∀ p ∈ r, p ∈ a :: l := fun p hp => .tail _ (h p hp)
theorem sub_inl {α : Type} {r l l' : List α} (h : ∀ p ∈ r, p ∈ l) : ∀ p ∈ r, p ∈ l ++ l' := fun p hp => List.mem_append_left _ (h p hp)
theorem sub_inr {α : Type} {r l l' : List α} (h : ∀ p ∈ r, p ∈ l') : ∀ p ∈ r, p ∈ l ++ l' := fun p hp => List.mem_append_right _ (h p hp)
theorem va_hit {k : Str} {v : Value} {r : List (Str × Value)} : valueAt ((k, v) :: r) k = some v := by simp [valueAt]
theorem va_miss {k k' : Str} {v : Value} {r : List (Str × Value)} (h : k' ≠ k) : valueAt ((k', v) :: r) k = valueAt r k := by simp [valueAt, h]
theorem va_nil {k : Str} : valueAt ([] : List (Str × Value)) k = none := rfl
theorem news_rot4 {h₀ h : Heap} {L : Addr} {x1 x2 x3 x4 y : Addr × Obj} {r : List (Addr × Obj)} (N : News h₀ L h (x1 :: x2 :: x3 :: x4 :: y :: r)) : News h₀ L h (y :: ([x1, x2, x3, x4] ++ r)) :=
  news_sub N fun p hp => by simp only [List.mem_cons, List.mem_append, List.not_mem_nil, or_false] at hp ⊢; grind
theorem with_map {h₀ h : Heap} {L : Addr} {m : Str → Option Value} {P : Prop} (F : Fr h₀ L h m) (k : ∀ m0, m0 = m → Fr h₀ L h m0 → P) : P := k m rfl F
theorem map_x {m m₀ : Str → Option Value} {x : Str} {vx : Value} (hz : ∀ z, z ≠ x → m z = m₀ z) : (fun z => if z = x then some vx else m z) = fun z => if z = x then some vx else m₀ z := by
  funext z
  by_cases h1 : z = x
  · simp [h1]
  · simp only [if_neg h1]; exact hz z h1
theorem map_x_end {m m₀ : Str → Option Value} {x : Str} (hz : ∀ z, z ≠ x → m z = m₀ z) : m = fun z => if z = x then m z else m₀ z := by
  funext z
  by_cases h1 : z = x
  · simp [h1]
  · simp only [if_neg h1]; exact hz z h1
theorem allLt_ne {d : Addr} {l : List (Addr × Obj)} (h : AllLt d l) : ∀ p ∈ l, p.1 ≠ d := fun p hp => Nat.ne_of_lt (ktn_ltOf h p hp)
abbrev PR : Program := PySem.Challenge.rw_bq5016_01.row.prog

/-- the end of a turn -/
def TurnEnd (h₀ : Heap) (L : Addr) (I : Addr) (oI : Obj) (J : (Str → Option Value) → List (Addr × Obj) → Array GenState → Prop) (s₂ s₃ : Shared) : Prop :=
  ∃ h₃ tk₃ g₃ m₃ nw₃, s₃ = { s₂ with heap := h₃, toks := tk₃, gens := g₃ } ∧ Fr h₀ L h₃ m₃ ∧ News h₀ L h₃ ((I, oI) :: nw₃) ∧ (∀ p ∈ nw₃, p.1 ≠ I) ∧ J m₃ nw₃ g₃
def TurnPost (h₀ : Heap) (L : Addr) (I : Addr) (oI : Obj) (J : (Str → Option Value) → List (Addr × Obj) → Array GenState → Prop) (s₂ : Shared) (Q : Flow → Shared → Prop) (f : Flow) (s₃ : Shared) : Prop :=
  match f with
  | .ret v => Q (.ret v) s₃
  | .brk => Q .next s₃
  | _ => TurnEnd h₀ L I oI J s₂ s₃

/-- a loop over a walk of one new iterator -/
def LoopM (w : World) (A : Around) (h₀ : Heap) (env : Env) (x : Str) (body : List Stmt) (Q : Flow → Shared → Prop) (it : Value) (s₂ : Shared) : Prop :=
  ∃ (I : Addr) (fp : List Addr) (n : Nat) (P : Nat → Value → Prop) (St : Nat → Heap → Prop) (J : Nat → (Str → Option Value) → List (Addr × Obj) → Array GenState → Prop) (m : Str → Option Value) (news : List (Addr × Obj)),
    it = .ref I ∧ Walks PR w A I fp [I] n P St ∧ env.locals ∉ fp ∧ (∀ b ∈ fp, b ≠ I → ∀ i m' nw' g', J i m' nw' g' → ∃ o, (b, o) ∈ nw' ∧ (b, o) ∈ news) ∧ h₀.get? I = none ∧ St 0 s₂.heap ∧ (∀ i h, St i h → ∃ oI, h.get? I = some oI) ∧ Fr h₀ env.locals s₂.heap m ∧ News h₀ env.locals s₂.heap news ∧ (∀ p ∈ news, p.1 ≠ I) ∧ J 0 m news s₂.gens ∧
    (∀ i v m₁ nw₁ g₁ h₁ tk₁ oI, i < n → P i v → J i m₁ nw₁ g₁ → (∀ p ∈ nw₁, p.1 ≠ I) → Fr h₀ env.locals h₁ (fun y => if y = x then some v else m₁ y) → News h₀ env.locals h₁ ((I, oI) :: nw₁) →
      wpAny (model PR w) A (execs body env) (TurnPost h₀ env.locals I oI (J (i + 1)) s₂ Q) (fun _ _ => False) { s₂ with heap := h₁, toks := tk₁, gens := g₁ }) ∧
    ∀ h' tk' m' nw' g', J n m' nw' g' → Fr h₀ env.locals h' m' → News h₀ env.locals h' nw' → Q .next { s₂ with heap := h', toks := tk', gens := g' }

/-- a loop's iterable is at hand: the walk stops here -/
structure AtIter (w : World) (A : Around) (h₀ : Heap) (env : Env) (x : Str) (body : List Stmt) (Q : Flow → Shared → Prop) (E : Value → Shared → Prop) (xv : Value) (s₁ : Shared) : Prop where
  go : wpAny (model PR w) A (pyIter xv) (fun it s₂ => LoopM w A h₀ env x body Q it s₂) E s₁

theorem for_rule {w : World} {A : Around} {s : Shared} {env : Env} {E : Value → Shared → Prop} {Q : Flow → Shared → Prop} {x : Str} {px pos : Pos} {iter : Expr} {body : List Stmt} {h₀ : Heap} {m₀ : Str → Option Value} (_F : Fr h₀ env.locals s.heap m₀) (hx : env.kindOf x = some .local)
    (hp : (env.scope.kind == .class || (env.scope.kind == .module && env.locals != env.globals)) = false)
    (h : wpAny (model PR w) A (eval iter env) (fun xv s₁ => AtIter w A h₀ env x body Q E xv s₁) E s)
    (hs : ∀ x, foldedSetIterable iter env x = pure x := by intro _; rfl) :
    wpAny (model PR w) A (exec (.For (.Name x px) iter body [] pos) env) Q E s := by
  refine wpAny_For (wpAny_mono h (fun xv s₁ h₁ => wpAny_mono h₁.go (fun it s₂ h₂ => ?_) fun _ _ e => e) fun _ _ e => e) hs
  obtain ⟨I, fp, n, P, St, J, m, news, rfl, W, hLf, hfp, hI, hst, hsome, F, N, hnw, h0, turn, done⟩ := h₂
  have hIf : I ∈ fp := W.sub I (by simp)
  have hLI : env.locals ≠ I := fun e => hLf (e ▸ hIf)
  refine codeAny_forLoop
    (fun k s' => ∃ h' tk g' m' nw' i, s' = { s₂ with heap := h', toks := tk, gens := g' } ∧ St i h' ∧ Fr h₀ env.locals h' m' ∧ News h₀ env.locals h' nw' ∧ (∀ p ∈ nw', p.1 ≠ I) ∧ J i m' nw' g' ∧ i ≤ n ∧ k = n + 1 - i) ?_ (n + 1)
    ⟨s₂.heap, s₂.toks, s₂.gens, m, news, 0, rfl, hst, F, N, hnw, h0, Nat.zero_le _, rfl⟩
  rintro k s' ⟨h', tk, g', m', nw', i, rfl, hst', F', N', hnw', hJ, hi, rfl⟩
  have next : ∀ h₁ : Heap, (∀ b o, b ∉ [I] → h'.get? b = some o → h₁.get? b = some o) → Fr h₀ env.locals h₁ m' ∧ News h₀ env.locals h₁ nw' := fun h₁ hk₁ =>
    ⟨⟨F'.ns.at' fun o e => hk₁ _ o (by simpa using hLI) e, fun b o e => hk₁ b o (by simp only [List.mem_singleton]; rintro rfl; rw [hI] at e; cases e) (F'.keep b o e), F'.above⟩, fun p hp => ⟨hk₁ _ _ (by simpa using hnw' p hp) (N' p hp).1, (N' p hp).2⟩⟩
  by_cases hlt : i < n
  · refine W.item i _ _ _ hlt hst' fun v h₁ tk₁ hP hst₁ hk₁ => ?_
    obtain ⟨F₁, N₁⟩ := next h₁ hk₁
    refine wpAny_assign_Name (wpAny_storeName_local hx F₁.ns (fun h₂ hn₂ hs₂ => ?_) hp)
    have F₂ := F₁.set hn₂ hs₂
    have N₂ := N₁.set hs₂
    have hst₂ : St (i + 1) h₂ := W.frame _ _ _ hst₁ fun b hb o e => (hs₂.2 b fun q => hLf (q ▸ hb)).trans e
    obtain ⟨oI₂, hI₂⟩ := hsome _ _ hst₂
    · have NI : News h₀ env.locals h₂ ((I, oI₂) :: nw') := fun p hp => by
        rcases List.mem_cons.mp hp with rfl | hp
        · exact ⟨hI₂, fun e => hLI e.symm, hI⟩
        · exact N₂ p hp
      refine wpAny_mono (turn i v m' nw' g' h₂ _ oI₂ hlt hP hJ hnw' F₂ NI) (fun f s₃ h₃ => ?_) fun _ _ e => e.elim
      have fin : TurnEnd h₀ env.locals I oI₂ (J (i + 1)) s₂ s₃ → ∃ mm, mm < n + 1 - i ∧ ∃ h' tk g' m' nw' i, s₃ = { s₂ with heap := h', toks := tk, gens := g' } ∧ St i h' ∧ Fr h₀ env.locals h' m' ∧ News h₀ env.locals h' nw' ∧ (∀ p ∈ nw', p.1 ≠ I) ∧ J i m' nw' g' ∧ i ≤ n ∧ mm = n + 1 - i := by
        rintro ⟨H₃, tk₃, g₃, m₃, nw₃, rfl, F₃, N₃, hn₃, hJ₃⟩
        refine ⟨n + 1 - (i + 1), by omega, H₃, tk₃, g₃, m₃, nw₃, i + 1, rfl, ?_, F₃, fun p hp => N₃ p (.tail _ hp), hn₃, hJ₃, hlt, rfl⟩
        refine W.frame _ _ _ hst₂ fun b hb o e => ?_
        by_cases hbI : b = I
        · subst hbI; rw [hI₂] at e; cases e; exact (N₃ _ (.head _)).1
        · obtain ⟨o₁, hm₁, hmn⟩ := hfp b hb hbI _ _ _ _ hJ
          obtain ⟨o₂, hm₂, hmn₂⟩ := hfp b hb hbI _ _ _ _ hJ₃
          have e1 := (N _ hmn).1
          have e2 := (N _ hmn₂).1
          rw [e1] at e2; cases e2
          have e3 := (N₂ _ hm₁).1
          rw [e] at e3; cases e3
          exact (N₃ _ (.tail _ hm₂)).1
      cases f with
      | ret v => exact h₃
      | brk => exact h₃
      | cont => exact fin h₃
      | next => exact fin h₃
  · have hin : i = n := by omega
    subst hin
    refine W.done _ _ _ hst' fun h₁ tk₁ hk₁ => wpAny_execs_nil ?_
    obtain ⟨F₁, N₁⟩ := next h₁ hk₁
    exact done h₁ tk₁ m' nw' g' hJ F₁ N₁

section
variable {w : World} {A : Around} {s : Shared} {env : Env} {E : Value → Shared → Prop} {Q : Flow → Shared → Prop} {x : Str} {body : List Stmt} {h₀ : Heap} {m : Str → Option Value} {news : List (Addr × Obj)}
/-- over a list of the ledger -/
theorem iter_list {ax : Addr} {vs : List Value} {k : Nat} (J : Nat → (Str → Option Value) → List (Addr × Obj) → Array GenState → Prop)
    (hh : A.handled = none) (F : Fr h₀ env.locals s.heap m) (N : News h₀ env.locals s.heap news) (h0 : J 0 m news s.gens)
    (hm : (ax, (W.listOf vs.toArray k : Obj)) ∈ news) (hJ : ∀ i m' nw' g', J i m' nw' g' → (ax, (W.listOf vs.toArray k : Obj)) ∈ nw')
    (turn : ∀ i v m₁ nw₁ g₁ h₁ tk₁ I oI, vs[i]? = some v → J i m₁ nw₁ g₁ → (∀ p ∈ nw₁, p.1 ≠ I) → (∀ p ∈ news, p.1 < I) → Fr h₀ env.locals h₁ (fun y => if y = x then some v else m₁ y) → News h₀ env.locals h₁ ((I, oI) :: nw₁) →
      wpAny (model PR w) A (execs body env) (TurnPost h₀ env.locals I oI (J (i + 1)) s Q) (fun _ _ => False) { s with heap := h₁, toks := tk₁, gens := g₁ })
    (done : ∀ h' tk' m' nw' g', J vs.length m' nw' g' → Fr h₀ env.locals h' m' → News h₀ env.locals h' nw' → Q .next { s with heap := h', toks := tk', gens := g' }) :
    AtIter w A h₀ env x body Q E (.ref ax) s := by
  refine ⟨?_⟩
  have hls : s.heap.IsList ax vs.toArray := ⟨_, (N _ hm).1, rfl, k, rfl⟩
  refine wpAny_pyIter_list hls ?_
  have hlt := Heap.lt_size (N _ hm).1
  have W := Walks.list (prog := PR) (w := w) hh s.heap.objs.size ax (Nat.ne_of_lt hlt) vs.toArray
  have hlen : vs.toArray.size = vs.length := by simp
  rw [hlen] at W
  refine ⟨_, _, _, _, _, J, m, news, rfl, W, ?_, ?_, next_is_new F, ?_, ?_, F.push _, (fun p hp => ⟨Heap.get?_push_of_some _ (N p hp).1, (N p hp).2⟩), ?_, h0, ?_, ?_⟩
  · intro hmm
    rcases List.mem_cons.mp hmm with e | hmm
    · exact absurd F.ns.lt (e ▸ Nat.lt_irrefl _)
    · exact (N _ hm).2.1 (List.mem_singleton.mp hmm).symm
  · intro b hb hbI i m' nw' g' hj
    rcases List.mem_cons.mp hb with e | hb
    · exact absurd e hbI
    · rw [List.mem_singleton.mp hb]
      exact ⟨_, hJ _ _ _ _ hj, hm⟩
  · exact ⟨⟨_, Heap.get?_push_size _ rfl, rfl, rfl⟩, hls.at fun o e => Heap.get?_push_of_some _ e⟩
  · rintro i h ⟨⟨o, ho, _⟩, _⟩
    exact ⟨o, ho⟩
  · intro p hp e
    exact absurd (Heap.lt_size (N p hp).1) (by rw [e]; exact Nat.lt_irrefl _)
  · intro i v m₁ nw₁ g₁ h₁ tk₁ oI hi hP hj hn F₁ N₁
    exact turn i v m₁ nw₁ g₁ h₁ tk₁ _ oI (by simpa using hP) hj hn (fun p hp => Heap.lt_size (N p hp).1) F₁ N₁
  · exact fun h' tk' m' nw' g' hj F' N' => done h' tk' m' nw' g' hj F' N'
/-- a range's own object -/
abbrev rangeO (n : Int) (t0 t t1 : Tok) : Obj := { cls := .type "range", data := .fields #[.int 0 t0, .int n t, .int 1 t1] }
theorem range_made {L : Addr} {n : Int} {t : Tok} {Q : Value → Shared → Prop} (F : Fr h₀ L s.heap m) (N : News h₀ L s.heap news)
    (h : ∀ (r : Addr) (h' : Heap) (t0 t1 : Tok) (tk' : Nat), Fr h₀ L h' m → News h₀ L h' ((r, rangeO n t0 t t1) :: news) → (∀ p ∈ news, p.1 < r) → Q (.ref r) { s with heap := h', toks := tk' }) :
    wpAny (model PR w) A (call (.type "range") [.int n t]) Q E s :=
  call_range_1 (h _ _ _ _ _ (F.push _) (N.push F _) fun p hp => Heap.lt_size (N p hp).1)
/-- over a range from 0 -/
theorem iter_range {r : Addr} {b₀ : Int} {t₀ u₀ v₀ : Tok} (J : Nat → (Str → Option Value) → List (Addr × Obj) → Array GenState → Prop)
    (hh : A.handled = none) (F : Fr h₀ env.locals s.heap m) (N : News h₀ env.locals s.heap news) (hm : (r, rangeO b₀ t₀ u₀ v₀) ∈ news) (hlo : 0 ≤ b₀) (hhi : b₀ < 1000) (h0 : J 0 m news s.gens)
    (turn : ∀ (i : Nat) t m₁ nw₁ g₁ h₁ tk₁ I oI, i < b₀.toNat → J i m₁ nw₁ g₁ → (∀ p ∈ nw₁, p.1 ≠ I) → (∀ p ∈ news, p.1 < I) → Fr h₀ env.locals h₁ (fun y => if y = x then some (.int i t) else m₁ y) → News h₀ env.locals h₁ ((I, oI) :: nw₁) →
      wpAny (model PR w) A (execs body env) (TurnPost h₀ env.locals I oI (J (i + 1)) s Q) (fun _ _ => False) { s with heap := h₁, toks := tk₁, gens := g₁ })
    (done : ∀ h' tk' m' nw' g', J b₀.toNat m' nw' g' → Fr h₀ env.locals h' m' → News h₀ env.locals h' nw' → Q .next { s with heap := h', toks := tk', gens := g' }) :
    AtIter w A h₀ env x body Q E (.ref r) s := by
  refine ⟨?_⟩
  have hr : IsRange s.heap r 0 b₀ 1 t₀ u₀ v₀ := (N _ hm).1
  have hn : Builtin.Range.rangeSize 0 b₀ 1 = (b₀.toNat : Int) := by rw [rangeSize_one]; split <;> omega
  refine wpAny_pyIter_range hr (small_one (by decide) (by decide) (by omega) (by omega)) ?_
  have W := Walks.range (prog := PR) (w := w) hh s.heap.objs.size 0 1 b₀.toNat
  refine ⟨_, _, _, _, _, J, m, news, rfl, W, ?_, ?_, next_is_new F, ?_, ?_, F.push _, (fun p hp => ⟨Heap.get?_push_of_some _ (N p hp).1, (N p hp).2⟩), ?_, h0, ?_, ?_⟩
  · intro hmm
    exact absurd F.ns.lt ((List.mem_singleton.mp hmm) ▸ Nat.lt_irrefl _)
  · intro b hb hbI
    exact absurd (List.mem_singleton.mp hb) hbI
  · show IsRangeIter _ _ _ _ _
    rw [hn]
    simpa using Heap.get?_push_size _ rfl
  · exact fun i h ho => ⟨_, ho⟩
  · intro p hp e
    exact absurd (Heap.lt_size (N p hp).1) (by rw [e]; exact Nat.lt_irrefl _)
  · rintro i v m₁ nw₁ g₁ h₁ tk₁ oI hi ⟨t, rfl⟩ hj hn F₁ N₁
    have e1 : (0 : Int) + (i : Int) * 1 = (i : Int) := by omega
    rw [e1] at F₁
    exact turn i t m₁ nw₁ g₁ h₁ tk₁ _ oI hi hj hn (fun p hp => Heap.lt_size (N p hp).1) F₁ N₁
  · exact fun h' tk' m' nw' g' hj F' N' => done h' tk' m' nw' g' hj F' N'
end
end
local macro_rules | `(tactic| walk_at "my va") => `(tactic| first | with_reducible exact va_hit | with_reducible exact va_nil | (refine (va_miss ?vh).trans ?vr; (case vh => decide +kernel); (case vr => walk_at "my va")))
local macro_rules | `(tactic| walk_at "my mem") => `(tactic| first | exact List.Mem.head _ | (refine List.Mem.tail _ ?_; walk_at "my mem") | (refine List.mem_append_left _ ?_; walk_at "my mem") | (refine List.mem_append_right _ ?_; walk_at "my mem") | assumption)
local macro_rules | `(tactic| walk_at "my atom") => `(tactic| first | exact fun _ h => h | (refine sub_tail ?_; walk_at "my atom") | (refine sub_inl ?_; walk_at "my atom") | (refine sub_inr ?_; walk_at "my atom") | assumption)
local macro_rules | `(tactic| walk_at "my sub") => `(tactic| first | exact sub_nil | (refine sub_cons ?sm ?sr; (case sm => walk_at "my mem"); (case sr => walk_at "my sub")) | (refine sub_app ?sl ?sr; (case sl => walk_at "my sub"); (case sr => walk_at "my sub")) | walk_at "my atom")
local macro_rules | `(tactic| k_all) => `(tactic| first | assumption | exact allLt_ne (by assumption))
local macro_rules | `(tactic| walk_at "my cx") => `(tactic| exact cx_at (by assumption) (by omega))
local macro_rules | `(tactic| walk_at "my pick") => `(tactic| first | (refine' Pick.head ?a; (case a => k_all)) | (refine' Pick.tail ?a ?b; (case a => k_ne); (case b => walk_at "my pick")))
local macro_rules | `(tactic| walk_at "ite") => `(tactic| first
  | refine ite_pos (Eq.refl true) ?_
  | refine ite_neg Bool.false_ne_true ?_
  | refine ite_pos (by simp only [beq_iff_eq, decide_eq_true_eq]; omega) ?_
  | refine ite_neg (by simp only [beq_iff_eq, decide_eq_true_eq]; omega) ?_
  | ((refine ite_both (fun hc' => ?_) (fun hc' => ?_)) <;> (simp only [beq_iff_eq, decide_eq_true_eq] at hc')))
local macro_rules | `(tactic| walk_at "my step 1 newList") => `(tactic| (k_here; k_dflt (refine' newList_K ?k1 ?k2 ?_; (case k1 => k_asm); (case k2 => k_asm); k_whole)))
set_option hygiene false in
local macro_rules | `(tactic| walk_at "newList") => `(tactic| (walk_at "my step 1 newList"; intro l8 h9 F9 N9 l1; (try k_lt l1); (try k_sweep)))
local macro_rules | `(tactic| walk_at "my step 2 call_builtin_list.append") => `(tactic| (k_here; (with_reducible show wpAny _ _ (call (Value.builtin _) [Value.ref _, _]) _ _ _); k_dflt (refine' append_K ?k1 ?k2 ?k3 ?_ ?z; (case k1 => k_asm); (case k2 => k_asm); (case k3 => k_upd); (case z => (rw [sizeLine_eq]; simp only [List.size_toArray, List.length_cons, List.length_nil]; omega)); k_whole)))
set_option hygiene false in
local macro_rules | `(tactic| walk_at "call builtin:list.append") => `(tactic| (walk_at "my step 2 call_builtin_list.append"; intro h9 F9 N9; (try k_sweep)))
local macro_rules | `(tactic| walk_at "my step 3 call_type_range") => `(tactic| (k_here; (with_reducible show wpAny _ _ (call _ [Value.int _ _]) _ _ _); k_dflt (refine' range_made ?F ?N ?_; (case F => k_asm); (case N => k_asm); k_whole)))
set_option hygiene false in
local macro_rules | `(tactic| walk_at "call type:range") => `(tactic| (walk_at "my step 3 call_type_range"; intro r9 h9 t9 u9 tk9 F9 N9 l1; (try k_lt l1); (try k_sweep)))
local macro_rules | `(tactic| walk_at "exec For Name Call cons nil") => `(tactic| (k_here; k_dflt (refine' for_rule ?F ?a ?b ?_; (case F => k_asm); (case a => rfl); (case b => rfl))))
local macro_rules | `(tactic| walk_at "exec For") => `(tactic| (k_here; k_dflt (refine' for_rule ?F ?a ?b ?_; (case F => k_asm); (case a => rfl); (case b => rfl))))
local macro_rules | `(tactic| walk_at "my step 4 call_builtin_max") => `(tactic| (k_here; (with_reducible show wpAny _ _ (call (Value.builtin _) [Value.int _ _, Value.int _ _]) _ _ _); k_dflt (refine' max_two_N ?hh ?F ?N ?_; (case hh => assumption); (case F => k_asm); (case N => k_asm); k_whole)))
set_option hygiene false in
local macro_rules | `(tactic| walk_at "call builtin:max") => `(tactic| (walk_at "my step 4 call_builtin_max"; intro h9 tk9 F9 N9; (try k_sweep)))
local macro_rules | `(tactic| walk_at "my step 5 eval_Dict") => `(tactic| (k_here; k_dflt (refine' kdn_str ?q ?F ?N ?b ?a ?l ?e ?n ?_; (case q => rfl); (case F => k_asm); (case N => k_asm); (case b => exact TopRead.nolimit (by assumption)); (case a => rfl); (case l => rfl); (case e => exact List.cons_ne_nil _ _); (case n => exact Nat.le_of_ble_eq_true rfl))))
set_option hygiene false in
local macro_rules | `(tactic| walk_at "eval Dict") => `(tactic| (walk_at "my step 5 eval_Dict"; intro d8 h9 o8 F9 N9 l1 lo8 hd8; (try k_lt l1)))
local macro_rules | `(tactic| walk_at "my step 6 KdnMade") => `(tactic| (k_here; k_dflt (refine' kdn_made_str ?F ?N ?U ?d ?k ?n ?_; (case F => k_asm); (case N => k_asm); (case U => k_updF); (case d => k_asm); (case k => rfl); (case n => exact of_decide_eq_true (by first | rfl | kernel_rfl!)))))
set_option hygiene false in
local macro_rules | `(tactic| walk_at "KdnMade") => `(tactic| (walk_at "my step 6 KdnMade"; intro h9 o8 F9 N9 hd8; (try dsimp only at N9); (try simp only [strPairs, List.filterMap_cons, List.filterMap_nil] at hd8)))
section
/-- what a comprehension's turn leaves -/
def ElemEnd (h₀ : Heap) (L : Addr) (m : Str → Option Value) (s : Shared) (I : Addr) (oI : Obj) (C : Addr) (oC : Obj) (D : Addr) (oD : Obj) (J : Value → List (Addr × Obj) → Prop) (y : Value) (s₂ : Shared) : Prop :=
  ∃ h' tk' nw', s₂ = { s with heap := h', toks := tk' } ∧ Fr h₀ L h' m ∧ News h₀ L h' ((I, oI) :: (C, oC) :: (D, oD) :: nw') ∧ (∀ p ∈ nw', p.1 ≠ I ∧ p.1 ≠ C ∧ p.1 ≠ D) ∧ J y nw'

theorem comp_rest {w : World} {A : Around} {h₀ : Heap} {L : Addr} {m : Str → Option Value} {env : Env} {elt : Expr} {x : Str} {scope : Scope} {cl : List (Str × Addr)} {s : Shared} {S : List (Addr × Obj) → Prop} {P : Nat → Value → Prop} {Fin : List Value → List (Addr × Obj) → Prop} {n : Nat}
    (J : Nat → List Value → List (Addr × Obj) → Prop) (hS : ∀ i ys nw, J i ys nw → S nw)
    (turn : ∀ i ys nw v I oI C oC D m₂ h tk (E' : Value → Shared → Prop), i < n → P i v → J i ys nw → LCg.NsObj oC m₂ → m₂ x = some v → Fr h₀ L h m → News h₀ L h ((I, oI) :: (C, oC) :: (D, LCg.lst ys) :: nw) → (∀ p ∈ nw, p.1 ≠ I ∧ p.1 ≠ C ∧ p.1 ≠ D) →
      ((@Ne Nat I C) ∧ (@Ne Nat I D) ∧ (@Ne Nat C D)) →
      wpAny (model PR w) A (eval elt (compEnvC scope cl C env)) (ElemEnd h₀ L m s I oI C oC D (LCg.lst ys) (fun y nw' => J (i + 1) (ys ++ [y]) nw')) E' { s with heap := h, toks := tk })
    (fin : ∀ ys nw, J n ys nw → Fin ys nw) : ∀ k i ys nw, i + k = n → J i ys nw → LCg.CompRest PR w A h₀ L m env elt x scope cl s S P Fin k i ys nw
  | 0, i, ys, nw, e, hj => LCg.CompRest.zero (fin _ _ ((show i = n by omega) ▸ hj))
  | k + 1, i, ys, nw, e, hj => LCg.CompRest.succ fun v I oI C oC D m₂ h tk E' hP hC hx F N off ne =>
    wpAny_mono (turn i ys nw v I oI C oC D m₂ h tk E' (by omega) hP hj hC hx F N (fun p hp => off.mem p hp) ne) (fun y s₂ h₂ => by
      obtain ⟨h', tk', nw', rfl, F', N', o', hj'⟩ := h₂
      exact ⟨h', tk', nw', rfl, F', N', LCg.Off3.of o', hS _ _ _ hj', comp_rest J hS turn fin k (i + 1) _ _ (by omega) hj'⟩) fun _ _ e => e

section
variable {w : World} {A : Around} {h₀ : Heap} {L : Addr} {m : Str → Option Value} {env : Env} {elt : Expr} {x : Str} {scope : Scope} {cl : List (Str × Addr)} {s : Shared} {Fin : Shared → List Value → List (Addr × Obj) → Prop} {news : List (Addr × Obj)}
/-- a comprehension over a list of the ledger -/
theorem comp_list {ax : Addr} {vs : List Value} {k : Nat} (J : Nat → List Value → List (Addr × Obj) → Prop)
    (hh : A.handled = none) (F : Fr h₀ L s.heap m) (N : News h₀ L s.heap news) (hm : (ax, (W.listOf vs.toArray k : Obj)) ∈ news) (hsz : vs.length ≤ sizeLine) (h0 : J 0 [] news)
    (hJ : ∀ i ys nw, J i ys nw → (ax, (W.listOf vs.toArray k : Obj)) ∈ nw)
    (turn : ∀ (s : Shared) i ys nw v I oI C oC D m₂ h tk (E' : Value → Shared → Prop), vs[i]? = some v → J i ys nw → LCg.NsObj oC m₂ → m₂ x = some v → Fr h₀ L h m → News h₀ L h ((I, oI) :: (C, oC) :: (D, LCg.lst ys) :: nw) → (∀ p ∈ nw, p.1 ≠ I ∧ p.1 ≠ C ∧ p.1 ≠ D) →
      ((@Ne Nat I C) ∧ (@Ne Nat I D) ∧ (@Ne Nat C D)) →
      wpAny (model PR w) A (eval elt (compEnvC scope cl C env)) (ElemEnd h₀ L m s I oI C oC D (LCg.lst ys) (fun y nw' => J (i + 1) (ys ++ [y]) nw')) E' { s with heap := h, toks := tk })
    (fin : ∀ g ys nw, J vs.length ys nw → Fin { s with heap := g } ys nw) :
    LCg.CompSrc PR w A h₀ L m env elt x scope cl Fin (.ref ax) s :=
  LCg.CompSrc.ledger hh F N hm (by simpa using hsz) fun g => by
    refine comp_rest (n := vs.length) J (fun i ys nw hj => .inr ⟨_, hJ _ _ _ hj, rfl, _, rfl⟩) ?_ (fin g) _ 0 [] news (by simp) h0
    intro i ys nw v I oI C oC D m₂ h tk E' hi hP hj hC hx F' N' off ne
    exact turn _ i ys nw v I oI C oC D m₂ h tk E' (by simpa using hP) hj hC hx F' N' off ne
/-- a comprehension over a range from 0 -/
theorem comp_range {r : Addr} {b₀ : Int} {t₀ u₀ v₀ : Tok} (J : Nat → List Value → List (Addr × Obj) → Prop)
    (hh : A.handled = none) (F : Fr h₀ L s.heap m) (N : News h₀ L s.heap news) (hm : (r, rangeO b₀ t₀ u₀ v₀) ∈ news) (hlo : 0 ≤ b₀) (hhi : b₀ < 1000) (h0 : J 0 [] news)
    (turn : ∀ (s : Shared) i t ys nw I oI C oC D m₂ h tk (E' : Value → Shared → Prop), i < b₀.toNat → J i ys nw → LCg.NsObj oC m₂ → m₂ x = some (.int (i : Int) t) → Fr h₀ L h m → News h₀ L h ((I, oI) :: (C, oC) :: (D, LCg.lst ys) :: nw) → (∀ p ∈ nw, p.1 ≠ I ∧ p.1 ≠ C ∧ p.1 ≠ D) →
      ((@Ne Nat I C) ∧ (@Ne Nat I D) ∧ (@Ne Nat C D)) →
      wpAny (model PR w) A (eval elt (compEnvC scope cl C env)) (ElemEnd h₀ L m s I oI C oC D (LCg.lst ys) (fun y nw' => J (i + 1) (ys ++ [y]) nw')) E' { s with heap := h, toks := tk })
    (fin : ∀ g ys nw, J b₀.toNat ys nw → Fin { s with heap := g } ys nw) :
    LCg.CompSrc PR w A h₀ L m env elt x scope cl Fin (.ref r) s := by
  have hr : IsRange s.heap r 0 b₀ 1 t₀ u₀ v₀ := (N _ hm).1
  have hn : Builtin.Range.rangeSize 0 b₀ 1 = (b₀.toNat : Int) := by rw [rangeSize_one]; split <;> omega
  refine LCg.CompSrc.range hh F N hr (small_one (by decide) (by decide) (by omega) (by omega)) hn (by rw [sizeLine_eq]; omega) fun g => ?_
  refine comp_rest (n := b₀.toNat) J (fun i ys nw hj => trivial) ?_ (fin g) _ 0 [] news (by simp) h0
  rintro i ys nw v I oI C oC D m₂ h tk E' hi ⟨t, rfl⟩ hj hC hx F' N' off ne
  have e1 : (0 : Int) + (i : Int) = (i : Int) := by omega
  rw [e1] at hx
  exact turn _ i t ys nw I oI C oC D m₂ h tk E' hi hj hC hx F' N' off ne
end

theorem an1 {a1 : Prop} {d : Addr} {l : List (Addr × Obj)} (h : a1 ∧ AllLt d l) : ∀ p ∈ l, p.1 ≠ d := allLt_ne h.2
theorem an2 {a1 a2 : Prop} {d : Addr} {l : List (Addr × Obj)} (h : a1 ∧ a2 ∧ AllLt d l) : ∀ p ∈ l, p.1 ≠ d := allLt_ne h.2.2
theorem an3 {a1 a2 a3 : Prop} {d : Addr} {l : List (Addr × Obj)} (h : a1 ∧ a2 ∧ a3 ∧ AllLt d l) : ∀ p ∈ l, p.1 ≠ d := allLt_ne h.2.2.2
theorem an4 {a1 a2 a3 a4 : Prop} {d : Addr} {l : List (Addr × Obj)} (h : a1 ∧ a2 ∧ a3 ∧ a4 ∧ AllLt d l) : ∀ p ∈ l, p.1 ≠ d := allLt_ne h.2.2.2.2
theorem an5 {a1 a2 a3 a4 a5 : Prop} {d : Addr} {l : List (Addr × Obj)} (h : a1 ∧ a2 ∧ a3 ∧ a4 ∧ a5 ∧ AllLt d l) : ∀ p ∈ l, p.1 ≠ d := allLt_ne h.2.2.2.2.2
theorem an6 {a1 a2 a3 a4 a5 a6 : Prop} {d : Addr} {l : List (Addr × Obj)} (h : a1 ∧ a2 ∧ a3 ∧ a4 ∧ a5 ∧ a6 ∧ AllLt d l) : ∀ p ∈ l, p.1 ≠ d := allLt_ne h.2.2.2.2.2.2
theorem an7 {a1 a2 a3 a4 a5 a6 a7 : Prop} {d : Addr} {l : List (Addr × Obj)} (h : a1 ∧ a2 ∧ a3 ∧ a4 ∧ a5 ∧ a6 ∧ a7 ∧ AllLt d l) : ∀ p ∈ l, p.1 ≠ d := allLt_ne h.2.2.2.2.2.2.2
theorem an8 {a1 a2 a3 a4 a5 a6 a7 a8 : Prop} {d : Addr} {l : List (Addr × Obj)} (h : a1 ∧ a2 ∧ a3 ∧ a4 ∧ a5 ∧ a6 ∧ a7 ∧ a8 ∧ AllLt d l) : ∀ p ∈ l, p.1 ≠ d := allLt_ne h.2.2.2.2.2.2.2.2
theorem an9 {a1 a2 a3 a4 a5 a6 a7 a8 a9 : Prop} {d : Addr} {l : List (Addr × Obj)} (h : a1 ∧ a2 ∧ a3 ∧ a4 ∧ a5 ∧ a6 ∧ a7 ∧ a8 ∧ a9 ∧ AllLt d l) : ∀ p ∈ l, p.1 ≠ d := allLt_ne h.2.2.2.2.2.2.2.2.2
theorem an10 {a1 a2 a3 a4 a5 a6 a7 a8 a9 a10 : Prop} {d : Addr} {l : List (Addr × Obj)} (h : a1 ∧ a2 ∧ a3 ∧ a4 ∧ a5 ∧ a6 ∧ a7 ∧ a8 ∧ a9 ∧ a10 ∧ AllLt d l) : ∀ p ∈ l, p.1 ≠ d := allLt_ne h.2.2.2.2.2.2.2.2.2.2
theorem an11 {a1 a2 a3 a4 a5 a6 a7 a8 a9 a10 a11 : Prop} {d : Addr} {l : List (Addr × Obj)} (h : a1 ∧ a2 ∧ a3 ∧ a4 ∧ a5 ∧ a6 ∧ a7 ∧ a8 ∧ a9 ∧ a10 ∧ a11 ∧ AllLt d l) : ∀ p ∈ l, p.1 ≠ d := allLt_ne h.2.2.2.2.2.2.2.2.2.2.2
theorem an12 {a1 a2 a3 a4 a5 a6 a7 a8 a9 a10 a11 a12 : Prop} {d : Addr} {l : List (Addr × Obj)} (h : a1 ∧ a2 ∧ a3 ∧ a4 ∧ a5 ∧ a6 ∧ a7 ∧ a8 ∧ a9 ∧ a10 ∧ a11 ∧ a12 ∧ AllLt d l) : ∀ p ∈ l, p.1 ≠ d := allLt_ne h.2.2.2.2.2.2.2.2.2.2.2.2
theorem an13 {a1 a2 a3 a4 a5 a6 a7 a8 a9 a10 a11 a12 a13 : Prop} {d : Addr} {l : List (Addr × Obj)} (h : a1 ∧ a2 ∧ a3 ∧ a4 ∧ a5 ∧ a6 ∧ a7 ∧ a8 ∧ a9 ∧ a10 ∧ a11 ∧ a12 ∧ a13 ∧ AllLt d l) : ∀ p ∈ l, p.1 ≠ d := allLt_ne h.2.2.2.2.2.2.2.2.2.2.2.2.2
theorem an14 {a1 a2 a3 a4 a5 a6 a7 a8 a9 a10 a11 a12 a13 a14 : Prop} {d : Addr} {l : List (Addr × Obj)} (h : a1 ∧ a2 ∧ a3 ∧ a4 ∧ a5 ∧ a6 ∧ a7 ∧ a8 ∧ a9 ∧ a10 ∧ a11 ∧ a12 ∧ a13 ∧ a14 ∧ AllLt d l) : ∀ p ∈ l, p.1 ≠ d := allLt_ne h.2.2.2.2.2.2.2.2.2.2.2.2.2.2
theorem an15 {a1 a2 a3 a4 a5 a6 a7 a8 a9 a10 a11 a12 a13 a14 a15 : Prop} {d : Addr} {l : List (Addr × Obj)} (h : a1 ∧ a2 ∧ a3 ∧ a4 ∧ a5 ∧ a6 ∧ a7 ∧ a8 ∧ a9 ∧ a10 ∧ a11 ∧ a12 ∧ a13 ∧ a14 ∧ a15 ∧ AllLt d l) : ∀ p ∈ l, p.1 ≠ d := allLt_ne h.2.2.2.2.2.2.2.2.2.2.2.2.2.2.2
theorem an16 {a1 a2 a3 a4 a5 a6 a7 a8 a9 a10 a11 a12 a13 a14 a15 a16 : Prop} {d : Addr} {l : List (Addr × Obj)} (h : a1 ∧ a2 ∧ a3 ∧ a4 ∧ a5 ∧ a6 ∧ a7 ∧ a8 ∧ a9 ∧ a10 ∧ a11 ∧ a12 ∧ a13 ∧ a14 ∧ a15 ∧ a16 ∧ AllLt d l) : ∀ p ∈ l, p.1 ≠ d := allLt_ne h.2.2.2.2.2.2.2.2.2.2.2.2.2.2.2.2
theorem an17 {a1 a2 a3 a4 a5 a6 a7 a8 a9 a10 a11 a12 a13 a14 a15 a16 a17 : Prop} {d : Addr} {l : List (Addr × Obj)} (h : a1 ∧ a2 ∧ a3 ∧ a4 ∧ a5 ∧ a6 ∧ a7 ∧ a8 ∧ a9 ∧ a10 ∧ a11 ∧ a12 ∧ a13 ∧ a14 ∧ a15 ∧ a16 ∧ a17 ∧ AllLt d l) : ∀ p ∈ l, p.1 ≠ d := allLt_ne h.2.2.2.2.2.2.2.2.2.2.2.2.2.2.2.2.2
theorem an18 {a1 a2 a3 a4 a5 a6 a7 a8 a9 a10 a11 a12 a13 a14 a15 a16 a17 a18 : Prop} {d : Addr} {l : List (Addr × Obj)} (h : a1 ∧ a2 ∧ a3 ∧ a4 ∧ a5 ∧ a6 ∧ a7 ∧ a8 ∧ a9 ∧ a10 ∧ a11 ∧ a12 ∧ a13 ∧ a14 ∧ a15 ∧ a16 ∧ a17 ∧ a18 ∧ AllLt d l) : ∀ p ∈ l, p.1 ≠ d := allLt_ne h.2.2.2.2.2.2.2.2.2.2.2.2.2.2.2.2.2.2
end
local macro_rules | `(tactic| k_all) => `(tactic| first | (refine' an1 ?_; with_reducible assumption) | (refine' an2 ?_; with_reducible assumption) | (refine' an3 ?_; with_reducible assumption) | (refine' an4 ?_; with_reducible assumption) | (refine' an5 ?_; with_reducible assumption) | (refine' an6 ?_; with_reducible assumption) | (refine' an7 ?_; with_reducible assumption) | (refine' an8 ?_; with_reducible assumption) | (refine' an9 ?_; with_reducible assumption) | (refine' an10 ?_; with_reducible assumption) | (refine' an11 ?_; with_reducible assumption) | (refine' an12 ?_; with_reducible assumption) | (refine' an13 ?_; with_reducible assumption) | (refine' an14 ?_; with_reducible assumption) | (refine' an15 ?_; with_reducible assumption) | (refine' an16 ?_; with_reducible assumption) | (refine' an17 ?_; with_reducible assumption) | (refine' an18 ?_; with_reducible assumption))
section
/-- the box: the script, the place, the state -/
abbrev boxO (scr : Addr) (p st : Int) (tp ts : Tok) : Obj := W.listOf #[Value.ref scr, .int p tp, .int st ts] 0

theorem draw_arith (x sz : Int) (h : 0 < sz) : 0 ≤ x.fmod 2147483647 ∧ x.fmod 2147483647 < 2147483647 ∧ 0 ≤ ((x.fmod 2147483647).fdiv 8).fmod sz ∧ ((x.fmod 2147483647).fdiv 8).fmod sz < sz :=
  ⟨Int.fmod_nonneg_of_pos _ (by decide), Int.fmod_lt_of_pos _ (by decide), Int.fmod_nonneg_of_pos _ h, Int.fmod_lt_of_pos _ h⟩

theorem draw_spec {w : World} {A : Around} {s : Shared} {h₀ : Heap} {L scr : Addr} {m : Str → Option Value} {news rest : List (Addr × Obj)} {Q E : Value → Shared → Prop}
    {b : Addr} {p st sz : Int} {tp ts tz : Tok}
    (C : Cx w A h₀ L scr 1) (F : Fr h₀ L s.heap m) (N₀ : News h₀ L s.heap news) (P : Pick b (boxO scr p st tp ts) news rest)
    (hp : 0 ≤ p) (hst : 0 ≤ st) (hst' : st < 2147483647) (hsz : 0 < sz) (hsz' : sz < 1000)
    (ret : ∀ (d : Int) (td : Tok) (p' : Int) (tp' : Tok) (st' : Int) (ts' : Tok) (h' : Heap) (tk' : Nat), Fr h₀ L h' m → News h₀ L h' ((b, boxO scr p' st' tp' ts') :: rest) →
      0 ≤ p' → 0 ≤ st' → st' < 2147483647 → 0 ≤ d → d < sz → Q (.int d td) { s with heap := h', toks := tk' }) :
    wpAny (model PySem.Challenge.rw_bq5016_01.row.prog w) A (call (.ref 175) [.ref b, .int sz tz]) Q E s := by
  have hX := C.X
  revert hX; k_fill; intro hX
  have N := news_sub N₀ P.spec.1
  have hne := P.spec.2
  clear P N₀
  refine wpAny_call ?_
  refine' enterC [(Str.ofString "box", .ref b), (Str.ofString "size", .int sz tz)] C F N ?k6 ?k7 ?k9 ?kB ?c2 ?c3 ?c4 ?c5 ?_
  case k6 => k_is
  case k7 => k_is
  case k9 => exact BindsTo.of_eq rfl
  case kB => exact locs rfl
  case c2 => exact rfl
  case c3 => exact rfl
  case c4 => exact rfl
  case c5 => decide
  intro g' L' h' pp lo mg mb F' N' X' T' C' lt' _
  obtain ⟨vs, ns, hS', hI, hlen⟩ := C'.scr
  clear C N
  try dsimp only
  try k_fold
  k_steps
  all_goals (
    have ha := draw_arith (st * 48271 + (ns.getD (p.fmod ns.length).toNat 0).fmod 65537 + p + 1) sz hsz
    have hb := draw_arith (st * 48271 + 0 + p + 1) sz hsz
    rename News _ _ _ _ => nN
    rename Fr _ _ _ _ => nF
    refine ret _ _ _ _ _ _ _ _ nF nN (by omega) ?_ ?_ ?_ ?_ <;> first | exact ha.1 | exact ha.2.1 | exact ha.2.2.1 | exact ha.2.2.2 | exact hb.1 | exact hb.2.1 | exact hb.2.2.1 | exact hb.2.2.2)
end
local macro_rules | `(tactic| walk_at "my step 7 call_ref") => `(tactic| (k_here; (with_reducible show wpAny _ _ (call (Value.ref 175) _) _ _ _); k_dflt (refine' draw_spec ?C ?F ?N ?P ?p1 ?p2 ?p3 ?p4 ?p5 ?_; (case C => walk_at "my cx"); (case F => k_asm); (case N => k_asm); (case P => walk_at "my pick"); (case p1 => omega); (case p2 => omega); (case p3 => omega); (case p4 => omega); (case p5 => omega); k_whole)))
set_option hygiene false in
local macro_rules | `(tactic| walk_at "call ref") => `(tactic| (walk_at "my step 7 call_ref"; intro d9 td9 p9 tp9 st9 ts9 h9 tk9 F9 N9 hp9 hs9 hs9' hd9 hd9'; (try k_sweep)))
section
theorem list_at {its : List Value} {d : Int} (h1 : d < its.length) (h0 : 0 ≤ d) : ∃ v, v ∈ its ∧ its.toArray[d.toNat]? = some v ∧ d < 2 ^ 63 ∨ its.length ≥ 1000 := by
  by_cases h : its.length < 1000
  · have hlt : d.toNat < its.length := by omega
    exact ⟨its[d.toNat], .inl ⟨List.getElem_mem hlt, by simp [hlt], by omega⟩⟩
  · exact ⟨.none, .inr (by omega)⟩

theorem item_some {w : World} {A : Around} {E : Value → Shared → Prop} {s : Shared} {h₀ : Heap} {L l : Addr} {news : List (Addr × Obj)} {value slice : Expr} {its : List Value} {k : Nat} {d : Int} {t : Tok} {Q : Value → Shared → Prop}
    (N : News h₀ L s.heap news) (hm : (l, (W.listOf its.toArray k : Obj)) ∈ news) (h1 : d < its.length) (h0 : 0 ≤ d) (h9 : its.length < 1000) (h : ∀ v, v ∈ its → its[d.toNat]? = some v → Q v s)
    (hs : subscripted slice false (.ref l) (.int d t) = operate [.ref l, .int d t] (getItem (.ref l) (.int d t)) := by with_unfolding_all rfl) :
    wpAny (model PySem.Challenge.rw_bq5016_01.row.prog w) A (subscriptTail value slice (.ref l) (.int d t)) Q E s := by
  have hl : s.heap.IsList l its.toArray := ⟨_, (N _ hm).1, rfl, k, rfl⟩
  obtain ⟨v, ⟨hv, hx, hf⟩ | hbad⟩ := list_at h1 h0
  · exact tail_any hl.typeIs slot_list_getitem.lookup (wpAny_getItem_list hl h0 hf hx (h v hv (by simpa using hx))) hs
  · omega

theorem pick_spec {w : World} {A : Around} {s : Shared} {h₀ : Heap} {L scr : Addr} {m : Str → Option Value} {news rest : List (Addr × Obj)} {Q E : Value → Shared → Prop}
    {b r : Addr} {p st : Int} {tp ts : Tok} {its : List Value}
    (C : Cx w A h₀ L scr 2) (F : Fr h₀ L s.heap m) (N₀ : News h₀ L s.heap news) (P : Pick b (boxO scr p st tp ts) news rest)
    (hp : 0 ≤ p) (hst : 0 ≤ st) (hst' : st < 2147483647) (hr : (r, (W.listOf its.toArray 0 : Obj)) ∈ rest ∨ h₀.IsList r its.toArray) (h0 : 0 < its.length) (h9 : its.length < 1000)
    (ret : ∀ (v : Value) (p' : Int) (tp' : Tok) (st' : Int) (ts' : Tok) (h' : Heap) (tk' : Nat), Fr h₀ L h' m → News h₀ L h' ((b, boxO scr p' st' tp' ts') :: rest) →
      0 ≤ p' → 0 ≤ st' → st' < 2147483647 → v ∈ its → Q v { s with heap := h', toks := tk' }) :
    wpAny (model PySem.Challenge.rw_bq5016_01.row.prog w) A (call (.ref 182) [.ref b, .ref r]) Q E s := by
  have hX := C.X
  revert hX; k_fill; intro hX
  have N := news_sub N₀ P.spec.1
  have hne := P.spec.2
  clear P N₀
  refine wpAny_call ?_
  refine' enterC [(Str.ofString "box", .ref b), (Str.ofString "rows", .ref r)] C F N ?k6 ?k7 ?k9 ?kB ?c2 ?c3 ?c4 ?c5 ?_
  case k6 => k_is
  case k7 => k_is
  case k9 => exact BindsTo.of_eq rfl
  case kB => exact locs rfl
  case c2 => exact rfl
  case c3 => exact rfl
  case c4 => exact rfl
  case c5 => decide
  intro g' L' h' pp lo mg mb F' N' X' T' C' lt' st'
  clear C N
  try dsimp only
  try k_fold
  have gl : ∀ (h'' : Heap) (m'' : Str → Option Value) (o : Obj), Fr g' L' h'' m'' → News g' L' h'' ((b, o) :: rest) → h''.IsList r its.toArray := by
    intro h'' m'' o F'' N''
    rcases hr with hr | hr
    · exact ⟨_, (N'' _ (.tail _ hr)).1, rfl, 0, rfl⟩
    · exact (stays_list st' hr).at fun o e => F''.keep _ o e
  clear hr
  have hz : ((its.toArray.size : Int)) < 2 ^ 63 := by simp only [List.size_toArray]; omega
  k_steps
  refine call_len_list (gl _ _ _ (by assumption) (by assumption)) hz ?_
  simp only [List.size_toArray]
  k_steps
  obtain ⟨v, ⟨hv, hx, hf⟩ | hbad⟩ := list_at (its := its) (by assumption) (by assumption)
  · have hl := gl _ _ _ (by assumption) (by assumption)
    refine tail_any hl.typeIs slot_list_getitem.lookup (wpAny_getItem_list hl (by assumption) hf hx ?_) (by with_unfolding_all rfl)
    k_steps
    exact ret _ _ _ _ _ _ _ (by k_asm) (by k_asm) (by assumption) (by assumption) (by assumption) hv
  · omega
end
local macro_rules | `(tactic| walk_at "my step 8 call_ref") => `(tactic| (k_here; (with_reducible show wpAny _ _ (call (Value.ref 182) _) _ _ _); k_dflt (refine' pick_spec ?C ?F ?N ?P ?p1 ?p2 ?p3 ?p4 ?p5 ?p6 ?_; (case C => walk_at "my cx"); (case F => k_asm); (case N => k_asm); (case P => walk_at "my pick"); (case p1 => omega); (case p2 => omega); (case p3 => omega); (case p4 => exact Or.inl (by k_mem)); (case p5 => simp only [List.length_cons, List.length_nil]; omega); (case p6 => simp only [List.length_cons, List.length_nil]; omega); k_whole)))
set_option hygiene false in
local macro_rules | `(tactic| walk_at "call ref") => `(tactic| (walk_at "my step 8 call_ref"; intro v9 p9 tp9 st9 ts9 h9 tk9 F9 N9 hp9 hs9 hs9' hv9; (try k_sweep)))
section
mutual
/-- a token of a ledger: its height and its count of parts -/
inductive Tkn (w : World) (nl : List (Addr × Obj)) : Value → Nat → Nat → Prop
  | leaf {a : Addr} {o : Obj} {kvs : List (Str × Value)} : (a, o) ∈ nl → o.IsDictOf (PySem.strKind PR w) kvs → (a == sysModules) = false → valueAt kvs (Str.ofString "children") = none → kvs.length ≤ 9 → Tkn w nl (.ref a) 0 1
  | node {a : Addr} {o : Obj} {kvs : List (Str × Value)} {c : Addr} {vs : List Value} {k h z : Nat} : (a, o) ∈ nl → o.IsDictOf (PySem.strKind PR w) kvs → (a == sysModules) = false → valueAt kvs (Str.ofString "children") = some (.ref c) →
      (c, (W.listOf vs.toArray k : Obj)) ∈ nl → Tkns w nl vs h z → kvs.length ≤ 9 → Tkn w nl (.ref a) (h + 1) (z + 1)
inductive Tkns (w : World) (nl : List (Addr × Obj)) : List Value → Nat → Nat → Prop
  | nil : Tkns w nl [] 0 0
  | cons {v : Value} {vs : List Value} {h z h' z' : Nat} : Tkn w nl v h z → Tkns w nl vs h' z' → Tkns w nl (v :: vs) (max h h') (z + z')
end

mutual
theorem Tkn.mono {w : World} {nl nl' : List (Addr × Obj)} (hs : ∀ p ∈ nl, p ∈ nl') : ∀ {v : Value} {h z : Nat}, Tkn w nl v h z → Tkn w nl' v h z
  | _, _, _, .leaf a b c d z => .leaf (hs _ a) b c d z
  | _, _, _, .node a b c d e f z => .node (hs _ a) b c d (hs _ e) (Tkns.mono hs f) z
theorem Tkns.mono {w : World} {nl nl' : List (Addr × Obj)} (hs : ∀ p ∈ nl, p ∈ nl') : ∀ {vs : List Value} {h z : Nat}, Tkns w nl vs h z → Tkns w nl' vs h z
  | _, _, _, .nil => .nil
  | _, _, _, .cons a b => .cons (Tkn.mono hs a) (Tkns.mono hs b)
end

theorem Tkns.snoc {w : World} {nl : List (Addr × Obj)} {v : Value} {h' z' : Nat} (ht : Tkn w nl v h' z') : ∀ {vs : List Value} {h z : Nat}, Tkns w nl vs h z → Tkns w nl (vs ++ [v]) (max h h') (z + z')
  | _, _, _, .nil => by
    have := Tkns.cons ht .nil
    simpa [Nat.max_comm] using this
  | _, _, _, .cons (vs := vs) (h := h1) (z := z1) (h' := h2) (z' := z2) a b => by
    have := Tkns.cons a (Tkns.snoc ht b)
    rw [List.cons_append, Nat.max_assoc, Nat.add_assoc]
    exact this
theorem max_cast (x y : Nat) : (if (y : Int) > (x : Int) then (y : Int) else x) = ((max x y : Nat) : Int) := by
  split <;> omega
theorem map_one {m m₀ : Str → Option Value} {x y : Str} {v vx : Value} (hy : m y = some v) (hz : ∀ z, z ≠ x → z ≠ y → m z = m₀ z) :
    (fun z => if z = x then some vx else m z) = fun z => if z = x then some vx else if z = y then some v else m₀ z := by
  funext z
  by_cases h1 : z = x
  · simp [h1]
  · simp only [if_neg h1]
    by_cases h2 : z = y
    · subst h2; simp [hy]
    · simp only [if_neg h2]; exact hz z h1 h2
theorem map_end {m m₀ : Str → Option Value} {x y : Str} {v : Value} (hy : m y = some v) (hz : ∀ z, z ≠ x → z ≠ y → m z = m₀ z) :
    m = fun z => if z = y then some v else if z = x then m z else m₀ z := by
  funext z
  by_cases h2 : z = y
  · subst h2; simp [hy]
  · simp only [if_neg h2]
    by_cases h1 : z = x
    · simp [h1]
    · simp only [if_neg h1]; exact hz z h1 h2
end

section
local macro_rules | `(tactic| walk_at "compareOp NotIn str ref") => `(tactic| (k_here; k_dflt (refine kdg_notin (knd := PySem.strKind _ _) (by k_asm) (by k_mem) (by k_asm) (by k_asm) (strKind_is _ _ _ _) _ (by assumption) ?_)))
local macro_rules | `(tactic| walk_at "subscriptTail") => `(tactic| (k_here; (with_reducible show wpAny _ _ (subscriptTail _ _ (Value.ref _) (Value.str _ _)) _ _ _); k_dflt (refine kda_item (knd := PySem.strKind _ _) (by k_asm) (by k_mem) (by k_asm) (strKind_is _ _ _ _) (by assumption) ?_)))


theorem high_spec {w : World} (h : Nat) : ∀ {A : Around} {s : Shared} {h₀ : Heap} {L scr : Addr} {m : Str → Option Value} {news : List (Addr × Obj)} {Q E : Value → Shared → Prop} {v : Value} {z : Nat},
    Cx w A h₀ L scr (2 * h + 1) → Fr h₀ L s.heap m → News h₀ L s.heap news → Tkn w news v h z → 
    (∀ t h' tk', Fr h₀ L h' m → News h₀ L h' news → Q (.int h t) { s with heap := h', toks := tk' }) →
    wpAny (model PySem.Challenge.rw_bq5016_01.row.prog w) A (call (.ref 196) [v]) Q E s := by
  induction h using Nat.strongRecOn with
  | ind h ih =>
  intro A s h₀ L scr m news Q E v z C F N hT ret
  have hX := C.X
  revert hX; k_fill; intro hX
  refine wpAny_call ?_
  refine' enterC [(Str.ofString "token", v)] C F N ?k6 ?k7 ?k9 ?kB ?c2 ?c3 ?c4 ?c5 ?_
  case k6 => k_is
  case k7 => k_is
  case k9 => exact BindsTo.of_eq rfl
  case kB => exact locs rfl
  case c2 => exact rfl
  case c3 => exact rfl
  case c4 => exact rfl
  case c5 => decide
  intro g' L' h' pp lo mg mb F' N' X' T' C' lt' st'
  clear C N
  have hA' := C'.hh
  try dsimp only
  try k_fold
  cases hT with
  | @leaf a o kvs hm hd hs hc hz =>
    have hc' : (valueAt kvs (Str.ofString "children")).isSome = false := by rw [hc]; rfl
    k_steps
    exact ret _ _ _ (by k_asm) (by k_asm)
  | @node a o kvs c vs kk hh zz hm hd hs hc hl hts hz =>
    have hc' : (valueAt kvs (Str.ofString "children")).isSome = true := by rw [hc]; rfl
    k_steps
    dsimp only
    refine iter_list (fun i m' nw' g'' => nw' = news ∧ g'' = s.gens ∧ (∃ (x : Nat) (t : Tok) (h2 z2 : Nat), m' (Str.ofString "deepest") = some (.int x t) ∧ Tkns w news (vs.drop i) h2 z2 ∧ max x h2 = hh) ∧
      ∀ z, z ≠ Str.ofString "child" → z ≠ Str.ofString "deepest" → m' z = List.lookup z [(Str.ofString "token", Value.ref a)].reverse) C'.hh (by assumption) (by assumption)
      ⟨rfl, rfl, ⟨0, _, hh, zz, rfl, by simpa using hts, by simp⟩, fun z _ h2 => if_neg h2⟩ hl (fun _ _ _ _ hj => hj.1 ▸ hl) ?_ ?_
    · rintro i v m₁ nw₁ g₁ h₁ tk₁ I oI hv ⟨rfl, rfl, ⟨x, t, h2, z2, hx, hts, hmax⟩, hm₁⟩ hn hlt F₁ N₁
      rw [map_one hx hm₁] at F₁
      have hdr : vs.drop i = v :: vs.drop (i + 1) := by
        obtain ⟨hi, hv⟩ := List.getElem?_eq_some_iff.mp hv
        rw [← hv]; exact List.drop_eq_getElem_cons hi
      rw [hdr] at hts
      cases hts with
      | @cons _ _ h1 z1 h2' z2' ht hr =>
      k_steps
      refine ih h1 (by omega) (cx_at C' (by omega)) (by assumption) (by assumption) (Tkn.mono (fun p hp => .tail _ hp) ht) (fun t' h'' tk'' F'' N'' => ?_)
      dsimp only
      k_steps
      refine ⟨_, _, _, _, _, rfl, by assumption, by assumption, hn, rfl, rfl, ⟨max x h1, (if (h1 : Int) > (x : Int) then t' else t), h2', z2', ?_, hr, by omega⟩, ?_⟩
      · rw [← max_cast]; exact if_pos rfl
      · intro z e1 e2
        simp only [if_neg e1, if_neg e2]
    · rintro h'' tk'' m'' nw'' g'' ⟨rfl, rfl, ⟨x, t, h2, z2, hx, hts, hmax⟩, hm₁⟩ F₁ N₁
      rw [List.drop_length] at hts
      cases hts
      rw [map_end hx hm₁] at F₁
      dsimp only
      k_steps
      have hh' : x = hh := by omega
      subst hh'
      exact ret _ _ _ (by k_asm) (by k_asm)
end

local macro_rules | `(tactic| walk_at "pad 1") => `(tactic| skip)
section
local macro_rules | `(tactic| walk_at "my step 9") => `(tactic| (k_here; (with_reducible show wpAny _ _ (subscriptTail _ _ (Value.ref _) (Value.int (_ - 4) _)) _ _ _); k_dflt (refine' item_some (its := [_, _, _]) ?N ?m ?h1 ?h0 ?h9 ?_; (case N => k_asm); (case m => k_mem); (case h1 => simp only [List.length_cons, List.length_nil]; omega); (case h0 => omega); (case h9 => simp only [List.length_cons, List.length_nil]; omega))))
set_option hygiene false in
local macro_rules | `(tactic| walk_at "subscriptTail") => `(tactic| (walk_at "my step 9"; intro v9 hv9 hv9'))

theorem tree_spec {w : World} (room : Nat) : ∀ {A : Around} {s : Shared} {h₀ : Heap} {L scr : Addr} {m : Str → Option Value} {news rest : List (Addr × Obj)} {Q E : Value → Shared → Prop}
    {b : Addr} {p st : Int} {tp ts tr : Tok},
    Cx w A h₀ L scr (room + 3) → Fr h₀ L s.heap m → News h₀ L s.heap news → Pick b (boxO scr p st tp ts) news rest →
    0 ≤ p → 0 ≤ st → st < 2147483647 →
    (∀ (v : Value) (tl : List (Addr × Obj)) (hg z : Nat) (p' : Int) (tp' : Tok) (st' : Int) (ts' : Tok) (h' : Heap) (tk' : Nat), Fr h₀ L h' m → News h₀ L h' ((b, boxO scr p' st' tp' ts') :: (tl ++ rest)) →
      0 ≤ p' → 0 ≤ st' → st' < 2147483647 → (∀ q ∈ tl, b < q.1 ∧ ∀ x ∈ rest, x.1 < q.1) → Tkn w tl v hg z → hg ≤ room → z + 1 ≤ 3 * 2 ^ room → Q v { s with heap := h', toks := tk' }) →
    wpAny (model PySem.Challenge.rw_bq5016_01.row.prog w) A (call (.ref 189) [.ref b, .int room tr]) Q E s := by
  induction room with
  | zero =>
    intro A s h₀ L scr m news rest Q E b p st tp ts tr C F N₀ P hp hst hst' ret
    have hX := C.X
    revert hX; k_fill; intro hX
    have N := news_sub N₀ P.spec.1
    have hne := P.spec.2
    clear P N₀
    refine wpAny_call ?_
    refine' enterC [(Str.ofString "box", .ref b), (Str.ofString "room", .int (0 : Nat) tr)] C F N ?k6 ?k7 ?k9 ?kB ?c2 ?c3 ?c4 ?c5 ?_
    case k6 => k_is
    case k7 => k_is
    case k9 => exact BindsTo.of_eq rfl
    case kB => exact locs rfl
    case c2 => exact rfl
    case c3 => exact rfl
    case c4 => exact rfl
    case c5 => decide
    intro g' L' h' pp lo mg mb F' N' X' T' C' lt' stay'
    clear C N
    have hA' := C'.hh
    try dsimp only
    try k_fold
    k_steps
    rename Obj.IsDictOf _ _ _ => hD
    rename News _ _ _ _ => nN
    refine ret _ [(_, _)] 0 1 p9 tp9 st9 ts9 _ _ (by assumption) (news_sub nN ?e2) hp9 hs9 hs9' ?e6 (.leaf (.head _) hD lo8 (by walk_at "my va") (Nat.le_of_ble_eq_true rfl)) (Nat.le_refl _) (by decide)
    case e2 => walk_at "my sub"
    case e6 =>
      intro q hq
      rw [List.mem_singleton.mp hq]
      have hl : b < d8 ∧ AllLt d8 rest := by assumption
      exact ⟨hl.1, ktn_ltOf hl.2⟩
  | succ room ih =>
    intro A s h₀ L scr m news rest Q E b p st tp ts tr C F N₀ P hp hst hst' ret
    have hX := C.X
    have N := news_sub N₀ P.spec.1
    have hne := P.spec.2
    clear P N₀
    refine wpAny_call ?_
    refine' enterC [(Str.ofString "box", .ref b), (Str.ofString "room", .int (room + 1 : Nat) tr)] C F N ?k6 ?k7 ?k9 ?kB ?c2 ?c3 ?c4 ?c5 ?_
    case k6 => k_is
    case k7 => k_is
    case k9 => exact BindsTo.of_eq rfl
    case kB => exact locs rfl
    case c2 => exact rfl
    case c3 => exact rfl
    case c4 => exact rfl
    case c5 => decide
    intro g' L' h' pp lo mg mb F' N' X' T' C' lt' stay'
    clear C N
    have hA' := C'.hh
    try dsimp only
    try k_fold
    k_steps
    have hpw : 1 ≤ 2 ^ room := Nat.one_le_two_pow
    have hpw' : 2 ^ (room + 1) = 2 * 2 ^ room := by rw [Nat.pow_succ]; omega
    · rename Obj.IsDictOf _ _ _ => hD
      rename News _ _ _ _ => nN
      refine ret _ [(_, _)] 0 1 p9 tp9 st9 ts9 _ _ (by assumption) (news_sub nN ?e2) hp9 hs9 hs9' ?e6 (.leaf (.head _) hD lo8 (by walk_at "my va") (Nat.le_of_ble_eq_true rfl)) (Nat.zero_le _) (by omega)
      case e2 => walk_at "my sub"
      case e6 =>
        intro q hq
        rw [List.mem_singleton.mp hq]
        have hl : b < d8 ∧ AllLt d8 rest := by assumption
        exact ⟨hl.1, ktn_ltOf hl.2⟩
    have hpw : 1 ≤ 2 ^ room := Nat.one_le_two_pow
    have hpw' : 2 ^ (room + 1) = 2 * 2 ^ room := by rw [Nat.pow_succ]; omega
    · rename Obj.IsDictOf _ _ _ => hD
      rename News _ _ _ _ => nN
      refine ret _ [(_, _)] 0 1 p9 tp9 st9 ts9 _ _ (by assumption) (news_sub nN ?e2) hp9 hs9 hs9' ?e6 (.leaf (.head _) hD lo8 (by walk_at "my va") (Nat.le_of_ble_eq_true rfl)) (Nat.zero_le _) (by omega)
      case e2 => walk_at "my sub"
      case e6 =>
        intro q hq
        rw [List.mem_singleton.mp hq]
        have hl : b < d8 ∧ AllLt d8 rest := by assumption
        exact ⟨hl.1, ktn_ltOf hl.2⟩
    have hpw : 1 ≤ 2 ^ room := Nat.one_le_two_pow
    have hpw' : 2 ^ (room + 1) = 2 * 2 ^ room := by rw [Nat.pow_succ]; omega
    · rename Obj.IsDictOf _ _ _ => hD
      rename News _ _ _ _ => nN
      rename (b < _ ∧ AllLt _ rest) => hl
      refine ret _ [_, _, _, _] 1 2 p9 tp9 st9 ts9 _ _ (by assumption) (news_rot4 nN) hp9 hs9 hs9' ?e6 (.node (.tail _ (.tail _ (.head _))) hD (by assumption) (by walk_at "my va") (.tail _ (.head _)) (.cons (.leaf (.tail _ (.tail _ (.tail _ (.head _)))) (by assumption) (by assumption) (by walk_at "my va") (Nat.le_of_ble_eq_true rfl)) .nil) (Nat.le_of_ble_eq_true rfl)) (by omega) (by omega)
      case e6 =>
        intro q hq
        simp only [List.mem_cons, List.not_mem_nil, or_false] at hq
        rcases hq with rfl | rfl | rfl | rfl <;> exact ⟨ltN (by dsimp only; omega), fun x hx => ltN (by have := ltN (ktn_ltOf hl.2 x hx); dsimp only; omega)⟩
    · rename (b < l8 ∧ AllLt l8 rest) => hl
      obtain ⟨cl, rfl⟩ : ∃ cl, cl = l8 := ⟨l8, rfl⟩
      dsimp only
      have N8 : News g' L' h9 ((b, boxO scr p9 st9 tp9 ts9) :: (cl, W.listOf #[] 0) :: ([(r9, rangeO d9 t9 td9 u9)] ++ rest)) := news_sub N9 (by walk_at "my sub")
      have hr9 : cl < r9 := ltN (by omega)
      clear N9
      refine with_map F9 (fun m0 hm0 F8 => ?_)
      clear F9
      refine iter_range (fun i m' nw' g'' => g'' = s.gens ∧ (∃ (vs : List Value) (tl : List (Addr × Obj)) (H Z k : Nat) (p st : Int) (tp ts : Tok), nw' = (b, boxO scr p st tp ts) :: (cl, (W.listOf vs.toArray k : Obj)) :: (tl ++ rest) ∧
          0 ≤ p ∧ 0 ≤ st ∧ st < 2147483647 ∧ vs.length = i ∧ (∀ q ∈ tl, cl < q.1) ∧ Tkns w tl vs H Z ∧ H ≤ room ∧ Z + i ≤ i * (3 * 2 ^ room)) ∧
        ∀ z, z ≠ Str.ofString "turn" → m' z = m0 z) hA' F8 N8
        (.tail _ (.tail _ (.head _))) (by omega) (by omega)
        ⟨rfl, ⟨[], [(r9, rangeO d9 t9 td9 u9)], 0, 0, 0, p9, st9, tp9, ts9, rfl, hp9, hs9, hs9', rfl, (fun q hq => by rw [List.mem_singleton.mp hq]; exact hr9), .nil, Nat.zero_le _, by omega⟩, fun _ _ => rfl⟩ ?_ ?_
      · rintro i t m₁ nw₁ g₁ h₁ tk₁ I oI hi ⟨rfl, ⟨vs, tl, H, Z, k, p, st, tp, ts, rfl, hp, hst, hst', hvl, htl, hts, hH, hZ⟩, hm₁⟩ hn hlt F₁ N₁
        rw [map_x hm₁] at F₁
        subst hm0
        have hIb : @Ne Nat b I := neN (hn _ (.head _))
        have hIl : @Ne Nat cl I := neN (hn _ (.tail _ (.head _)))
        have hbl : @Ne Nat b cl := Nat.ne_of_lt hl.1
        have hb' : ∀ p ∈ tl ++ rest, p.1 ≠ b := fun p hp => (List.mem_append.mp hp).elim (fun h => Nat.ne_of_gt (Nat.lt_trans hl.1 (htl p h))) (hne p)
        k_steps
        have e1 : ((room + 1 : Nat) : Int) - 1 = (room : Int) := by omega
        rw [e1]
        refine ih (rest := (I, oI) :: (cl, W.listOf vs.toArray k) :: (tl ++ rest)) (cx_at C' (by omega)) (by assumption) (by assumption) (by walk_at "my pick") hp hst hst' (fun v tl' H' Z' p' tp' st' ts' h' tk' F' N' hp' hst' hst2' htl' hT hH' hZ' => ?_)
        dsimp only
        have N9 : News g' L' h' ((I, oI) :: (b, boxO scr p' st' tp' ts') :: (cl, W.listOf vs.toArray k) :: ((tl' ++ tl) ++ rest)) := news_sub N' (sub_cons (by walk_at "my mem") (sub_cons (by walk_at "my mem") (sub_cons (by walk_at "my mem") (sub_app (sub_app (by walk_at "my atom") (by walk_at "my atom")) (by walk_at "my atom")))))
        clear N'
        have hcl : ∀ p ∈ (tl' ++ tl) ++ rest, p.1 ≠ cl := by
          intro p hp
          rcases List.mem_append.mp hp with hp | hp
          · rcases List.mem_append.mp hp with hp | hp
            · exact Nat.ne_of_gt ((htl' p hp).2 (cl, W.listOf vs.toArray k) (.tail _ (.head _)))
            · exact Nat.ne_of_gt (htl p hp)
          · exact Nat.ne_of_lt (ktn_ltOf hl.2 p hp)
        k_steps
        rw [List.push_toArray] at N9
        refine ⟨_, _, _, _, (b, boxO scr p' st' tp' ts') :: (cl, W.listOf (vs ++ [v]).toArray (k + 1)) :: ((tl' ++ tl) ++ rest), rfl, by assumption, N9, ?_, rfl, ⟨vs ++ [v], tl' ++ tl, max H H', Z + Z', k + 1, p', st', tp', ts', rfl, hp', hst', hst2', by simp [hvl], ?_,
          Tkns.snoc (Tkn.mono (fun p hp => List.mem_append_left _ hp) hT) (Tkns.mono (fun p hp => List.mem_append_right _ hp) hts), by omega, ?_⟩, ?_⟩
        · intro q hq
          rcases List.mem_cons.mp hq with rfl | hq
          · exact hIb
          · rcases List.mem_cons.mp hq with rfl | hq
            · exact hIl
            · rcases List.mem_append.mp hq with hq | hq
              · rcases List.mem_append.mp hq with hq | hq
                · exact Nat.ne_of_gt ((htl' q hq).2 (I, oI) (.head _))
                · exact hn q (.tail _ (.tail _ (List.mem_append_left _ hq)))
              · exact hn q (.tail _ (.tail _ (List.mem_append_right _ hq)))
        · intro q hq
          rcases List.mem_append.mp hq with hq | hq
          · exact (htl' q hq).2 (cl, W.listOf vs.toArray k) (.tail _ (.head _))
          · exact htl q hq
        · rw [Nat.succ_mul]; omega
        · intro z hz
          simp only [if_neg hz]
      · rintro h'' tk'' m'' nw'' g'' ⟨rfl, ⟨vs, tl, H, Z, k, p, st, tp, ts, rfl, hp, hst, hst', hvl, htl, hts, hH, hZ⟩, hm₁⟩ F₁ N₁
        rw [map_x_end hm₁] at F₁
        subst hm0
        have F9 : Fr g' L' h'' _ := F₁
        have N9 : News g' L' h'' _ := N₁
        have hbl : @Ne Nat b cl := Nat.ne_of_lt hl.1
        have hb' : ∀ p ∈ tl ++ rest, p.1 ≠ b := fun p hp => (List.mem_append.mp hp).elim (fun h => Nat.ne_of_gt (Nat.lt_trans hl.1 (htl p h))) (hne p)
        clear F₁ N₁
        have hl9 := hl
        have hr9 : ∀ p ∈ rest, @LT.lt Nat _ p.1 cl := fun p hp => ktn_ltOf hl.2 p hp
        have hk9 : (cl, (W.listOf vs.toArray k : Obj)) ∈ (cl, (W.listOf vs.toArray k : Obj)) :: tl := .head _
        k_steps
        rename Obj.IsDictOf _ _ _ => hD
        rename News _ _ _ _ => nN
        have hpw : 1 ≤ 2 ^ room := Nat.one_le_two_pow
        have hpw' : 2 ^ (room + 1) = 2 * 2 ^ room := by rw [Nat.pow_succ]; omega
        refine ret (.ref d8) ((d8, o8) :: (cl, W.listOf vs.toArray k) :: tl) (H + 1) (Z + 1) p tp st ts _ _ (by assumption) (news_sub nN (by walk_at "my sub")) hp hst hst' ?e6 (.node (.head _) hD lo8 (by walk_at "my va") (.tail _ (.head _)) (Tkns.mono (fun p hp => .tail _ (.tail _ hp)) hts) (Nat.le_of_ble_eq_true rfl)) (by omega) ?e7
        case e6 =>
          intro q hq
          rcases List.mem_cons.mp hq with rfl | hq
          · exact ⟨ltN (by dsimp only; omega), fun x hx => ltN (by have := hr9 x hx; dsimp only; omega)⟩
          · rcases List.mem_cons.mp hq with rfl | hq
            · exact ⟨hl.1, fun x hx => hr9 x hx⟩
            · have h1 := ltN (htl q hq)
              exact ⟨ltN (by omega), fun x hx => ltN (by have := hr9 x hx; omega)⟩
        case e7 =>
          have h3 : d9.toNat = 0 ∨ d9.toNat = 1 ∨ d9.toNat = 2 := by omega
          rcases h3 with h3 | h3 | h3 <;> rw [h3] at hZ <;> omega

theorem tree_use {w : World} (room : Nat) (ri : Int) (hri : ri = room) {A : Around} {s : Shared} {h₀ : Heap} {L scr : Addr} {m : Str → Option Value} {news rest : List (Addr × Obj)} {Q E : Value → Shared → Prop}
    {b : Addr} {p st : Int} {tp ts tr : Tok}
    (C : Cx w A h₀ L scr (room + 3)) (F : Fr h₀ L s.heap m) (N : News h₀ L s.heap news) (P : Pick b (boxO scr p st tp ts) news rest) (hp : 0 ≤ p) (hst : 0 ≤ st) (hst' : st < 2147483647)
    (ret : ∀ (v : Value) (tl : List (Addr × Obj)) (hg z : Nat) (p' : Int) (tp' : Tok) (st' : Int) (ts' : Tok) (h' : Heap) (tk' : Nat), Fr h₀ L h' m → News h₀ L h' ((b, boxO scr p' st' tp' ts') :: (tl ++ rest)) →
      0 ≤ p' → 0 ≤ st' → st' < 2147483647 → (∀ q ∈ tl, b < q.1 ∧ ∀ x ∈ rest, x.1 < q.1) → Tkn w tl v hg z → hg ≤ room → z + 1 ≤ 3 * 2 ^ room → Q v { s with heap := h', toks := tk' }) :
    wpAny (model PySem.Challenge.rw_bq5016_01.row.prog w) A (call (.ref 189) [.ref b, .int ri tr]) Q E s := by
  subst hri
  exact tree_spec room C F N P hp hst hst' ret
end
local macro_rules | `(tactic| walk_at "my step 10") => `(tactic| (k_here; (with_reducible show wpAny _ _ (call (Value.ref 189) _) _ _ _); k_dflt ((first | refine' tree_use 4 4 rfl ?C ?F ?N ?P ?p1 ?p2 ?p3 ?_ | refine' tree_use 3 3 rfl ?C ?F ?N ?P ?p1 ?p2 ?p3 ?_); (case C => walk_at "my cx"); (case F => k_asm); (case N => k_asm); (case P => walk_at "my pick"); (case p1 => omega); (case p2 => omega); (case p3 => omega); k_whole)))
set_option hygiene false in
local macro_rules | `(tactic| walk_at "call ref") => `(tactic| (walk_at "my step 10"; intro v9 tl9 hg9 z9 p9 tp9 st9 ts9 h9 tk9 F9 N9 hp9 hs9 hs9' hf9 hT9 hh9 hz9; (try k_sweep)))
local macro_rules | `(tactic| walk_at "pad 2") => `(tactic| skip)
section
/-- a model's entries -/
abbrev mdlOf (src : Value) (tl ml : Addr) (d : Value) (bl e : Addr) (kept seen : Value) : List (Str × Value) :=
  [(Str.ofString "src", src), (Str.ofString "tokens", .ref tl), (Str.ofString "marks", .ref ml), (Str.ofString "depth", d), (Str.ofString "brackets", .ref bl), (Str.ofString "env", .ref e), (Str.ofString "kept", kept), (Str.ofString "seen", seen)]
/-- a model, new -/
theorem made_spec {w : World} {A : Around} {s : Shared} {h₀ : Heap} {L scr : Addr} {m : Str → Option Value} {news : List (Addr × Obj)} {Q E : Value → Shared → Prop}
    {e ml : Addr} {d : Int} {td : Tok}
    (C : Cx w A h₀ L scr 1) (F : Fr h₀ L s.heap m) (N : News h₀ L s.heap news)
    (ret : ∀ (md mtl mbl : Addr) (o : Obj) (t1 : Tok) (h' : Heap) (tk' : Nat), Fr h₀ L h' m → News h₀ L h' ((mbl, W.listOf #[] 0) :: (mtl, W.listOf #[] 0) :: (md, o) :: news) →
      (md == sysModules) = false → o.IsDictOf (PySem.strKind PR w) (mdlOf (.str (Str.ofString "") t1) mtl ml (.int d td) mbl e .none .none) →
      (∀ x ∈ news, x.1 < md) → md < mtl → mtl < mbl → Q (.ref md) { s with heap := h', toks := tk' }) :
    wpAny (model PySem.Challenge.rw_bq5016_01.row.prog w) A (call (.ref 203) [.ref e, .ref ml, .int d td]) Q E s := by
  have hX := C.X
  revert hX; k_fill; intro hX
  refine wpAny_call ?_
  refine' enterC [(Str.ofString "env", .ref e), (Str.ofString "marks", .ref ml), (Str.ofString "depth", .int d td)] C F N ?k6 ?k7 ?k9 ?kB ?c2 ?c3 ?c4 ?c5 ?_
  case k6 => k_is
  case k7 => k_is
  case k9 => exact BindsTo.of_eq rfl
  case kB => exact locs rfl
  case c2 => exact rfl
  case c3 => exact rfl
  case c4 => exact rfl
  case c5 => decide
  intro g' L' h' pp lo mg mb F' N' X' T' C' lt' st'
  clear C N
  have hA' := C'.hh
  try dsimp only
  try k_fold
  k_steps
  rename News _ _ _ _ => nN
  rename Obj.IsDictOf _ _ _ => hD
  rename (_ < _ ∧ _ < _ ∧ AllLt _ news) => hb
  rename (d8 < _ ∧ AllLt _ news) => ha
  exact ret d8 _ _ _ _ _ _ (by assumption) nN lo8 hD (by assumption) ha.1 hb.1
end
local macro_rules | `(tactic| walk_at "my step 11") => `(tactic| (k_here; (with_reducible show wpAny _ _ (call (Value.ref 203) _) _ _ _); k_dflt (refine' made_spec ?C ?F ?N ?_; (case C => walk_at "my cx"); (case F => k_asm); (case N => k_asm); k_whole)))
set_option hygiene false in
local macro_rules | `(tactic| walk_at "call ref") => `(tactic| (walk_at "my step 11"; intro md9 mtl9 mbl9 mo9 mt9 h9 tk9 F9 N9 lo9 hM9 hl9 hl9' hl9''; (try k_lt hl9); (try k_lt2 hl9'); (try k_lt2 hl9''); (try k_sweep)))
section
theorem Cx.make {w : World} {A : Around} {h₀ : Heap} {L scr : Addr} {n : Nat} (C : Cx w A h₀ L scr (n + 1)) {B : Addr} {vals : List Value} {kw : List (Str × Value)} : Cx w (A.under (.builtin "type.__call__" ⟨.ref B :: vals, kw⟩)) h₀ L scr n :=
  C.onto rfl rfl (Nat.le_refl _) (show A.units + 1 ≤ A.units + 10 by omega)

/-- the names' marks of a state's table -/
structure Kt where
  (k1 k2 k3 k4 k5 k6 k7 k8 k9 : Tok)
abbrev slot (w : World) (n : Str) (k : Tok) (v : Value) : DictEntry := { hash := PyData.keyHash w.params n, key := .str n k, val := v }
/-- a state's table -/
abbrev stO (w : World) (K : Kt) (e : Addr) (src : Value) (tl : Addr) (im dep lk : Value) (bl : Addr) (dl : Value) : Obj :=
  dictOf [slot w (Str.ofString "env") K.k1 (.ref e), slot w (Str.ofString "src") K.k2 src, slot w (Str.ofString "tokens") K.k3 (.ref tl), slot w (Str.ofString "in_image") K.k4 im, slot w (Str.ofString "depth") K.k5 dep,
    slot w (Str.ofString "in_link") K.k6 lk, slot w (Str.ofString "brackets") K.k7 (.ref bl), slot w (Str.ofString "last_link") K.k8 .none, slot w (Str.ofString "_delimiters") K.k9 dl] 9
/-- a state, new -/
theorem new_state {w : World} {A : Around} {s : Shared} {h₀ : Heap} {L scr : Addr} {m : Str → Option Value} {news : List (Addr × Obj)} {Q E : Value → Shared → Prop}
    {e : Addr}
    (C : Cx w A h₀ L scr 2) (F : Fr h₀ L s.heap m) (N : News h₀ L s.heap news)
    (ret : ∀ (x dx tl bl : Addr) (K : Kt) (ts td : Tok) (h' : Heap) (tk' : Nat), Fr h₀ L h' m → News h₀ L h' ((bl, W.listOf #[] 0) :: (tl, W.listOf #[] 0) :: (x, instObj 103 dx) :: (dx, stO w K e (.str (Str.ofString "") ts) tl (.bool false) (.int 0 td) (.bool false) bl .none) :: news) →
      (∀ p ∈ news, p.1 < dx) → dx < x → x < tl → tl < bl → Q (.ref x) { s with heap := h', toks := tk' }) :
    wpAny (model PySem.Challenge.rw_bq5016_01.row.prog w) A (call (.ref 103) [.ref e]) Q E s := by
  have hX := C.X
  revert hX; k_fill; intro hX
  refine' call_cls ?k1 ?k2 ?k3 ?k4 ?k5 ?k6 ?_
  case k1 => k_asm
  case k2 => k_asm
  case k3 => k_asm
  case k4 => k_is
  case k5 => k_is
  case k6 => k_is
  intro x' d' h' F' N' l1 l2
  clear F N
  try k_lt l1
  try k_lt2 l2
  refine' enterC [(Str.ofString "self", .ref x'), (Str.ofString "env", .ref e)] C.make F' N' ?k6 ?k7 ?k9 ?kB ?c2 ?c3 ?c4 ?c5 ?_
  case k6 => k_is
  case k7 => k_is
  case k9 => exact BindsTo.of_eq rfl
  case kB => exact locs rfl
  case c2 => exact rfl
  case c3 => exact rfl
  case c4 => exact rfl
  case c5 => decide
  intro g' L' h' pp lo mg mb F' N' X' T' C' lt' st'
  clear C
  have hA' := C'.hh
  try dsimp only
  try k_fold
  k_steps
  rename News h₀ _ _ _ => nN
  rename (_ < _ ∧ _ < _ ∧ _ < _ ∧ AllLt _ news) => hb
  rename (_ < _ ∧ _ < _ ∧ AllLt _ news) => ha
  exact ret x' d' _ _ ⟨_, _, _, _, _, _, _, _, _⟩ _ _ _ _ (by assumption) nN (by assumption) l2 ha.1 hb.1
end
local macro_rules | `(tactic| walk_at "my step 12") => `(tactic| (k_here; (with_reducible show wpAny _ _ (call (Value.ref 103) _) _ _ _); k_dflt (refine' new_state ?C ?F ?N ?_; (case C => walk_at "my cx"); (case F => k_asm); (case N => k_asm); k_whole)))
set_option hygiene false in
local macro_rules | `(tactic| walk_at "call ref") => `(tactic| (walk_at "my step 12"; intro x9 dx9 tl9 bl9 K9 ts9 td9 h9 tk9 F9 N9 hl9 hl9' hl9'' hl9'''; (try k_lt hl9); (try k_lt2 hl9'); (try k_lt2 hl9''); (try k_lt2 hl9'''); (try k_sweep)))
section
/-- a scanner, new -/
structure Ks where
  (k1 k2 k3 : Tok)
abbrev scO (w : World) (K : Ks) (src : Value) (ends : Addr) : Obj := dictOf [slot w (Str.ofString "src") K.k1 src, slot w (Str.ofString "_code") K.k2 .none, slot w (Str.ofString "_ends") K.k3 (.ref ends)] 3
theorem new_scanner {w : World} {A : Around} {s : Shared} {h₀ : Heap} {L scr : Addr} {m : Str → Option Value} {news : List (Addr × Obj)} {Q E : Value → Shared → Prop}
    {src : Str} {t : Tok}
    (C : Cx w A h₀ L scr 2) (F : Fr h₀ L s.heap m) (N : News h₀ L s.heap news)
    (ret : ∀ (x dx en : Addr) (oe : Obj) (K : Ks) (h' : Heap) (tk' : Nat), Fr h₀ L h' m → News h₀ L h' ((en, oe) :: (x, instObj 53 dx) :: (dx, scO w K (.str src t) en) :: news) →
      (∀ p ∈ news, p.1 < dx) → dx < x → x < en → Q (.ref x) { s with heap := h', toks := tk' }) :
    wpAny (model PySem.Challenge.rw_bq5016_01.row.prog w) A (call (.ref 53) [.str src t]) Q E s := by
  have hX := C.X
  revert hX; k_fill; intro hX
  refine' call_cls ?k1 ?k2 ?k3 ?k4 ?k5 ?k6 ?_
  case k1 => k_asm
  case k2 => k_asm
  case k3 => k_asm
  case k4 => k_is
  case k5 => k_is
  case k6 => k_is
  intro x' d' h' F' N' l1 l2
  clear F N
  try k_lt l1
  try k_lt2 l2
  refine' enterC [(Str.ofString "self", .ref x'), (Str.ofString "src", .str src t)] C.make F' N' ?k6 ?k7 ?k9 ?kB ?c2 ?c3 ?c4 ?c5 ?_
  case k6 => k_is
  case k7 => k_is
  case k9 => exact BindsTo.of_eq rfl
  case kB => exact locs rfl
  case c2 => exact rfl
  case c3 => exact rfl
  case c4 => exact rfl
  case c5 => decide
  intro g' L' h' pp lo mg mb F' N' X' T' C' lt' st'
  clear C
  have hA' := C'.hh
  try dsimp only
  try k_fold
  k_steps
  rename News h₀ _ _ _ => nN
  rename (_ < _ ∧ _ < _ ∧ AllLt _ news) => ha
  exact ret x' d' _ _ ⟨_, _, _⟩ _ _ (by assumption) nN (by assumption) l2 ha.1
/-- a bracket, new -/
structure Kb where
  (k1 k2 k3 k4 k5 k6 k7 : Tok)
abbrev brO (w : World) (K : Kb) (a b im pl ac ne cd : Value) : Obj := dictOf [slot w (Str.ofString "start") K.k1 a, slot w (Str.ofString "token_index") K.k2 b, slot w (Str.ofString "image") K.k3 im, slot w (Str.ofString "previous_link") K.k4 pl, slot w (Str.ofString "active") K.k5 ac, slot w (Str.ofString "nested") K.k6 ne, slot w (Str.ofString "child_depth") K.k7 cd] 7
theorem new_bracket {w : World} {A : Around} {s : Shared} {h₀ : Heap} {L scr : Addr} {m : Str → Option Value} {news : List (Addr × Obj)} {Q E : Value → Shared → Prop}
    {im : Bool} {t1 t2 : Tok}
    (C : Cx w A h₀ L scr 2) (F : Fr h₀ L s.heap m) (N : News h₀ L s.heap news)
    (ret : ∀ (x dx : Addr) (K : Kb) (td : Tok) (h' : Heap) (tk' : Nat), Fr h₀ L h' m → News h₀ L h' ((x, instObj 163 dx) :: (dx, brO w K (.int 0 t1) (.int 0 t2) (.bool im) .none (.bool true) (.bool false) (.int 0 td)) :: news) →
      (∀ p ∈ news, p.1 < dx) → dx < x → Q (.ref x) { s with heap := h', toks := tk' }) :
    wpAny (model PySem.Challenge.rw_bq5016_01.row.prog w) A (call (.ref 163) [.int 0 t1, .int 0 t2, .bool im]) Q E s := by
  have hX := C.X
  revert hX; k_fill; intro hX
  refine' call_cls ?k1 ?k2 ?k3 ?k4 ?k5 ?k6 ?_
  case k1 => k_asm
  case k2 => k_asm
  case k3 => k_asm
  case k4 => k_is
  case k5 => k_is
  case k6 => k_is
  intro x' d' h' F' N' l1 l2
  clear F N
  try k_lt l1
  try k_lt2 l2
  refine' enterC _ C.make F' N' ?k6 ?k7 ?k9 ?kB ?c2 ?c3 ?c4 ?c5 ?_
  case k6 => k_is
  case k7 => k_is
  case k9 =>
    refine' binds_K (hX.keeps F'.keep) ?b1 ?b2 ?b3 ?b4 ?b5
    case b1 => exact rfl
    case b2 => k_is
    case b3 => exact rfl
    case b4 => exact rfl
    case b5 => exact rfl
  case kB => exact locs rfl
  case c2 => exact rfl
  case c3 => exact rfl
  case c4 => exact rfl
  case c5 => decide
  intro g' L' h' pp lo mg mb F' N' X' T' C' lt' st'
  clear C
  have hA' := C'.hh
  try dsimp only
  try k_fold
  k_steps
  rename News h₀ _ _ _ => nN
  exact ret x' d' ⟨_, _, _, _, _, _, _⟩ _ _ _ (by assumption) nN (by assumption) l2
end
local macro_rules | `(tactic| walk_at "my step 13") => `(tactic| (k_here; (with_reducible show wpAny _ _ (call (Value.ref 53) _) _ _ _); k_dflt (refine' new_scanner ?C ?F ?N ?_; (case C => walk_at "my cx"); (case F => k_asm); (case N => k_asm); k_whole)))
set_option hygiene false in
local macro_rules | `(tactic| walk_at "call ref") => `(tactic| (walk_at "my step 13"; intro x9 dx9 en9 oe9 K9 h9 tk9 F9 N9 hl9 hl9' hl9''; (try k_lt hl9); (try k_lt2 hl9'); (try k_lt2 hl9''); (try k_sweep)))
local macro_rules | `(tactic| walk_at "my step 14") => `(tactic| (k_here; (with_reducible show wpAny _ _ (call (Value.ref 163) _) _ _ _); k_dflt (refine' new_bracket ?C ?F ?N ?_; (case C => walk_at "my cx"); (case F => k_asm); (case N => k_asm); k_whole)))
set_option hygiene false in
local macro_rules | `(tactic| walk_at "call ref") => `(tactic| (walk_at "my step 14"; intro x9 dx9 K9 td9 h9 tk9 F9 N9 hl9 hl9'; (try k_lt hl9); (try k_lt2 hl9'); (try k_sweep)))
section
theorem news_dup {h₀ h : Heap} {L : Addr} {l : List (Addr × Obj)} {p : Addr × Obj} (N : News h₀ L h l) (hm : p ∈ l) : News h₀ L h (p :: l) := fun q hq => (List.mem_cons.mp hq).elim (fun e => e ▸ N p hm) (N q)

/-- a state's copy -/
theorem copy_spec {w : World} {A : Around} {s : Shared} {h₀ : Heap} {L scr : Addr} {m : Str → Option Value} {news : List (Addr × Obj)} {Q E : Value → Shared → Prop}
    {x dx e tl bl : Addr} {K : Kt} {src dl : Value} {im lk : Bool} {d : Int} {td : Tok}
    (C : Cx w A h₀ L scr 3) (F : Fr h₀ L s.heap m) (N₀ : News h₀ L s.heap news) (hx : (x, instObj 103 dx) ∈ news) (hdx : (dx, stO w K e src tl (.bool im) (.int d td) (.bool lk) bl dl) ∈ news)
    (ret : ∀ (x' dx' tl' bl' : Addr) (K' : Kt) (ts' td' : Tok) (h' : Heap) (tk' : Nat), Fr h₀ L h' m → News h₀ L h' ((bl', W.listOf #[] 0) :: (tl', W.listOf #[] 0) :: (x', instObj 103 dx') :: (dx', stO w K' e (.str (Str.ofString "") ts') tl' (.bool im) (.int (d + 1) td') (.bool lk) bl' .none) :: news) →
      (∀ p ∈ news, p.1 < dx') → dx' < x' → x' < tl' → tl' < bl' → Q (.ref x') { s with heap := h', toks := tk' }) :
    wpAny (model PySem.Challenge.rw_bq5016_01.row.prog w) A (call (.ref 92) [.ref x]) Q E s := by
  have hX := C.X
  revert hX; k_fill; intro hX
  have N := news_dup (news_dup N₀ hdx) (List.mem_cons_of_mem _ hx)
  refine wpAny_call ?_
  refine' enterC [(Str.ofString "self", .ref x)] C F N ?k6 ?k7 ?k9 ?kB ?c2 ?c3 ?c4 ?c5 ?_
  case k6 => k_is
  case k7 => k_is
  case k9 => exact BindsTo.of_eq rfl
  case kB => exact locs rfl
  case c2 => exact rfl
  case c3 => exact rfl
  case c4 => exact rfl
  case c5 => decide
  intro g' L' h' pp lo mg mb F' N' X' T' C' lt' st'
  clear C N N₀
  have hA' := C'.hh
  try dsimp only
  try k_fold
  k_steps
  rename News h₀ _ _ _ => nN
  exact ret x9 dx9 tl9 bl9 ⟨_, _, _, _, _, _, _, _, _⟩ _ _ _ _ (by assumption) (news_sub nN (by walk_at "my sub")) (ktn_ltOf hl9.2.2) hl9' hl9'' hl9'''
end
local macro_rules | `(tactic| walk_at "my step 15") => `(tactic| (k_here; (with_reducible show wpAny _ _ (call (Value.ref 92) _) _ _ _); k_dflt (refine' copy_spec ?C ?F ?N ?a ?b ?_; (case C => walk_at "my cx"); (case F => k_asm); (case N => k_asm); (case a => k_mem); (case b => k_mem); k_whole)))
set_option hygiene false in
local macro_rules | `(tactic| walk_at "call ref") => `(tactic| (walk_at "my step 15"; intro x9 dx9 tl9 bl9 K9 ts9 td9 h9 tk9 F9 N9 hl9 hl9' hl9'' hl9'''; (try k_lt hl9); (try k_lt2 hl9'); (try k_lt2 hl9''); (try k_lt2 hl9'''); (try k_sweep)))
section
/-- two values are equal, here -/
def SameAt (w : World) (A : Around) (s : Shared) (a b : Value) : Prop := ∀ (E : Value → Shared → Prop) (Q : Bool → Shared → Prop), Q true s → wpAny (model PR w) A (eqBool a b) Q E s

theorem SameAt.of {w : World} {A : Around} {s : Shared} {a b : Value} (h : SeqAt.EqAt A s a b true) : SameAt w A s a b := fun E Q hq => h PR w E Q hq

theorem value_own {kvs : List (Str × Value)} (nd : (kvs.map (·.1)).Nodup) : ∀ p ∈ kvs, valueAt kvs p.1 = some p.2 := by
  induction kvs with
  | nil => intro p hp; cases hp
  | cons q r ih =>
    intro p hp
    rw [List.map_cons, List.nodup_cons] at nd
    rcases List.mem_cons.mp hp with rfl | hp
    · simp [valueAt]
    · have hne : q.1 ≠ p.1 := fun e => nd.1 (e ▸ List.mem_map_of_mem hp)
      have := ih nd.2 p hp
      simpa [valueAt, hne] using this
theorem hits_own {A : Around} {s : Shared} {kvs : List (Str × Value)} (nd : (kvs.map (·.1)).Nodup) : KeqHits A s kvs kvs true := by
  have hits : ∀ l : List (Str × Value), (∀ p ∈ l, valueAt kvs p.1 = some p.2) → KeqHits A s kvs l true := by
    intro l
    induction l with
    | nil => intro _; exact .nil
    | cons p r ih =>
      intro hp
      have := KeqHits.hit (hp p (.head _)) (SeqAt.EqAt.same (A := A) (s := s) p.2) (ih fun q hq => hp q (.tail _ hq))
      simpa using this
  exact hits _ (value_own nd)
theorem dict_hits {w : World} {A : Around} {s : Shared} {o : Obj} {kvs : List (Str × Value)} (d : o.IsDictOf (PySem.strKind PR w) kvs) : KeqHits A s kvs kvs true := by
  obtain ⟨_, _, _, _, _, _, nd⟩ := d
  exact hits_own nd
theorem same_dicts {w : World} {A : Around} {s : Shared} {a b : Addr} {kvs : List (Str × Value)} (ha : (a == sysModules) = false) (hb : (b == sysModules) = false)
    (da : s.heap.DictOf (PySem.strKind PR w) a kvs) (db : s.heap.DictOf (PySem.strKind PR w) b kvs) (hu : A.units < cLine) : SameAt w A s (.ref a) (.ref b) := fun E Q hq => by
  by_cases hab : a = b
  · subst hab; exact SeqAt.EqAt.same _ PR w E Q hq
  unfold eqBool
  refine wpAny_holding ?_
  refine wpAny_ite_split (fun hab' => absurd (by have := eq_of_beq hab'; injection this) hab) (fun _ => ?_)
  refine wpAny_bind ?_
  refine keq_eq ha hb da db hu (fun _ => hits_own (by obtain ⟨_, _, _, _, _, _, _, _, nd⟩ := da; exact nd)) ?_
  rw [beq_self_eq_true, Bool.true_and]
  exact wpAny_truthy_bool hq

section
open SeqAt AutoSeq1 MeetsSeq MeetsSeq2 MeetsSeq3
theorem ne_turns {w : World} (l b : Addr) (xs ys : Array Value) (n n2 : Nat) (hsz : xs.size = ys.size) (k : Nat) : ∀ i : Nat, xs.size - i = k → MeetsIn PR w (Builtin.«list.__eq__.loop» ⟨[.ref l, .ref b, rawInt i, rawInt 3], []⟩)
    (fun A R s => s.heap.get? l = some { cls := .type "list", data := .seq xs n } ∧ s.heap.get? b = some { cls := .type "list", data := .seq ys n2 } ∧
      (∀ j (h1 : j < xs.size) (h2 : j < ys.size), SameAt w A.in1 s xs[j] ys[j]) ∧ R (.ok (.ret (.bool false))) s) := by
  induction k with
  | zero =>
    intro i hk A R s h
    obtain ⟨hp, g, d, tk, os⟩ := s; obtain ⟨hl, hb, he, h⟩ := h
    wp_walk using wpAny_loadPart' hl, wpAny_loadPart' hb
    rw [show xs[((i : Nat) : Int).toNat]? = none by simp; omega, show ys[((i : Nat) : Int).toNat]? = none by simp; omega]
    wp_walk using wpAny_loadPart' hl, wpAny_loadPart' hb
    show R (.ok (.ret (.bool (xs.size != ys.size)))) _
    rw [hsz]
    simpa using h
  | succ k ih =>
    intro i hk A R s h
    obtain ⟨hp, g, d, tk, os⟩ := s; obtain ⟨hl, hb, he, h⟩ := h
    wp_walk using wpAny_loadPart' hl, wpAny_loadPart' hb
    have h1 : i < xs.size := by omega
    have h2 : i < ys.size := by omega
    rw [show xs[((i : Nat) : Int).toNat]? = some xs[i] by simp [h1], show ys[((i : Nat) : Int).toNat]? = some ys[i] by simp [h2]]
    refine wpAny_bind (he i h1 h2 _ _ ?_)
    wp_walk
    rw [show ((i : Int) + 1) = ((i + 1 : Nat) : Int) by push_cast; rfl]
    exact ⟨plainId_quiet plain_eq_loop _, codeAny_builtin entry_eq_loop (by
      rw [Around.under_plainId plain_eq_loop _]
      exact ih (i + 1) (by omega) A R _ ⟨hl, hb, he, h⟩)⟩

theorem ne_lists {w : World} {A : Around} {s : Shared} {E Q : Value → Shared → Prop} {l b : Addr} {xs ys : List Value} {n n2 : Nat} (hl : s.heap.get? l = some (W.listOf xs.toArray n)) (hb : s.heap.get? b = some (W.listOf ys.toArray n2))
    (hsz : xs.length = ys.length) (hu : A.units < cLine) (he : ∀ j (h1 : j < xs.length) (h2 : j < ys.length), SameAt w A.in1 s xs[j] ys[j]) (h : Q (.bool false) s) :
    wpAny (model PR w) A (compareOp .NotEq (.ref l) (.ref b)) Q E s := by
  have main : MeetsIn PR w (Builtin.«list.__ne__» ⟨[.ref l, .ref b], []⟩)
      (fun A R s => s.heap.get? l = some (W.listOf xs.toArray n) ∧ s.heap.get? b = some (W.listOf ys.toArray n2) ∧ (∀ j (h1 : j < xs.length) (h2 : j < ys.length), SameAt w A.in1 s xs[j] ys[j]) ∧ R (.ok (.ret (.bool false))) s) := by
    intro A R s h
    obtain ⟨hp, g, d, tk, os⟩ := s; obtain ⟨hl, hb, he, h⟩ := h
    have f3 := AutoSeq1.sub_list_list
    have hne : ¬ (xs.toArray.size != ys.toArray.size) = true := by simp [hsz]
    wp_walk using wpAny_loadPart' hl, wpAny_loadPart' hb
    exact ⟨plainId_quiet plain_eq_loop _, codeAny_builtin entry_eq_loop (by
      rw [Around.under_plainId plain_eq_loop _]
      exact ne_turns l b xs.toArray ys.toArray n n2 (by simpa using hsz) _ 0 rfl A R _ ⟨hl, hb, fun j h1 h2 => by simpa using he j (by simpa using h1) (by simpa using h2), h⟩)⟩
  exact wpAny_richCompare_same_room (op := .NotEq) ⟨_, hl, rfl⟩ ⟨_, hb, rfl⟩ F.slot_list_ne (call_meetsIn F.slot_list_ne ⟨_, hl, rfl⟩ F.entry_list_ne (F.args_list_ne_2 _ _) main ⟨hl, hb, he, show Value.bool false ≠ Value.notImplemented ∧ Q (.bool false) s from ⟨(fun x => nomatch x), h⟩⟩) hu
end

theorem ne_str_same {w : World} {A : Around} {s : Shared} {E Q : Value → Shared → Prop} {a : Str} {t u : Tok} (h : Q (.bool false) s) : wpAny (model PR w) A (compareOp .NotEq (.str a t) (.str a u)) Q E s :=
  SeqAt.RcNeAt.str_str a t a u PR w E Q (by simpa using h)
theorem ne_int_same {w : World} {A : Around} {s : Shared} {E Q : Value → Shared → Prop} {a : Int} {t u : Tok} (h : Q (.bool false) s) : wpAny (model PR w) A (compareOp .NotEq (.int a t) (.int a u)) Q E s :=
  SeqAt.RcNeAt.int_int a t a u PR w E Q (by simpa using h)
/-- two objects are to be compared: the walk stops here -/
structure AtCmp (w : World) (A : Around) (op : CmpOp) (a b : Addr) (Q E : Value → Shared → Prop) (s : Shared) : Prop where
  go : wpAny (model PR w) A (compareOp op (.ref a) (.ref b)) Q E s

theorem ne_dicts {w : World} {A : Around} {s : Shared} {E Q : Value → Shared → Prop} {h₀ : Heap} {L a b : Addr} {news : List (Addr × Obj)} {oa ob : Obj} {kvs : List (Str × Value)} (N : News h₀ L s.heap news) (ma : (a, oa) ∈ news) (mb : (b, ob) ∈ news)
    (da : oa.IsDictOf (PySem.strKind PR w) kvs) (db : ob.IsDictOf (PySem.strKind PR w) kvs) (ha : (a == sysModules) = false) (hb : (b == sysModules) = false) (hu : A.units < cLine) (h : Q (.bool false) s) :
    wpAny (model PR w) A (compareOp .NotEq (.ref a) (.ref b)) Q E s := by
  refine keq_ne ha hb (Heap.dictOf_iff.mpr ⟨oa, (N _ ma).1, da⟩) (Heap.dictOf_iff.mpr ⟨ob, (N _ mb).1, db⟩) hu (fun _ => dict_hits da) ?_
  rw [beq_self_eq_true, Bool.true_and]; exact h

/-- a comprehension's source is at hand: the walk stops here -/
structure AtSrc (w : World) (A : Around) (h₀ : Heap) (L : Addr) (m : Str → Option Value) (env : Env) (elt : Expr) (x : Str) (scope : Scope) (cl : List (Str × Addr)) (Fin : Shared → List Value → List (Addr × Obj) → Prop) (xv : Value) (s : Shared) : Prop where
  go : LCg.CompSrc PR w A h₀ L m env elt x scope cl Fin xv s
section
variable {w : World} {A : Around} {s : Shared} {h₀ : Heap} {L : Addr} {m : Str → Option Value} {env : Env} {E : Value → Shared → Prop}
theorem comp_rule {elt iter : Expr} {x : Str} {px : Pos} {scope : Scope} {cl : List (Str × Addr)} {pos : Pos} {Q : Value → Shared → Prop} (F₀ : Fr h₀ L s.heap m)
    (hclos : closureFor scope env = pure cl) (hcell : ∀ y ∈ scope.names, y.2 ≠ .cell) (hkind : scope.kind = .function)
    (hnames : ∀ y ∈ scope.names, y.2 = .local → scope.names.lookup y.1 = some .local) (hx : scope.names.lookup x = some .local)
    (h : wpAny (model PR w) A (eval iter env) (AtSrc w A h₀ L m env elt x scope cl (fun s₂ => LCg.FinE h₀ L m s₂ Q)) E s)
    (hs : ∀ x, foldedSetIterable iter env x = pure x := by intro _; rfl) :
    wpAny (model PR w) A (eval (.ListComp elt [⟨.Name x px, iter, [], 0⟩] scope pos) env) Q E s :=
  LCg.ListComp_U F₀ hclos hcell hkind hnames hx (wpAny_mono h (fun _ _ a => a.go) fun _ _ e => e) hs
theorem comp_assign {elt iter : Expr} {x y : Str} {px py : Pos} {scope : Scope} {cl : List (Str × Addr)} {pos spos : Pos} {Q : Flow → Shared → Prop} (F₀ : Fr h₀ L s.heap m) (hLe : env.locals = L)
    (hsw : swapsWith (.ListComp elt [⟨.Name x px, iter, [], 0⟩] scope pos) (some (.Name y py)) spos.line env = pure true)
    (hclos : closureFor scope env = pure cl) (hcell : ∀ z ∈ scope.names, z.2 ≠ .cell) (hkind : scope.kind = .function)
    (hnames : ∀ z ∈ scope.names, z.2 = .local → scope.names.lookup z.1 = some .local) (hx : scope.names.lookup x = some .local)
    (hy : env.kindOf y = some .local) (hp : (env.scope.kind == .class || (env.scope.kind == .module && env.locals != env.globals)) = false)
    (h : wpAny (model PR w) A (eval iter env) (AtSrc w A h₀ L m env elt x scope cl (fun s₂ => LCg.FinA h₀ L m s₂ y Q)) E s)
    (hs : ∀ x, foldedSetIterable iter env x = pure x := by intro _; rfl) :
    wpAny (model PR w) A (exec (.Assign [.Name y py] (.ListComp elt [⟨.Name x px, iter, [], 0⟩] scope pos) spos) env) Q E s :=
  LCg.Assign_ListComp_U F₀ hLe hsw hclos hcell hkind hnames hx hy hp (wpAny_mono h (fun _ _ a => a.go) fun _ _ e => e) hs
end
end
local macro_rules | `(tactic| walk_at "eval ListComp") => `(tactic| (k_here; k_dflt (refine comp_rule (by k_asm) (by with_unfolding_all rfl) (by decide) (by rfl) (by decide) (by rfl) ?_)))
local macro_rules | `(tactic| walk_at "exec Assign cons ListComp") => `(tactic| (k_here; k_dflt (refine comp_assign (by k_asm) (by rfl) (by with_unfolding_all rfl) (by with_unfolding_all rfl) (by decide) (by rfl) (by decide) (by rfl) (by rfl) (by rfl) ?_)))
local macro_rules | `(tactic| walk_at "compareOp NotEq str str") => `(tactic| (k_here; refine ne_str_same ?_))
local macro_rules | `(tactic| walk_at "compareOp NotEq int int") => `(tactic| (k_here; refine ne_int_same ?_))
local macro_rules | `(tactic| walk_at "compareOp NotEq ref ref") => `(tactic| (k_here; refine AtCmp.go ?_))
local macro_rules | `(tactic| walk_at "compareOp Eq ref ref") => `(tactic| (k_here; refine AtCmp.go ?_))
section
/-- two tables with the same entries -/
def TwinAt (w : World) (nw : List (Addr × Obj)) (u v : Value) : Prop :=
  ∃ a b oa ob kvs, u = .ref a ∧ v = .ref b ∧ (a, oa) ∈ nw ∧ (b, ob) ∈ nw ∧ oa.IsDictOf (PySem.strKind PR w) kvs ∧ ob.IsDictOf (PySem.strKind PR w) kvs ∧ (a == sysModules) = false ∧ (b == sysModules) = false
theorem TwinAt.mono {w : World} {nw nw' : List (Addr × Obj)} (hs : ∀ p ∈ nw, p ∈ nw') {u v : Value} : TwinAt w nw u v → TwinAt w nw' u v :=
  fun ⟨a, b, oa, ob, kvs, e1, e2, m1, m2, r⟩ => ⟨a, b, oa, ob, kvs, e1, e2, hs _ m1, hs _ m2, r⟩
theorem TwinAt.same {w : World} {A : Around} {s : Shared} {h₀ : Heap} {L : Addr} {nw : List (Addr × Obj)} {u v : Value} (T : TwinAt w nw u v) (N : News h₀ L s.heap nw) (hu : A.units < cLine) : SameAt w A s u v := by
  obtain ⟨a, b, oa, ob, kvs, rfl, rfl, m1, m2, d1, d2, s1, s2⟩ := T
  exact same_dicts s1 s2 (Heap.dictOf_iff.mpr ⟨oa, (N _ m1).1, d1⟩) (Heap.dictOf_iff.mpr ⟨ob, (N _ m2).1, d2⟩) hu

/-- a bracket and its pair -/
def BrkAt (w : World) (nw : List (Addr × Obj)) (u v : Value) : Prop :=
  ∃ (x dx p : Addr) (K : Kb) (t1 t2 td td' : Tok) (im : Bool) (cd : Int) (kp : Nat), u = .ref x ∧ v = .ref p ∧ (x, instObj 163 dx) ∈ nw ∧
    (dx, brO w K (.int 0 t1) (.int 0 t2) (.bool im) .none (.bool true) (.bool false) (.int cd td)) ∈ nw ∧ (p, (W.listOf #[.bool im, .int cd td'] kp : Obj)) ∈ nw
theorem BrkAt.mono {w : World} {nw nw' : List (Addr × Obj)} (hs : ∀ p ∈ nw, p ∈ nw') {u v : Value} : BrkAt w nw u v → BrkAt w nw' u v :=
  fun ⟨x, dx, p, K, t1, t2, td, td', im, cd, kp, e1, e2, m1, m2, m3⟩ => ⟨x, dx, p, K, t1, t2, td, td', im, cd, kp, e1, e2, hs _ m1, hs _ m2, hs _ m3⟩

/-- two pairs alike -/
def PairAt (nw : List (Addr × Obj)) (u v : Value) : Prop :=
  ∃ (a p : Addr) (t t' : Tok) (im : Bool) (cd : Int) (k kp : Nat), u = .ref a ∧ v = .ref p ∧ (a, (W.listOf #[.bool im, .int cd t] k : Obj)) ∈ nw ∧ (p, (W.listOf #[.bool im, .int cd t'] kp : Obj)) ∈ nw
theorem PairAt.mono {nw nw' : List (Addr × Obj)} (hs : ∀ p ∈ nw, p ∈ nw') {u v : Value} : PairAt nw u v → PairAt nw' u v :=
  fun ⟨a, p, t, t', im, cd, k, kp, e1, e2, m1, m2⟩ => ⟨a, p, t, t', im, cd, k, kp, e1, e2, hs _ m1, hs _ m2⟩
theorem PairAt.same {A : Around} {s : Shared} {h₀ : Heap} {L : Addr} {nw : List (Addr × Obj)} {u v : Value} (P : PairAt nw u v) (N : News h₀ L s.heap nw) (hu : A.units < cLine) : SeqAt.EqAt A s u v true := by
  obtain ⟨a, p, t, t', im, cd, k, kp, rfl, rfl, m1, m2⟩ := P
  by_cases hab : a = p
  · subst hab; exact SeqAt.EqAt.same _
  refine SeqAt.EqAt.of_refs hab ?_
  have := SeqAt.RcAt.lists (A := A) (s := s) (l := a) (b := p) (items := #[.bool im, .int cd t]) (items2 := #[.bool im, .int cd t']) (e := fun _ => true) ⟨_, (N _ m1).1, rfl, _, rfl⟩ ⟨_, (N _ m2).1, rfl, _, rfl⟩ rfl hu (fun j h1 h2 => by
    match j, h1, h2 with
    | 0, _, _ => exact SeqAt.EqAt.same _
    | 1, _, _ => have := SeqAt.EqAt.int_int (A := A.in1) (s := s) cd t cd t'; rw [beq_self_eq_true] at this; exact this)
  have hall : ((List.range #[Value.bool im, Value.int cd t].size).all fun _ => true) = true := by simp
  rw [hall] at this
  exact this

theorem same_spec {w : World} {A : Around} {s : Shared} {h₀ : Heap} {L scr : Addr} {m : Str → Option Value} {news : List (Addr × Obj)} {Q E : Value → Shared → Prop}
    {x dx e tl bl md mtl ml mbl f : Addr} {K : Kt} {src : Str} {ts ts' td td' : Tok} {dl kept seen : Value} {im lk : Bool} {d : Int} {om : Obj} {toks mtoks brs prs : List Value} {k1 k2 k3 k4 k5 : Nat}
    (C : Cx w A h₀ L scr 2) (F : Fr h₀ L s.heap m) (N₀ : News h₀ L s.heap news)
    (m1 : (x, instObj 103 dx) ∈ news) (m2 : (dx, stO w K e (.str src ts) tl (.bool im) (.int d td) (.bool lk) bl dl) ∈ news) (m3 : (tl, (W.listOf toks.toArray k1 : Obj)) ∈ news) (m4 : (bl, (W.listOf brs.toArray k2 : Obj)) ∈ news)
    (m5 : (md, om) ∈ news) (hM : om.IsDictOf (PySem.strKind PR w) (mdlOf (.str src ts') mtl ml (.int d td') mbl f kept seen)) (lM : (md == sysModules) = false)
    (m6 : (mtl, (W.listOf mtoks.toArray k3 : Obj)) ∈ news) (m7 : (ml, (W.listOf #[.bool im, .bool lk] k4 : Obj)) ∈ news) (m8 : (mbl, (W.listOf prs.toArray k5 : Obj)) ∈ news)
    (hE : TwinAt w news (.ref e) (.ref f)) (ht : toks.length = mtoks.length) (hT : ∀ j (h1 : j < toks.length) (h2 : j < mtoks.length), TwinAt w news toks[j] mtoks[j])
    (hb : brs.length = prs.length) (hz : brs.length ≤ 100) (hB : ∀ j (h1 : j < brs.length) (h2 : j < prs.length), BrkAt w news brs[j] prs[j])
    (ret : ∀ (h' : Heap) (tk' : Nat), Fr h₀ L h' m → News h₀ L h' news → Q (.bool true) { s with heap := h', toks := tk' }) :
    wpAny (model PySem.Challenge.rw_bq5016_01.row.prog w) A (call (.ref 208) [.ref x, .ref md]) Q E s := by
  have hX := C.X
  revert hX; k_fill; intro hX
  have N := news_dup (news_dup (news_dup (news_dup (news_dup (news_dup (news_dup (news_dup N₀ m8) (.tail _ m7)) (.tail _ (.tail _ m6))) (.tail _ (.tail _ (.tail _ m5)))) (.tail _ (.tail _ (.tail _ (.tail _ m4))))) (.tail _ (.tail _ (.tail _ (.tail _ (.tail _ m3)))))) (.tail _ (.tail _ (.tail _ (.tail _ (.tail _ (.tail _ m2))))))) (.tail _ (.tail _ (.tail _ (.tail _ (.tail _ (.tail _ (.tail _ m1)))))))
  refine wpAny_call ?_
  refine' enterC [(Str.ofString "state", .ref x), (Str.ofString "model", .ref md)] C F N ?k6 ?k7 ?k9 ?kB ?c2 ?c3 ?c4 ?c5 ?_
  case k6 => k_is
  case k7 => k_is
  case k9 => exact BindsTo.of_eq rfl
  case kB => exact locs rfl
  case c2 => exact rfl
  case c3 => exact rfl
  case c4 => exact rfl
  case c5 => decide
  intro g' L' h' pp lo mg mb F' N' X' T' C' lt' st'
  clear C N N₀
  have hA' := C'.hh
  try dsimp only
  try k_fold
  k_steps
  have hroom := C'.room
  rename News g' L' _ _ => nN
  have nR : News g' L' h' news := news_sub nN (by walk_at "my sub")
  refine ⟨?_⟩
  dsimp only
  refine ne_lists (nR _ m3).1 (nR _ m6).1 ht ?hu ?he ?_
  case hu => omega
  case he => exact (fun j h1 h2 => (hT j h1 h2).same nR (by rw [units_in1]; omega))
  clear nR
  k_steps
  have nR : News g' L' h9 news := news_sub N9 (by walk_at "my sub")
  refine ⟨?_⟩
  dsimp only
  refine ne_lists (xs := [.bool im, .bool lk]) (ys := [.bool im, .bool lk]) (N9 _ (.head _)).1 (nR _ m7).1 rfl ?hu ?he ?_
  case hu => omega
  case he =>
    intro j h1 h2
    exact SameAt.of (SeqAt.EqAt.same _)
  clear nR
  k_steps
  have nR : News g' L' h9 news := news_sub N9 (by walk_at "my sub")
  obtain ⟨_, _, oe, of, kve, e1, e2, p1, p2, d1, d2, s1, s2⟩ := hE
  cases e1
  cases e2
  refine ⟨?_⟩
  dsimp only
  refine ne_dicts nR p1 p2 d1 d2 s1 s2 ?hu ?_
  case hu => omega
  clear nR
  k_steps
  have nR : News g' L' h9 news := news_sub N9 (by walk_at "my sub")
  clear N9
  have hroom' := hroom
  refine ⟨?_⟩
  refine comp_list (vs := brs) (k := k2) (fun i ys nw => ys.length = i ∧ (∀ p ∈ news, p ∈ nw) ∧ ∀ j (h1 : j < ys.length) (h2 : j < prs.length), PairAt nw ys[j] prs[j]) hA' F9 nR m4 (by rw [sizeLine_eq]; omega)
    ⟨rfl, fun p hp => hp, fun j h1 => absurd h1 (Nat.not_lt_zero _)⟩ (fun i ys nw hj => hj.2.1 _ m4) ?_ ?_
  · rintro s5 i ys nw v I oI C oC D m₂ h5 tk5 E' hi ⟨hl, hs, hP⟩ hC hx F5 N5 off ⟨n1, n2, n3⟩
    have hi' : i < brs.length := by
      rcases Nat.lt_or_ge i brs.length with h | h
      · exact h
      · rw [List.getElem?_eq_none h] at hi; cases hi
    have hv : brs[i] = v := by rw [List.getElem?_eq_getElem hi'] at hi; exact Option.some.inj hi
    obtain ⟨bx, bdx, bp, Kb, bt1, bt2, btd, btd', bim, bcd, bkp, e1, e2, q1, q2, q3⟩ := hB i hi' (hb ▸ hi')
    rw [hv] at e1
    subst e1
    have N6 := news_dup (news_dup N5 (.tail _ (.tail _ (.tail _ (hs _ q2))))) (.tail _ (.tail _ (.tail _ (.tail _ (hs _ q1)))))
    clear N5
    k_steps
    refine ⟨h9, _, (l8, W.listOf #[.bool bim, .int bcd btd] 0) :: nw, rfl, F9, news_sub N9 (by walk_at "my sub"), ?_, by simp [hl], fun p hp => .tail _ (hs p hp), ?_⟩
    · intro p hp
      rcases List.mem_cons.mp hp with rfl | hp
      · exact ⟨Nat.ne_of_gt l1.2.2.1, Nat.ne_of_gt l1.2.2.2.1, Nat.ne_of_gt l1.2.2.2.2.1⟩
      · exact off p hp
    · intro j h1 h2
      rcases Nat.lt_or_ge j ys.length with h | h
      · rw [List.getElem_append_left h]
        exact (hP j h h2).mono fun p hp => .tail _ hp
      · have hj : j = i := by simp only [List.length_append, List.length_singleton] at h1; omega
        subst hj
        have e3 : (ys ++ [Value.ref l8])[j] = .ref l8 := by rw [List.getElem_append_right h]; simp [hl]
        rw [e3]
        exact ⟨l8, bp, _, _, _, _, _, _, rfl, e2, .head _, .tail _ (hs _ q3)⟩
  · rintro g5 ys nw ⟨hl, hs, hP⟩ D h5 tk5 F5 N5 o1
    have N6 := news_dup (news_dup N5 (.tail _ (hs _ m8))) (.tail _ (.tail _ (hs _ m5)))
    clear F9
    dsimp only
    k_steps
    refine ⟨?_⟩
    dsimp only
    have hall : ((List.range ys.toArray.size).all fun _ => true) = true := by simp
    refine SeqAt.eq_listAt (l := D) (b := mbl) (items := ys.toArray) (items2 := prs.toArray) (e := fun _ => true) ⟨_, (N5 _ (.head _)).1, rfl, _, rfl⟩ ⟨_, (N5 _ (.tail _ (hs _ m8))).1, rfl, _, rfl⟩ (by simp [hl, hb]) ?hu (fun j h1 h2 => ?_) ?_
    case hu => omega
    · have h1' : j < ys.length := by simpa using h1
      have h2' : j < prs.length := by simpa using h2
      have e1 : ys.toArray[j] = ys[j] := by simp
      have e2 : prs.toArray[j] = prs[j] := by simp
      rw [e1, e2]
      exact (hP j h1' h2').same (news_sub N5 fun p hp => .tail _ hp) (by rw [units_in1]; omega)
    · rw [hall]
      clear N6
      k_steps
      rename News h₀ _ _ _ => nZ
      exact ret _ _ (by assumption) (news_sub nZ fun p hp => .tail _ (hs p hp))
end
local macro_rules | `(tactic| walk_at "my step 16") => `(tactic| (k_here; (with_reducible show wpAny _ _ (call (Value.ref 208) _) _ _ _)))
section
section
variable {w : World} {A : Around} {s : Shared} {h₀ : Heap} {L scr : Addr} {m : Str → Option Value} {news : List (Addr × Obj)} {n : Nat}
/-- into a def that has cells -/
theorem enterCC {R : Result → Shared → Prop} {name qual : Str} {params : Arguments} {body : List Stmt} {scope : Scope} {dV kV doc pm cdv ct oc : Value} {an od : Option Addr} {osl : Array (Option Value)} {f : Addr} {args : Args} (binds : List (Str × Value))
    (C : Cx w A h₀ L scr (n + 1)) (F : Fr h₀ L s.heap m) (N : News h₀ L s.heap news)
    (ho : (hd.heap_39 w.params).lookup f = some ⟨oc, od, .func (fnOf name qual params body scope dV kV doc pm an cdv ct), osl⟩) (hcd : codeIn (hd.heap_39 w.params) cdv qual = true)
    (hbind : BindsTo s (fnOf name qual params body scope dV kV doc pm an cdv ct) args binds) (hkind : (binds.all fun y => scope.names.lookup y.1 == some .local || scope.names.lookup y.1 == some .cell) = true)
    (hnd : ((cellsFrom 0 scope.names []).map (·.1)).Nodup)
    (hco : scope.isCoroutine = false) (hgen : scope.isGenerator = false) (hk : scope.kind = .function)
    (h : ∀ g L' h₁ tk cells pp lo mg mb, Fr g L' h₁ (bindL (envOfC qual scope L' f cdv).kindOf binds fun _ => none) → News g L' h₁ (cells ++ news) →
      CellsAre (bindC (envOfC qual scope L' f cdv).kindOf binds fun _ => none) (cellsFrom (L' + 1) scope.names []) cells →
      (hd.heap_39 w.params).In g → TopRead pp lo mg mb g → Cx w (A.deeper (envOfC qual scope L' f cdv)) g L' scr n → (∀ q ∈ news, q.1 < L') → h₀.StaysIn g →
      wpAny (model PySem.Challenge.rw_bq5016_01.row.prog w) (A.deeper (envOfC qual scope L' f cdv)) (execs body (envOfC qual scope L' f cdv))
        (fun fl s' => LeaveK h₀ L m g R (match fl with | .ret v => v | _ => .none) s')
        (fun e s' => wpAny (model PySem.Challenge.rw_bq5016_01.row.prog w) (A.deeper (envOfC qual scope L' f cdv)) (leaving (envOfC qual scope L' f cdv) e) (fun _ s'' => R (.error e) s'') (fun e' s'' => R (.error e') s'') s')
        { s with heap := h₁, toks := tk }) : codeAny (model PySem.Challenge.rw_bq5016_01.row.prog w) A (.call (.ref f) args) R s := by
  obtain ⟨A₀, base, env, outer, B, hA, hf, hke⟩ := C.below
  obtain ⟨pp, lo, mg, mb, T⟩ := C.top
  obtain ⟨vs, ns, hS, hI, hlen⟩ := C.scr
  have hdp := C.dep
  refine callX_cells B F N T.nolimit hA hf hke ((C.X.keeps F.keep) _ _ ho) rfl (codeRec_of (C.X.keeps F.keep) hcd) (by have : recursionLimit = 1000 := rfl; omega) hbind (kindsX hkind) hnd ?_ hco hgen hk
  intro g L' h₁ tk cells FG F' N' Y B' st lt
  exact h g L' h₁ tk cells pp lo mg mb F' N' Y (C.X.keeps st) (T.keeps st)
    { below := ⟨_, _, _, _, B', deeper_frames hA, rfl, hk⟩, X := C.X.keeps st, top := ⟨_, _, _, _, T.keeps st⟩, hh := C.hh, scr := ⟨vs, ns, stays_list st hS, hI, hlen⟩, dep := by rw [depth_deeper]; omega, uni := by have := C.uni; rw [units_deeper]; omega } lt st
end

theorem item_at {w : World} {A : Around} {E : Value → Shared → Prop} {s : Shared} {h₀ : Heap} {L l : Addr} {news : List (Addr × Obj)} {value slice : Expr} {its : List Value} {k : Nat} {d : Int} {t : Tok} {v : Value} {Q : Value → Shared → Prop}
    (N : News h₀ L s.heap news) (hm : (l, (W.listOf its.toArray k : Obj)) ∈ news) (h0 : 0 ≤ d) (h9 : d < 1000) (hv : its[d.toNat]? = some v) (h : Q v s)
    (hs : subscripted slice false (.ref l) (.int d t) = operate [.ref l, .int d t] (getItem (.ref l) (.int d t)) := by with_unfolding_all rfl) :
    wpAny (model PySem.Challenge.rw_bq5016_01.row.prog w) A (subscriptTail value slice (.ref l) (.int d t)) Q E s := by
  have hl : s.heap.IsList l its.toArray := ⟨_, (N _ hm).1, rfl, k, rfl⟩
  exact tail_any hl.typeIs slot_list_getitem.lookup (wpAny_getItem_list hl h0 (by omega) (by simpa using hv) h) hs
end
local macro_rules | `(tactic| walk_at "subscriptTail") => `(tactic| (k_here; (with_reducible show wpAny _ _ (subscriptTail _ _ (Value.ref _) (Value.int _ _)) _ _ _); refine item_at (by k_asm) (by k_mem) (by assumption) (by omega) (by assumption) ?_))
local macro_rules | `(tactic| walk_at "ite") => `(tactic| first | refine ite_pos (by decide) ?_ | refine ite_neg (by decide) ?_)
local macro_rules | `(tactic| walk_at "subscriptTail Name Constant ref int") => `(tactic| (k_here; k_dflt (refine' item_at ?N ?m ?h0 ?h9 ?hv ?_ ?hs; (case hs => with_unfolding_all rfl); (case N => k_asm); (case m => k_mem); (case h0 => decide); (case h9 => decide); (case hv => exact rfl))))
local macro_rules | `(tactic| walk_at "subscriptTail Name Name ref int") => `(tactic| (k_here; k_dflt (refine' item_at ?N ?m ?h0 ?h9 ?hv ?_ ?hs; (case hs => with_unfolding_all rfl); (case N => k_asm); (case m => k_mem); (case h0 => assumption); (case h9 => omega); (case hv => assumption))))
section
/-- a pair on the heap -/
abbrev tupO (u dv : Value) : Obj := { cls := .type "tuple", data := .seq #[u, dv] }
/-- the code's table and the module's names are at hand -/
structure Gx (h₀ : Heap) (P : Addr) : Prop where
  code : CodeHd h₀ 111 P
  bm : ∃ mg bm ob, BMod h₀ mainGlobals mg bm ob
theorem Gx.keeps {h h' : Heap} {P : Addr} (G : Gx h P) (k : ∀ b o, h.get? b = some o → h'.get? b = some o) : Gx h' P :=
  ⟨G.code.keeps k, let ⟨mg, bm, ob, x⟩ := G.bm; ⟨mg, bm, ob, x.keeps k⟩⟩

/-- what a waking of the pairs' generator gives -/
def pairProto (C I : Addr) (fp : List Addr) (its : List Value) (dv : Value) : Protocol := fun m s₀ v s kap =>
  (∃ i u t, i + 1 + m = its.length ∧ its[i]? = some u ∧ v = .ref t ∧ t ≠ C ∧ t ≠ I ∧ s₀.heap.get? t = none ∧ s.heap.get? t = some (tupO u dv)) ∧ GenSince C [I] s₀ s ∧
    ∀ s'' : Shared, (∀ b ∈ C :: fp, ∀ o, s.heap.get? b = some o → s''.heap.get? b = some o) → kap (.send .none) s''
/-- the element is a pair of the item and one value -/
def PairElt (w : World) (cenv : Env) (x : Str) (elt : Expr) (cell : Addr) (oc : Obj) (dv : Value) : Prop :=
  ∀ (A' : Around) E' u (s₂ : Shared) m₂, A'.handled = none → s₂.heap.Ns cenv.locals m₂ → m₂ x = some u → s₂.heap.get? cell = some oc →
    wpAny (model PR w) A' (eval elt cenv) (fun y s₃ => (∃ t, y = .ref t ∧ s₂.heap.get? t = none ∧ s₃.heap.get? t = some (tupO u dv)) ∧ Keeps s₂ s₃) E' s₂
abbrev genEnd (C I : Addr) : GenEnd := fun n s₀ r s₁ => r = .ok .next ∧ (n = 0 ∧ GenSince C [I] s₀ s₁)

section
variable {w : World} {A : Around}
theorem seg_pairs {elt iter : Expr} {x : Str} {px : Pos} {scope : Scope} {pos : Pos} {I l cell : Addr} {its : List Value} {oc : Obj} {dv : Value} {cenv : Env}
    (hh : A.handled = none) (hIl : l ≠ I) (hIc : cell ≠ I) (hx : cenv.kindOf x = some .local) (hp : (cenv.scope.kind == .class || (cenv.scope.kind == .module && cenv.locals != cenv.globals)) = false)
    (hco : cenv.scope.isCoroutine = false) (hCI : I ≠ cenv.locals) (hCl : l ≠ cenv.locals) (hCc : cell ≠ cenv.locals) (hq : PairElt w cenv x elt cell oc dv) :
    ∀ (k i : Nat) (s₀ s : Shared) (m : Str → Option Value), its.length - i = k → i ≤ its.length → s.heap.IsListIter I l i → s.heap.IsList l its.toArray → s.heap.Ns cenv.locals m → s.heap.get? cell = some oc → GenSince cenv.locals [I] s₀ s →
      Seg (model PR w) A (genEnd cenv.locals I) (pairProto cenv.locals I [I, l, cell] its dv) (its.length - i) s₀
        (.compLoop (.GeneratorExp elt [⟨.Name x px, iter, [], 0⟩] scope pos) 0 (.ref I) .none cenv)
        ((model PR w).den (.compLoop (.GeneratorExp elt [⟨.Name x px, iter, [], 0⟩] scope pos) 0 (.ref I) .none cenv)) [] s := by
  have hh' : (A.over (.compLoop (.GeneratorExp elt [⟨.Name x px, iter, [], 0⟩] scope pos) 0 (.ref I) .none cenv) []).handled = none := hh
  have W₀ : ∀ A' : Around, A'.handled = none → Walks PR w A' I [I, l] [I] its.toArray.size _ _ := fun A' hA => Walks.list hA I l hIl its.toArray
  intro k
  induction k with
  | zero =>
    intro i s₀ s m hk hi hst hl hn hc hsince
    have hin : i = its.length := by omega
    subst hin
    show Seg _ A _ _ _ s₀ _ ((compTurn (.GeneratorExp elt [⟨.Name x px, iter, [], 0⟩] scope pos) 0 (.ref I) .none cenv).onRaise (leaving cenv)) [] s
    rw [compTurn_gen, Sem.onRaise_eq_wrap]
    refine seg_bind_wrap (wpAny_standAt ?_)
    refine seg_bind_wrap ((W₀ _ hh').done s _ _ ⟨by simpa using hst, hl⟩ fun h' tk hk' => ?_)
    exact seg_end (.ok .next) ⟨rfl, by omega, hsince.step fun b o _ hw e => hk' b o hw e⟩
  | succ k ih =>
    intro i s₀ s m hk hi hst hl hn hc hsince
    have hlt : i < its.length := by omega
    show Seg _ A _ _ _ s₀ _ ((compTurn (.GeneratorExp elt [⟨.Name x px, iter, [], 0⟩] scope pos) 0 (.ref I) .none cenv).onRaise (leaving cenv)) [] s
    rw [compTurn_gen, Sem.onRaise_eq_wrap]
    refine seg_bind_wrap (wpAny_standAt ?_)
    refine seg_bind_wrap ((W₀ _ hh').item i s _ _ (by simpa using hlt) ⟨hst, hl⟩ fun v h₁ tk₁ hPv hst₁ hk₁ => ?_)
    refine seg_bind_wrap (wpAny_of_eq (rfl : letOwnedTupleGo (.Name x px) (.ref I) v = pure ()) ?_)
    refine seg_bind_wrap (wpAny_assign_Name (wpAny_storeName_local hx (hn.at' fun o e => hk₁ _ o (by simpa using Ne.symm hCI) e) (fun h₂ hn₂ hs₂ => ?_) hp))
    have up₂ : ∀ b o, b ≠ cenv.locals → b ∉ [I] → s.heap.get? b = some o → h₂.get? b = some o := fun b o hbC hbw e => hs₂.extBut b o hbC (hk₁ b o hbw e)
    have hit₂ : h₂.IsListIter I l (i + 1) ∧ h₂.IsList l its.toArray := (W₀ A hh).frame _ _ _ hst₁ fun b hb o e => hs₂.extBut b o (fun h => by
      rcases List.mem_cons.mp hb with rfl | hb
      · exact hCI h
      · exact hCl (List.mem_singleton.mp hb ▸ h)) e
    have hc₂ : h₂.get? cell = some oc := up₂ cell oc hCc (by simpa using hIc) hc
    simp only [List.forIn_nil]
    refine seg_bind_wrap (wpAny_pure ?_)
    have hsince₂ : GenSince cenv.locals [I] s₀ { s with heap := h₂, toks := tk₁ } := hsince.step fun b o hbC hbw e => up₂ b o hbC hbw e
    simp only [if_true]
    have hy : ∀ v, yieldOut cenv v = yieldValue v := fun v => by simp only [yieldOut, hco, Bool.false_eq_true, if_false]
    simp only [hy]
    have hlen : its.length - i = (its.length - (i + 1)) + 1 := by omega
    rw [hlen]
    rw [Sem.bind_eq_wrap', Sem.bind_eq_wrap', Sem.wrap_wrap, Sem.wrap_wrap]
    refine seg_wrap (wpAny_mono (hq _ _ v _ _ hh' hn₂ (by simp) hc₂) (fun y s₄ h₄ => ?_) fun _ _ e => e)
    obtain ⟨⟨t, rfl, ht₀, ht⟩, h₄, tk₄, rfl, hk₄⟩ := h₄
    have hv : its[i]? = some v := by simpa using hPv
    have hl' : ∀ o, h₂.get? t ≠ some o := fun o e => by rw [show h₂.get? t = none from ht₀] at e; cases e
    have h1 : t ≠ cenv.locals := by
      obtain ⟨oL, _, _, hL, _⟩ := hn₂
      exact fun e => hl' oL (e ▸ hL)
    have h2 : t ≠ I := by
      obtain ⟨oI, hI, _⟩ := hit₂.1
      exact fun e => hl' oI (e ▸ hI)
    refine seg_at (seg_yield rfl rfl rfl ⟨⟨i, v, t, by omega, hv, rfl, h1, h2, ?_, ht⟩, hsince₂.step fun b o _ _ e => hk₄ b o e, fun s'' hal => ?_⟩)
    · cases hq : s₀.heap.get? t with
      | none => rfl
      | some o =>
        exfalso
        obtain ⟨hz, tz, ez, kz⟩ := hsince₂
        have e1 : h₂ = hz := congrArg Shared.heap ez
        exact hl' o (e1 ▸ kz t o h1 (by simpa using h2) hq)
    · refine seg_again rfl (ih (i + 1) s'' s'' _ (by omega) hlt ?_ ?_ ((hn₂.keeps hk₄).at' fun o e => hal _ (List.mem_cons_self ..) o e) (hal cell (by simp) oc (hk₄ _ _ hc₂)) (GenSince.refl _ _ _))
      · exact (hit₂.1.at fun o e => hal I (by simp) o (hk₄ _ _ e))
      · exact (hit₂.2.at fun o e => hal l (by simp) o (hk₄ _ _ e))

theorem seg_pairs0 {elt iter : Expr} {x : Str} {px : Pos} {scope : Scope} {pos : Pos} {I l cell : Addr} {its : List Value} {oc : Obj} {dv : Value} {cenv : Env}
    (hh : A.handled = none) (hIl : l ≠ I) (hIc : cell ≠ I) (hx : cenv.kindOf x = some .local) (hp : (cenv.scope.kind == .class || (cenv.scope.kind == .module && cenv.locals != cenv.globals)) = false)
    (hco : cenv.scope.isCoroutine = false) (hCI : I ≠ cenv.locals) (hCl : l ≠ cenv.locals) (hCc : cell ≠ cenv.locals) (hq : PairElt w cenv x elt cell oc dv)
    (s₀ s : Shared) (m : Str → Option Value) (hst : s.heap.IsListIter I l 0) (hl : s.heap.IsList l its.toArray) (hn : s.heap.Ns cenv.locals m) (hc : s.heap.get? cell = some oc) (hsince : GenSince cenv.locals [I] s₀ s) :
      Seg (model PR w) A (genEnd cenv.locals I) (pairProto cenv.locals I [I, l, cell] its dv) its.length s₀
        (.compStart (.GeneratorExp elt [⟨.Name x px, iter, [], 0⟩] scope pos) 0 (.ref I) .none cenv)
        ((model PR w).den (.compStart (.GeneratorExp elt [⟨.Name x px, iter, [], 0⟩] scope pos) 0 (.ref I) .none cenv)) [] s := by
  have hh' : (A.over (.compStart (.GeneratorExp elt [⟨.Name x px, iter, [], 0⟩] scope pos) 0 (.ref I) .none cenv) []).handled = none := hh
  have loop := seg_pairs (iter := iter) (px := px) (scope := scope) (pos := pos) hh hIl hIc hx hp hco hCI hCl hCc hq its.length 0 s₀ s m (Nat.sub_zero _) (Nat.zero_le _) hst hl hn hc hsince
  rw [Nat.sub_zero] at loop
  show Seg _ A _ _ _ s₀ _ ((compStart (.GeneratorExp elt [⟨.Name x px, iter, [], 0⟩] scope pos) 0 (.ref I) .none cenv).onRaise (leaving cenv)) [] s
  unfold compStart
  rw [Sem.onRaise_eq_wrap]
  show Seg _ A _ _ _ s₀ _ ((ask >>= _).wrap _ _ _ _) [] s
  refine seg_bind_wrap (wpAny_askSetting ?_)
  split
  · exact seg_again rfl loop
  · first
      | exact seg_bind_wrap (wpAny_rule (seg_bind_wrap (wpAny_standAt (seg_bind_wrap ((Walks.list hh' I l hIl its.toArray).self 0 s _ _ ⟨hst, hl⟩ (seg_again rfl loop))))))
      | (refine seg_bind_wrap (wpAny_rule ?_); show Seg _ A _ _ _ s₀ _ ((standAt iter.pos >>= _).wrap _ _ _ _) [] s; exact seg_bind_wrap (wpAny_standAt (seg_bind_wrap ((Walks.list hh' I l hIl its.toArray).self 0 s _ _ ⟨hst, hl⟩ (seg_again rfl loop)))))

/-- the pairs' generator, i items on -/
structure GenP (w : World) (A : Around) (a : Addr) (g : Nat) (C I l cell : Addr) (its : List Value) (dv : Value) (i : Nat) (s : Shared) : Prop where
  isg : s.heap.IsGen a g
  lim : s.heap.NoLimit
  goes : ∃ gs, s.gens[g]? = some gs ∧ ∀ s'' : Shared, (∀ b ∈ [C, I, l, cell], ∀ o, s.heap.get? b = some o → s''.heap.get? b = some o) →
    gs.Goes (model PR w) A.in1 (genEnd C I) (pairProto C I [I, l, cell] its dv) (its.length - i) (.send .none) s''
theorem GenP.frame {a : Addr} {g : Nat} {C I l cell : Addr} {its : List Value} {dv : Value} {i : Nat} {s : Shared} {h' : Heap} {tk : Nat} (G : GenP w A a g C I l cell its dv i s)
    (ha : ∀ o, s.heap.get? a = some o → h'.get? a = some o) (hs : ∀ o, s.heap.get? cStatics = some o → h'.get? cStatics = some o) (hk : ∀ b ∈ [C, I, l, cell], ∀ o, s.heap.get? b = some o → h'.get? b = some o) :
    GenP w A a g C I l cell its dv i { s with heap := h', toks := tk } :=
  ⟨let ⟨o, nm, qn, ho, r⟩ := G.isg; ⟨o, nm, qn, ha o ho, r⟩, let ⟨mc, hns, hnn⟩ := G.lim; ⟨mc, hns.at' hs, hnn⟩,
    let ⟨gs, hgs, hgo⟩ := G.goes; ⟨gs, hgs, fun s'' hal => hgo s'' fun b hb o e => hal b hb o (hk b hb o e)⟩⟩

theorem bare_set {gens : Array GenState} {g : Nat} {x : GenState} (h : AllBare gens) (hx : x.bare = true) : AllBare (gens.setIfInBounds g x) := by
  intro y hy
  obtain ⟨i, hi, e⟩ := Array.mem_iff_getElem.mp hy
  have hi' : i < gens.size := by simpa using hi
  rw [Array.getElem_setIfInBounds hi'] at e
  split at e
  · rw [← e]; exact hx
  · rw [← e]; exact h _ (Array.getElem_mem hi')

theorem next_item {a : Addr} {g : Nat} {C I l cell : Addr} {its : List Value} {dv : Value} {i : Nat} {s : Shared} {Q : Option Value → Shared → Prop} {E : Value → Shared → Prop} (hh : A.handled = none) (hroom : A.depth < recursionLimit)
    (haC : a ≠ C) (haI : a ≠ I) (hsC : cStatics ≠ C) (hsI : cStatics ≠ I) (hi : i < its.length) (G : GenP w A a g C I l cell its dv i s) (hb : AllBare s.gens)
    (hQ : ∀ u t h' tk g', its[i]? = some u → t ≠ C → t ≠ I → s.heap.get? t = none → h'.get? t = some (tupO u dv) → (∀ b o, b ≠ C → b ≠ I → s.heap.get? b = some o → h'.get? b = some o) → AllBare g' →
      GenP w A a g C I l cell its dv (i + 1) { s with heap := h', toks := tk, gens := g' } → Q (some (.ref t)) { s with heap := h', toks := tk, gens := g' }) :
    wpAny (model PR w) A (pyNext (.ref a)) Q E s := by
  obtain ⟨hg, hl, gs, hgs, hgo⟩ := G
  obtain ⟨m, hm⟩ : ∃ m, its.length - i = m + 1 := ⟨its.length - i - 1, by omega⟩
  rw [hm] at hgo
  refine wpAny_pyNext_genexpQ (P := fun n s₀ s₁ => n = 0 ∧ GenSince C [I] s₀ s₁) hh hl hroom hg hgs (hgo _ fun _ _ _ e => e) (fun v s₁ gs' hb' hv => ?_) (fun s₁ hp h' hk => ?_)
  · obtain ⟨⟨j, u, t, hj, hu, rfl, htC, htI, ht₀, ht⟩, ⟨h₁, tk₁, rfl, hk₁⟩, hkap⟩ := hv
    have hji : j = i := by omega
    subst hji
    have hk₂ : ∀ b o, b ≠ C → b ≠ I → s.heap.get? b = some o → h₁.get? b = some o := fun b o h1 h2 e => hk₁ b o h1 (by simpa using h2) e
    refine hQ u t h₁ tk₁ _ hu htC htI ht₀ ht hk₂ (bare_set (bare_set hb (x := .running) rfl) hb') ⟨?_, ?_, gs', ?_, fun s'' hal => ?_⟩
    · obtain ⟨o, nm, qn, ho, r⟩ := hg
      exact ⟨o, nm, qn, hk₂ a o haC haI ho, r⟩
    · obtain ⟨mc, hns, hnn⟩ := hl
      exact ⟨mc, hns.at' fun o e => hk₂ cStatics o hsC hsI e, hnn⟩
    · exact setGen_self (s := { s with heap := h₁, toks := tk₁, gens := (s.setGen g .running).gens }) (gs := .running) (setGen_self hgs)
    · have e : its.length - (j + 1) = m := by omega
      rw [e]
      exact hkap s'' fun b hb o e => hal b hb o e
  · exact absurd hp.1 (Nat.succ_ne_zero m)
theorem next_end {a : Addr} {g : Nat} {C I l cell : Addr} {its : List Value} {dv : Value} {s : Shared} {Q : Option Value → Shared → Prop} {E : Value → Shared → Prop} (hh : A.handled = none) (hroom : A.depth < recursionLimit)
    (G : GenP w A a g C I l cell its dv its.length s) (hb : AllBare s.gens)
    (hQ : ∀ h' tk g', (∀ b o, b ≠ C → b ≠ I → s.heap.get? b = some o → h'.get? b = some o) → AllBare g' → Q none { s with heap := h', toks := tk, gens := g' }) :
    wpAny (model PR w) A (pyNext (.ref a)) Q E s := by
  obtain ⟨hg, hl, gs, hgs, hgo⟩ := G
  rw [Nat.sub_self] at hgo
  refine wpAny_pyNext_genexpQ (P := fun n s₀ s₁ => n = 0 ∧ GenSince C [I] s₀ s₁) hh hl hroom hg hgs (hgo _ fun _ _ _ e => e) (fun v s₁ gs' hb' hv => ?_) (fun s₁ hp h' hk => ?_)
  · obtain ⟨_, _, hkap⟩ := hv
    exact False.elim (hkap s₁ fun _ _ _ e => e)
  · obtain ⟨_, h₁, tk₁, rfl, hk₁⟩ := hp
    exact hQ h' tk₁ _ (fun b o h1 h2 e => hk b o (hk₁ b o h1 (by simpa using h2) e)) (bare_set (bare_set hb (x := .running) rfl) (x := .finished) rfl)
end
end

section
section
variable {w : World} {A : Around}
theorem next_in4 {a : Addr} {Q : Option Value → Shared → Prop} {E : Value → Shared → Prop} {s : Shared} (h : wpAny (model PR w) A.in4 (pyNext (.ref a)) Q E s) : wpAny (model PR w) A.in1 (pyNext (.ref a)) Q E s :=
  wpAny_of_in1 (wpAny_of_in1 (wpAny_of_in1 h))
/-- the pairs that a generator has laid -/
def PairsAt (C I S : Addr) (hB h : Heap) (us : List Value) (dv : Value) (es : List (Addr × Obj)) : Prop :=
  es.map (·.2) = us.map (tupO · dv) ∧ ∀ e ∈ es, h.get? e.1 = some e.2 ∧ hB.get? e.1 = none ∧ e.1 ≠ C ∧ e.1 ≠ I ∧ e.1 ≠ S
theorem extend_loop {R : Result → Shared → Prop} {S a l cell C I : Addr} {g : Nat} {its acc : List Value} {dv : Value} {hB : Heap} {s : Shared} (hh : A.handled = none) (hroom : A.depth < recursionLimit)
    (haC : a ≠ C) (haI : a ≠ I) (hsC : cStatics ≠ C) (hsI : cStatics ≠ I) (hSa : S ≠ a) (hSC : S ≠ C) (hSI : S ≠ I) (hSl : S ≠ l) (hSc : S ≠ cell) (hSs : S ≠ cStatics) (hz : acc.length + its.length ≤ sizeLine)
    (hR : ∀ (es : List (Addr × Obj)) c h' tk g', AllBare g' → h'.get? S = some (W.listOf (acc ++ es.map fun e => Value.ref e.1).toArray c) → PairsAt C I S hB h' its dv es →
      (∀ b o, b ≠ S → b ≠ C → b ≠ I → hB.get? b = some o → h'.get? b = some o) → R (.ok (.ret .none)) { s with heap := h', toks := tk, gens := g' }) :
    ∀ (k i : Nat) (h : Heap) (tk : Nat) (gs : Array GenState) (es : List (Addr × Obj)) (c : Nat), its.length - i = k → i ≤ its.length → GenP w A.in4 a g C I l cell its dv i { s with heap := h, toks := tk, gens := gs } → AllBare gs →
      h.get? S = some (W.listOf (acc ++ es.map fun e => Value.ref e.1).toArray c) → PairsAt C I S hB h (its.take i) dv es → (∀ b o, b ≠ S → b ≠ C → b ≠ I → hB.get? b = some o → h.get? b = some o) →
      codeAny (model PR w) A (.builtin "list.extend.loop" ⟨[.ref S, .ref a, .none], []⟩) R { s with heap := h, toks := tk, gens := gs } := by
  intro k
  induction k with
  | zero =>
    intro i h tk gs es c hk hi G hb hS hes hB'
    have hin : i = its.length := by omega
    subst hin
    refine codeAny_builtin F.entry_extend_loop ?_
    rw [Around.under_plainId F.plain_extend_loop _]
    show wpAny _ A.in1 (pyNext (.ref a) >>= _) _ _ _
    refine wpAny_bind (next_in4 (next_end (A := A.in4) hh hroom G hb fun h' tk' g' hk' hb' => ?_))
    rw [List.take_length] at hes
    exact wpAny_pure (hR es c h' tk' g' hb' (hk' S _ hSC hSI hS) ⟨hes.1, fun e hm => let ⟨a1, a2, a3, a4, a5⟩ := hes.2 e hm; ⟨hk' _ _ a3 a4 a1, a2, a3, a4, a5⟩⟩ fun b o h1 h2 h3 e => hk' b o h2 h3 (hB' b o h1 h2 h3 e))
  | succ k ih =>
    intro i h tk gs es c hk hi G hb hS hes hB'
    have hlt : i < its.length := by omega
    refine codeAny_builtin F.entry_extend_loop ?_
    rw [Around.under_plainId F.plain_extend_loop _]
    show wpAny _ A.in1 (pyNext (.ref a) >>= _) _ _ _
    refine wpAny_bind (next_in4 (next_item (A := A.in4) hh hroom haC haI hsC hsI hlt G hb fun u t h' tk' g' hu htC htI ht₀ ht hk' hb' G' => ?_))
    have hS' := hk' S _ hSC hSI hS
    have htS : t ≠ S := fun e => by rw [e, show h.get? S = _ from hS] at ht₀; cases ht₀
    have hlen : es.length = i := by
      have := congrArg List.length hes.1
      simp only [List.length_map, List.length_take] at this
      omega
    show wpAny _ A.in1 (updateSeq S (·.push (.ref t)) >>= _) _ _ _
    refine wpAny_bind ?_
    have oth : ∀ b o, b ≠ S → h'.get? b = some o → (h'.update S (Obj.mapSeq (·.push (.ref t)))).get? b = some o := fun b o hb e => (Heap.get?_update_other _ _ (Ne.symm hb)).trans e
    refine wpAny_updateSeq hS' rfl (wpAny_pure ⟨plainId_quiet PySem.F.plain_extend_loop _, ?_⟩) (by simp only [List.size_toArray, List.length_append, List.length_map]; omega) (by simp only [Array.size_push, List.size_toArray, List.length_append, List.length_map]; omega)
    refine ih (i + 1) _ tk' g' (es ++ [(t, tupO u dv)]) (c + 1) (by omega) hlt ?_ hb' ?_ ⟨?_, ?_⟩ ?_
    · exact G'.frame (fun o e => oth a o (Ne.symm hSa) e) (fun o e => oth _ o (Ne.symm hSs) e) fun b hb o e => oth b o (by
        rcases List.mem_cons.mp hb with rfl | hb
        · exact Ne.symm hSC
        · rcases List.mem_cons.mp hb with rfl | hb
          · exact Ne.symm hSI
          · rcases List.mem_cons.mp hb with rfl | hb
            · exact Ne.symm hSl
            · rw [List.mem_singleton.mp hb]; exact Ne.symm hSc) e
    · rw [Heap.get?_update_self _ hS' rfl]
      simp [Obj.mapSeq, W.listOf]
    · rw [List.map_append, hes.1, List.take_add_one, hu]
      simp
    · intro e hm
      rcases List.mem_append.mp hm with hm | hm
      · obtain ⟨a1, a2, a3, a4, a5⟩ := hes.2 e hm
        exact ⟨oth _ _ a5 (hk' _ _ a3 a4 a1), a2, a3, a4, a5⟩
      · rw [List.mem_singleton.mp hm]
        refine ⟨oth _ _ htS ht, ?_, htC, htI, htS⟩
        cases hq : hB.get? t with
        | none => rfl
        | some o =>
          have := hB' t o htS htC htI hq
          rw [show h.get? t = none from ht₀] at this
          cases this
    · exact fun b o h1 h2 h3 e => oth b o h1 (hk' b o h2 h3 (hB' b o h1 h2 h3 e))

/-- the pairs' generator, new -/
structure GenHere (w : World) (A : Around) (h₀ : Heap) (L : Addr) (nw : List (Addr × Obj)) (a l cell : Addr) (its : List Value) (dv : Value) (s : Shared) : Prop where
  bare : AllBare s.gens
  go : ∃ g C I, GenP w A.in4 a g C I l cell its dv 0 s ∧ (∀ p ∈ nw, p.1 ≠ a ∧ p.1 ≠ C ∧ p.1 ≠ I) ∧ (L ≠ C ∧ L ≠ I) ∧ (h₀.get? C = none ∧ h₀.get? I = none) ∧ (cStatics ≠ C ∧ cStatics ≠ I) ∧ a ≠ C ∧ a ≠ I
theorem GenHere.toks {h₀ : Heap} {L : Addr} {nw : List (Addr × Obj)} {a l cell : Addr} {its : List Value} {dv : Value} {s : Shared} (G : GenHere w A h₀ L nw a l cell its dv s) (tk : Nat) : GenHere w A h₀ L nw a l cell its dv { s with toks := tk } :=
  ⟨G.bare, let ⟨g, C, I, x, r⟩ := G.go; ⟨g, C, I, x.frame (fun _ e => e) (fun _ e => e) fun _ _ _ e => e, r⟩⟩

theorem extend_pairs {E Q : Value → Shared → Prop} {s : Shared} {h₀ : Heap} {L S a l cell : Addr} {m : Str → Option Value} {news rest : List (Addr × Obj)} {its acc : List Value} {dv : Value} {k : Nat} (hh : A.handled = none) (hroom : A.depth < recursionLimit)
    (F : Fr h₀ L s.heap m) (N : News h₀ L s.heap news) (Pk : Pick S (W.listOf acc.toArray k) news rest) (G : GenHere w A h₀ L news a l cell its dv s) (hSl : S ≠ l) (hSc : S ≠ cell) (hz : acc.length + its.length < sizeLine)
    (ret : ∀ (es : List (Addr × Obj)) (k' : Nat) (h' : Heap) (tk' : Nat) (g' : Array GenState), Fr h₀ L h' m → News h₀ L h' ((S, W.listOf (acc ++ es.map fun e => Value.ref e.1).toArray k') :: (es ++ rest)) → AllBare g' →
      es.map (·.2) = its.map (tupO · dv) → (∀ e ∈ es, ∀ p ∈ news, p.1 ≠ e.1) → Q .none { s with heap := h', toks := tk', gens := g' }) :
    wpAny (model PR w) A (call (.builtin "list.extend") [.ref S, .ref a]) Q E s := by
  obtain ⟨hb, g, C, I, GP, hnw, ⟨hLC, hLI⟩, ⟨h0C, h0I⟩, ⟨hsC, hsI⟩, haC, haI⟩ := G
  have hm := Pk.spec.1 (S, _) (.head _)
  obtain ⟨hSa, hSC, hSI⟩ : S ≠ a ∧ S ≠ C ∧ S ≠ I := hnw _ hm
  have hS : s.heap.get? S = some (W.listOf acc.toArray k) := (N _ hm).1
  have hSs : S ≠ cStatics := fun e => by
    obtain ⟨_, ⟨o, es, ep, ho, hd, _⟩, _⟩ := GP.lim
    rw [← e, hS] at ho
    cases ho
    cases hd
  have hfin : ∀ (es : List (Addr × Obj)) c h' tk g', AllBare g' → h'.get? S = some (W.listOf (acc ++ es.map fun e => Value.ref e.1).toArray c) → PairsAt C I S s.heap h' its dv es →
      (∀ b o, b ≠ S → b ≠ C → b ≠ I → s.heap.get? b = some o → h'.get? b = some o) → Q .none { s with heap := h', toks := tk, gens := g' } := by
    intro es c h' tk g' hb' hS' hes hk
    have hLS : L ≠ S := Ne.symm (N _ hm).2.1
    refine ret es c h' tk g' ⟨F.ns.at' fun o e => hk L o hLS hLC hLI e, fun b o e => hk b o ?_ ?_ ?_ (F.keep b o e), F.above⟩ ?_ hb' hes.1 fun e he p hp q => ?_
    · rintro rfl; rw [(N _ hm).2.2] at e; cases e
    · rintro rfl; rw [h0C] at e; cases e
    · rintro rfl; rw [h0I] at e; cases e
    · intro p hp
      rcases List.mem_cons.mp hp with rfl | hp
      · exact ⟨hS', (N _ hm).2⟩
      · rcases List.mem_append.mp hp with hp | hp
        · obtain ⟨a1, a2, a3, a4, a5⟩ := hes.2 p hp
          refine ⟨a1, fun e => ?_, ?_⟩
          · obtain ⟨oL, _, _, hL, _⟩ := F.ns
            rw [e, hL] at a2; cases a2
          · cases q : h₀.get? p.1 with
            | none => rfl
            | some o => rw [F.keep _ _ q] at a2; cases a2
        · have hp' := Pk.spec.1 p (.tail _ hp)
          have hne := Pk.spec.2 p hp
          exact ⟨hk _ _ hne (hnw _ hp').2.1 (hnw _ hp').2.2 (N _ hp').1, (N _ hp').2⟩
    · obtain ⟨a1, a2, _⟩ := hes.2 e he
      rw [← q, (N _ hp).1] at a2
      cases a2
  refine wpAny_call (codeAny_call_builtin PySem.F.slot_list_extend.plain PySem.F.entry_list_extend (PySem.F.slot_list_extend.check _ _ _ _ _ _ _ _ ⟨_, hS, rfl⟩ (PySem.F.args_list_extend_2 _ _) ?_))
  show wpAny _ A.in1 (Builtin.List.listExtendWith (.ref S) (.ref a) .none) _ _ s
  unfold Builtin.List.listExtendWith
  have hT : s.TypeIs (.ref a) "generator" := GP.isg.typeIs
  refine wpAny_bind (wpAny_typeOf hT ?_)
  have h1 : Builtin.List.listSameRef (.ref S) (.ref a) = false := by simp [Builtin.List.listSameRef, hSa]
  have h2 : (Value.type "generator" == Value.type "list") = false := by decide
  have h3 : (Value.type "generator" == Value.type "tuple") = false := by decide
  simp only [h1, h2, h3, Bool.or_false, Bool.false_eq_true, if_false]
  refine wpAny_bind (wpAny_pyIter_gen GP.isg ?_)
  refine wpAny_bind (wpAny_holding ?_)
  unfold Builtin.List.listLengthHint
  refine wpAny_bind (wpAny_specialOf hT PySem.F.gen_no_len ?_)
  show wpAny _ A.in1 (specialOf (Value.ref a) (Str.ofString "__length_hint__") >>= _) _ _ _
  refine wpAny_bind (wpAny_specialOf hT PySem.F.gen_no_hint ?_)
  refine wpAny_pure ?_
  show wpAny _ A.in1 (rule "list.extend.makes-room" >>= fun _ => Builtin.List.listTouch (.ref S) >>= fun _ =>
    again (.builtin "list.extend.loop" ⟨[.ref S, .ref a, .none], []⟩)) _ _ _
  refine wpAny_bind (wpAny_rule ?_)
  refine wpAny_bind ?_
  show wpAny _ A.in1 (updateSeq S (·.push .none) >>= fun _ => updateSeq S (·.pop)) _ _ _
  refine wpAny_bind (wpAny_updateSeq hS rfl ?_ (by simp only [List.size_toArray]; omega) (by simp only [Array.size_push, List.size_toArray]; omega))
  have hS₂ := Heap.get?_update_self (Obj.mapSeq (·.push Value.none)) hS rfl
  refine wpAny_updateSeq hS₂ rfl ?_ (by simp only [Array.size_push, List.size_toArray]; omega) (by simp only [Array.size_push, Array.size_pop, List.size_toArray]; omega)
  have hS₃ := Heap.get?_update_self (Obj.mapSeq (·.pop)) hS₂ rfl
  have oth : ∀ b o, b ≠ S → s.heap.get? b = some o → ((s.heap.update S (Obj.mapSeq (·.push Value.none))).update S (Obj.mapSeq (·.pop))).get? b = some o :=
    fun b o hb e => (Heap.get?_update_other _ _ (Ne.symm hb)).trans ((Heap.get?_update_other _ _ (Ne.symm hb)).trans e)
  refine wpAny_pure ⟨plainId_quiet PySem.F.plain_extend_loop _, extend_loop (S := S) (g := g) (dv := dv) (s := s) (hB := s.heap) (es := []) hh hroom haC haI hsC hsI hSa hSC hSI hSl hSc hSs (Nat.le_of_lt hz) (fun es c h' tk g' b1 b2 b3 b4 => ?_) its.length 0 _ s.toks s.gens (k + 1 + 1) (Nat.sub_zero _) (Nat.zero_le _) ?_ hb ?_ ⟨rfl, fun e hm => nomatch hm⟩ (fun b o h1 _ _ e => oth b o h1 e)⟩
  · exact hfin es c h' tk g' b1 b2 b3 b4
  · exact GP.frame (fun o e => oth a o (Ne.symm hSa) e) (fun o e => oth _ o (Ne.symm hSs) e) fun b hb o e => oth b o (by
        rcases List.mem_cons.mp hb with rfl | hb
        · exact Ne.symm hSC
        · rcases List.mem_cons.mp hb with rfl | hb
          · exact Ne.symm hSI
          · rcases List.mem_cons.mp hb with rfl | hb
            · exact Ne.symm hSl
            · rw [List.mem_singleton.mp hb]; exact Ne.symm hSc) e
  · rw [hS₃]
    simp [Obj.mapSeq, W.listOf]
end
end

section
/-- a generator's source is at hand: the walk stops here -/
structure AtGen (w : World) (A : Around) (env : Env) (elt iter : Expr) (x : Str) (px : Pos) (scope : Scope) (cl : List (Str × Addr)) (pos : Pos) (Q : Value → Shared → Prop) (E : Value → Shared → Prop) (xv : Value) (s₁ : Shared) : Prop where
  go : wpAny (model PR w) A (pyIter xv) (fun it s₂ => s₂.heap.NoLimit ∧
      wpAny (model PR w) A (genexprCode env pos (env.qual ++ "<genexpr>") scope) (fun code s₃ => wpAny (model PR w) A (builtinsFor env.globals env.builtins) (fun bi s₄ =>
        ∀ h', h'.Ns s₄.heap.objs.size (fun y => if y = ".0" then some it else none) → Heap.SameBut s₄.heap.objs.size (s₄.heap.push { cls := .type "frame", data := .dict #[] }) h' →
          Q (.ref h'.objs.size) { s₄ with
            gens := s₄.gens.push (.fresh (.compStart (.GeneratorExp elt [⟨.Name x px, iter, [], 0⟩] scope pos) 0 it .none (genEnv scope cl s₄.heap.objs.size code bi env))),
            toks := s₄.toks + 1 + 1 + 1,
            heap := h'.push { cls := .type "generator", data := .fields #[.int s₄.gens.size 0, .str "<genexpr>" (s₄.toks + 1), .str (env.qual ++ "<genexpr>") (s₄.toks + 1 + 1)] } }) E s₃) E s₂) E s₁
section
variable {w : World} {A : Around} {s : Shared} {env : Env} {elt iter : Expr} {x : Str} {px : Pos} {scope : Scope} {cl : List (Str × Addr)} {pos : Pos} {Q : Value → Shared → Prop} {E : Value → Shared → Prop}
theorem gen_rule (hco : scope.isCoroutine = false) (hclos : closureFor scope env = pure cl) (hcell : ∀ y ∈ scope.names, y.2 ≠ .cell) (h0 : scope.names.lookup (".0" : Str) = some NameKind.local) (hkind : scope.kind = .function)
    (hroom : A.depth < recursionLimit) (h : wpAny (model PR w) A (eval iter env) (AtGen w A env elt iter x px scope cl pos Q E) E s) (hs : ∀ x, genFold iter env x = pure x) :
    wpAny (model PR w) A (eval (.GeneratorExp elt [⟨.Name x px, iter, [], 0⟩] scope pos) env) Q E s :=
  wpAny_GeneratorExp_make hco hclos hcell h0 hkind hroom (wpAny_mono h (fun _ _ a => a.go) fun _ _ e => e) hs

theorem gen_list {h₀ : Heap} {L P l cell : Addr} {m : Str → Option Value} {news rest : List (Addr × Obj)} {ps : Array Value} {its : List Value} {k : Nat} {oc : Obj} {dv : Value}
    (hh : A.handled = none) (hcode : env.code = .ref 111) (hglob : env.globals = mainGlobals) (hx : scope.names.lookup x = some .local) (hkind : scope.kind = .function) (hco : scope.isCoroutine = false)
    (F : Fr h₀ L s.heap m) (N : News h₀ L s.heap news) (Pk : Pick P (tabObj ps) news rest) (G : Gx h₀ P) (ht : TriplesOk ps.toList) (hb : AllBare s.gens) (hlim : h₀.NoLimit)
    (hl : (l, (W.listOf its.toArray k : Obj)) ∈ rest) (hc : (cell, oc) ∈ rest) (hq : ∀ C code, PairElt w (genEnv scope cl C code builtinsNs env) x elt cell oc dv)
    (ret : ∀ (a : Addr) (ps' : Array Value) (h' : Heap) (tk' : Nat) (g' : Array GenState), Fr h₀ L h' m → News h₀ L h' ((P, tabObj ps') :: rest) → TriplesOk ps'.toList → (∃ more, ps' = ps ++ more) →
      GenHere w A h₀ L ((P, tabObj ps') :: rest) a l cell its dv { s with heap := h', toks := tk', gens := g' } → Q (.ref a) { s with heap := h', toks := tk', gens := g' }) :
    AtGen w A env elt iter x px scope cl pos Q E (.ref l) s := by
  refine ⟨?_⟩
  have hlm := N _ (Pk.spec.1 _ (.tail _ hl))
  have hcm := N _ (Pk.spec.1 _ (.tail _ hc))
  have hPm := N _ (Pk.spec.1 (P, tabObj ps) (.head _))
  have hls : s.heap.IsList l its.toArray := ⟨_, hlm.1, rfl, k, rfl⟩
  have hlP : l ≠ P := Pk.spec.2 _ hl
  have hcP : cell ≠ P := Pk.spec.2 _ hc
  obtain ⟨mg, bm, ob, BM⟩ := G.bm
  have hkp : ∀ b o, s.heap.get? b = some o → (s.heap.push { cls := .type "list_iterator", data := .fields #[.ref l, .int 0 0] }).get? b = some o := fun b o e => Heap.get?_push_of_some _ e
  have hl₂ := (hlim.keeps F.keep).keeps hkp
  have hsP : cStatics ≠ P := fun e => by
    obtain ⟨_, ⟨o, es, ep, ho, hd, _⟩, _⟩ := hlim.keeps F.keep
    rw [e, hPm.1] at ho
    cases ho
    cases hd
  refine wpAny_pyIter_list hls ⟨hl₂, ?_⟩
  -- what stands behind the code's making
  have after : ∀ (code : Value) (h₃ : Heap) (tk₃ : Nat) (ps' : Array Value), Heap.ExtBut P (s.heap.push { cls := .type "list_iterator", data := .fields #[.ref l, .int 0 0] }) h₃ → h₃.get? P = some (tabObj ps') →
      TriplesOk ps'.toList → (∃ more, ps' = ps ++ more) → s.heap.objs.size < h₃.objs.size → BMod h₃ mainGlobals mg bm ob →
      wpAny (model PR w) A (builtinsFor env.globals env.builtins) (fun bi s₄ =>
        ∀ h', h'.Ns s₄.heap.objs.size (fun y => if y = ".0" then some (.ref s.heap.objs.size) else none) → Heap.SameBut s₄.heap.objs.size (s₄.heap.push { cls := .type "frame", data := .dict #[] }) h' →
          Q (.ref h'.objs.size) { s₄ with
            gens := s₄.gens.push (.fresh (.compStart (.GeneratorExp elt [⟨.Name x px, iter, [], 0⟩] scope pos) 0 (.ref s.heap.objs.size) .none (genEnv scope cl s₄.heap.objs.size code bi env))),
            toks := s₄.toks + 1 + 1 + 1,
            heap := h'.push { cls := .type "generator", data := .fields #[.int s₄.gens.size 0, .str "<genexpr>" (s₄.toks + 1), .str (env.qual ++ "<genexpr>") (s₄.toks + 1 + 1)] } }) E
        { s with heap := h₃, toks := tk₃ } := by
    intro code h₃ tk₃ ps' hx₃ hP₃ ht₃ hmore hsz₃ M₃
    refine wpAny_builtinsFor (m := mg) (hglob ▸ M₃.ns) M₃.name M₃.ne M₃.obj M₃.cls M₃.dict M₃.data ?_
    intro h' hn' hs'
    have hsz' : h'.objs.size = h₃.objs.size + 1 := by rw [hs'.1, Heap.size_push]
    have k4 : ∀ b o, h₃.get? b = some o → h'.get? b = some o := fun b o e => hs'.extBut b o (Nat.ne_of_lt (Heap.lt_size e)) (Heap.get?_push_of_some _ e)
    have k5 : ∀ b o, h₃.get? b = some o → (h'.push { cls := .type "generator", data := .fields #[.int s.gens.size 0, .str "<genexpr>" (tk₃ + 1), .str (env.qual ++ "<genexpr>") (tk₃ + 1 + 1)] }).get? b = some o := fun b o e => Heap.get?_push_of_some _ (k4 b o e)
    have k1 : ∀ b o, b ≠ P → s.heap.get? b = some o → h₃.get? b = some o := fun b o hb e => hx₃ b o hb (hkp b o e)
    have hLP : L ≠ P := Ne.symm hPm.2.1
    have old : ∀ b o, s.heap.get? b = some o → b < s.heap.objs.size := fun b o e => Heap.lt_size e
    have oldne : ∀ b o, s.heap.get? b = some o → b ≠ h'.objs.size ∧ b ≠ h₃.objs.size ∧ b ≠ s.heap.objs.size := fun b o e => by
      have h9 : @LT.lt Nat _ b s.heap.objs.size := old b o e
      exact ⟨Nat.ne_of_lt (show @LT.lt Nat _ b h'.objs.size by omega), Nat.ne_of_lt (show @LT.lt Nat _ b h₃.objs.size by omega), Nat.ne_of_lt h9⟩
    have hI : h₃.get? s.heap.objs.size = some { cls := .type "list_iterator", data := .fields #[.ref l, .int 0 0] } := hx₃ _ _ (Ne.symm (oldne P _ hPm.1).2.2) (Heap.get?_push_size _ rfl)
    have F₅ : Fr h₀ L (h'.push { cls := .type "generator", data := .fields #[.int s.gens.size 0, .str "<genexpr>" (tk₃ + 1), .str (env.qual ++ "<genexpr>") (tk₃ + 1 + 1)] }) m := ⟨F.ns.at' fun o e => k5 L o (k1 L o hLP e), fun b o e => k5 b o (k1 b o (fun q => by rw [q, hPm.2.2] at e; cases e) (F.keep b o e)), F.above⟩
    have nnew : ∀ b o, s.heap.get? b = some o → h₀.get? b = h₀.get? b := fun _ _ _ => rfl
    have fresh : ∀ b, ¬ b < s.heap.objs.size → h₀.get? b = none := fun b hb => by
      cases q : h₀.get? b with
      | none => rfl
      | some o => exact absurd (old _ _ (F.keep _ _ q)) hb
    obtain ⟨oL, _, _, hL, _⟩ := id F.ns
    obtain ⟨oS, _, _, hSt, _⟩ := (hlim.keeps F.keep).choose_spec.1
    refine ret h'.objs.size ps' _ _ _ F₅ ?_ ht₃ hmore ⟨hb.push rfl, s.gens.size, h₃.objs.size, s.heap.objs.size, ⟨?_, ?_, _, Array.getElem?_push_size .., ?_⟩, ?_, ?_, ?_, ?_, ?_, ?_⟩
    · intro p hp
      rcases List.mem_cons.mp hp with rfl | hp
      · exact ⟨k5 _ _ hP₃, hPm.2⟩
      · have hm := N p (Pk.spec.1 _ (.tail _ hp))
        exact ⟨k5 _ _ (k1 _ _ (Pk.spec.2 p hp) hm.1), hm.2⟩
    · exact ⟨_, _, _, Heap.get?_push_size _ rfl, rfl, rfl, rfl⟩
    · exact (hl₂.extBut hx₃ hsP).keeps k5
    · intro s'' hal
      refine ⟨rfl, ?_⟩
      rw [Nat.sub_zero]
      have hd : A.in4.in1.handled = none := hh
      refine seg_pairs0 (A := A.in4.in1) (cenv := genEnv scope cl h₃.objs.size code builtinsNs env) hd (oldne l _ hlm.1).2.2 (oldne cell _ hcm.1).2.2 hx (by simp [genEnv, hkind]) hco (Nat.ne_of_lt hsz₃) (oldne l _ hlm.1).2.1 (oldne cell _ hcm.1).2.1 (hq _ _) s'' s'' _ ?_ ?_ ((hn'.push _).at' fun o e => hal _ (by simp [genEnv]) o e) (hal cell (by simp) _ (k5 _ _ (k1 _ _ hcP hcm.1))) (GenSince.refl _ _ _)
      · exact ⟨_, hal _ (by simp) _ (k5 _ _ hI), rfl, rfl⟩
      · exact ⟨_, hal _ (by simp) _ (k5 _ _ (k1 _ _ hlP hlm.1)), rfl, k, rfl⟩
    · intro p hp
      rcases List.mem_cons.mp hp with rfl | hp
      · exact oldne _ _ hPm.1
      · exact oldne _ _ (N p (Pk.spec.1 _ (.tail _ hp))).1
    · exact ⟨(oldne L _ hL).2.1, (oldne L _ hL).2.2⟩
    · exact ⟨fresh _ (by omega), fresh _ (by omega)⟩
    · exact ⟨(oldne _ _ hSt).2.1, (oldne _ _ hSt).2.2⟩
    · rw [hsz']; exact Nat.ne_of_gt (Nat.lt_succ_self _)
    · rw [hsz']; exact Nat.ne_of_gt (by omega)
  have F₂ := F.keeps hkp
  have hP₂ := hkp _ _ hPm.1
  have CH := (G.code.keeps F.keep).keeps hkp
  have M₂ := (BM.keeps F.keep).keeps hkp
  have hsz₂ : s.heap.objs.size < (s.heap.push { cls := .type "list_iterator", data := .fields #[.ref l, .int 0 0] }).objs.size := by rw [Heap.size_push]; exact Nat.lt_succ_self _
  cases hf : codeAmong pos ps.toList with
  | some c' => exact wpAny_genexprCode_hit hcode (CH.code hP₂ ht) hf (after _ _ _ ps (fun b o _ e => e) hP₂ ht ⟨#[], by simp⟩ hsz₂ M₂)
  | none =>
    refine wpAny_genexprCodeX hcode (CH.code hP₂ ht) (CH.tab hP₂) hf fun c' h₃ tk₃ hx₃ hge hlt hcode₃ _ htab₃ _ => ?_
    obtain ⟨_, _, _, _, _, _, _, _, _, _, _, _, _, _, _, _, _, _, _, htr, _⟩ := hcode₃
    exact after _ _ _ _ hx₃ htab₃.2 htr ⟨_, rfl⟩ (Nat.lt_of_lt_of_le hsz₂ (Nat.le_trans hge (Nat.le_of_lt hlt))) (M₂.extBut (CH.tab hP₂) hx₃)
end
end

section
/-- the end of a while's turn -/
def WEnd (h₀ : Heap) (L : Addr) (J : Nat → (Str → Option Value) → List (Addr × Obj) → Array GenState → Prop) (n : Nat) (s₂ s₃ : Shared) : Prop :=
  ∃ k h₃ tk₃ g₃ m₃ nw₃, k < n ∧ s₃ = { s₂ with heap := h₃, toks := tk₃, gens := g₃ } ∧ Fr h₀ L h₃ m₃ ∧ News h₀ L h₃ nw₃ ∧ J k m₃ nw₃ g₃
def WPost (h₀ : Heap) (L : Addr) (J : Nat → (Str → Option Value) → List (Addr × Obj) → Array GenState → Prop) (n : Nat) (s₂ : Shared) (Q : Flow → Shared → Prop) (f : Flow) (s₃ : Shared) : Prop :=
  match f with
  | .ret v => Q (.ret v) s₃
  | .brk => Q .next s₃
  | _ => WEnd h₀ L J n s₂ s₃
theorem while_rule {w : World} {A : Around} {s : Shared} {env : Env} {E : Value → Shared → Prop} {Q : Flow → Shared → Prop} {test : Expr} {body : List Stmt} {pos : Pos} {h₀ : Heap} {m : Str → Option Value} {news : List (Addr × Obj)}
    (J : Nat → (Str → Option Value) → List (Addr × Obj) → Array GenState → Prop) (n : Nat) (F : Fr h₀ env.locals s.heap m) (N : News h₀ env.locals s.heap news) (h0 : J n m news s.gens)
    (turn : ∀ n m nw g h tk, J n m nw g → Fr h₀ env.locals h m → News h₀ env.locals h nw →
      wpAny (model PR w) A (isTrue test env (eval test env)) (fun b s₂ => if b then wpAny (model PR w) A (execs body env) (WPost h₀ env.locals J n s Q) (fun _ _ => False) s₂ else Q .next s₂) (fun _ _ => False) { s with heap := h, toks := tk, gens := g }) :
    wpAny (model PR w) A (exec (.While test body [] pos) env) Q E s := by
  refine wpAny_While (codeAny_whileLoop (fun k s' => ∃ h' tk' g' m' nw', s' = { s with heap := h', toks := tk', gens := g' } ∧ Fr h₀ env.locals h' m' ∧ News h₀ env.locals h' nw' ∧ J k m' nw' g') ?_ n ⟨_, _, _, _, _, rfl, F, N, h0⟩)
  rintro k s' ⟨h', tk', g', m', nw', rfl, F', N', hJ⟩
  refine wpAny_mono (turn k m' nw' g' h' tk' hJ F' N') (fun b s₂ h₂ => ?_) fun _ _ e => e.elim
  cases b with
  | false => exact wpAny_execs_nil h₂
  | true =>
    refine wpAny_mono h₂ (fun f s₃ h₃ => ?_) fun _ _ e => e.elim
    have fin : WEnd h₀ env.locals J k s s₃ → ∃ mm, mm < k ∧ ∃ h' tk' g' m' nw', s₃ = { s with heap := h', toks := tk', gens := g' } ∧ Fr h₀ env.locals h' m' ∧ News h₀ env.locals h' nw' ∧ J mm m' nw' g' := by
      rintro ⟨k', h₃, tk₃, g₃, m₃, nw₃, lt, e, F₃, N₃, J₃⟩
      exact ⟨k', lt, h₃, tk₃, g₃, m₃, nw₃, e, F₃, N₃, J₃⟩
    cases f with
    | ret v => exact h₃
    | brk => exact h₃
    | cont => exact fin h₃
    | next => exact fin h₃

theorem truth_list {w : World} {A : Around} {E : Value → Shared → Prop} {s : Shared} {h₀ : Heap} {L l : Addr} {news : List (Addr × Obj)} {its : List Value} {k : Nat} {Q : Bool → Shared → Prop} (N : News h₀ L s.heap news) (hm : (l, (W.listOf its.toArray k : Obj)) ∈ news) (hz : its.length < 100000)
    (h : ∀ tk, Q (!its.isEmpty) { s with toks := tk }) : wpAny (model PR w) A (truthy (.ref l)) Q E s := by
  refine wpAny_truthy_list ⟨_, (N _ hm).1, rfl, k, rfl⟩ (by simp only [List.size_toArray]; omega) ?_
  simpa using h _

/-- the stack of token_depth, its top first: every depth at most mx; the deepest that is reached; the count of parts -/
inductive Stk (w : World) (nl tl : List (Addr × Obj)) : List Value → Nat → Nat → Nat → Prop
  | nil {mx : Nat} : Stk w nl tl [] mx 0 0
  | cons {t : Addr} {v : Value} {d : Nat} {td : Tok} {h z : Nat} {rs : List Value} {mx M Z : Nat} : (t, tupO v (.int d td)) ∈ tl → Tkn w nl v h z → d ≤ mx → Stk w nl tl rs mx M Z → Stk w nl tl (.ref t :: rs) mx (max (d + h) M) (z + Z)
theorem Stk.mono {w : World} {nl tl tl' : List (Addr × Obj)} (hs : ∀ p ∈ tl, p ∈ tl') {rs : List Value} {mx mx' M Z : Nat} (hm : mx ≤ mx') (S : Stk w nl tl rs mx M Z) : Stk w nl tl' rs mx' M Z := by
  induction S with
  | nil => exact .nil
  | cons a b c _ ih => exact .cons (hs _ a) b (Nat.le_trans c hm) (ih hm)
theorem Tkn.pos {w : World} {nl : List (Addr × Obj)} {v : Value} {h z : Nat} (T : Tkn w nl v h z) : 1 ≤ z := by
  cases T <;> omega
theorem Stk.len {w : World} {nl tl : List (Addr × Obj)} {rs : List Value} {mx M Z : Nat} (S : Stk w nl tl rs mx M Z) : rs.length ≤ Z := by
  induction S with
  | nil => exact Nat.le_refl _
  | cons a b c _ ih => have := b.pos; rw [List.length_cons]; omega
theorem Tkns.len {w : World} {nl : List (Addr × Obj)} : ∀ {vs : List Value} {h z : Nat}, Tkns w nl vs h z → vs.length ≤ z
  | _, _, _, .nil => Nat.le_refl _
  | _, _, _, .cons a b => by have := a.pos; have := Tkns.len b; rw [List.length_cons]; omega
theorem Stk.push {w : World} {nl tl : List (Addr × Obj)} {mx : Nat} {d : Nat} {td : Tok} (hd : d ≤ mx) : ∀ {vs : List Value} {h z : Nat} (es : List (Addr × Obj)) {rs : List Value} {M Z : Nat}, Tkns w nl vs h z → es.map (·.2) = vs.map (tupO · (.int d td)) → (∀ e ∈ es, e ∈ tl) → Stk w nl tl rs mx M Z →
    ∃ M', Stk w nl tl ((es.map fun e => Value.ref e.1).reverse ++ rs) mx M' (z + Z) ∧ max mx M' = max mx (max (d + h) M)
  | _, _, _, es, rs, M, Z, .nil, he, hm, S => by
    have : es = [] := by simpa using he
    subst this
    exact ⟨M, by simpa using S, by omega⟩
  | _, _, _, es, rs, M, Z, .cons (h := h1) (z := z1) (h' := h2) (z' := z2) a b, he, hm, S => by
    cases es with
    | nil => simp at he
    | cons e es =>
      rw [List.map_cons, List.map_cons] at he
      obtain ⟨e1, e2⟩ := List.cons.inj he
      obtain ⟨t, o⟩ := e
      dsimp only at e1
      subst e1
      have S1 := Stk.cons (hm _ (.head _)) a hd S
      obtain ⟨M', S2, h3⟩ := Stk.push hd es b e2 (fun e he => hm e (.tail _ he)) S1
      refine ⟨M', ?_, by omega⟩
      rw [List.map_cons, List.reverse_cons, List.append_assoc, Nat.add_comm z1 z2, Nat.add_assoc]
      exact S2
theorem last_app (p : List Value) (y : Value) : kl_last (p ++ [y]) = some (p, y) := by
  induction p with
  | nil => rfl
  | cons a p ih => rw [List.cons_append, kl_last, ih]
theorem pop_last {w : World} {A : Around} {E : Value → Shared → Prop} {s : Shared} {h₀ : Heap} {L D : Addr} {m : Str → Option Value} {news news' : List (Addr × Obj)} {n : Nat} {p : List Value} {y : Value} {Q : Value → Shared → Prop} (F : Fr h₀ L s.heap m) (N : News h₀ L s.heap news)
    (U : Upd D (listOf (p ++ [y]).toArray n) (listOf p.toArray (n + 1)) news news') (hz : p.length < 100000) (h : ∀ h', Fr h₀ L h' m → News h₀ L h' news' → Q y { s with heap := h' }) : wpAny (model PR w) A (call (.builtin "list.pop") [.ref D]) Q E s := by
  refine kl_pop F N (p := p) (y := y) ?_ U ?_ h
  · exact last_app p y
  · simp only [List.length_append, List.length_singleton]
    rw [sizeLine_eq]; omega
theorem off1_mem {D : Addr} : ∀ {l : List (Addr × Obj)}, LCg.Off1 D l → ∀ p ∈ l, @Ne Nat p.1 D
  | [], _ => fun _ hp => absurd hp List.not_mem_nil
  | q :: r, h => fun p hp => by
    rcases List.mem_cons.mp hp with e | hp
    · rw [e]; exact h.1
    · exact off1_mem h.2 p hp
theorem assign_pair {w : World} {A : Around} {E : Value → Shared → Prop} {s : Shared} {env : Env} {h₀ : Heap} {L t : Addr} {m : Str → Option Value} {news : List (Addr × Obj)} {xa xb : Str} {pa pb pt : Pos} {kt : Nat} {u v : Value} {Q : Unit → Shared → Prop} (hh : A.handled = none)
    (F : Fr h₀ L s.heap m) (N : News h₀ L s.heap news) (hm : (t, tupO u v) ∈ news)
    (h : ∀ h', Fr h₀ L h' m → News h₀ L h' news → wpAny (model PR w) A (assign (.Name xa pa) env u) (fun _ s₁ => wpAny (model PR w) A (assign (.Name xb pb) env v) Q E s₁) E { s with heap := h' }) :
    wpAny (model PR w) A (assign (.Tuple [.Name xa pa, .Name xb pb] kt pt) env (.ref t)) Q E s := by
  refine wpAny_assign_Tuple hh (t := t) (items := #[u, v]) ⟨_, (N _ hm).1, rfl, 0, rfl⟩ rfl rfl fun h₁ hx₁ => ?_
  replace hx₁ : Heap.ExtBut s.heap.objs.size s.heap h₁ := hx₁
  have old : ∀ b o, s.heap.get? b = some o → h₁.get? b = some o := fun b o e => hx₁ b o (Nat.ne_of_lt (Heap.lt_size e)) e
  show wpAny _ _ (do holding [v] (assign (.Name xa pa) env u); do holding [] (assign (.Name xb pb) env v); pure ()) _ _ _
  refine wpAny_bind (wpAny_holding (wpAny_mono (h h₁ (F.keeps old) fun p hp => ⟨old _ _ (N p hp).1, (N p hp).2⟩) (fun _ s₁ h₂ => ?_) fun _ _ e => e))
  exact wpAny_bind (wpAny_holding (wpAny_mono h₂ (fun _ _ e => wpAny_pure e) fun _ _ e => e))
theorem store_cell {w : World} {A : Around} {E : Value → Shared → Prop} {s : Shared} {env : Env} {h₀ : Heap} {L c : Addr} {o : Obj} {m : Str → Option Value} {news : List (Addr × Obj)} {g : Obj → List (Addr × Obj)} {x : Str} {v₀ : Option Value} {v : Value} {Q : Unit → Shared → Prop}
    (F : Fr h₀ L s.heap m) (N : News h₀ L s.heap news) (hk : env.scope.kind = .function) (hl : env.kindOf x = some .cell) (hc : env.cells.lookup x = some c) (U : UpdF c o news g) (hd : o.data = .cell v₀)
    (h : ∀ h' o', Fr h₀ L h' m → News h₀ L h' (g o') → o'.data = .cell (some v) → Q () { s with heap := h' }) : wpAny (model PR w) A (storeName env x v) Q E s := by
  obtain ⟨own, rest, rfl, hg, h1, h2⟩ := U.split
  have hmem := N (c, o) (List.mem_append_right _ (.head _))
  refine wpAny_storeName_cell hk hl hc ⟨o, hmem.1, hd⟩ fun h' hv hs => ?_
  obtain ⟨o', ho', hd'⟩ := hv
  refine h h' o' ⟨F.ns.sameBut hs (Ne.symm hmem.2.1), fun b ob e => (hs.2 b (fun q => ?_)).trans (F.keep b ob e), F.above⟩ (hg o' ▸ N.setAt h1 h2 hs ho') hd'
  rw [q, hmem.2.2] at e; cases e
theorem pair_elt {w : World} {cenv : Env} {x y : Str} {px py pt : Pos} {kt : Nat} {cell : Addr} {oc : Obj} {dv : Value} (hk : cenv.scope.kind = .function) (h1 : cenv.kindOf x = some .local) (h2 : cenv.kindOf y = some .free) (h3 : cenv.cells.lookup y = some cell)
    (h4 : oc.data = .cell (some dv)) (h5 : (x == ("__debug__" : Str)) = false) (h6 : (y == ("__debug__" : Str)) = false) (h7 : (y == ("__classdict__" : Str)) = false) : PairElt w cenv x (.Tuple [.Name x px, .Name y py] kt pt) cell oc dv := by
  intro A' E' u s₂ m₂ _ hn hx hc
  refine wpAny_Tuple (wpAny_items_cons (wpAny_Name (wpAny_loadName_local hk h1 hn hx (wpAny_items_cons (wpAny_Name (wpAny_loadName_free hk h2 h3 ⟨oc, hc, h4⟩ (wpAny_items_nil ?_) h7) h6))) h5))
  refine ⟨by rw [sizeLine_eq]; exact Nat.le_of_ble_eq_true rfl, ⟨_, rfl, ?_, Heap.get?_push_size _ rfl⟩, _, _, rfl, fun b o e => Heap.get?_push_of_some _ e⟩
  cases q : s₂.heap.get? s₂.heap.objs.size with
  | none => rfl
  | some o => exact absurd (Heap.lt_size q) (Nat.lt_irrefl _)
/-- a while is at hand: the walk stops here -/
structure AtWhl (w : World) (A : Around) (env : Env) (test : Expr) (body : List Stmt) (pos : Pos) (Q : Flow → Shared → Prop) (E : Value → Shared → Prop) (s : Shared) : Prop where
  go : wpAny (model PR w) A (exec (.While test body [] pos) env) Q E s
/-- an object's truth is asked: the walk stops here -/
structure AtTruth (w : World) (A : Around) (l : Addr) (Q : Bool → Shared → Prop) (E : Value → Shared → Prop) (s : Shared) : Prop where
  go : wpAny (model PR w) A (truthy (.ref l)) Q E s
end
local macro_rules | `(tactic| walk_at "my step 17") => `(tactic| (k_here; (with_reducible show wpAny _ _ (call (Value.builtin _) [Value.ref _]) _ _ _); k_dflt (refine' pop_last ?F ?N ?U ?z ?_; (case F => k_asm); (case N => k_asm); (case U => k_upd); (case z => first | omega | (simp only [List.length_reverse]; omega)); k_whole)))
set_option hygiene false in
local macro_rules | `(tactic| walk_at "call builtin:list.pop") => `(tactic| (walk_at "my step 17"; intro h9 F9 N9; (try k_sweep)))
local macro_rules | `(tactic| walk_at "compareOp In str ref") => `(tactic| (k_here; k_dflt (refine kda_in (knd := PySem.strKind _ _) (by k_asm) (by k_mem) (by k_asm) (by k_asm) (strKind_is _ _ _ _) _ (by assumption) ?_)))
local macro_rules | `(tactic| walk_at "exec While Name cons nil") => `(tactic| (k_here; refine AtWhl.go ?_))
local macro_rules | `(tactic| walk_at "exec While") => `(tactic| (k_here; refine AtWhl.go ?_))
local macro_rules | `(tactic| walk_at "truthy ref") => `(tactic| (k_here; refine AtTruth.go ?_))
local macro_rules | `(tactic| walk_at "my step 18") => `(tactic| (k_here; (with_reducible show wpAny _ _ (assign (Expr.Tuple [Expr.Name _ _, Expr.Name _ _] _ _) _ (Value.ref _)) _ _ _); k_dflt (refine' assign_pair ?hh ?F ?N ?m ?_; (case hh => assumption); (case F => k_asm); (case N => k_asm); (case m => k_mem); k_whole)))
set_option hygiene false in
local macro_rules | `(tactic| walk_at "assign") => `(tactic| (walk_at "my step 18"; intro h9 F9 N9; (try k_sweep)))
set_option hygiene false in
local macro_rules | `(tactic| walk_at "assign Tuple") => `(tactic| (walk_at "my step 18"; intro h9 F9 N9; (try k_sweep)))
local macro_rules | `(tactic| walk_at "my step 19") => `(tactic| (k_here; k_dflt (refine' store_cell ?F ?N ?a ?b ?c ?U ?d ?_; (case a => rfl); (case b => rfl); (case F => k_asm); (case N => k_asm); (case c => rfl); (case U => k_updF); (case d => k_asm); k_whole)))
set_option hygiene false in
local macro_rules | `(tactic| walk_at "storeName") => `(tactic| (name_kind "cell"; walk_at "my step 19"; intro h9 o9 F9 N9 dO9; (try dsimp only at N9); (try k_sweep)))
section
/-- a text is set -/
theorem deed0 {w : World} {A : Around} {s : Shared} {h₀ : Heap} {L scr : Addr} {m : Str → Option Value} {rest : List (Addr × Obj)} {Q E : Value → Shared → Prop}
    {box sl ms x dx md e tl bl mtl ml mbl f : Addr} {p st k : Int} {tp ts dt kt : Tok} {xs ys : List Value} {k1 k2 : Nat} {K : Kt} {src im dep lk dl src' dep' kept seen : Value} {om : Obj}
    (C : Cx w A h₀ L scr 9) (F : Fr h₀ L s.heap m)
    (N : News h₀ L s.heap ((box, boxO scr p st tp ts) :: (sl, W.listOf xs.toArray k1) :: (ms, W.listOf ys.toArray k2) :: (x, instObj 103 dx) :: (dx, stO w K e src tl im dep lk bl dl) :: (md, om) :: rest))
    (hp : 0 ≤ p) (hst : 0 ≤ st) (hst' : st < 2147483647) (k0 : 0 ≤ k) (k9 : k < 1000) (hxs : xs[k.toNat]? = some (.ref x)) (hys : ys[k.toNat]? = some (.ref md))
    (hM : om.IsDictOf (PySem.strKind PR w) (mdlOf src' mtl ml dep' mbl f kept seen)) (lM : (md == sysModules) = false)
    (nd : ([box, sl, ms, x, dx, md] : List Nat).Nodup) (r1 : ∀ q ∈ rest, q.1 ≠ box) (r2 : ∀ q ∈ rest, q.1 ≠ dx) (r3 : ∀ q ∈ rest, q.1 ≠ md)
    (ret : ∀ (p' : Int) (tp' : Tok) (st' : Int) (ts' : Tok) (t : Str) (u u' : Tok) (om' : Obj) (h' : Heap) (tk' : Nat), Fr h₀ L h' m →
      News h₀ L h' ((box, boxO scr p' st' tp' ts') :: (sl, W.listOf xs.toArray k1) :: (ms, W.listOf ys.toArray k2) :: (x, instObj 103 dx) :: (dx, stO w K e (.str t u) tl im dep lk bl dl) :: (md, om') :: rest) →
      0 ≤ p' → 0 ≤ st' → st' < 2147483647 → om'.IsDictOf (PySem.strKind PR w) (mdlOf (.str t u') mtl ml dep' mbl f kept seen) → Q (.bool true) { s with heap := h', toks := tk' }) :
    wpAny (model PySem.Challenge.rw_bq5016_01.row.prog w) A (call (.ref 213) [.ref box, .int 0 dt, .int k kt, .ref sl, .ref ms]) Q E s := by
  have hX := C.X
  revert hX; k_fill; intro hX
  simp only [List.nodup_cons, List.mem_cons, not_or, List.not_mem_nil, not_false_eq_true, and_true] at nd
  refine wpAny_call ?_
  refine' enterCC [(Str.ofString "box", .ref box), (Str.ofString "deed", .int 0 dt), (Str.ofString "k", .int k kt), (Str.ofString "states", .ref sl), (Str.ofString "models", .ref ms)] C F N ?k6 ?k7 ?k9 ?kB ?kD ?c2 ?c3 ?c4 ?_
  case k6 => k_is
  case k7 => k_is
  case k9 => exact BindsTo.of_eq rfl
  case kB => exact rfl
  case kD => decide +kernel
  case c2 => exact rfl
  case c3 => exact rfl
  case c4 => exact rfl
  intro g' L' h' tk' cells pp lo mg mb F' N' Y' X' T' C' lt' st9
  k_cells Y'
  try simp only [List.cons_append, List.nil_append] at N'
  k_lt lt'
  clear C N
  have hA' := C'.hh
  try dsimp only
  try k_fold
  k_steps
  obtain ⟨its, hits, hl0, hl9, hstr⟩ : ∃ its : List Value, g'.IsList 168 its.toArray ∧ 0 < its.length ∧ its.length < 1000 ∧ ∀ v ∈ its, ∃ t u, v = .str t u := by
    have hq : ∃ (t1 t2 t3 t4 t5 : Tok) (n : Nat), (hd.heap_39 w.params).lookup 168 = some (⟨.type "list", none, .seq #[.str (Str.ofString "") t1, .str (Str.ofString "a") t2, .str (Str.ofString "*a*") t3, .str (Str.ofString "a\n`b`") t4, .str (Str.ofString "x<!-- y -->") t5] n, #[]⟩ : Obj) := by
      exact ⟨_, _, _, _, _, _, by k_is⟩
    obtain ⟨t1, t2, t3, t4, t5, n, hq⟩ := hq
    exact ⟨[_, _, _, _, _], ⟨_, X' _ _ hq, rfl, _, rfl⟩, by simp, by simp, by simp⟩
  rename News g' _ _ _ => nN
  refine' pick_spec (its := its) (cx_at C' (by omega)) (by assumption) nN ?P hp hst hst' (.inr hits) hl0 hl9 ?_
  case P => walk_at "my pick"
  intro v9 p9 tp9 st9 ts9 h9 tk9 F9 N9 hp9 hs9 hs9' hv9
  obtain ⟨t9, u9, rfl⟩ := hstr _ hv9
  clear nN
  try k_sweep
  k_steps
  rename News h₀ _ _ _ => nZ
  rename Obj.IsDictOf _ _ _ => hD
  exact ret p9 tp9 st9 ts9 t9 u9 _ _ _ _ (by assumption) (news_sub nZ (by walk_at "my sub")) hp9 hs9 hs9' hD
end

section
theorem depth_spec {w : World} {A : Around} {s : Shared} {h₀ : Heap} {L scr : Addr} {m : Str → Option Value} {news rest : List (Addr × Obj)} {Q E : Value → Shared → Prop}
    {P tk : Addr} {ps : Array Value} {vs : List Value} {k0 H Zt : Nat}
    (C : Cx w A h₀ L scr 3) (F : Fr h₀ L s.heap m) (N₀ : News h₀ L s.heap news) (Pk : Pick P (tabObj ps) news rest) (G : Gx h₀ P) (ht : TriplesOk ps.toList) (hb : AllBare s.gens)
    (hl : (tk, (W.listOf vs.toArray k0 : Obj)) ∈ rest) (hT : Tkns w rest vs H Zt) (hZ : Zt ≤ 5000)
    (ret : ∀ (t : Tok) (ps' : Array Value) (h' : Heap) (tk' : Nat) (g' : Array GenState), Fr h₀ L h' m → News h₀ L h' ((P, tabObj ps') :: rest) → TriplesOk ps'.toList → AllBare g' → Q (.int H t) { s with heap := h', toks := tk', gens := g' }) :
    wpAny (model PySem.Challenge.rw_bq5016_01.row.prog w) A (call (.ref 112) [.ref tk]) Q E s := by
  have hX := C.X
  revert hX; k_fill; intro hX
  have N := news_sub N₀ Pk.spec.1
  have hne := Pk.spec.2
  clear Pk N₀
  refine wpAny_call ?_
  refine' enterCC [(Str.ofString "tokens", .ref tk)] C F N ?k6 ?k7 ?k9 ?kB ?kD ?c2 ?c3 ?c4 ?_
  case k6 => k_is
  case k7 => k_is
  case k9 => exact BindsTo.of_eq rfl
  case kB => exact rfl
  case kD => decide +kernel
  case c2 => exact rfl
  case c3 => exact rfl
  case c4 => exact rfl
  intro g' L' h' tk' cells pp lo mg mb F' N' Y' X' T' C' lt' st9
  k_cells Y'
  try simp only [List.cons_append, List.nil_append] at N'
  k_lt lt'
  clear C N
  have hA' := C'.hh
  try dsimp only
  try k_fold
  k_steps
  refine ⟨?_⟩
  rename News g' L' _ _ => nN
  rename Fr g' L' _ _ => nF
  rename Obj.data _ = _ => dO
  replace dO : _ = Data.cell none := dO
  have hcl : @LT.lt Nat _ L' (L' + 1) := Nat.lt_succ_self _
  have hcr : ∀ p ∈ rest, @LT.lt Nat _ p.1 (L' + 1) := fun p hp => Nat.lt_trans (ktn_ltOf lt'.2 p hp) hcl
  have hcP : @LT.lt Nat _ P (L' + 1) := Nat.lt_trans lt'.1 hcl
  refine comp_list (vs := vs) (k := k0) (fun i ys nw => ∃ (tl : List (Addr × Obj)) (rs : List Value) (M Z : Nat), nw = tl ++ (((L' + 1), _) :: (P, tabObj ps) :: rest) ∧ ys = rs.reverse ∧ (∀ q ∈ tl, @LT.lt Nat _ (L' + 1) q.1) ∧ Stk w rest tl rs 0 M Z ∧
    ∃ h2 z2, Tkns w rest (vs.drop i) h2 z2 ∧ max M h2 = H ∧ Z + z2 = Zt) hA' nF nN (.tail _ (.tail _ hl)) ?c1 ⟨[], [], 0, 0, rfl, rfl, (fun _ h => nomatch h), .nil, H, Zt, by simpa using hT, by omega, by omega⟩ ?c2 ?c3 ?c4
  case c1 => have := hT.len; rw [sizeLine_eq]; omega
  case c2 => rintro i ys nw ⟨tl, rs, M, Z, rfl, _⟩; exact List.mem_append_right _ (.tail _ (.tail _ hl))
  case c3 =>
    rintro s5 i ys nw v I oI C oC D m₂ h5 tk5 E' hi ⟨tl, rs, M, Z, rfl, rfl, htl, hS, h2, z2, hts, hM, hZ2⟩ hC hx F5 N5 off ⟨n1, n2, n3⟩
    clear nF nN
    have hdr : vs.drop i = v :: vs.drop (i + 1) := by
      obtain ⟨hi, hv⟩ := List.getElem?_eq_some_iff.mp hi
      rw [← hv]; exact List.drop_eq_getElem_cons hi
    rw [hdr] at hts
    cases hts with
    | @cons _ _ h1 z1 h2' z2' ht1 hr1 =>
    k_steps
    rename News g' L' _ _ => nN
    rename Fr g' L' _ _ => nF
    rename (I < _ ∧ C < _ ∧ D < _ ∧ _) => hlt
    have hce := ktn_ltOf hlt.2.2.2 ((L' + 1), _) (List.mem_append_right _ (.head _))
    refine ⟨_, _, (_, _) :: (tl ++ (((L' + 1), _) :: (P, tabObj ps) :: rest)), rfl, nF, news_sub nN (by walk_at "my sub"), ?_, _ :: tl, .ref _ :: rs, max (0 + h1) M, z1 + Z, rfl, by simp, ?_, .cons (.head _) ht1 (Nat.zero_le _) (hS.mono (fun p hp => .tail _ hp) (Nat.zero_le _)), h2', z2', hr1, by omega, by omega⟩
    · intro p hp
      rcases List.mem_cons.mp hp with rfl | hp
      · exact ⟨Nat.ne_of_gt hlt.1, Nat.ne_of_gt hlt.2.1, Nat.ne_of_gt hlt.2.2.1⟩
      · exact off p hp
    · intro q hq
      rcases List.mem_cons.mp hq with rfl | hq
      · exact hce
      · exact htl q hq
  case c4 =>
    rintro g5 ys nw ⟨tl, rs, M, Z, rfl, rfl, htl, hS, h2, z2, hts, hM, hZ2⟩ D h5 tk5 F5 N5 o1
    rw [List.drop_length] at hts
    cases hts
    clear nF nN
    dsimp only
    have oD : ∀ p ∈ tl ++ ((L' + 1), _) :: (P, tabObj ps) :: rest, @Ne Nat p.1 D := off1_mem o1
    have hDc : @Ne Nat (L' + 1) D := oD ((L' + 1), _) (List.mem_append_right _ (.head _))
    have hDP : @Ne Nat P D := oD (P, tabObj ps) (List.mem_append_right _ (.tail _ (.head _)))
    have hrD : ∀ p ∈ rest, @Ne Nat p.1 D := fun p hp => oD p (List.mem_append_right _ (.tail _ (.tail _ hp)))
    refine with_map F5 (fun m0 hm0 F6 => ?_)
    clear F5
    k_steps
    refine ⟨while_rule (fun n m' nw' g'' => AllBare g'' ∧ ∃ (rs : List Value) (tl : List (Addr × Obj)) (mx M : Nat) (t : Tok) (k : Nat) (oc : Obj) (ps' : Array Value) (co : Option Value),
      nw' = ((L' + 1), oc) :: (D, (W.listOf rs.reverse.toArray k : Obj)) :: (P, tabObj ps') :: (tl ++ rest) ∧ oc.data = .cell co ∧ TriplesOk ps'.toList ∧ (∀ q ∈ tl, @Ne Nat q.1 (L' + 1) ∧ @Ne Nat q.1 D ∧ @Ne Nat q.1 P) ∧ Stk w rest tl rs mx M n ∧ max mx M = H ∧ n ≤ Zt ∧
      m' (Str.ofString "maximum") = some (.int mx t) ∧ ∀ z, z ≠ Str.ofString "token" → z ≠ Str.ofString "maximum" → m' z = m0 z) Z F6 (news := ((L' + 1), _) :: (D, W.listOf rs.reverse.toArray _) :: (P, tabObj ps) :: (tl ++ rest)) (news_sub N5 (by walk_at "my sub"))
      ⟨hb, rs, tl, 0, M, _, _, _, ps, none, rfl, dO, ht, fun q hq => ⟨Nat.ne_of_gt (htl q hq), oD q (List.mem_append_left _ hq), Nat.ne_of_gt (Nat.lt_trans hcP (htl q hq))⟩, hS, by omega, by omega, by rw [hm0]; rfl, fun _ _ _ => rfl⟩ ?_⟩
    clear F6 N5 hS htl oD o1 tl hM hZ2
    rintro n m₁ nw₁ g₁ h₁ tk₁ ⟨hb₁, rs, tl, mx, M, t, k, oc, ps', co, rfl, hoc, ht', htl, hS, hM, hnZ, hmx, hm₁⟩ F₁ N₁
    rw [map_end hmx hm₁] at F₁
    subst hm0
    have hlen := hS.len
    have rc : ∀ p ∈ tl ++ rest, p.1 ≠ (L' + 1) := fun p hp => (List.mem_append.mp hp).elim (fun h => (htl p h).1) fun h => Nat.ne_of_lt (hcr p h)
    have rD : ∀ p ∈ tl ++ rest, p.1 ≠ D := fun p hp => (List.mem_append.mp hp).elim (fun h => (htl p h).2.1) fun h => hrD p h
    have rP : ∀ p ∈ tl ++ rest, p.1 ≠ P := fun p hp => (List.mem_append.mp hp).elim (fun h => (htl p h).2.2) fun h => hne p h
    have F9 : Fr g' L' h₁ _ := F₁
    have N9 : News g' L' h₁ _ := N₁
    clear F₁ N₁
    have hPc : @Ne Nat P (L' + 1) := Nat.ne_of_lt hcP
    cases hS with
    | nil =>
      k_steps
      refine ⟨truth_list (its := []) N9 (.tail _ (.head _)) (by simp) fun tk9 => ?_⟩
      rw [if_neg (by simp)]
      dsimp only
      k_steps
      have e : mx = H := by omega
      subst e
      rename News h₀ _ _ _ => nZ
      exact ret _ ps' _ _ _ (by assumption) (news_sub nZ (by walk_at "my sub")) ht' hb₁
    | @cons t1 v d td hh1 zz rs' _ M' Z' hmem hTk hdx hS' =>
      obtain ⟨q1c, q1D, q1P⟩ : @Ne Nat t1 (L' + 1) ∧ @Ne Nat t1 D ∧ @Ne Nat t1 P := htl _ hmem
      cases hTk with
      | @leaf a o kvs hma hda hsa hca hza =>
        have q2 : @Ne Nat a (L' + 1) := neN (rc _ (List.mem_append_right _ hma))
        have q3 : @Ne Nat a D := neN (rD _ (List.mem_append_right _ hma))
        have hc' : (valueAt kvs (Str.ofString "children")).isSome = false := by rw [hca]; rfl
        have N8 : News g' L' h₁ ((t1, tupO (.ref a) (.int d td)) :: (a, o) :: ((L' + 1), oc) :: (D, (W.listOf (rs'.reverse ++ [Value.ref t1]).toArray k : Obj)) :: (P, tabObj ps') :: (tl ++ rest)) := by
          rw [List.reverse_cons] at N9
          exact news_dup (news_dup N9 (.tail _ (.tail _ (.tail _ (List.mem_append_right _ hma))))) (.tail _ (.tail _ (.tail _ (.tail _ (List.mem_append_left _ hmem)))))
        have hlen' := hS'.len
        clear N9
        k_steps
        refine ⟨truth_list N8 (.tail _ (.tail _ (.tail _ (.head _)))) (by simp only [List.length_append, List.length_singleton, List.length_reverse]; omega) fun tk9 => ?_⟩
        rw [if_pos (by simp)]
        k_steps
        refine ⟨Z', _, _, _, _, (L' + 1, o9) :: (D, W.listOf rs'.reverse.toArray (k + 1)) :: (P, tabObj ps') :: (tl ++ rest), by omega, rfl, F9, news_sub N9 (by walk_at "my sub"), hb₁, rs', tl, mx, M', t, k + 1, o9, ps', _, rfl, dO9, ht', htl, hS', by omega, by omega, rfl, ?_⟩
        intro z e1 e2
        simp only [if_neg e1, if_neg e2]
      | @node a o kvs c vs' kk hh zz' hma hda hsa hca hlc hts hza =>
        have q2 : @Ne Nat a (L' + 1) := neN (rc _ (List.mem_append_right _ hma))
        have q3 : @Ne Nat a D := neN (rD _ (List.mem_append_right _ hma))
        have q4 : @Ne Nat a P := neN (rP _ (List.mem_append_right _ hma))
        have hc' : (valueAt kvs (Str.ofString "children")).isSome = true := by rw [hca]; rfl
        have N8 : News g' L' h₁ ((t1, tupO (.ref a) (.int d td)) :: (a, o) :: (L' + 1, oc) :: (D, (W.listOf (rs'.reverse ++ [Value.ref t1]).toArray k : Obj)) :: (P, tabObj ps') :: (tl ++ rest)) := by
          rw [List.reverse_cons] at N9
          exact news_dup (news_dup N9 (.tail _ (.tail _ (.tail _ (List.mem_append_right _ hma))))) (.tail _ (.tail _ (.tail _ (.tail _ (List.mem_append_left _ hmem)))))
        have hlen' := hS'.len
        clear N9
        k_steps
        refine ⟨truth_list N8 (.tail _ (.tail _ (.tail _ (.head _)))) (by simp only [List.length_append, List.length_singleton, List.length_reverse]; omega) fun tk9 => ?_⟩
        rw [if_pos (by simp)]
        k_steps
        refine gen_rule (by rfl) (by with_unfolding_all rfl) (by decide) (by with_unfolding_all rfl) (by rfl) ?room ?_ (by intro _; with_unfolding_all rfl)
        case room =>
          have h1 := C'.dep
          have h2 : recursionLimit = 1000 := rfl
          omega
        k_steps
        refine kda_item (knd := PySem.strKind PR w) (by k_asm) (.tail _ (.head _)) hda (strKind_is _ _ _ _) hca ?_
        rename News g' L' _ _ => nN
        rename Fr g' L' _ _ => nF
        rename (o9.data = _) => dC
        obtain ⟨tkc, dC⟩ : ∃ tkc, o9.data = Data.cell (some (.int (d + 1) tkc)) := ⟨_, dC⟩
        have hlc9 : (c, (W.listOf vs'.toArray kk : Obj)) ∈ (t1, tupO (.ref a) (.int d td)) :: (a, o) :: (L' + 1, o9) :: (D, W.listOf rs'.reverse.toArray (k + 1)) :: (tl ++ rest) := .tail _ (.tail _ (.tail _ (.tail _ (List.mem_append_right _ hlc))))
        have hcl9 : @Ne Nat D c := Ne.symm (neN (rD _ (List.mem_append_right _ hlc)))
        refine gen_list (P := P) (cell := L' + 1) (ps := ps') (its := vs') (k := kk) (dv := .int (d + 1) tkc) hA' rfl rfl (by with_unfolding_all rfl) rfl rfl nF nN ?pk (G.keeps st9) ht' hb₁ T'.nolimit hlc9 (.tail _ (.tail _ (.head _))) ?pe ?_
        case pk => walk_at "my pick"
        case pe =>
          intro C0 code0
          exact pair_elt rfl (by with_unfolding_all rfl) (by with_unfolding_all rfl) (by with_unfolding_all rfl) dC (by decide) (by decide) (by decide)
        clear nN nF
        intro a9 ps9 h9 tk9 g9 F9 N9 ht9 hmore GH
        dsimp only
        k_steps
        have hr9 : recursionLimit = 1000 := rfl
        refine' extend_pairs (S := D) (its := vs') (acc := rs'.reverse) hA' ?rm F9 N9 ?pk2 GH hcl9 (Ne.symm hDc) ?sz ?_
        case rm => have := C'.dep; omega
        case pk2 => walk_at "my pick"
        case sz =>
          have h1 := hts.len
          rw [List.length_reverse, sizeLine_eq]
          omega
        intro es k9 h8 tk8 g8 F8 N8 hb8 he8 hf8
        clear F9 N9 GH
        dsimp only
        k_steps
        have e9 : ((d + 1 : Nat) : Int) = (d : Int) + 1 := by omega
        rw [← e9] at he8
        obtain ⟨M2, S2, hM2⟩ := Stk.push (tl := es ++ tl) (mx := max mx (d + 1)) (d := d + 1) (Nat.le_max_right _ _) es hts he8 (fun e he => List.mem_append_left _ he) (hS'.mono (fun p hp => List.mem_append_right _ hp) (Nat.le_max_left _ _))
        have hrev : ((es.map fun e => Value.ref e.1).reverse ++ rs').reverse = rs'.reverse ++ es.map fun e => Value.ref e.1 := by rw [List.reverse_append, List.reverse_reverse]
        refine ⟨zz' + Z', _, _, _, _, (L' + 1, o9) :: (D, W.listOf ((es.map fun e => Value.ref e.1).reverse ++ rs').reverse.toArray k9) :: (P, tabObj ps9) :: ((es ++ tl) ++ rest), by omega, rfl, F8, ?_, hb8, _, es ++ tl, max mx (d + 1), M2, _, k9, o9, ps9, _, rfl, dC, ht9, ?_, S2, by omega, by omega, (by rw [← max_cast, e9]; exact if_pos rfl), ?_⟩
        · rw [hrev]
          exact news_sub N8 (by walk_at "my sub")
        · intro q hq
          rcases List.mem_append.mp hq with hq | hq
          · have h1 := hf8 q hq
            exact ⟨Ne.symm (h1 (L' + 1, o9) (by k_mem)), Ne.symm (h1 (D, _) (by k_mem)), Ne.symm (h1 (P, _) (by k_mem))⟩
          · exact htl q hq
        · intro z e1 e2
          simp only [if_neg e1, if_neg e2]
end

section
/-- a bracket and its pair -/
structure BrkD where
  (x dx p : Addr) (K : Kb) (t1 t2 td td' : Tok) (im : Bool) (cd kp : Nat)
def BrkD.objs (w : World) (b : BrkD) : List (Addr × Obj) :=
  [(b.x, instObj 163 b.dx), (b.dx, brO w b.K (.int 0 b.t1) (.int 0 b.t2) (.bool b.im) .none (.bool true) (.bool false) (.int b.cd b.td)), (b.p, W.listOf #[.bool b.im, .int b.cd b.td'] b.kp)]
/-- a state and its model -/
structure CellD where
  (x dx tl bl md mtl ml mbl e f : Addr) (K : Kt) (src : Str) (ts ts' td td' : Tok) (im lk : Bool) (d : Int) (dl kept seen : Value) (om : Obj) (toks mtoks : List Value) (brk : List BrkD) (k1 k2 k3 k4 k5 : Nat)
abbrev CellD.brs (c : CellD) : List Value := c.brk.map fun b => Value.ref b.x
abbrev CellD.prs (c : CellD) : List Value := c.brk.map fun b => Value.ref b.p
abbrev CellD.own (w : World) (c : CellD) : List (Addr × Obj) :=
  [(c.x, instObj 103 c.dx), (c.dx, stO w c.K c.e (.str c.src c.ts) c.tl (.bool c.im) (.int c.d c.td) (.bool c.lk) c.bl c.dl), (c.tl, W.listOf c.toks.toArray c.k1), (c.bl, W.listOf c.brs.toArray c.k2),
    (c.md, c.om), (c.mtl, W.listOf c.mtoks.toArray c.k3), (c.ml, W.listOf #[.bool c.im, .bool c.lk] c.k4), (c.mbl, W.listOf c.prs.toArray c.k5)]
def CellD.bobjs (w : World) (c : CellD) : List (Addr × Obj) := c.brk.flatMap (BrkD.objs w)
def CellD.objs (w : World) (c : CellD) : List (Addr × Obj) := c.own w ++ c.bobjs w
abbrev fsts (l : List (Addr × Obj)) : List Nat := l.map (·.1)

/-- the scanner that is kept -/
def ScanAt (w : World) (imm : List (Addr × Obj)) (dl kept seen : Value) : Prop :=
  (dl = .none ∧ kept = .none ∧ seen = .none) ∨ ∃ (sc sdx en : Addr) (K : Ks) (x : Str) (t t' : Tok), dl = .ref sc ∧ kept = .ref sc ∧ seen = .str x t' ∧ (sc, instObj 53 sdx) ∈ imm ∧ (sdx, scO w K (.str x t) en) ∈ imm
theorem ScanAt.mono {w : World} {nw nw' : List (Addr × Obj)} (hs : ∀ p ∈ nw, p ∈ nw') {a b c : Value} : ScanAt w nw a b c → ScanAt w nw' a b c
  | .inl h => .inl h
  | .inr ⟨sc, sdx, en, K, x, t, t', e1, e2, e3, m1, m2⟩ => .inr ⟨sc, sdx, en, K, x, t, t', e1, e2, e3, hs _ m1, hs _ m2⟩
structure Good (w : World) (imm : List (Addr × Obj)) (n : Nat) (c : CellD) : Prop where
  dict : c.om.IsDictOf (PySem.strKind PR w) (mdlOf (.str c.src c.ts') c.mtl c.ml (.int c.d c.td') c.mbl c.f c.kept c.seen)
  sys : (c.md == sysModules) = false
  env : TwinAt w imm (.ref c.e) (.ref c.f)
  len : c.toks.length = c.mtoks.length
  toks : ∀ j (h1 : j < c.toks.length) (h2 : j < c.mtoks.length), TwinAt w imm c.toks[j] c.mtoks[j]
  scan : ScanAt w imm c.dl c.kept c.seen
  nt : c.toks.length ≤ n
  nb : c.brk.length ≤ n
theorem Good.mono {w : World} {imm imm' : List (Addr × Obj)} {n n' : Nat} {c : CellD} (G : Good w imm n c) (hs : ∀ p ∈ imm, p ∈ imm') (hn : n ≤ n') : Good w imm' n' c :=
  { G with env := G.env.mono hs, toks := fun j h1 h2 => (G.toks j h1 h2).mono hs, scan := G.scan.mono hs, nt := Nat.le_trans G.nt hn, nb := Nat.le_trans G.nb hn }

/-- what holds between the turns -/
structure Inv (w : World) (kp : List (Addr × Obj)) (h₀ : Heap) (L scr P : Addr) (n : Nat) (box sl ms e0 e1 : Addr) (cs : List CellD) (h : Heap) (g : Array GenState) : Prop where
  go : ∃ (p st : Int) (tp ts : Tok) (k1 k2 : Nat) (ps : Array Value) (imm : List (Addr × Obj)),
    News h₀ L h ((box, boxO scr p st tp ts) :: (sl, W.listOf (cs.map fun c => Value.ref c.x).toArray k1) :: (ms, W.listOf (cs.map fun c => Value.ref c.md).toArray k2) :: (P, tabObj ps) :: (cs.flatMap (CellD.objs w) ++ imm)) ∧
    0 ≤ p ∧ 0 ≤ st ∧ st < 2147483647 ∧ TriplesOk ps.toList ∧ ([box, sl, ms, P] ++ fsts (cs.flatMap (CellD.objs w)) : List Nat).Nodup ∧ (∀ q ∈ imm, q.1 ∉ ([box, sl, ms, P] ++ fsts (cs.flatMap (CellD.objs w)) : List Nat)) ∧ (∀ q ∈ kp, q ∈ imm) ∧ ∀ c ∈ cs, Good w imm n c
  bare : AllBare g
  envs : ∃ es, cs.map (·.e) = e0 :: e1 :: es
  ne : @Ne Nat e0 e1
  few : cs.length ≤ 6

theorem split_at {α : Type} {l : List α} {k : Nat} {c : α} (h : l[k]? = some c) : ∃ l1 l2, l = l1 ++ c :: l2 ∧ l1.length = k := by
  obtain ⟨hk, e⟩ := List.getElem?_eq_some_iff.mp h
  exact ⟨l.take k, l.drop (k + 1), by rw [← e, List.getElem_cons_drop, List.take_append_drop], by rw [List.length_take]; omega⟩

/-- the ledger, open at one cell -/
structure OpenAt (w : World) (kp : List (Addr × Obj)) (h₀ : Heap) (L scr P : Addr) (n : Nat) (box sl ms : Addr) (l1 : List CellD) (c : CellD) (l2 : List CellD) (p st : Int) (tp ts : Tok) (k1 k2 : Nat) (ps : Array Value) (imm R : List (Addr × Obj)) (h : Heap) : Prop where
  N : News h₀ L h ((box, boxO scr p st tp ts) :: (sl, W.listOf ((l1 ++ c :: l2).map fun c => Value.ref c.x).toArray k1) :: (ms, W.listOf ((l1 ++ c :: l2).map fun c => Value.ref c.md).toArray k2) :: (P, tabObj ps) :: (c.own w ++ R))
  eqR : R = c.bobjs w ++ ((l1 ++ l2).flatMap (CellD.objs w) ++ imm)
  p0 : 0 ≤ p
  st0 : 0 ≤ st
  st9 : st < 2147483647
  tri : TriplesOk ps.toList
  nd : ([box, sl, ms, P, c.x, c.dx, c.tl, c.bl, c.md, c.mtl, c.ml, c.mbl] : List Nat).Nodup
  off : ∀ q ∈ R, q.1 ∉ ([box, sl, ms, P, c.x, c.dx, c.tl, c.bl, c.md, c.mtl, c.ml, c.mbl] : List Nat)
  good : ∀ c' ∈ l1 ++ c :: l2, Good w imm n c'
  kept : ∀ q ∈ kp, q ∈ imm
  ndR : (fsts (c.bobjs w) ++ fsts ((l1 ++ l2).flatMap (CellD.objs w))).Nodup
  immR : ∀ q ∈ imm, q.1 ∉ fsts (c.bobjs w) ++ fsts ((l1 ++ l2).flatMap (CellD.objs w))

theorem flat_perm (w : World) (l1 : List CellD) (c : CellD) (l2 : List CellD) : ((l1 ++ c :: l2).flatMap (CellD.objs w)).Perm (c.objs w ++ (l1 ++ l2).flatMap (CellD.objs w)) := by
  simp only [List.flatMap_append, List.flatMap_cons]
  rw [← List.append_assoc, ← List.append_assoc]
  exact List.Perm.append_right _ List.perm_append_comm

theorem Inv.open {w : World} {kp : List (Addr × Obj)} {h₀ : Heap} {L scr P : Addr} {n : Nat} {box sl ms e0 e1 : Addr} {l1 l2 : List CellD} {c : CellD} {h : Heap} {g : Array GenState} (V : Inv w kp h₀ L scr P n box sl ms e0 e1 (l1 ++ c :: l2) h g) :
    ∃ p st tp ts k1 k2 ps imm R, OpenAt w kp h₀ L scr P n box sl ms l1 c l2 p st tp ts k1 k2 ps imm R h := by
  obtain ⟨p, st, tp, ts, k1, k2, ps, imm, N, hp, hst, hst', htr, nd, himm, hkp, good⟩ := V.go
  have hperm := flat_perm w l1 c l2
  have nd' : ([box, sl, ms, P] ++ (fsts (c.own w) ++ (fsts (c.bobjs w) ++ fsts ((l1 ++ l2).flatMap (CellD.objs w)))) : List Nat).Nodup := by
    refine (List.Perm.nodup_iff ?_).mp nd
    refine List.Perm.append_left _ ?_
    have := hperm.map (fun q : Addr × Obj => (q.1 : Nat))
    rw [List.map_append, CellD.objs, List.map_append, List.append_assoc] at this
    exact this
  have himm' : ∀ q ∈ imm, q.1 ∉ ([box, sl, ms, P] ++ (fsts (c.own w) ++ (fsts (c.bobjs w) ++ fsts ((l1 ++ l2).flatMap (CellD.objs w)))) : List Nat) := by
    intro q hq hm
    refine himm q hq ?_
    rcases List.mem_append.mp hm with hm | hm
    · exact List.mem_append_left _ hm
    · refine List.mem_append_right _ ?_
      have := (hperm.map (fun q : Addr × Obj => (q.1 : Nat))).mem_iff (a := q.1)
      refine this.mpr ?_
      rw [List.map_append, CellD.objs, List.map_append, List.append_assoc]
      exact hm
  rw [← List.append_assoc] at nd'
  obtain ⟨nd1, nd2, nd3⟩ := List.nodup_append.mp nd'
  refine ⟨p, st, tp, ts, k1, k2, ps, imm, _, ?_, rfl, hp, hst, hst', htr, nd1, ?_, good, hkp, nd2, ?_⟩
  · intro q hq
    refine N q ?_
    simp only [List.mem_cons] at hq ⊢
    rcases hq with hq | hq | hq | hq | hq
    · exact .inl hq
    · exact .inr (.inl hq)
    · exact .inr (.inr (.inl hq))
    · exact .inr (.inr (.inr (.inl hq)))
    · refine .inr (.inr (.inr (.inr ?_)))
      rcases List.mem_append.mp hq with hq | hq
      · exact List.mem_append_left _ (hperm.mem_iff.mpr (List.mem_append_left _ (List.mem_append_left _ hq)))
      · rcases List.mem_append.mp hq with hq | hq
        · exact List.mem_append_left _ (hperm.mem_iff.mpr (List.mem_append_left _ (List.mem_append_right _ hq)))
        · rcases List.mem_append.mp hq with hq | hq
          · exact List.mem_append_left _ (hperm.mem_iff.mpr (List.mem_append_right _ hq))
          · exact List.mem_append_right _ hq
  · intro q hq hm
    rcases List.mem_append.mp hq with hq | hq
    · exact nd3 _ hm _ (List.mem_append_left _ (List.mem_map_of_mem hq)) rfl
    · rcases List.mem_append.mp hq with hq | hq
      · exact nd3 _ hm _ (List.mem_append_right _ (List.mem_map_of_mem hq)) rfl
      · refine himm' q hq ?_
        rw [← List.append_assoc]
        exact List.mem_append_left _ hm
  · intro q hq hm
    exact himm' q hq (List.mem_append_right _ (List.mem_append_right _ hm))

/-- the ledger, closed again behind one cell's change -/
theorem Inv.close {w : World} {kp : List (Addr × Obj)} {h₀ : Heap} {L scr P : Addr} {n n' : Nat} {box sl ms e0 e1 : Addr} {l1 l2 : List CellD} {c c' : CellD} {h : Heap} {g g' : Array GenState} {p st p' st' : Int} {tp ts tp' ts' : Tok} {k1 k2 k1' k2' : Nat} {ps ps' : Array Value} {imm R R' es : List (Addr × Obj)} {h' : Heap}
    (V : Inv w kp h₀ L scr P n box sl ms e0 e1 (l1 ++ c :: l2) h g) (O : OpenAt w kp h₀ L scr P n box sl ms l1 c l2 p st tp ts k1 k2 ps imm R h) (hn : n ≤ n')
    (N : News h₀ L h' ((box, boxO scr p' st' tp' ts') :: (sl, W.listOf ((l1 ++ c :: l2).map fun c => Value.ref c.x).toArray k1') :: (ms, W.listOf ((l1 ++ c :: l2).map fun c => Value.ref c.md).toArray k2') :: (P, tabObj ps') :: (c'.own w ++ (es ++ R'))))
    (hR' : R' = c'.bobjs w ++ ((l1 ++ l2).flatMap (CellD.objs w) ++ imm)) (hp : 0 ≤ p') (hst : 0 ≤ st') (hst' : st' < 2147483647) (htr : TriplesOk ps'.toList) (hb : AllBare g') (hx : c'.x = c.x) (hm : c'.md = c.md) (he : c'.e = c.e)
    (nd : ([box, sl, ms, P, c'.x, c'.dx, c'.tl, c'.bl, c'.md, c'.mtl, c'.ml, c'.mbl] : List Nat).Nodup) (off : ∀ q ∈ es ++ R', q.1 ∉ ([box, sl, ms, P, c'.x, c'.dx, c'.tl, c'.bl, c'.md, c'.mtl, c'.ml, c'.mbl] : List Nat))
    (ndR : (fsts (c'.bobjs w) ++ fsts ((l1 ++ l2).flatMap (CellD.objs w))).Nodup) (immR : ∀ q ∈ es ++ imm, q.1 ∉ fsts (c'.bobjs w) ++ fsts ((l1 ++ l2).flatMap (CellD.objs w)))
    (G : Good w (es ++ imm) n' c') : Inv w kp h₀ L scr P n' box sl ms e0 e1 (l1 ++ c' :: l2) h' g' := by
  subst hR'
  have hperm := flat_perm w l1 c' l2
  have hmem : ∀ a : Nat, a ∈ fsts ((l1 ++ c' :: l2).flatMap (CellD.objs w)) ↔ a ∈ fsts (c'.own w) ++ (fsts (c'.bobjs w) ++ fsts ((l1 ++ l2).flatMap (CellD.objs w))) := by
    intro a
    have := (hperm.map (fun q : Addr × Obj => (q.1 : Nat))).mem_iff (a := a)
    rw [List.map_append, CellD.objs, List.map_append, List.append_assoc] at this
    exact this
  have hall : ∀ a : Nat, a ∈ [box, sl, ms, P] ++ fsts ((l1 ++ c' :: l2).flatMap (CellD.objs w)) ↔ a ∈ ([box, sl, ms, P, c'.x, c'.dx, c'.tl, c'.bl, c'.md, c'.mtl, c'.ml, c'.mbl] : List Nat) ∨ a ∈ fsts (c'.bobjs w) ++ fsts ((l1 ++ l2).flatMap (CellD.objs w)) := by
    intro a
    show _ ↔ a ∈ ([box, sl, ms, P] ++ fsts (c'.own w) : List Nat) ∨ _
    rw [List.mem_append (s := [box, sl, ms, P]), hmem, List.mem_append (s := [box, sl, ms, P]), List.mem_append (s := fsts (c'.own w)), or_assoc]
  have maps : (l1 ++ c' :: l2).map (fun c => Value.ref c.x) = (l1 ++ c :: l2).map (fun c => Value.ref c.x) ∧ (l1 ++ c' :: l2).map (fun c => Value.ref c.md) = (l1 ++ c :: l2).map (fun c => Value.ref c.md) ∧ (l1 ++ c' :: l2).map (·.e) = (l1 ++ c :: l2).map (·.e) := by
    simp only [List.map_append, List.map_cons, hx, hm, he, and_self]
  refine ⟨⟨p', st', tp', ts', k1', k2', ps', es ++ imm, ?_, hp, hst, hst', htr, ?_, ?_, fun q hq => List.mem_append_right _ (O.kept q hq), ?_⟩, hb, ?_, V.ne, ?_⟩
  · rw [maps.1, maps.2.1]
    intro q hq
    refine N q ?_
    simp only [List.mem_cons] at hq ⊢
    rcases hq with hq | hq | hq | hq | hq
    · exact .inl hq
    · exact .inr (.inl hq)
    · exact .inr (.inr (.inl hq))
    · exact .inr (.inr (.inr (.inl hq)))
    · refine .inr (.inr (.inr (.inr ?_)))
      rcases List.mem_append.mp hq with hq | hq
      · rcases List.mem_append.mp (hperm.mem_iff.mp hq) with hq | hq
        · rcases List.mem_append.mp hq with hq | hq
          · exact List.mem_append_left _ hq
          · exact List.mem_append_right _ (List.mem_append_right _ (List.mem_append_left _ hq))
        · exact List.mem_append_right _ (List.mem_append_right _ (List.mem_append_right _ (List.mem_append_left _ hq)))
      · rcases List.mem_append.mp hq with hq | hq
        · exact List.mem_append_right _ (List.mem_append_left _ hq)
        · exact List.mem_append_right _ (List.mem_append_right _ (List.mem_append_right _ (List.mem_append_right _ hq)))
  · have e1 : ([box, sl, ms, P] ++ (fsts (c'.own w) ++ (fsts (c'.bobjs w) ++ fsts ((l1 ++ l2).flatMap (CellD.objs w)))) : List Nat).Nodup := by
      rw [← List.append_assoc]
      refine List.nodup_append.mpr ⟨nd, ndR, ?_⟩
      intro a ha b hb e
      subst e
      have : ∃ q ∈ es ++ (c'.bobjs w ++ ((l1 ++ l2).flatMap (CellD.objs w) ++ imm)), q.1 = a := by
        rcases List.mem_append.mp hb with hb | hb
        · obtain ⟨q, hq, e⟩ := List.mem_map.mp hb
          exact ⟨q, List.mem_append_right _ (List.mem_append_left _ hq), e⟩
        · obtain ⟨q, hq, e⟩ := List.mem_map.mp hb
          exact ⟨q, List.mem_append_right _ (List.mem_append_right _ (List.mem_append_left _ hq)), e⟩
      obtain ⟨q, hq, e⟩ := this
      exact off q hq (e ▸ ha)
    refine (List.Perm.nodup_iff ?_).mpr e1
    refine List.Perm.append_left _ ?_
    have := hperm.map (fun q : Addr × Obj => (q.1 : Nat))
    rw [List.map_append, CellD.objs, List.map_append, List.append_assoc] at this
    exact this
  · intro q hq hm
    rcases (hall _).mp hm with hm | hm
    · refine off q ?_ hm
      rcases List.mem_append.mp hq with hq | hq
      · exact List.mem_append_left _ hq
      · exact List.mem_append_right _ (List.mem_append_right _ (List.mem_append_right _ hq))
    · exact immR q hq hm
  · intro c₂ hc₂
    have : c₂ = c' ∨ c₂ ∈ l1 ++ c :: l2 := by
      rcases List.mem_append.mp hc₂ with h | h
      · exact .inr (List.mem_append_left _ h)
      · rcases List.mem_cons.mp h with h | h
        · exact .inl h
        · exact .inr (List.mem_append_right _ (.tail _ h))
    rcases this with rfl | h
    · exact G
    · exact (O.good _ h).mono (fun q hq => List.mem_append_right _ hq) hn
  · rw [maps.2.2]; exact V.envs
  · have := V.few
    simpa using this
end

section
theorem off12 {R : List (Addr × Obj)} {a1 a2 a3 a4 a5 a6 a7 a8 a9 a10 a11 a12 : Nat} (h : ∀ q ∈ R, q.1 ∉ ([a1, a2, a3, a4, a5, a6, a7, a8, a9, a10, a11, a12] : List Nat)) :
    (∀ q ∈ R, q.1 ≠ a1) ∧ (∀ q ∈ R, q.1 ≠ a2) ∧ (∀ q ∈ R, q.1 ≠ a3) ∧ (∀ q ∈ R, q.1 ≠ a4) ∧ (∀ q ∈ R, q.1 ≠ a5) ∧ (∀ q ∈ R, q.1 ≠ a6) ∧ (∀ q ∈ R, q.1 ≠ a7) ∧ (∀ q ∈ R, q.1 ≠ a8) ∧ (∀ q ∈ R, q.1 ≠ a9) ∧ (∀ q ∈ R, q.1 ≠ a10) ∧ (∀ q ∈ R, q.1 ≠ a11) ∧ (∀ q ∈ R, q.1 ≠ a12) := by
  simp only [List.mem_cons, List.not_mem_nil, or_false, not_or] at h
  exact ⟨fun q hq => (h q hq).1, fun q hq => (h q hq).2.1, fun q hq => (h q hq).2.2.1, fun q hq => (h q hq).2.2.2.1, fun q hq => (h q hq).2.2.2.2.1, fun q hq => (h q hq).2.2.2.2.2.1, fun q hq => (h q hq).2.2.2.2.2.2.1, fun q hq => (h q hq).2.2.2.2.2.2.2.1,
    fun q hq => (h q hq).2.2.2.2.2.2.2.2.1, fun q hq => (h q hq).2.2.2.2.2.2.2.2.2.1, fun q hq => (h q hq).2.2.2.2.2.2.2.2.2.2.1, fun q hq => (h q hq).2.2.2.2.2.2.2.2.2.2.2⟩
theorem off12_mk {R : List (Addr × Obj)} {a1 a2 a3 a4 a5 a6 a7 a8 a9 a10 a11 a12 : Nat}
    (h : (∀ q ∈ R, q.1 ≠ a1) ∧ (∀ q ∈ R, q.1 ≠ a2) ∧ (∀ q ∈ R, q.1 ≠ a3) ∧ (∀ q ∈ R, q.1 ≠ a4) ∧ (∀ q ∈ R, q.1 ≠ a5) ∧ (∀ q ∈ R, q.1 ≠ a6) ∧ (∀ q ∈ R, q.1 ≠ a7) ∧ (∀ q ∈ R, q.1 ≠ a8) ∧ (∀ q ∈ R, q.1 ≠ a9) ∧ (∀ q ∈ R, q.1 ≠ a10) ∧ (∀ q ∈ R, q.1 ≠ a11) ∧ (∀ q ∈ R, q.1 ≠ a12)) :
    ∀ q ∈ R, q.1 ∉ ([a1, a2, a3, a4, a5, a6, a7, a8, a9, a10, a11, a12] : List Nat) := by
  intro q hq
  simp only [List.mem_cons, List.not_mem_nil, or_false, not_or]
  obtain ⟨h1, h2, h3, h4, h5, h6, h7, h8, h9, h10, h11, h12⟩ := h
  exact ⟨h1 q hq, h2 q hq, h3 q hq, h4 q hq, h5 q hq, h6 q hq, h7 q hq, h8 q hq, h9 q hq, h10 q hq, h11 q hq, h12 q hq⟩
theorem ne_of_lts {R : List (Addr × Obj)} {a : Nat} (h : ∀ q ∈ R, @LT.lt Nat _ q.1 a) : ∀ q ∈ R, q.1 ≠ a := fun q hq => Nat.ne_of_lt (h q hq)
/-- a cell at a place -/
theorem cell_at {cs : List CellD} {k : Int} (k0 : 0 ≤ k) (k9 : k < cs.length) : ∃ l1 c l2, cs = l1 ++ c :: l2 ∧ (cs.map fun c => Value.ref c.x)[k.toNat]? = some (.ref c.x) ∧ (cs.map fun c => Value.ref c.md)[k.toNat]? = some (.ref c.md) := by
  have hk : k.toNat < cs.length := by omega
  obtain ⟨l1, l2, e, _⟩ := split_at (List.getElem?_eq_getElem hk)
  exact ⟨l1, cs[k.toNat], l2, e, by rw [List.getElem?_map, List.getElem?_eq_getElem hk]; rfl, by rw [List.getElem?_map, List.getElem?_eq_getElem hk]; rfl⟩
def NeA (a b : Nat) : Prop := a ≠ b
theorem NeA.ne {a b : Nat} (h : NeA a b) : a ≠ b := h
theorem NeA.en {a b : Nat} (h : NeA b a) : a ≠ b := Ne.symm h
theorem nd12 {a1 a2 a3 a4 a5 a6 a7 a8 a9 a10 a11 a12 : Nat} (h : ([a1, a2, a3, a4, a5, a6, a7, a8, a9, a10, a11, a12] : List Nat).Nodup) : NeA a1 a2 ∧ NeA a1 a3 ∧ NeA a1 a4 ∧ NeA a1 a5 ∧ NeA a1 a6 ∧ NeA a1 a7 ∧ NeA a1 a8 ∧ NeA a1 a9 ∧ NeA a1 a10 ∧ NeA a1 a11 ∧ NeA a1 a12 ∧ NeA a2 a3 ∧ NeA a2 a4 ∧ NeA a2 a5 ∧ NeA a2 a6 ∧ NeA a2 a7 ∧ NeA a2 a8 ∧ NeA a2 a9 ∧ NeA a2 a10 ∧ NeA a2 a11 ∧ NeA a2 a12 ∧ NeA a3 a4 ∧ NeA a3 a5 ∧ NeA a3 a6 ∧ NeA a3 a7 ∧ NeA a3 a8 ∧ NeA a3 a9 ∧ NeA a3 a10 ∧ NeA a3 a11 ∧ NeA a3 a12 ∧ NeA a4 a5 ∧ NeA a4 a6 ∧ NeA a4 a7 ∧ NeA a4 a8 ∧ NeA a4 a9 ∧ NeA a4 a10 ∧ NeA a4 a11 ∧ NeA a4 a12 ∧ NeA a5 a6 ∧ NeA a5 a7 ∧ NeA a5 a8 ∧ NeA a5 a9 ∧ NeA a5 a10 ∧ NeA a5 a11 ∧ NeA a5 a12 ∧ NeA a6 a7 ∧ NeA a6 a8 ∧ NeA a6 a9 ∧ NeA a6 a10 ∧ NeA a6 a11 ∧ NeA a6 a12 ∧ NeA a7 a8 ∧ NeA a7 a9 ∧ NeA a7 a10 ∧ NeA a7 a11 ∧ NeA a7 a12 ∧ NeA a8 a9 ∧ NeA a8 a10 ∧ NeA a8 a11 ∧ NeA a8 a12 ∧ NeA a9 a10 ∧ NeA a9 a11 ∧ NeA a9 a12 ∧ NeA a10 a11 ∧ NeA a10 a12 ∧ NeA a11 a12 := by
  simp only [List.nodup_cons, List.mem_cons, not_or, List.not_mem_nil, not_false_eq_true, and_true] at h
  obtain ⟨⟨ha1_a2, ha1_a3, ha1_a4, ha1_a5, ha1_a6, ha1_a7, ha1_a8, ha1_a9, ha1_a10, ha1_a11, ha1_a12⟩, ⟨ha2_a3, ha2_a4, ha2_a5, ha2_a6, ha2_a7, ha2_a8, ha2_a9, ha2_a10, ha2_a11, ha2_a12⟩, ⟨ha3_a4, ha3_a5, ha3_a6, ha3_a7, ha3_a8, ha3_a9, ha3_a10, ha3_a11, ha3_a12⟩, ⟨ha4_a5, ha4_a6, ha4_a7, ha4_a8, ha4_a9, ha4_a10, ha4_a11, ha4_a12⟩, ⟨ha5_a6, ha5_a7, ha5_a8, ha5_a9, ha5_a10, ha5_a11, ha5_a12⟩, ⟨ha6_a7, ha6_a8, ha6_a9, ha6_a10, ha6_a11, ha6_a12⟩, ⟨ha7_a8, ha7_a9, ha7_a10, ha7_a11, ha7_a12⟩, ⟨ha8_a9, ha8_a10, ha8_a11, ha8_a12⟩, ⟨ha9_a10, ha9_a11, ha9_a12⟩, ⟨ha10_a11, ha10_a12⟩, ⟨ha11_a12, _⟩⟩ := h
  exact ⟨ha1_a2, ha1_a3, ha1_a4, ha1_a5, ha1_a6, ha1_a7, ha1_a8, ha1_a9, ha1_a10, ha1_a11, ha1_a12, ha2_a3, ha2_a4, ha2_a5, ha2_a6, ha2_a7, ha2_a8, ha2_a9, ha2_a10, ha2_a11, ha2_a12, ha3_a4, ha3_a5, ha3_a6, ha3_a7, ha3_a8, ha3_a9, ha3_a10, ha3_a11, ha3_a12, ha4_a5, ha4_a6, ha4_a7, ha4_a8, ha4_a9, ha4_a10, ha4_a11, ha4_a12, ha5_a6, ha5_a7, ha5_a8, ha5_a9, ha5_a10, ha5_a11, ha5_a12, ha6_a7, ha6_a8, ha6_a9, ha6_a10, ha6_a11, ha6_a12, ha7_a8, ha7_a9, ha7_a10, ha7_a11, ha7_a12, ha8_a9, ha8_a10, ha8_a11, ha8_a12, ha9_a10, ha9_a11, ha9_a12, ha10_a11, ha10_a12, ha11_a12⟩
theorem lt_ne {a b : Nat} (h : @LT.lt Nat _ a b) : a ≠ b := Nat.ne_of_lt h
theorem nd_swap {l1 l2 : List Nat} {a b : Nat} (h : (l1 ++ a :: l2).Nodup) (hb : b ∉ l1 ++ l2) : (l1 ++ b :: l2).Nodup :=
  List.perm_middle.nodup_iff.mpr (List.nodup_cons.mpr ⟨hb, (List.nodup_cons.mp (List.perm_middle.nodup_iff.mp h)).2⟩)
theorem sub_const {c : Const} {k : Nat} {p : Pos} {o i : Value} : subscripted (.Constant c k p) false o i = operate [o, i] (getItem o i) := rfl
theorem sub_name {x : Str} {p : Pos} {o i : Value} : subscripted (.Name x p) false o i = operate [o, i] (getItem o i) := rfl
theorem sub_neg {op : UnaryOp} {e : Expr} {p : Pos} {o i : Value} : subscripted (.UnaryOp op e p) false o i = operate [o, i] (getItem o i) := rfl
end
local macro_rules | `(tactic| k_ne) => `(tactic| ((try dsimp only); first | exact NeA.ne (by with_reducible assumption) | exact NeA.en (by with_reducible assumption)))
local macro_rules | `(tactic| walk_at "subscriptTail") => `(tactic| (k_here; (with_reducible show wpAny _ _ (subscriptTail _ (Expr.Constant _ _ _) (Value.ref _) (Value.int _ _)) _ _ _); k_dflt (refine' item_at ?N ?m ?h0 ?h9 ?hv ?_ ?hs; (case hs => exact sub_const); (case N => k_asm); (case m => k_mem); (case h0 => decide); (case h9 => decide); (case hv => exact rfl))))
local macro_rules | `(tactic| walk_at "subscriptTail") => `(tactic| (k_here; (with_reducible show wpAny _ _ (subscriptTail _ (Expr.Name _ _) (Value.ref _) (Value.int _ _)) _ _ _); k_dflt (refine' item_at ?N ?m ?h0 ?h9 ?hv ?_ ?hs; (case hs => exact sub_name); (case N => k_asm); (case m => k_mem); (case h0 => assumption); (case h9 => omega); (case hv => assumption))))
section
theorem nodup_mid {A B N : List Nat} (h : (A ++ B).Nodup) (hN : N.Nodup) (hd : ∀ a ∈ A ++ B, a ∉ N) : ((A ++ N) ++ B).Nodup := by
  have e : ((A ++ N) ++ B).Perm (N ++ (A ++ B)) := by
    rw [← List.append_assoc N]
    exact List.Perm.append_right _ List.perm_append_comm
  exact e.nodup_iff.mpr (List.nodup_append.mpr ⟨hN, h, fun a ha b hb q => hd b hb (q ▸ ha)⟩)
theorem bobjs_snoc (w : World) (l : List BrkD) (b : BrkD) : (l ++ [b]).flatMap (BrkD.objs w) = l.flatMap (BrkD.objs w) ++ b.objs w := by simp
theorem fsts_app (a b : List (Addr × Obj)) : fsts (a ++ b) = fsts a ++ fsts b := List.map_append
theorem fsts_mem {l : List (Addr × Obj)} {a : Nat} (h : a ∈ fsts l) : ∃ q ∈ l, q.1 = a := by
  obtain ⟨q, hq, e⟩ := List.mem_map.mp h
  exact ⟨q, hq, e⟩
/-- one more bracket, its addresses new -/
theorem brk_add {w : World} {c : CellD} {b : BrkD} {B : List Nat} {R imm X : List (Addr × Obj)} (hR : R = c.bobjs w ++ (X ++ imm)) (hB : B = fsts X) (ndR : (fsts (c.bobjs w) ++ B).Nodup) (immR : ∀ q ∈ imm, q.1 ∉ fsts (c.bobjs w) ++ B)
    (hN : (fsts (b.objs w)).Nodup) (hd : ∀ q ∈ R, q.1 ∉ fsts (b.objs w)) : (fsts ((c.brk ++ [b]).flatMap (BrkD.objs w)) ++ B).Nodup ∧ ∀ q ∈ imm, q.1 ∉ fsts ((c.brk ++ [b]).flatMap (BrkD.objs w)) ++ B := by
  subst hB
  subst hR
  rw [bobjs_snoc, fsts_app]
  refine ⟨nodup_mid ndR hN fun a ha hn => ?_, fun q hq hm => ?_⟩
  · rcases List.mem_append.mp ha with h | h
    · obtain ⟨q, hq, e⟩ := fsts_mem h
      exact hd q (List.mem_append_left _ hq) (e ▸ hn)
    · obtain ⟨q, hq, e⟩ := fsts_mem h
      exact hd q (List.mem_append_right _ (List.mem_append_left _ hq)) (e ▸ hn)
  · rw [List.append_assoc] at hm
    rcases List.mem_append.mp hm with h | h
    · exact immR q hq (List.mem_append_left _ h)
    · rcases List.mem_append.mp h with h | h
      · exact hd q (List.mem_append_right _ (List.mem_append_right _ hq)) h
      · exact immR q hq (List.mem_append_right _ h)
/-- the last bracket set apart -/
theorem brk_last {w : World} {l : List BrkD} {b : BrkD} {B : List Nat} (ndR : (fsts ((l ++ [b]).flatMap (BrkD.objs w)) ++ B).Nodup) : (fsts (l.flatMap (BrkD.objs w)) ++ B).Nodup ∧ (fsts (b.objs w)).Nodup ∧ ∀ a ∈ fsts (l.flatMap (BrkD.objs w)) ++ B, a ∉ fsts (b.objs w) := by
  rw [bobjs_snoc, fsts_app] at ndR
  have e : ((fsts (l.flatMap (BrkD.objs w)) ++ fsts (b.objs w)) ++ B).Perm (fsts (b.objs w) ++ (fsts (l.flatMap (BrkD.objs w)) ++ B)) := by
    rw [← List.append_assoc (fsts (b.objs w))]
    exact List.Perm.append_right _ List.perm_append_comm
  obtain ⟨h1, h2, h3⟩ := List.nodup_append.mp (e.nodup_iff.mp ndR)
  exact ⟨h2, h1, fun a ha hb => h3 a hb a ha rfl⟩
theorem snoc_cases {α : Type} (l : List α) : l = [] ∨ ∃ l' a, l = l' ++ [a] := by
  rcases List.eq_nil_or_concat l with h | ⟨l', a, h⟩
  · exact .inl h
  · exact .inr ⟨l', a, by rw [h, List.concat_eq_append]⟩
theorem not_mem3 {q a b c : Nat} (h1 : q < a) (h2 : q < b) (h3 : q < c) : q ∉ ([a, b, c] : List Nat) := by
  simp only [List.mem_cons, List.not_mem_nil, or_false, not_or]
  omega
theorem nodup3 {a b c : Nat} (h1 : b < a) (h2 : a < c) : ([a, b, c] : List Nat).Nodup := by
  simp only [List.nodup_cons, List.mem_cons, List.not_mem_nil, or_false, not_or, not_false_eq_true, and_true, List.nodup_nil]
  omega
end

section
/-- a call is at hand: the walk stops here -/
structure AtCall (w : World) (A : Around) (f : Addr) (args : List Value) (Q E : Value → Shared → Prop) (s : Shared) : Prop where
  go : wpAny (model PR w) A (call (.ref f) args) Q E s
structure AtGet (w : World) (A : Around) (x : Addr) (name : Str) (b : Bool) (Q E : Value → Shared → Prop) (s : Shared) : Prop where
  go : wpAny (model PR w) A (getAttr (.ref x) name b) Q E s
theorem forall_app {l r : List (Addr × Obj)} {d : Nat} (h1 : ∀ p ∈ l, p.1 ≠ d) (h2 : ∀ p ∈ r, p.1 ≠ d) : ∀ p ∈ l ++ r, p.1 ≠ d := fun p hp => (List.mem_append.mp hp).elim (h1 p) (h2 p)
theorem Tkn.dict {w : World} {nl : List (Addr × Obj)} {v : Value} {h z : Nat} (T : Tkn w nl v h z) : ∃ a o kvs, v = .ref a ∧ (a, o) ∈ nl ∧ o.IsDictOf (PySem.strKind PR w) kvs ∧ (a == sysModules) = false ∧ kvs.length ≤ 9 := by
  cases T with
  | leaf a b c d e => exact ⟨_, _, _, rfl, a, b, c, e⟩
  | node a b c d e f g => exact ⟨_, _, _, rfl, a, b, c, g⟩
theorem dict_copy {w : World} {A : Around} {E Q : Value → Shared → Prop} {s : Shared} {h₀ : Heap} {L a : Addr} {oa : Obj} {m : Str → Option Value} {news : List (Addr × Obj)} {kvs : List (Str × Value)} (F : Fr h₀ L s.heap m) (N : News h₀ L s.heap news) (hbig : h₀.NoLimit)
    (hm : (a, oa) ∈ news) (hd : oa.IsDictOf (PySem.strKind PR w) kvs) (lo : (a == sysModules) = false) (hsz : kvs.length ≤ 9)
    (k : ∀ d h' o, Fr h₀ L h' m → News h₀ L h' ((d, o) :: news) → (∀ p ∈ news, p.1 < d) → (d == sysModules) = false → o.IsDictOf (PySem.strKind PR w) kvs → Q (.ref d) { s with heap := h' }) :
    wpAny (model PR w) A (call (.type "dict") [.ref a]) Q E s := by
  refine kt_call_dict lo (Heap.dictOf_iff.mpr ⟨oa, (N _ hm).1, hd⟩) (by rw [sizeLine_eq]; omega) fun h' hm' hs => ?_
  obtain ⟨o', ho', hd'⟩ := Heap.dictOf_iff.mp hm'
  have N1 := News.push F N { cls := .type "dict", data := .dict #[] }
  exact k _ h' o' ((F.push _).change hs (N1 _ (.head _)).2.1 (N1.fresh (.head _))) (N1.setHead N.apart hs ho') (fun p hp => Heap.lt_size (N p hp).1) (F.notModules (modules_low hbig)) hd'
/-- a list, one more ahead of its last -/
def insB (l : List Value) (v : Value) : List Value := l.dropLast ++ v :: l.getLast?.toList
theorem insB_nil (v : Value) : insB [] v = [v] := rfl
theorem insB_snoc (p : List Value) (z v : Value) : insB (p ++ [z]) v = p ++ [v, z] := by
  simp [insB]
theorem insB_len (l : List Value) (v : Value) : (insB l v).length = l.length + 1 := by
  rcases snoc_cases l with rfl | ⟨p, z, rfl⟩
  · rfl
  · rw [insB_snoc]; simp
theorem ins_is (l : List Value) (v : Value) : kl_ins l ((l.length : Int) - 1) v = insB l v := by
  rcases snoc_cases l with rfl | ⟨p, z, rfl⟩
  · rfl
  · rw [insB_snoc]
    unfold kl_ins
    have e1 : ¬ (((p ++ [z]).length : Int) - 1 < 0) := by simp only [List.length_append, List.length_singleton]; omega
    have e2 : min (((p ++ [z]).length : Int) - 1).toNat (p ++ [z]).length = p.length := by simp only [List.length_append, List.length_singleton]; omega
    rw [if_neg e1, e2]
    simp
/-- tokens pairwise alike, one more pair put ahead of the last -/
theorem twin_insB {w : World} {imm : List (Addr × Obj)} {l r : List Value} {u v : Value} (hl : l.length = r.length) (h : ∀ j (h1 : j < l.length) (h2 : j < r.length), TwinAt w imm l[j] r[j]) (huv : TwinAt w imm u v) :
    ∀ j (h1 : j < (insB l u).length) (h2 : j < (insB r v).length), TwinAt w imm (insB l u)[j] (insB r v)[j] := by
  rcases snoc_cases l with rfl | ⟨p, z, rfl⟩
  · have : r = [] := by cases r with
      | nil => rfl
      | cons a r => simp at hl
    subst this
    intro j h1 h2
    have : j = 0 := by simp [insB] at h1; omega
    subst this
    exact huv
  · rcases snoc_cases r with rfl | ⟨q, y, rfl⟩
    · simp at hl
    · have hpq : p.length = q.length := by simpa using hl
      have e1 := insB_snoc p z u
      have e2 := insB_snoc q y v
      intro j h1 h2
      have g1 : (insB (p ++ [z]) u)[j] = (p ++ [u, z])[j]'(by rw [← e1]; exact h1) := by simp only [e1]
      have g2 : (insB (q ++ [y]) v)[j] = (q ++ [v, y])[j]'(by rw [← e2]; exact h2) := by simp only [e2]
      rw [g1, g2]
      rw [e1] at h1
      simp only [List.length_append, List.length_cons, List.length_nil] at h1
      rcases Nat.lt_trichotomy j p.length with hj | hj | hj
      · rw [List.getElem_append_left hj, List.getElem_append_left (hpq ▸ hj)]
        have := h j (by simp; omega) (by simp; omega)
        rwa [List.getElem_append_left hj, List.getElem_append_left (hpq ▸ hj)] at this
      · subst hj
        rw [List.getElem_append_right (Nat.le_refl _), List.getElem_append_right (by omega)]
        simp only [Nat.sub_self, hpq]
        exact huv
      · have hj' : j = p.length + 1 := by omega
        subst hj'
        rw [List.getElem_append_right (by omega), List.getElem_append_right (by omega)]
        have := h p.length (by simp) (by simp; omega)
        rw [List.getElem_append_right (Nat.le_refl _), List.getElem_append_right (by omega)] at this
        simp only [Nat.sub_self, hpq, List.getElem_cons_zero] at this
        have e3 : p.length + 1 - p.length = 1 := by omega
        have e4 : p.length + 1 - q.length = 1 := by omega
        simp only [e3, e4, List.getElem_cons_succ, List.getElem_cons_zero]
        exact this
theorem twin_snoc {w : World} {imm : List (Addr × Obj)} {l r : List Value} {u v : Value} (hl : l.length = r.length) (h : ∀ j (h1 : j < l.length) (h2 : j < r.length), TwinAt w imm l[j] r[j]) (huv : TwinAt w imm u v) :
    ∀ j (h1 : j < (l ++ [u]).length) (h2 : j < (r ++ [v]).length), TwinAt w imm (l ++ [u])[j] (r ++ [v])[j] := by
  intro j h1 h2
  rcases Nat.lt_or_ge j l.length with hj | hj
  · rw [List.getElem_append_left hj, List.getElem_append_left (hl ▸ hj)]
    exact h j hj (hl ▸ hj)
  · have hj' : j = l.length := by simp only [List.length_append, List.length_singleton] at h1; omega
    subst hj'
    rw [List.getElem_append_right (Nat.le_refl _), List.getElem_append_right (by omega)]
    simp only [Nat.sub_self, hl]
    exact huv
theorem len_of {w : World} {A : Around} {E Q : Value → Shared → Prop} {s : Shared} {h₀ : Heap} {L l : Addr} {news : List (Addr × Obj)} {its : List Value} {k : Nat} (N : News h₀ L s.heap news) (hm : (l, (W.listOf its.toArray k : Obj)) ∈ news) (hz : its.length < 100000)
    (h : ∀ t tk, Q (.int its.length t) { s with toks := tk }) : wpAny (model PR w) A (call (.builtin "len") [.ref l]) Q E s := by
  refine call_len_list ⟨_, (N _ hm).1, rfl, k, rfl⟩ (by simp only [List.size_toArray]; omega) ?_
  simp only [List.size_toArray]
  exact h _ _
theorem insert_last {w : World} {A : Around} {E : Value → Shared → Prop} {s : Shared} {h₀ : Heap} {L D : Addr} {m : Str → Option Value} {news news' : List (Addr × Obj)} {n : Nat} {toks : List Value} {u : Tok} {y : Value} {Q : Value → Shared → Prop} (F : Fr h₀ L s.heap m) (N : News h₀ L s.heap news)
    (U : Upd D (listOf toks.toArray n) (listOf (insB toks y).toArray (n + 1)) news news') (hz : toks.length < 100000) (h : ∀ h', Fr h₀ L h' m → News h₀ L h' news' → Q .none { s with heap := h' }) :
    wpAny (model PR w) A (call (.builtin "list.insert") [.ref D, .int ((toks.length : Int) - 1) u, y]) Q E s := by
  refine kl_insert F N ?_ (l := insB toks y) (ins_is toks y) U (by rw [sizeLine_eq]; show toks.length ≤ _; omega) h
  simp only [Builtin.List.listFitsIndex, Bool.and_eq_true, decide_eq_true_eq]
  omega
theorem Cx.in1 {w : World} {A : Around} {h₀ : Heap} {L scr : Addr} {n : Nat} (C : Cx w A h₀ L scr (n + 1)) : Cx w A.in1 h₀ L scr n := C.onto rfl rfl (Nat.le_succ _) (show A.units + 1 ≤ A.units + 10 by omega)
end
local macro_rules | `(tactic| walk_at "call ref") => `(tactic| (k_here; (with_reducible show wpAny _ _ (call (Value.ref 189) _) _ _ _); refine AtCall.go ?_))
local macro_rules | `(tactic| walk_at "call ref") => `(tactic| (k_here; (with_reducible show wpAny _ _ (call (Value.ref 78) _) _ _ _); refine AtCall.go ?_))
local macro_rules | `(tactic| walk_at "call ref") => `(tactic| (k_here; (with_reducible show wpAny _ _ (call (Value.ref 85) _) _ _ _); refine AtCall.go ?_))
local macro_rules | `(tactic| walk_at "call ref") => `(tactic| (k_here; (with_reducible show wpAny _ _ (call (Value.ref 112) _) _ _ _); refine AtCall.go ?_))
local macro_rules | `(tactic| walk_at "call ref") => `(tactic| (k_here; (with_reducible show wpAny _ _ (call (Value.ref 208) _) _ _ _); refine AtCall.go ?_))
local macro_rules | `(tactic| walk_at "call ref") => `(tactic| (k_here; (with_reducible show wpAny _ _ (call (Value.ref 196) _) _ _ _); refine AtCall.go ?_))
local macro_rules | `(tactic| walk_at "getAttr ref") => `(tactic| (k_here; (with_reducible show wpAny _ _ (getAttr (Value.ref _) (Str.ofString "delimiters") _) _ _ _); refine AtGet.go ?_))
local macro_rules | `(tactic| k_all) => `(tactic| (refine forall_app ?ka ?kb; (case ka => assumption); (case kb => assumption)))
local macro_rules | `(tactic| walk_at "my step 20") => `(tactic| (k_here; (with_reducible show wpAny _ _ (call (Value.type "dict") [Value.ref _]) _ _ _); k_dflt (refine' dict_copy ?F ?N ?b ?m ?d ?l ?z ?_; (case F => k_asm); (case N => k_asm); (case b => exact TopRead.nolimit (by assumption)); (case m => k_mem); (case d => assumption); (case l => assumption); (case z => assumption); k_whole)))
set_option hygiene false in
local macro_rules | `(tactic| walk_at "call type:dict") => `(tactic| (walk_at "my step 20"; intro d8 h9 o8 F9 N9 l1 lo8 hd8; (try k_lt l1); (try k_sweep)))
local macro_rules | `(tactic| walk_at "call builtin:len") => `(tactic| (k_here; (with_reducible show wpAny _ _ (call (Value.builtin "len") [Value.ref _]) _ _ _); k_dflt (refine' len_of ?N ?m ?z ?_; (case N => k_asm); (case m => k_mem); (case z => omega); k_whole)))
set_option hygiene false in
local macro_rules | `(tactic| walk_at "call builtin:len") => `(tactic| (k_here; (with_reducible show wpAny _ _ (call (Value.builtin "len") [Value.ref _]) _ _ _); k_dflt (refine' len_of ?N ?m ?z ?_; (case N => k_asm); (case m => k_mem); (case z => first | omega | (simp only [List.length_map, List.length_append, List.length_cons]; omega)); k_whole); intro t9 tk9))
local macro_rules | `(tactic| walk_at "my step 21") => `(tactic| (k_here; k_dflt (refine' insert_last ?F ?N ?U ?z ?_; (case F => k_asm); (case N => k_asm); (case U => k_upd); (case z => omega); k_whole)))
set_option hygiene false in
local macro_rules | `(tactic| walk_at "call builtin:list.insert") => `(tactic| (walk_at "my step 21"; intro h9 F9 N9; (try k_sweep)))
section
theorem prepend_spec {w : World} {A : Around} {s : Shared} {h₀ : Heap} {L scr : Addr} {m : Str → Option Value} {rest : List (Addr × Obj)} {Q E : Value → Shared → Prop}
    {x dx e tl bl : Addr} {K : Kt} {src im dep lk dl : Value} {toks : List Value} {k : Nat} {v : Value}
    (C : Cx w A h₀ L scr 3) (F : Fr h₀ L s.heap m) (N : News h₀ L s.heap ((x, instObj 103 dx) :: (dx, stO w K e src tl im dep lk bl dl) :: (tl, W.listOf toks.toArray k) :: rest)) (n1 : NeA x tl) (n2 : NeA dx tl) (o : ∀ q ∈ rest, q.1 ≠ tl) (hz : toks.length ≤ 1000)
    (ret : ∀ (k' : Nat) (h' : Heap) (tk' : Nat), Fr h₀ L h' m → News h₀ L h' ((x, instObj 103 dx) :: (dx, stO w K e src tl im dep lk bl dl) :: (tl, W.listOf (insB toks v).toArray k') :: rest) → Q .none { s with heap := h', toks := tk' }) :
    wpAny (model PySem.Challenge.rw_bq5016_01.row.prog w) A (call (.ref 78) [.ref x, v]) Q E s := by
  have hX := C.X
  revert hX; k_fill; intro hX
  refine wpAny_call ?_
  refine' enterC [(Str.ofString "self", .ref x), (Str.ofString "token", v)] C F N ?k6 ?k7 ?k9 ?kB ?c2 ?c3 ?c4 ?c5 ?_
  case k6 => k_is
  case k7 => k_is
  case k9 => exact BindsTo.of_eq rfl
  case kB => exact locs rfl
  case c2 => exact rfl
  case c3 => exact rfl
  case c4 => exact rfl
  case c5 => decide
  intro g' L' h' pp lo mg mb F' N' X' T' C' lt' st'
  clear C N
  have hA' := C'.hh
  try dsimp only
  try k_fold
  k_steps
  rename News h₀ _ _ _ => nZ
  exact ret _ _ _ (by assumption) (news_sub nZ (by walk_at "my sub"))
theorem pick_front (l : List Value) : slicePick l.toArray none (some (-1)) none = l.dropLast.toArray := by
  rw [slicePick_plain]
  rcases snoc_cases l with rfl | ⟨p, z, rfl⟩
  · rfl
  · have e : (max 0 (min (-1 + ((p.length : Int) + 1)) ((p.length : Int) + 1))).toNat = p.length := by omega
    simp [clipAt, e]
theorem pick_back (l : List Value) : slicePick l.toArray (some (-1)) none none = l.getLast?.toList.toArray := by
  rw [slicePick_plain]
  rcases snoc_cases l with rfl | ⟨p, z, rfl⟩
  · rfl
  · have e : (max 0 (min (-1 + ((p.length : Int) + 1)) ((p.length : Int) + 1))).toNat = p.length := by omega
    simp [clipAt, e]
section
variable {w : World} {A : Around} {E Q : Value → Shared → Prop} {s : Shared} {h₀ : Heap} {L l : Addr} {m : Str → Option Value} {news : List (Addr × Obj)} {value slice : Expr} {its : List Value} {k : Nat} {t : Tok}
theorem slice_front (F : Fr h₀ L s.heap m) (N : News h₀ L s.heap news) (hm : (l, (W.listOf its.toArray k : Obj)) ∈ news) (hz : its.length < 100000)
    (hs : subscripted slice false (.ref l) (.ref s.heap.objs.size) = operate [.ref s.heap.objs.size, .ref l] (getItem (.ref l) (.ref s.heap.objs.size))) (ht : ∀ r, letTemporaryGo value (.ref l) r = pure ())
    (h : ∀ D h', Fr h₀ L h' m → News h₀ L h' ((D, listOf its.dropLast.toArray 0) :: news) → (∀ p ∈ news, p.1 < D) → Q (.ref D) { s with heap := h' }) :
    wpAny (model PR w) A (subscriptTail value slice (.ref l) (.ref s.heap.objs.size)) Q E { s with heap := s.heap.push { cls := .type "slice", data := .fields #[.none, .int (-1) t, .none] } } := by
  refine kmk_slice F N ⟨_, (N _ hm).1, rfl, k, rfl⟩ .none (.int _ _) (fun D h' F' N' l1 => h D h' F' ?_ l1) hs ht (by rw [sizeLine_eq]; show its.length ≤ _; omega)
  rw [← pick_front]; exact N'
theorem slice_back (F : Fr h₀ L s.heap m) (N : News h₀ L s.heap news) (hm : (l, (W.listOf its.toArray k : Obj)) ∈ news) (hz : its.length < 100000)
    (hs : subscripted slice false (.ref l) (.ref s.heap.objs.size) = operate [.ref s.heap.objs.size, .ref l] (getItem (.ref l) (.ref s.heap.objs.size))) (ht : ∀ r, letTemporaryGo value (.ref l) r = pure ())
    (h : ∀ D h', Fr h₀ L h' m → News h₀ L h' ((D, listOf its.getLast?.toList.toArray 0) :: news) → (∀ p ∈ news, p.1 < D) → Q (.ref D) { s with heap := h' }) :
    wpAny (model PR w) A (subscriptTail value slice (.ref l) (.ref s.heap.objs.size)) Q E { s with heap := s.heap.push { cls := .type "slice", data := .fields #[.int (-1) t, .none, .none] } } := by
  refine kmk_slice F N ⟨_, (N _ hm).1, rfl, k, rfl⟩ (.int _ _) .none (fun D h' F' N' l1 => h D h' F' ?_ l1) hs ht (by rw [sizeLine_eq]; show its.length ≤ _; omega)
  rw [← pick_back]; exact N'
end
/-- two lists are added: the walk stops here -/
structure AtAdd (w : World) (A : Around) (a b : Addr) (Q E : Value → Shared → Prop) (s : Shared) : Prop where
  go : wpAny (model PR w) A (binaryOp .Add (.ref a) (.ref b)) Q E s
theorem imm_fresh {imm R X Bo es : List (Addr × Obj)} (eqR : R = Bo ++ (X ++ imm)) (himm : ∀ q ∈ imm, q.1 ∉ fsts Bo ++ fsts X) (hes : ∀ q ∈ es, ∀ r ∈ R, @LT.lt Nat _ r.1 q.1) : ∀ q ∈ es ++ imm, q.1 ∉ fsts Bo ++ fsts X := by
  subst eqR
  intro q hq hm
  rcases List.mem_append.mp hq with hq | hq
  · rcases List.mem_append.mp hm with h | h
    · obtain ⟨r, hr, e⟩ := fsts_mem h
      have h1 := hes q hq r (List.mem_append_left _ hr)
      rw [e] at h1
      exact absurd h1 (Nat.lt_irrefl _)
    · obtain ⟨r, hr, e⟩ := fsts_mem h
      have h1 := hes q hq r (List.mem_append_right _ (List.mem_append_left _ hr))
      rw [e] at h1
      exact absurd h1 (Nat.lt_irrefl _)
  · exact himm q hq hm
theorem ne_cons_app {a : Nat} {p : Addr × Obj} {l r : List (Addr × Obj)} (h1 : @Ne Nat p.1 a) (h2 : ∀ q ∈ l, q.1 ≠ a) (h3 : ∀ q ∈ r, q.1 ≠ a) : ∀ q ∈ (p :: l) ++ r, q.1 ≠ a := by
  intro q hq
  rcases List.mem_append.mp hq with hq | hq
  · rcases List.mem_cons.mp hq with rfl | hq
    · exact h1
    · exact h2 q hq
  · exact h3 q hq
structure Hide (p : Prop) : Prop where
  mk :: (out : p)
/-- the last return is at hand: the walk stops here -/
structure AtRet (w : World) (A : Around) (b : Bool) (k : Nat) (p1 p2 : Pos) (env : Env) (Q : Flow → Shared → Prop) (E : Value → Shared → Prop) (s : Shared) : Prop where
  go : wpAny (model PR w) A (execs [.Return (some (.Constant (.bool b) k p1)) p2] env) Q E s
end
local macro_rules | `(tactic| walk_at "my step 22") => `(tactic| (k_here; (with_reducible show wpAny _ _ (subscriptTail _ (Expr.Slice _ _ none _) (Value.ref _) (Value.ref _)) _ _ _); k_dflt (first | (refine' slice_front ?F ?N ?m ?z ?hs ?ht ?_; (case F => k_asm); (case N => k_asm); (case m => k_mem); (case z => omega); (case hs => with_unfolding_all rfl); (case ht => (intro _; with_unfolding_all rfl))) | (refine' slice_back ?F ?N ?m ?z ?hs ?ht ?_; (case F => k_asm); (case N => k_asm); (case m => k_mem); (case z => omega); (case hs => with_unfolding_all rfl); (case ht => (intro _; with_unfolding_all rfl))))))
set_option hygiene false in
local macro_rules | `(tactic| walk_at "subscriptTail") => `(tactic| (walk_at "my step 22"; intro l8 h9 F9 N9 l1; (try k_lt l1); (try k_sweep)))
local macro_rules | `(tactic| walk_at "binaryOp Add") => `(tactic| (k_here; (with_reducible show wpAny _ _ (binaryOp _ (Value.ref _) (Value.ref _)) _ _ _); refine AtAdd.go ?_))
local macro_rules | `(tactic| walk_at "binaryOp Add ref ref") => `(tactic| (k_here; refine AtAdd.go ?_))
section
theorem ne_str_ne {w : World} {A : Around} {s : Shared} {E Q : Value → Shared → Prop} {a b : Str} {t u : Tok} (hab : a ≠ b) (h : Q (.bool true) s) : wpAny (model PR w) A (compareOp .NotEq (.str a t) (.str b u)) Q E s := by
  have e : (!(a == b)) = true := by simp [hab]
  exact SeqAt.RcNeAt.str_str a t b u PR w E Q (by first | simpa [hab] using h | (rw [e]; exact h))
local macro_rules | `(tactic| walk_at "compareOp NotEq str str") => `(tactic| (k_here; refine ne_str_ne (by assumption) ?_))

theorem delimsA {w : World} {A : Around} {s : Shared} {h₀ : Heap} {L scr : Addr} {m : Str → Option Value} {rest : List (Addr × Obj)} {Q E : Value → Shared → Prop}
    {x dx e tl bl : Addr} {K : Kt} {src : Str} {ts : Tok} {im dep lk : Value}
    (C : Cx w A h₀ L scr 4) (F : Fr h₀ L s.heap m) (N : News h₀ L s.heap ((x, instObj 103 dx) :: (dx, stO w K e (.str src ts) tl im dep lk bl .none) :: rest)) (n1 : NeA x dx) (o : ∀ q ∈ rest, q.1 ≠ dx)
    (ret : ∀ (sc sdx en : Addr) (oe : Obj) (K' : Ks) (h' : Heap) (tk' : Nat), Fr h₀ L h' m → News h₀ L h' ((x, instObj 103 dx) :: (dx, stO w K e (.str src ts) tl im dep lk bl (.ref sc)) :: (en, oe) :: (sc, instObj 53 sdx) :: (sdx, scO w K' (.str src ts) en) :: rest) →
      (∀ q ∈ rest, q.1 < sdx) → x < sdx → dx < sdx → sdx < sc → sc < en → Q (.ref sc) { s with heap := h', toks := tk' }) :
    wpAny (model PySem.Challenge.rw_bq5016_01.row.prog w) A (getAttr (.ref x) (Str.ofString "delimiters") true) Q E s := by
  have hX := C.X
  revert hX; k_fill; intro hX
  refine' get_prop ?k1 ?k2 ?k3 ?k4 ?k5 ?k6 ?k7 ?k8 ?k9 ?_
  case k1 => k_asm
  case k2 => k_asm
  case k3 => k_inst
  case k4 => k_is
  case k5 => k_is
  case k6 => k_is
  case k7 => k_is
  case k8 => k_is
  case k9 => k_is
  refine' enterC (n := 2) [(Str.ofString "self", .ref x)] C.in1 F N ?k6 ?k7 ?k9 ?kB ?c2 ?c3 ?c4 ?c5 ?_
  case k6 => k_is
  case k7 => k_is
  case k9 => exact BindsTo.of_eq rfl
  case kB => exact locs rfl
  case c2 => exact rfl
  case c3 => exact rfl
  case c4 => exact rfl
  case c5 => decide
  intro g' L' h' pp lo mg mb F' N' X' T' C' lt' st'
  clear C N
  have hA' := C'.hh
  try dsimp only
  try k_fold
  k_steps
  rename News h₀ _ _ _ => nZ
  have hl : AllLt dx9 rest := by
    have q := hl9
    repeat (replace q := q.2)
    exact q
  have hx1 : @LT.lt Nat _ x dx9 := by omega
  have hx2 : @LT.lt Nat _ dx dx9 := by omega
  exact ret x9 dx9 en9 oe9 K9 _ _ (by assumption) (news_sub nZ (by walk_at "my sub")) (ktn_ltOf hl) hx1 hx2 (by first | exact hl9' | exact hl9'.1) (by first | exact hl9'' | exact hl9''.1)

theorem delimsB {w : World} {A : Around} {s : Shared} {h₀ : Heap} {L scr : Addr} {m : Str → Option Value} {rest : List (Addr × Obj)} {Q E : Value → Shared → Prop}
    {x dx e tl bl : Addr} {K : Kt} {src : Str} {ts : Tok} {im dep lk : Value} {sc0 sdx0 en0 : Addr} {K0 : Ks} {y : Str} {ty : Tok}
    (C : Cx w A h₀ L scr 4) (F : Fr h₀ L s.heap m) (N₀ : News h₀ L s.heap ((x, instObj 103 dx) :: (dx, stO w K e (.str src ts) tl im dep lk bl (.ref sc0)) :: rest)) (n1 : NeA x dx) (o : ∀ q ∈ rest, q.1 ≠ dx) (m1 : (sc0, instObj 53 sdx0) ∈ rest) (m2 : (sdx0, scO w K0 (.str y ty) en0) ∈ rest) (hy : y ≠ src)
    (ret : ∀ (sc sdx en : Addr) (oe : Obj) (K' : Ks) (h' : Heap) (tk' : Nat), Fr h₀ L h' m → News h₀ L h' ((x, instObj 103 dx) :: (dx, stO w K e (.str src ts) tl im dep lk bl (.ref sc)) :: (en, oe) :: (sc, instObj 53 sdx) :: (sdx, scO w K' (.str src ts) en) :: rest) →
      (∀ q ∈ rest, q.1 < sdx) → x < sdx → dx < sdx → sdx < sc → sc < en → Q (.ref sc) { s with heap := h', toks := tk' }) :
    wpAny (model PySem.Challenge.rw_bq5016_01.row.prog w) A (getAttr (.ref x) (Str.ofString "delimiters") true) Q E s := by
  have q1 : NeA sc0 dx := o _ m1
  have q2 : NeA sdx0 dx := o _ m2
  have N := news_dup (news_dup N₀ (.tail _ (.tail _ m2))) (.tail _ (.tail _ (.tail _ m1)))
  clear N₀
  have hX := C.X
  revert hX; k_fill; intro hX
  refine' get_prop ?k1 ?k2 ?k3 ?k4 ?k5 ?k6 ?k7 ?k8 ?k9 ?_
  case k1 => k_asm
  case k2 => k_asm
  case k3 => k_inst
  case k4 => k_is
  case k5 => k_is
  case k6 => k_is
  case k7 => k_is
  case k8 => k_is
  case k9 => k_is
  refine' enterC (n := 2) [(Str.ofString "self", .ref x)] C.in1 F N ?k6 ?k7 ?k9 ?kB ?c2 ?c3 ?c4 ?c5 ?_
  case k6 => k_is
  case k7 => k_is
  case k9 => exact BindsTo.of_eq rfl
  case kB => exact locs rfl
  case c2 => exact rfl
  case c3 => exact rfl
  case c4 => exact rfl
  case c5 => decide
  intro g' L' h' pp lo mg mb F' N' X' T' C' lt' st'
  clear C N
  have hA' := C'.hh
  try dsimp only
  try k_fold
  k_steps
  rename News h₀ _ _ _ => nZ
  have hl : AllLt dx9 rest := by
    have q := hl9
    repeat (replace q := q.2)
    exact q
  have hx1 : @LT.lt Nat _ x dx9 := by omega
  have hx2 : @LT.lt Nat _ dx dx9 := by omega
  exact ret x9 dx9 en9 oe9 K9 _ _ (by assumption) (news_sub nZ (by walk_at "my sub")) (ktn_ltOf hl) hx1 hx2 (by first | exact hl9' | exact hl9'.1) (by first | exact hl9'' | exact hl9''.1)

theorem delimsC {w : World} {A : Around} {s : Shared} {h₀ : Heap} {L scr : Addr} {m : Str → Option Value} {rest : List (Addr × Obj)} {Q E : Value → Shared → Prop}
    {x dx e tl bl : Addr} {K : Kt} {src : Str} {ts : Tok} {im dep lk : Value} {sc0 sdx0 en0 : Addr} {K0 : Ks} {ty : Tok}
    (C : Cx w A h₀ L scr 4) (F : Fr h₀ L s.heap m) (N₀ : News h₀ L s.heap ((x, instObj 103 dx) :: (dx, stO w K e (.str src ts) tl im dep lk bl (.ref sc0)) :: rest)) (n1 : NeA x dx) (o : ∀ q ∈ rest, q.1 ≠ dx) (m1 : (sc0, instObj 53 sdx0) ∈ rest) (m2 : (sdx0, scO w K0 (.str src ty) en0) ∈ rest)
    (ret : ∀ (h' : Heap) (tk' : Nat), Fr h₀ L h' m → News h₀ L h' ((x, instObj 103 dx) :: (dx, stO w K e (.str src ts) tl im dep lk bl (.ref sc0)) :: rest) → Q (.ref sc0) { s with heap := h', toks := tk' }) :
    wpAny (model PySem.Challenge.rw_bq5016_01.row.prog w) A (getAttr (.ref x) (Str.ofString "delimiters") true) Q E s := by
  have q1 : NeA sc0 dx := o _ m1
  have q2 : NeA sdx0 dx := o _ m2
  have N := news_dup (news_dup N₀ (.tail _ (.tail _ m2))) (.tail _ (.tail _ (.tail _ m1)))
  clear N₀
  have hX := C.X
  revert hX; k_fill; intro hX
  refine' get_prop ?k1 ?k2 ?k3 ?k4 ?k5 ?k6 ?k7 ?k8 ?k9 ?_
  case k1 => k_asm
  case k2 => k_asm
  case k3 => k_inst
  case k4 => k_is
  case k5 => k_is
  case k6 => k_is
  case k7 => k_is
  case k8 => k_is
  case k9 => k_is
  refine' enterC (n := 2) [(Str.ofString "self", .ref x)] C.in1 F N ?k6 ?k7 ?k9 ?kB ?c2 ?c3 ?c4 ?c5 ?_
  case k6 => k_is
  case k7 => k_is
  case k9 => exact BindsTo.of_eq rfl
  case kB => exact locs rfl
  case c2 => exact rfl
  case c3 => exact rfl
  case c4 => exact rfl
  case c5 => decide
  intro g' L' h' pp lo mg mb F' N' X' T' C' lt' st'
  clear C N
  have hA' := C'.hh
  try dsimp only
  try k_fold
  k_steps
  rename News h₀ _ _ _ => nZ
  exact ret _ _ (by assumption) (news_sub nZ (by walk_at "my sub"))
end

local macro_rules | `(tactic| walk_at "pad 3") => `(tactic| skip)
local macro_rules | `(tactic| walk_at "pad 4") => `(tactic| skip)
section
/-- a token put at the end, where no bracket is lifted -/
theorem append_plain {w : World} {A : Around} {s : Shared} {h₀ : Heap} {L scr : Addr} {m : Str → Option Value} {rest : List (Addr × Obj)} {Q E : Value → Shared → Prop}
    {x dx e tl bl a : Addr} {K : Kt} {src im dep lk dl : Value} {toks : List Value} {k k2 : Nat} {o : Obj} {kvs : List (Str × Value)} {brs : List Value}
    (C : Cx w A h₀ L scr 6) (F : Fr h₀ L s.heap m) (N : News h₀ L s.heap ((x, instObj 103 dx) :: (dx, stO w K e src tl im dep lk bl dl) :: (tl, W.listOf toks.toArray k) :: (bl, W.listOf brs.toArray k2) :: (a, o) :: rest))
    (n1 : NeA x tl) (n2 : NeA dx tl) (n3 : NeA tl bl) (n4 : NeA tl a) (o1 : ∀ q ∈ rest, q.1 ≠ tl) (hz : toks.length ≤ 1000) (hd : o.IsDictOf (PySem.strKind PR w) kvs) (lo : (a == sysModules) = false) (hzb : brs.length ≤ 1000)
    (hno : brs = [] ∨ valueAt kvs (Str.ofString "children") = none)
    (ret : ∀ (k' : Nat) (h' : Heap) (tk' : Nat), Fr h₀ L h' m → News h₀ L h' ((x, instObj 103 dx) :: (dx, stO w K e src tl im dep lk bl dl) :: (tl, W.listOf (toks ++ [Value.ref a]).toArray k') :: (bl, W.listOf brs.toArray k2) :: (a, o) :: rest) → Q .none { s with heap := h', toks := tk' }) :
    wpAny (model PySem.Challenge.rw_bq5016_01.row.prog w) A (call (.ref 85) [.ref x, .ref a]) Q E s := by
  have hX := C.X
  revert hX; k_fill; intro hX
  refine wpAny_call ?_
  refine' enterC [(Str.ofString "self", .ref x), (Str.ofString "token", .ref a)] C F N ?k6 ?k7 ?k9 ?kB ?c2 ?c3 ?c4 ?c5 ?_
  case k6 => k_is
  case k7 => k_is
  case k9 => exact BindsTo.of_eq rfl
  case kB => exact locs rfl
  case c2 => exact rfl
  case c3 => exact rfl
  case c4 => exact rfl
  case c5 => decide
  intro g' L' h' pp lo' mg mb F' N' X' T' C' lt' st'
  clear C N
  have hA' := C'.hh
  try dsimp only
  try k_fold
  k_steps
  rename News g' _ _ _ => nN
  cases brs with
  | nil =>
    refine ⟨truth_list (its := []) nN (by k_mem) (by simp) fun tk9 => ?_⟩
    have e0 : (!([] : List Value).isEmpty) = false := rfl
    rw [e0]
    k_steps
    rename News h₀ _ _ _ => nZ
    exact ret _ _ _ (by assumption) (by rw [← List.push_toArray]; exact news_sub nZ (by walk_at "my sub"))
  | cons b bs =>
    have hc : valueAt kvs (Str.ofString "children") = none := by
      rcases hno with h | h
      · cases h
      · exact h
    have hc' : (valueAt kvs (Str.ofString "children")).isSome = false := by rw [hc]; rfl
    refine ⟨truth_list nN (by k_mem) (by omega) fun tk9 => ?_⟩
    have e0 : (!(b :: bs).isEmpty) = true := rfl
    rw [e0]
    k_steps
    rename News h₀ _ _ _ => nZ
    exact ret _ _ _ (by assumption) (by rw [← List.push_toArray]; exact news_sub nZ (by walk_at "my sub"))
end

section
/-- a list's last item -/
theorem item_last {w : World} {A : Around} {E : Value → Shared → Prop} {s : Shared} {h₀ : Heap} {L l : Addr} {news : List (Addr × Obj)} {value slice : Expr} {p : List Value} {y : Value} {k : Nat} {t : Tok} {Q : Value → Shared → Prop}
    (N : News h₀ L s.heap news) (hm : (l, (W.listOf (p ++ [y]).toArray k : Obj)) ∈ news) (h : Q y s)
    (hs : subscripted slice false (.ref l) (.int (-1) t) = operate [.ref l, .int (-1) t] (getItem (.ref l) (.int (-1) t))) (ht : ∀ r, letTemporaryGo value (.ref l) r = pure ()) :
    wpAny (model PR w) A (subscriptTail value slice (.ref l) (.int (-1) t)) Q E s := by
  have hl : s.heap.IsList l (p ++ [y]).toArray := ⟨_, (N _ hm).1, rfl, k, rfl⟩
  have hz : (p ++ [y]).toArray.size = p.length + 1 := by simp
  refine subscriptTail_builtin hl.typeIs slot_list_getitem.lookup (wpAny_getItem_list_neg hl (by decide) (by rw [hz]; omega) (by decide) ?_ h) hs ht
  rw [hz]
  have e : (-1 + ((p.length + 1 : Nat) : Int)).toNat = p.length := by omega
  rw [e]
  simp
end
local macro_rules | `(tactic| walk_at "subscriptTail") => `(tactic| (k_here; (with_reducible show wpAny _ _ (subscriptTail _ (Expr.UnaryOp _ _ _) (Value.ref _) (Value.int _ _)) _ _ _); k_dflt (refine' item_last ?N ?m ?_ ?hs ?ht; (case N => k_asm); (case m => k_mem); (case hs => exact sub_neg); (case ht => (intro _; with_unfolding_all rfl)); k_whole)))
local macro_rules | `(tactic| walk_at "subscriptTail Name UnaryOp ref int") => `(tactic| (k_here; (with_reducible show wpAny _ _ (subscriptTail _ (Expr.UnaryOp _ _ _) (Value.ref _) (Value.int _ _)) _ _ _); k_dflt (refine' item_last ?N ?m ?_ ?hs ?ht; (case N => k_asm); (case m => k_mem); (case hs => exact sub_neg); (case ht => (intro _; with_unfolding_all rfl)); k_whole)))
local macro_rules | `(tactic| walk_at "subscriptTail Subscript") => `(tactic| (k_here; (with_reducible show wpAny _ _ (subscriptTail _ (Expr.UnaryOp _ _ _) (Value.ref _) (Value.int _ _)) _ _ _); k_dflt (refine' item_last ?N ?m ?_ ?hs ?ht; (case N => k_asm); (case m => k_mem); (case hs => exact sub_neg); (case ht => (intro _; with_unfolding_all rfl)); k_whole)))
local macro_rules | `(tactic| walk_at "subscriptTail Attribute") => `(tactic| (k_here; (with_reducible show wpAny _ _ (subscriptTail _ (Expr.UnaryOp _ _ _) (Value.ref _) (Value.int _ _)) _ _ _); k_dflt (refine' item_last ?N ?m ?_ ?hs ?ht; (case N => k_asm); (case m => k_mem); (case hs => exact sub_neg); (case ht => (intro _; with_unfolding_all rfl)); k_whole)))
section
theorem deedV0 {w : World} {kp : List (Addr × Obj)} {A : Around} {s : Shared} {h₀ : Heap} {L scr P : Addr} {m : Str → Option Value} {Q E : Value → Shared → Prop} {n : Nat} {box sl ms e0 e1 : Addr} {cs : List CellD} {k : Int} {dt kt : Tok}
    (C : Cx w A h₀ L scr 9) (F : Fr h₀ L s.heap m) (V : Inv w kp h₀ L scr P n box sl ms e0 e1 cs s.heap s.gens) (G : Gx h₀ P) (k0 : 0 ≤ k) (k9 : k < cs.length) (hn : n ≤ 30)
    (ret : ∀ (cs' : List CellD) (h' : Heap) (tk' : Nat) (g' : Array GenState), Fr h₀ L h' m → Inv w kp h₀ L scr P (n + 1) box sl ms e0 e1 cs' h' g' → cs.length ≤ cs'.length → Q (.bool true) { s with heap := h', toks := tk', gens := g' }) :
    wpAny (model PySem.Challenge.rw_bq5016_01.row.prog w) A (call (.ref 213) [.ref box, .int 0 dt, .int k kt, .ref sl, .ref ms]) Q E s := by
  have hX := C.X
  revert hX; k_fill; intro hX
  have hfew := V.few
  have hkk : k < 1000 := by omega
  obtain ⟨pre, c, post, rfl, hxs, hys⟩ := cell_at k0 k9
  obtain ⟨p, st, tp, ts, k1, k2, ps, imm, R, O⟩ := V.open
  obtain ⟨o1, o2, o3, o4, o5, o6, o7, o8', o9, o10, o11, o12⟩ := off12 O.off
  have hp := O.p0
  have hst := O.st0
  have hst' := O.st9
  have N := O.N
  have nd := O.nd
  have hG := O.good c (List.mem_append_right _ (.head _))
  have hM := hG.dict
  have lM := hG.sys
  have hnt := hG.nt
  have hnb := hG.nb
  have hmt : c.mtoks.length ≤ n := hG.len ▸ hnt
  have hb0 := V.bare
  try simp only [List.cons_append, List.nil_append] at N
  obtain ⟨n1_2, n1_3, n1_4, n1_5, n1_6, n1_7, n1_8, n1_9, n1_10, n1_11, n1_12, n2_3, n2_4, n2_5, n2_6, n2_7, n2_8, n2_9, n2_10, n2_11, n2_12, n3_4, n3_5, n3_6, n3_7, n3_8, n3_9, n3_10, n3_11, n3_12, n4_5, n4_6, n4_7, n4_8, n4_9, n4_10, n4_11, n4_12, n5_6, n5_7, n5_8, n5_9, n5_10, n5_11, n5_12, n6_7, n6_8, n6_9, n6_10, n6_11, n6_12, n7_8, n7_9, n7_10, n7_11, n7_12, n8_9, n8_10, n8_11, n8_12, n9_10, n9_11, n9_12, n10_11, n10_12, n11_12⟩ := nd12 nd
  clear nd
--NOENTER
  have nd6 : ([box, sl, ms, c.x, c.dx, c.md] : List Nat).Nodup := by
    simp only [List.nodup_cons, List.mem_cons, List.not_mem_nil, or_false, not_or, not_false_eq_true, and_true, List.nodup_nil]
    exact ⟨⟨n1_2, n1_3, n1_5, n1_6, n1_9⟩, ⟨n2_3, n2_5, n2_6, n2_9⟩, ⟨n3_5, n3_6, n3_9⟩, ⟨n5_6, n5_9⟩, n6_9⟩
  refine' deed0 (rest := (P, tabObj ps) :: (c.tl, W.listOf c.toks.toArray c.k1) :: (c.bl, W.listOf c.brs.toArray c.k2) :: (c.mtl, W.listOf c.mtoks.toArray c.k3) :: (c.ml, W.listOf #[.bool c.im, .bool c.lk] c.k4) :: (c.mbl, W.listOf c.prs.toArray c.k5) :: R)
    C F (news_sub N (by walk_at "my sub")) hp hst hst' k0 hkk hxs hys hM lM nd6 ?r1 ?r2 ?r3 ?_
  case r1 => first | k_all | fail
  case r2 => first | k_all | fail
  case r3 => first | k_all | fail
  intro p' tp' st' ts' t u u' om' h' tk' F' N' hp' hs' hs'' hD
  exact ret (pre ++ { c with src := t, ts := u, ts' := u', om := om' } :: post) _ _ _ F' (V.close O (Nat.le_succ n) (es := []) (news_sub N' (by walk_at "my sub")) O.eqR hp' hs' hs'' O.tri hb0 rfl rfl rfl O.nd O.off O.ndR O.immR { hG.mono (fun _ h => h) (Nat.le_succ n) with dict := hD }) (by simp)
end

section
/-- a token put at the end, where the innermost bracket is lifted -/
theorem append_lift {w : World} {A : Around} {s : Shared} {h₀ : Heap} {L scr P : Addr} {m : Str → Option Value} {rest : List (Addr × Obj)} {Q E : Value → Shared → Prop}
    {x dx e tl bl a bx bdx c : Addr} {K : Kt} {Kq : Kb} {src im dep lk dl : Value} {toks : List Value} {k k2 kk : Nat} {o : Obj} {kvs : List (Str × Value)} {bs vs : List Value} {t1 t2 td : Tok} {bim : Bool} {cd H Z : Nat} {ps : Array Value}
    (C : Cx w A h₀ L scr 6) (F : Fr h₀ L s.heap m) (N : News h₀ L s.heap ((x, instObj 103 dx) :: (dx, stO w K e src tl im dep lk bl dl) :: (tl, W.listOf toks.toArray k) :: (bl, W.listOf (bs ++ [Value.ref bx]).toArray k2) :: (a, o) ::
      (bx, instObj 163 bdx) :: (bdx, brO w Kq (.int 0 t1) (.int 0 t2) (.bool bim) .none (.bool true) (.bool false) (.int cd td)) :: (P, tabObj ps) :: rest))
    (n1 : NeA x tl) (n2 : NeA dx tl) (n3 : NeA tl bl) (n4 : NeA tl a) (n5 : NeA tl bx) (n6 : NeA tl bdx) (n7 : NeA tl P) (o1 : ∀ q ∈ rest, q.1 ≠ tl)
    (b1 : NeA x bdx) (b2 : NeA dx bdx) (b3 : NeA bl bdx) (b4 : NeA a bdx) (b5 : NeA bx bdx) (b6 : NeA bdx P) (o2 : ∀ q ∈ rest, q.1 ≠ bdx)
    (hz : toks.length ≤ 1000) (hd : o.IsDictOf (PySem.strKind PR w) kvs) (lo : (a == sysModules) = false) (hzb : bs.length ≤ 1000)
    (hc : valueAt kvs (Str.ofString "children") = some (.ref c)) (hau : bim = true ∨ valueAt kvs (Str.ofString "_autolink") = none)
    (hcl : (c, (W.listOf vs.toArray kk : Obj)) ∈ rest) (hts : Tkns w rest vs H Z) (hZ : Z ≤ 4000) (hzk : kvs.length ≤ 9) (ct : @Ne Nat c tl)
    (G : Gx h₀ P) (ht : TriplesOk ps.toList) (hb : AllBare s.gens)
    (p1 : NeA x P) (p2 : NeA dx P) (p3 : NeA bl P) (p4 : NeA a P) (p5 : NeA bx P) (o3 : ∀ q ∈ rest, q.1 ≠ P)
    (ret : ∀ (k' : Nat) (t' : Tok) (ps' : Array Value) (h' : Heap) (tk' : Nat) (g' : Array GenState), Fr h₀ L h' m → News h₀ L h' ((x, instObj 103 dx) :: (dx, stO w K e src tl im dep lk bl dl) :: (tl, W.listOf (toks ++ [Value.ref a]).toArray k') :: (bl, W.listOf (bs ++ [Value.ref bx]).toArray k2) :: (a, o) ::
      (bx, instObj 163 bdx) :: (bdx, brO w Kq (.int 0 t1) (.int 0 t2) (.bool bim) .none (.bool true) (.bool false) (.int (if ((H + 1 : Nat) : Int) > cd then ((H + 1 : Nat) : Int) else cd) t')) :: (P, tabObj ps') :: rest) → TriplesOk ps'.toList → AllBare g' → Q .none { s with heap := h', toks := tk', gens := g' }) :
    wpAny (model PySem.Challenge.rw_bq5016_01.row.prog w) A (call (.ref 85) [.ref x, .ref a]) Q E s := by
  have hX := C.X
  revert hX; k_fill; intro hX
  refine wpAny_call ?_
  refine' enterC [(Str.ofString "self", .ref x), (Str.ofString "token", .ref a)] C F N ?k6 ?k7 ?k9 ?kB ?c2 ?c3 ?c4 ?c5 ?_
  case k6 => k_is
  case k7 => k_is
  case k9 => exact BindsTo.of_eq rfl
  case kB => exact locs rfl
  case c2 => exact rfl
  case c3 => exact rfl
  case c4 => exact rfl
  case c5 => decide
  intro g' L' h' pp lo' mg mb F' N' X' T' C' lt' st'
  clear C N
  have hA' := C'.hh
  try dsimp only
  try k_fold
  k_steps
  rename News g' _ _ _ => nN
  have hc' : (valueAt kvs (Str.ofString "children")).isSome = true := by rw [hc]; rfl
  refine ⟨truth_list nN (by k_mem) (by simp only [List.length_append, List.length_singleton]; omega) fun tk9 => ?_⟩
  have e0 : (!(bs ++ [Value.ref bx]).isEmpty) = true := by simp
  rw [e0]
  obtain ⟨b9, hb9⟩ : ∃ b9, (valueAt kvs (Str.ofString "_autolink")).isSome = b9 := ⟨_, rfl⟩
  cases b9 with
  | false =>
    k_steps
    k_here
    rename News g' _ _ _ => nZ
    refine kdg_notin (knd := PySem.strKind _ _) nZ (by k_mem) hd lo (strKind_is _ _ _ _) _ hb9 ?_
    k_steps
    rename News g' _ _ _ => nM
    rename Fr g' _ _ _ => nF
    refine AtCall.mk ?_
    refine' depth_spec (vs := [.ref a]) (H := H + 1) (Zt := Z + 1) (cx_at C' (by omega)) nF nM ?pk (G.keeps st') ht hb ?hl ?hT (by omega) ?_
    case pk => first | walk_at "my pick" | fail
    case hl => first | walk_at "my mem" | fail
    case hT =>
      rw [← Nat.max_zero (H + 1)]
      exact Tkns.cons (h := H + 1) (z := Z + 1) (h' := 0) (z' := 0) (.node (by walk_at "my mem") hd lo hc (by walk_at "my mem") (hts.mono (by walk_at "my atom")) hzk) .nil
    intro t7 ps7 h7 tk7 g7 F7 N7 ht7 hb7
    clear nM nF
    dsimp only
    k_steps
    rename News h₀ _ _ _ => nK
    exact ret _ _ ps7 _ _ _ (by assumption) (news_sub nK (by walk_at "my sub")) ht7 hb7
  | true =>
    have hbim : bim = true := by
      rcases hau with h | h
      · exact h
      · rw [h] at hb9; cases hb9
    subst hbim
    k_steps
    k_here
    rename News g' _ _ _ => nZ
    refine kdg_notin (knd := PySem.strKind _ _) nZ (by k_mem) hd lo (strKind_is _ _ _ _) _ hb9 ?_
    k_steps
    rename News g' _ _ _ => nM
    rename Fr g' _ _ _ => nF
    refine AtCall.mk ?_
    refine' depth_spec (vs := [.ref a]) (H := H + 1) (Zt := Z + 1) (cx_at C' (by omega)) nF nM ?pk (G.keeps st') ht hb ?hl ?hT (by omega) ?_
    case pk => first | walk_at "my pick" | fail
    case hl => first | walk_at "my mem" | fail
    case hT =>
      rw [← Nat.max_zero (H + 1)]
      exact Tkns.cons (h := H + 1) (z := Z + 1) (h' := 0) (z' := 0) (.node (by walk_at "my mem") hd lo hc (by walk_at "my mem") (hts.mono (by walk_at "my atom")) hzk) .nil
    intro t7 ps7 h7 tk7 g7 F7 N7 ht7 hb7
    clear nM nF
    dsimp only
    k_steps
    rename News h₀ _ _ _ => nK
    exact ret _ _ ps7 _ _ _ (by assumption) (news_sub nK (by walk_at "my sub")) ht7 hb7
/-- a token put at the end, an automatic link outside an image -/
theorem append_auto {w : World} {A : Around} {s : Shared} {h₀ : Heap} {L scr P : Addr} {m : Str → Option Value} {rest : List (Addr × Obj)} {Q E : Value → Shared → Prop}
    {x dx e tl bl a bx bdx c : Addr} {K : Kt} {Kq : Kb} {src im dep lk dl : Value} {toks : List Value} {k k2 kk : Nat} {o : Obj} {kvs : List (Str × Value)} {bs : List Value} {t1 t2 td : Tok} {bim : Bool} {cd : Int} {ps : Array Value}
    (C : Cx w A h₀ L scr 6) (F : Fr h₀ L s.heap m) (N : News h₀ L s.heap ((x, instObj 103 dx) :: (dx, stO w K e src tl im dep lk bl dl) :: (tl, W.listOf toks.toArray k) :: (bl, W.listOf (bs ++ [Value.ref bx]).toArray k2) :: (a, o) ::
      (bx, instObj 163 bdx) :: (bdx, brO w Kq (.int 0 t1) (.int 0 t2) (.bool bim) .none (.bool true) (.bool false) (.int cd td)) :: (P, tabObj ps) :: rest))
    (n1 : NeA x tl) (n2 : NeA dx tl) (n3 : NeA tl bl) (n4 : NeA tl a) (n5 : NeA tl bx) (n6 : NeA tl bdx) (n7 : NeA tl P) (o1 : ∀ q ∈ rest, q.1 ≠ tl)
    (b1 : NeA x bdx) (b2 : NeA dx bdx) (b3 : NeA bl bdx) (b4 : NeA a bdx) (b5 : NeA bx bdx) (b6 : NeA bdx P) (o2 : ∀ q ∈ rest, q.1 ≠ bdx)
    (hz : toks.length ≤ 1000) (hd : o.IsDictOf (PySem.strKind PR w) kvs) (lo : (a == sysModules) = false) (hzb : bs.length ≤ 1000)
    (hc : valueAt kvs (Str.ofString "children") = some (.ref c)) (hau : (valueAt kvs (Str.ofString "_autolink")).isSome = true) (hbim : bim = false)
    (ret : ∀ (k' : Nat) (h' : Heap) (tk' : Nat), Fr h₀ L h' m → News h₀ L h' ((x, instObj 103 dx) :: (dx, stO w K e src tl im dep lk bl dl) :: (tl, W.listOf (toks ++ [Value.ref a]).toArray k') :: (bl, W.listOf (bs ++ [Value.ref bx]).toArray k2) :: (a, o) ::
      (bx, instObj 163 bdx) :: (bdx, brO w Kq (.int 0 t1) (.int 0 t2) (.bool bim) .none (.bool true) (.bool false) (.int cd td)) :: (P, tabObj ps) :: rest) → Q .none { s with heap := h', toks := tk' }) :
    wpAny (model PySem.Challenge.rw_bq5016_01.row.prog w) A (call (.ref 85) [.ref x, .ref a]) Q E s := by
  have hX := C.X
  revert hX; k_fill; intro hX
  refine wpAny_call ?_
  refine' enterC [(Str.ofString "self", .ref x), (Str.ofString "token", .ref a)] C F N ?k6 ?k7 ?k9 ?kB ?c2 ?c3 ?c4 ?c5 ?_
  case k6 => k_is
  case k7 => k_is
  case k9 => exact BindsTo.of_eq rfl
  case kB => exact locs rfl
  case c2 => exact rfl
  case c3 => exact rfl
  case c4 => exact rfl
  case c5 => decide
  intro g' L' h' pp lo' mg mb F' N' X' T' C' lt' st'
  clear C N
  have hA' := C'.hh
  try dsimp only
  try k_fold
  k_steps
  rename News g' _ _ _ => nN
  have hc' : (valueAt kvs (Str.ofString "children")).isSome = true := by rw [hc]; rfl
  refine ⟨truth_list nN (by k_mem) (by simp only [List.length_append, List.length_singleton]; omega) fun tk9 => ?_⟩
  have e0 : (!(bs ++ [Value.ref bx]).isEmpty) = true := by simp
  rw [e0]
  subst hbim
  k_steps
  k_here
  rename News g' _ _ _ => nZ
  refine kdg_notin (knd := PySem.strKind _ _) nZ (by k_mem) hd lo (strKind_is _ _ _ _) _ hau ?_
  k_steps
  rename News h₀ _ _ _ => nK
  exact ret _ _ _ (by assumption) (news_sub nK (by walk_at "my sub"))
end

section
local macro_rules | `(tactic| walk_at "execs cons") => `(tactic| (k_here; refine AtRet.go ?_))

theorem deedV2 {w : World} {kp : List (Addr × Obj)} {A : Around} {s : Shared} {h₀ : Heap} {L scr P : Addr} {m : Str → Option Value} {Q E : Value → Shared → Prop} {n : Nat} {box sl ms e0 e1 : Addr} {cs : List CellD} {k : Int} {dt kt : Tok}
    (C : Cx w A h₀ L scr 9) (F : Fr h₀ L s.heap m) (V : Inv w kp h₀ L scr P n box sl ms e0 e1 cs s.heap s.gens) (G : Gx h₀ P) (k0 : 0 ≤ k) (k9 : k < cs.length) (hn : n ≤ 30)
    (ret : ∀ (cs' : List CellD) (h' : Heap) (tk' : Nat) (g' : Array GenState), Fr h₀ L h' m → Inv w kp h₀ L scr P (n + 1) box sl ms e0 e1 cs' h' g' → cs.length ≤ cs'.length → Q (.bool true) { s with heap := h', toks := tk', gens := g' }) :
    wpAny (model PySem.Challenge.rw_bq5016_01.row.prog w) A (call (.ref 213) [.ref box, .int 2 dt, .int k kt, .ref sl, .ref ms]) Q E s := by
  have hX := C.X
  revert hX; k_fill; intro hX
  have hfew := V.few
  have hkk : k < 1000 := by omega
  obtain ⟨pre, c, post, rfl, hxs, hys⟩ := cell_at k0 k9
  obtain ⟨p, st, tp, ts, k1, k2, ps, imm, R, O⟩ := V.open
  obtain ⟨o1, o2, o3, o4, o5, o6, o7, o8', o9, o10, o11, o12⟩ := off12 O.off
  have hp := O.p0
  have hst := O.st0
  have hst' := O.st9
  have N := O.N
  have nd := O.nd
  have hG := O.good c (List.mem_append_right _ (.head _))
  have hM := hG.dict
  have lM := hG.sys
  have hnt := hG.nt
  have hnb := hG.nb
  have hmt : c.mtoks.length ≤ n := hG.len ▸ hnt
  have hb0 := V.bare
  try simp only [List.cons_append, List.nil_append] at N
  obtain ⟨n1_2, n1_3, n1_4, n1_5, n1_6, n1_7, n1_8, n1_9, n1_10, n1_11, n1_12, n2_3, n2_4, n2_5, n2_6, n2_7, n2_8, n2_9, n2_10, n2_11, n2_12, n3_4, n3_5, n3_6, n3_7, n3_8, n3_9, n3_10, n3_11, n3_12, n4_5, n4_6, n4_7, n4_8, n4_9, n4_10, n4_11, n4_12, n5_6, n5_7, n5_8, n5_9, n5_10, n5_11, n5_12, n6_7, n6_8, n6_9, n6_10, n6_11, n6_12, n7_8, n7_9, n7_10, n7_11, n7_12, n8_9, n8_10, n8_11, n8_12, n9_10, n9_11, n9_12, n10_11, n10_12, n11_12⟩ := nd12 nd
  clear nd
  refine wpAny_call ?_
  refine' enterCC [(Str.ofString "box", .ref box), (Str.ofString "deed", .int 2 dt), (Str.ofString "k", .int k kt), (Str.ofString "states", .ref sl), (Str.ofString "models", .ref ms)] C F N ?k6 ?k7 ?k9 ?kB ?kD ?c2 ?c3 ?c4 ?_
  case k6 => k_is
  case k7 => k_is
  case k9 => exact BindsTo.of_eq rfl
  case kB => exact rfl
  case kD => decide +kernel
  case c2 => exact rfl
  case c3 => exact rfl
  case c4 => exact rfl
  intro g' L' h' tk' cells pp lo mg mb F' N' Y' X' T' C' lt' st9
  k_cells Y'
  try simp only [List.cons_append, List.nil_append] at N'
  k_lt lt'
  clear C N
  have hA' := C'.hh
  try dsimp only
  try k_fold
  k_steps
  rename News g' _ _ _ => nN
  refine AtCall.mk ?_
  refine' tree_use 3 3 rfl (cx_at C' (by omega)) (by assumption) nN ?P hp hst hst' ?_
  case P => first | walk_at "my pick" | fail
  intro v9 tl9 hg9 z9 p9 tp9 st9 ts9 h9 tk9 F9 N9 hp9 hs9 hs9' hf9 hT9 hh9 hz9
  clear nN
  try k_sweep
  obtain ⟨ta, to, kvs, rfl, hta, hdk, hsk, hzk⟩ := hT9.dict
  have q7 : ∀ q ∈ tl9, q.1 ≠ c.tl := fun q hq => Nat.ne_of_gt ((hf9 q hq).2 (c.tl, W.listOf c.toks.toArray c.k1) (by k_mem))
  have q9 : ∀ q ∈ tl9, q.1 ≠ c.md := fun q hq => Nat.ne_of_gt ((hf9 q hq).2 (c.md, c.om) (by k_mem))
  have r7 : NeA ta c.tl := q7 _ hta
  have r9 : NeA ta c.md := q9 _ hta
  have N8 : News g' L' h9 ((ta, to) :: (box, boxO scr p9 st9 tp9 ts9) :: (L' + 1, _) :: (sl, W.listOf ((pre ++ c :: post).map fun c => Value.ref c.x).toArray k1) :: (ms, W.listOf ((pre ++ c :: post).map fun c => Value.ref c.md).toArray k2) :: (P, tabObj ps) ::
      (c.x, instObj 103 c.dx) :: (c.dx, stO w c.K c.e (.str c.src c.ts) c.tl (.bool c.im) (.int c.d c.td) (.bool c.lk) c.bl c.dl) :: (c.tl, W.listOf c.toks.toArray c.k1) :: (c.bl, W.listOf c.brs.toArray c.k2) ::
      (c.md, c.om) :: (c.mtl, W.listOf c.mtoks.toArray c.k3) :: (c.ml, W.listOf #[.bool c.im, .bool c.lk] c.k4) :: (c.mbl, W.listOf c.prs.toArray c.k5) :: (R ++ tl9)) := news_sub N9 (sub_cons (.tail _ (List.mem_append_left _ hta)) (by walk_at "my sub"))
  clear N9
  k_steps
  have hd8' := l1
  have dd8 := hd8
  have ll8 := lo8
  rename News g' _ _ _ => nN
  refine AtCall.mk ?_
  refine' prepend_spec (toks := c.toks) (rest := (d8, o8) :: (ta, to) :: (box, boxO scr p9 st9 tp9 ts9) :: (L' + 1, _) :: (sl, W.listOf ((pre ++ c :: post).map fun c => Value.ref c.x).toArray k1) :: (ms, W.listOf ((pre ++ c :: post).map fun c => Value.ref c.md).toArray k2) :: (P, tabObj ps) ::
      (c.bl, W.listOf c.brs.toArray c.k2) :: (c.md, c.om) :: (c.mtl, W.listOf c.mtoks.toArray c.k3) :: (c.ml, W.listOf #[.bool c.im, .bool c.lk] c.k4) :: (c.mbl, W.listOf c.prs.toArray c.k5) :: (R ++ tl9)) (cx_at C' (by omega)) (by assumption) (news_sub nN (by walk_at "my sub")) (by assumption) (by assumption) ?oo (by omega) ?_
  case oo => first | k_all | fail
  intro kp h7 tk7 F7 N7
  clear nN
  try k_sweep
  k_steps
  rename News g' _ _ _ => nN
  refine AtAdd.mk ?_
  refine' kmk_add_lit (zs := c.mtoks.dropLast ++ [.ref ta]) (by assumption) nN (News.isList nN (by k_mem)) (News.isList nN (by k_mem)) ?ee ?_ ?zz
  case ee => simp
  case zz => simp only [List.length_dropLast, List.length_cons, List.length_nil, sizeLine_eq]; omega
  intro l7 h6 F6 N6 l2
  k_lt l2
  clear nN
  try k_sweep
  k_steps
  rename News g' _ _ _ => nN
  refine AtAdd.mk ?_
  refine' kmk_add_lit (zs := insB c.mtoks (.ref ta)) (by assumption) nN (News.isList nN (by k_mem)) (News.isList nN (by k_mem)) ?ee ?_ ?zz
  case ee => simp [insB]
  case zz =>
    have hgl : c.mtoks.getLast?.toList.length ≤ 1 := by cases c.mtoks.getLast? <;> simp
    simp only [List.length_dropLast, List.length_append, List.length_cons, List.length_nil, sizeLine_eq]; omega
  intro l6 h5 F5 N5 l3
  k_lt l3
  have hl6 := l3
  clear nN
  have M6 : News g' L' h5 ((l6, W.listOf (insB c.mtoks (.ref ta)).toArray 0) :: (d8, _) :: (ta, to) :: (box, boxO scr p9 st9 tp9 ts9) :: (L' + 1, _) :: (sl, W.listOf ((pre ++ c :: post).map fun c => Value.ref c.x).toArray k1) :: (ms, W.listOf ((pre ++ c :: post).map fun c => Value.ref c.md).toArray k2) :: (P, tabObj ps) ::
      (c.x, instObj 103 c.dx) :: (c.dx, stO w c.K c.e (.str c.src c.ts) c.tl (.bool c.im) (.int c.d c.td) (.bool c.lk) c.bl c.dl) :: (c.tl, W.listOf (insB c.toks (.ref d8)).toArray kp) :: (c.bl, W.listOf c.brs.toArray c.k2) ::
      (c.md, c.om) :: (c.ml, W.listOf #[.bool c.im, .bool c.lk] c.k4) :: (c.mbl, W.listOf c.prs.toArray c.k5) :: (R ++ tl9)) := news_sub N5 (by walk_at "my sub")
  clear N5
  try k_sweep
  have u1 : NeA l6 c.md := Nat.ne_of_gt (show @LT.lt Nat _ c.md l6 by omega)
  have u2 : NeA d8 c.md := Nat.ne_of_gt (show @LT.lt Nat _ c.md d8 by omega)
  replace hf9 := Hide.mk hf9
  replace hT9 := Hide.mk hT9
  replace hd8' := Hide.mk hd8'
  replace hl6 := Hide.mk hl6
  replace dd8 := Hide.mk dd8
  replace hdk := Hide.mk hdk
  clear l1 l2 l3 q7 r7
  k_steps
  rename Obj.IsDictOf _ _ _ => hD
  rename News g' _ _ _ => nN
  rename Fr g' _ _ _ => nF
  refine ⟨?_⟩
  refine wpAny_execs_cons (wpAny_Return_some (wpAny_Constant_bool ?_))
  refine leaveK_ nF nN ?_
  intro kF nZ
  replace hf9 := hf9.out
  replace hd8' := hd8'.out
  replace hl6 := hl6.out
  replace dd8 := dd8.out
  replace hdk := hdk.out
  have a8 : AllLt d8 (R ++ tl9) := by
    have q := hd8'
    repeat (replace q := q.2)
    exact q
  have a6 : AllLt l6 (R ++ tl9) := by
    have q := hl6
    repeat (replace q := q.2)
    exact q
  have tn : ∀ (r : Addr × Obj), r ∈ (L' + 1, _) :: (sl, W.listOf ((pre ++ c :: post).map fun c => Value.ref c.x).toArray k1) :: (ms, W.listOf ((pre ++ c :: post).map fun c => Value.ref c.md).toArray k2) :: (P, tabObj ps) ::
      (c.x, instObj 103 c.dx) :: (c.dx, stO w c.K c.e (.str c.src c.ts) c.tl (.bool c.im) (.int c.d c.td) (.bool c.lk) c.bl c.dl) :: (c.tl, W.listOf c.toks.toArray c.k1) :: (c.bl, W.listOf c.brs.toArray c.k2) ::
      (c.md, c.om) :: (c.mtl, W.listOf c.mtoks.toArray c.k3) :: (c.ml, W.listOf #[.bool c.im, .bool c.lk] c.k4) :: (c.mbl, W.listOf c.prs.toArray c.k5) :: R → ∀ q ∈ tl9, q.1 ≠ r.1 := fun r hr q hq => Nat.ne_of_gt ((hf9 q hq).2 r hr)
  obtain ⟨om', nZ, hD⟩ : ∃ (om' : Obj), News h₀ L _ ((box, boxO scr p9 st9 tp9 ts9) :: (sl, W.listOf ((pre ++ c :: post).map fun c => Value.ref c.x).toArray k1) :: (ms, W.listOf ((pre ++ c :: post).map fun c => Value.ref c.md).toArray k2) :: (P, tabObj ps) ::
      (({ c with toks := insB c.toks (.ref d8), mtoks := insB c.mtoks (.ref ta), mtl := l6, om := om', k1 := kp, k3 := 0 } : CellD).own w ++ (((d8, o8) :: tl9) ++ R))) ∧ om'.IsDictOf (PySem.strKind PR w) (mdlOf (.str c.src c.ts') l6 c.ml (.int c.d c.td') c.mbl c.f c.kept c.seen) := by
    refine ⟨_, news_sub nZ ?_, hD⟩
    dsimp only [CellD.own, List.cons_append, List.nil_append]
    walk_at "my sub"
  refine ret (pre ++ { c with toks := insB c.toks (.ref d8), mtoks := insB c.mtoks (.ref ta), mtl := l6, om := om', k1 := kp, k3 := 0 } :: post) _ _ _ kF (V.close O (Nat.le_succ n) (es := (d8, o8) :: tl9) nZ O.eqR (by assumption) (by assumption) (by assumption) O.tri hb0 rfl rfl rfl ?n1 ?n2 O.ndR (imm_fresh O.eqR O.immR ?n3) ?n4) (by simp)
  case n1 =>
    refine nd_swap (l1 := [box, sl, ms, P, c.x, c.dx, c.tl, c.bl, c.md]) (a := c.mtl) (l2 := [c.ml, c.mbl]) O.nd ?_
    simp only [List.cons_append, List.nil_append, List.mem_cons, List.not_mem_nil, or_false, not_or]
    omega
  case n2 =>
    have e8 : ∀ a : Nat, @LT.lt Nat _ a d8 → @Ne Nat d8 a := fun a h => Nat.ne_of_gt h
    have hbx : ∀ q ∈ tl9, q.1 ≠ box := fun q hq => Nat.ne_of_gt (hf9 q hq).1
    have h6 : ∀ q ∈ R ++ tl9, q.1 ≠ l6 := allLt_ne a6
    exact off12_mk ⟨ne_cons_app (e8 box (by omega)) hbx o1, ne_cons_app (e8 sl (by omega)) (tn (sl, _) (by k_mem)) o2, ne_cons_app (e8 ms (by omega)) (tn (ms, _) (by k_mem)) o3, ne_cons_app (e8 P (by omega)) (tn (P, _) (by k_mem)) o4,
      ne_cons_app (e8 c.x (by omega)) (tn (c.x, _) (by k_mem)) o5, ne_cons_app (e8 c.dx (by omega)) (tn (c.dx, _) (by k_mem)) o6, ne_cons_app (e8 c.tl (by omega)) (tn (c.tl, _) (by k_mem)) o7, ne_cons_app (e8 c.bl (by omega)) (tn (c.bl, _) (by k_mem)) o8', ne_cons_app (e8 c.md (by omega)) (tn (c.md, _) (by k_mem)) o9,
      ne_cons_app (Nat.ne_of_lt (show @LT.lt Nat _ d8 l6 by omega)) (fun q hq => h6 q (List.mem_append_right _ hq)) (fun q hq => h6 q (List.mem_append_left _ hq)), ne_cons_app (e8 c.ml (by omega)) (tn (c.ml, _) (by k_mem)) o11, ne_cons_app (e8 c.mbl (by omega)) (tn (c.mbl, _) (by k_mem)) o12⟩
  case n3 =>
    intro q hq r hr
    rcases List.mem_cons.mp hq with rfl | hq
    · exact ktn_ltOf a8 r (List.mem_append_left _ hr)
    · exact (hf9 q hq).2 r (.tail _ (.tail _ (.tail _ (.tail _ (.tail _ (.tail _ (.tail _ (.tail _ (.tail _ (.tail _ (.tail _ (.tail _ hr))))))))))))
  case n4 =>
    have hm := hG.mono (imm' := ((d8, o8) :: tl9) ++ imm) (fun _ h => List.mem_append_right _ h) (Nat.le_succ n)
    exact { hm with
      dict := hD
      len := by show (insB c.toks _).length = (insB c.mtoks _).length; rw [insB_len, insB_len, hG.len]
      toks := twin_insB hG.len hm.toks ⟨d8, ta, o8, to, kvs, rfl, rfl, .head _, .tail _ (List.mem_append_left _ hta), dd8, hdk, ll8, hsk⟩
      nt := by show (insB c.toks _).length ≤ n + 1; rw [insB_len]; omega }
end

local macro_rules | `(tactic| walk_at "pad 5") => `(tactic| skip)
local macro_rules | `(tactic| walk_at "pad 6") => `(tactic| skip)
section
theorem deedV3 {w : World} {kp : List (Addr × Obj)} {A : Around} {s : Shared} {h₀ : Heap} {L scr P : Addr} {m : Str → Option Value} {Q E : Value → Shared → Prop} {n : Nat} {box sl ms e0 e1 : Addr} {cs : List CellD} {k : Int} {dt kt : Tok}
    (C : Cx w A h₀ L scr 9) (F : Fr h₀ L s.heap m) (V : Inv w kp h₀ L scr P n box sl ms e0 e1 cs s.heap s.gens) (G : Gx h₀ P) (k0 : 0 ≤ k) (k9 : k < cs.length) (hn : n ≤ 30)
    (ret : ∀ (cs' : List CellD) (h' : Heap) (tk' : Nat) (g' : Array GenState), Fr h₀ L h' m → Inv w kp h₀ L scr P (n + 1) box sl ms e0 e1 cs' h' g' → cs.length ≤ cs'.length → Q (.bool true) { s with heap := h', toks := tk', gens := g' }) :
    wpAny (model PySem.Challenge.rw_bq5016_01.row.prog w) A (call (.ref 213) [.ref box, .int 3 dt, .int k kt, .ref sl, .ref ms]) Q E s := by
  have hX := C.X
  revert hX; k_fill; intro hX
  have hfew := V.few
  have hkk : k < 1000 := by omega
  obtain ⟨pre, c, post, rfl, hxs, hys⟩ := cell_at k0 k9
  obtain ⟨p, st, tp, ts, k1, k2, ps, imm, R, O⟩ := V.open
  obtain ⟨o1, o2, o3, o4, o5, o6, o7, o8, o9, o10, o11, o12⟩ := off12 O.off
  have hp := O.p0
  have hst := O.st0
  have hst' := O.st9
  have N := O.N
  have nd := O.nd
  have hG := O.good c (List.mem_append_right _ (.head _))
  have hM := hG.dict
  have lM := hG.sys
  have hnt := hG.nt
  have hnb := hG.nb
  have hb0 := V.bare
  try simp only [List.cons_append, List.nil_append] at N
  obtain ⟨n1_2, n1_3, n1_4, n1_5, n1_6, n1_7, n1_8, n1_9, n1_10, n1_11, n1_12, n2_3, n2_4, n2_5, n2_6, n2_7, n2_8, n2_9, n2_10, n2_11, n2_12, n3_4, n3_5, n3_6, n3_7, n3_8, n3_9, n3_10, n3_11, n3_12, n4_5, n4_6, n4_7, n4_8, n4_9, n4_10, n4_11, n4_12, n5_6, n5_7, n5_8, n5_9, n5_10, n5_11, n5_12, n6_7, n6_8, n6_9, n6_10, n6_11, n6_12, n7_8, n7_9, n7_10, n7_11, n7_12, n8_9, n8_10, n8_11, n8_12, n9_10, n9_11, n9_12, n10_11, n10_12, n11_12⟩ := nd12 nd
  clear nd
  refine wpAny_call ?_
  refine' enterCC [(Str.ofString "box", .ref box), (Str.ofString "deed", .int 3 dt), (Str.ofString "k", .int k kt), (Str.ofString "states", .ref sl), (Str.ofString "models", .ref ms)] C F N ?k6 ?k7 ?k9 ?kB ?kD ?c2 ?c3 ?c4 ?_
  case k6 => k_is
  case k7 => k_is
  case k9 => exact BindsTo.of_eq rfl
  case kB => exact rfl
  case kD => decide +kernel
  case c2 => exact rfl
  case c3 => exact rfl
  case c4 => exact rfl
  intro g' L' h' tk' cells pp lo mg mb F' N' Y' X' T' C' lt' st9
  k_cells Y'
  try simp only [List.cons_append, List.nil_append] at N'
  k_lt lt'
  clear C N
  have hA' := C'.hh
  try dsimp only
  try k_fold
  k_steps
  rename News h₀ _ _ _ => nZ
  have hlR : AllLt dx9 R := by
    have q := hl9
    repeat (replace q := q.2)
    exact q
  have hl8 : AllLt l8 R := by
    have q := l1
    repeat (replace q := q.2)
    exact q
  have hr : ∀ q ∈ R, @LT.lt Nat _ q.1 dx9 := ktn_ltOf hlR
  have hr8 : ∀ q ∈ R, @LT.lt Nat _ q.1 l8 := ktn_ltOf hl8
  have hxx : @LT.lt Nat _ dx9 x9 := by first | exact hl9' | exact hl9'.1
  have hx8 : @LT.lt Nat _ x9 l8 := l1.1
  obtain ⟨t1, t2, td', nZ⟩ : ∃ (t1 t2 td' : Tok), News h₀ L _ ((box, boxO scr p9 st9 tp9 ts9) :: (sl, W.listOf ((pre ++ c :: post).map fun c => Value.ref c.x).toArray k1) :: (ms, W.listOf ((pre ++ c :: post).map fun c => Value.ref c.md).toArray k2) :: (P, tabObj ps) ::
      (c.x, instObj 103 c.dx) :: (c.dx, stO w c.K c.e (.str c.src c.ts) c.tl (.bool c.im) (.int c.d c.td) (.bool c.lk) c.bl c.dl) :: (c.tl, W.listOf c.toks.toArray c.k1) :: (c.bl, W.listOf (c.brs.toArray.push (.ref x9)) (c.k2 + 1)) ::
      (c.md, c.om) :: (c.mtl, W.listOf c.mtoks.toArray c.k3) :: (c.ml, W.listOf #[.bool c.im, .bool c.lk] c.k4) :: (c.mbl, W.listOf (c.prs.toArray.push (.ref l8)) (c.k5 + 1)) ::
      (x9, instObj 163 dx9) :: (dx9, brO w K9 (.int 0 t1) (.int 0 t2) (.bool (d9 == 0)) .none (.bool true) (.bool false) (.int 0 td9)) :: (l8, W.listOf #[.bool (d9 == 0), .int 0 td'] 0) :: R) := ⟨_, _, _, news_sub nZ (by walk_at "my sub")⟩
  obtain ⟨b, hb⟩ : ∃ b : BrkD, b = ⟨x9, dx9, l8, K9, t1, t2, td9, td', d9 == 0, 0, 0⟩ := ⟨_, rfl⟩
  have hbo : b.objs w = [(x9, instObj 163 dx9), (dx9, brO w K9 (.int 0 t1) (.int 0 t2) (.bool (d9 == 0)) .none (.bool true) (.bool false) (.int 0 td9)), (l8, W.listOf #[.bool (d9 == 0), .int 0 td'] 0)] := by subst hb; rfl
  have hbX : b.x = x9 := by subst hb; rfl
  have hbP : b.p = l8 := by subst hb; rfl
  clear hb
  have hbf : fsts (b.objs w) = ([x9, dx9, l8] : List Nat) := by rw [hbo]; rfl
  have hbx := brk_add (b := b) O.eqR rfl O.ndR O.immR (by rw [hbf]; exact nodup3 hxx hx8) (by
      intro q hq
      rw [hbf]
      exact not_mem3 (Nat.lt_trans (hr q hq) hxx) (hr q hq) (hr8 q hq))
  have hbx1 := hbx.1
  have hbx2 := hbx.2
  refine ret (pre ++ { c with brk := c.brk ++ [b], k2 := c.k2 + 1, k5 := c.k5 + 1 } :: post) _ _ _ (by assumption) (V.close (p' := p9) (st' := st9) (tp' := tp9) (ts' := ts9) (k1' := k1) (k2' := k2) O (Nat.le_succ n) (es := []) (R' := (c.brk ++ [b]).flatMap (BrkD.objs w) ++ ((pre ++ post).flatMap (CellD.objs w) ++ imm)) ?n0 rfl (by assumption) (by assumption) (by assumption) O.tri hb0 rfl rfl rfl O.nd ?n1 hbx1 hbx2 ?n2) (by simp)
  case n0 =>
    have e1 : (c.brk ++ [b]).map (fun b => Value.ref b.x) = c.brs ++ [.ref x9] := by simp [hbX]
    have e2 : (c.brk ++ [b]).map (fun b => Value.ref b.p) = c.prs ++ [.ref l8] := by simp [hbP]
    dsimp only [CellD.own, CellD.brs, CellD.prs]
    rw [e1, e2, bobjs_snoc]
    rw [List.push_toArray, List.push_toArray] at nZ
    have eR := O.eqR
    subst eR
    refine news_sub nZ ?_
    intro q hq
    simp only [hbo, CellD.bobjs, List.cons_append, List.nil_append, List.mem_cons, List.mem_append, List.not_mem_nil, or_false, List.append_assoc] at hq ⊢
    grind
  case n1 =>
    refine off12_mk ?_
    have eR := O.eqR
    have hsp : ∀ q ∈ [] ++ ((c.brk ++ [b]).flatMap (BrkD.objs w) ++ ((pre ++ post).flatMap (CellD.objs w) ++ imm)), q ∈ R ∨ @Eq Nat q.1 x9 ∨ @Eq Nat q.1 dx9 ∨ @Eq Nat q.1 l8 := by
      intro q hq
      rw [eR]
      rw [bobjs_snoc] at hq
      simp only [hbo, CellD.bobjs, List.nil_append, List.mem_append, List.mem_cons, List.not_mem_nil, or_false] at hq ⊢
      rcases hq with (h | h | h | h) | h
      · exact .inl (.inl h)
      · exact .inr (.inl (by rw [h]))
      · exact .inr (.inr (.inl (by rw [h])))
      · exact .inr (.inr (.inr (by rw [h])))
      · exact .inl (.inr h)
    have big : ∀ a : Nat, (∀ q ∈ R, q.1 ≠ a) → @LT.lt Nat _ a dx9 → ∀ q ∈ [] ++ ((c.brk ++ [b]).flatMap (BrkD.objs w) ++ ((pre ++ post).flatMap (CellD.objs w) ++ imm)), q.1 ≠ a := by
      intro a ha hlt q hq
      rcases hsp q hq with h | h | h | h
      · exact ha q h
      · exact neN (by omega)
      · exact neN (by omega)
      · exact neN (by omega)
    exact ⟨big _ o1 (by omega), big _ o2 (by omega), big _ o3 (by omega), big _ o4 (by omega), big c.x o5 (by omega), big c.dx o6 (by omega), big c.tl o7 (by omega), big c.bl o8 (by omega), big c.md o9 (by omega), big c.mtl o10 (by omega), big c.ml o11 (by omega), big c.mbl o12 (by omega)⟩
  case n2 =>
    have hm := hG.mono (fun _ h => h) (Nat.le_succ n)
    exact { hm with nb := by simp only [List.length_append, List.length_singleton]; omega }
end

section
theorem deedV4 {w : World} {kp : List (Addr × Obj)} {A : Around} {s : Shared} {h₀ : Heap} {L scr P : Addr} {m : Str → Option Value} {Q E : Value → Shared → Prop} {n : Nat} {box sl ms e0 e1 : Addr} {cs : List CellD} {k : Int} {dt kt : Tok}
    (C : Cx w A h₀ L scr 9) (F : Fr h₀ L s.heap m) (V : Inv w kp h₀ L scr P n box sl ms e0 e1 cs s.heap s.gens) (G : Gx h₀ P) (k0 : 0 ≤ k) (k9 : k < cs.length) (hn : n ≤ 30)
    (ret : ∀ (cs' : List CellD) (h' : Heap) (tk' : Nat) (g' : Array GenState), Fr h₀ L h' m → Inv w kp h₀ L scr P (n + 1) box sl ms e0 e1 cs' h' g' → cs.length ≤ cs'.length → Q (.bool true) { s with heap := h', toks := tk', gens := g' }) :
    wpAny (model PySem.Challenge.rw_bq5016_01.row.prog w) A (call (.ref 213) [.ref box, .int 4 dt, .int k kt, .ref sl, .ref ms]) Q E s := by
  have hX := C.X
  revert hX; k_fill; intro hX
  have hfew := V.few
  have hkk : k < 1000 := by omega
  obtain ⟨pre, c, post, rfl, hxs, hys⟩ := cell_at k0 k9
  obtain ⟨p, st, tp, ts, k1, k2, ps, imm, R, O⟩ := V.open
  obtain ⟨o1, o2, o3, o4, o5, o6, o7, o8, o9, o10, o11, o12⟩ := off12 O.off
  have hp := O.p0
  have hst := O.st0
  have hst' := O.st9
  have N := O.N
  have nd := O.nd
  have hG := O.good c (List.mem_append_right _ (.head _))
  have hM := hG.dict
  have lM := hG.sys
  have hnt := hG.nt
  have hnb := hG.nb
  have hb0 := V.bare
  try simp only [List.cons_append, List.nil_append] at N
  obtain ⟨n1_2, n1_3, n1_4, n1_5, n1_6, n1_7, n1_8, n1_9, n1_10, n1_11, n1_12, n2_3, n2_4, n2_5, n2_6, n2_7, n2_8, n2_9, n2_10, n2_11, n2_12, n3_4, n3_5, n3_6, n3_7, n3_8, n3_9, n3_10, n3_11, n3_12, n4_5, n4_6, n4_7, n4_8, n4_9, n4_10, n4_11, n4_12, n5_6, n5_7, n5_8, n5_9, n5_10, n5_11, n5_12, n6_7, n6_8, n6_9, n6_10, n6_11, n6_12, n7_8, n7_9, n7_10, n7_11, n7_12, n8_9, n8_10, n8_11, n8_12, n9_10, n9_11, n9_12, n10_11, n10_12, n11_12⟩ := nd12 nd
  clear nd
  refine wpAny_call ?_
  refine' enterCC [(Str.ofString "box", .ref box), (Str.ofString "deed", .int 4 dt), (Str.ofString "k", .int k kt), (Str.ofString "states", .ref sl), (Str.ofString "models", .ref ms)] C F N ?k6 ?k7 ?k9 ?kB ?kD ?c2 ?c3 ?c4 ?_
  case k6 => k_is
  case k7 => k_is
  case k9 => exact BindsTo.of_eq rfl
  case kB => exact rfl
  case kD => decide +kernel
  case c2 => exact rfl
  case c3 => exact rfl
  case c4 => exact rfl
  intro g' L' h' tk' cells pp lo mg mb F' N' Y' X' T' C' lt' st9
  k_cells Y'
  try simp only [List.cons_append, List.nil_append] at N'
  k_lt lt'
  clear C N
  have hA' := C'.hh
  try dsimp only
  try k_fold
  rcases snoc_cases c.brk with hbk | ⟨bs, b, hbk⟩
  · k_steps
    rename News g' _ _ _ => nN
    refine ⟨truth_list (its := c.prs) nN (by k_mem) (by simp [hbk]) fun tk9 => ?_⟩
    have e0 : c.prs.isEmpty = true := by simp [hbk]
    rw [e0]
    k_steps
    rename News h₀ _ _ _ => nZ
    exact ret (pre ++ c :: post) _ _ _ (by assumption) (V.close O (Nat.le_succ n) (es := []) (news_sub nZ (by walk_at "my sub")) O.eqR hp hst hst' O.tri hb0 rfl rfl rfl O.nd O.off O.ndR O.immR (hG.mono (fun _ h => h) (Nat.le_succ n))) (Nat.le_refl _)
  · have e1 : c.prs = bs.map (fun b => Value.ref b.p) ++ [.ref b.p] := by show c.brk.map _ = _; rw [hbk, List.map_append]; rfl
    have e2 : c.brs = bs.map (fun b => Value.ref b.x) ++ [.ref b.x] := by show c.brk.map _ = _; rw [hbk, List.map_append]; rfl
    have hbl : bs.length < 31 := by have := congrArg List.length hbk; simp only [List.length_append, List.length_singleton] at this; omega
    have hbl1 : (bs.map fun b => Value.ref b.p).length < 100000 := by rw [List.length_map]; omega
    have hbl2 : (bs.map fun b => Value.ref b.x).length < 100000 := by rw [List.length_map]; omega
    rw [e1, e2] at N'
    k_steps
    rename News g' _ _ _ => nN
    refine ⟨truth_list nN (by k_mem) (by simp only [List.length_append, List.length_map, List.length_singleton]; omega) fun tk9 => ?_⟩
    have e0 : (bs.map (fun b => Value.ref b.p) ++ [Value.ref b.p]).isEmpty = false := by simp
    rw [e0]
    k_steps
    rename News h₀ _ _ _ => nZ
    have eR := O.eqR
    have hnd := O.ndR
    have himm := O.immR
    rw [CellD.bobjs, hbk] at eR hnd himm
    obtain ⟨h1, h2, h3⟩ := brk_last hnd
    rw [bobjs_snoc] at eR
    refine ret (pre ++ { c with brk := bs, k2 := c.k2 + 1, k5 := c.k5 + 1 } :: post) _ _ _ (by assumption) (V.close (p' := p) (st' := st) (tp' := tp) (ts' := ts) (k1' := k1) (k2' := k2) O (Nat.le_succ n) (es := []) (R' := bs.flatMap (BrkD.objs w) ++ ((pre ++ post).flatMap (CellD.objs w) ++ imm)) (news_sub nZ ?n0) rfl hp hst hst' O.tri hb0 rfl rfl rfl O.nd ?n1 h1 ?n2 ?n3) (by simp)
    case n0 =>
      rw [eR]
      intro q hq
      simp only [CellD.own, List.cons_append, List.nil_append, List.mem_cons, List.mem_append, List.not_mem_nil, or_false, List.append_assoc] at hq ⊢
      grind
    case n1 =>
      intro q hq
      refine O.off q ?_
      rw [eR]
      simp only [List.nil_append, List.mem_append] at hq ⊢
      grind
    case n2 =>
      intro q hq hm
      refine himm q hq ?_
      rw [bobjs_snoc, fsts_app]
      rcases List.mem_append.mp hm with h | h
      · exact List.mem_append_left _ (List.mem_append_left _ h)
      · exact List.mem_append_right _ h
    case n3 =>
      have hm := hG.mono (fun _ h => h) (Nat.le_succ n)
      exact { hm with nb := by show bs.length ≤ n + 1; have := congrArg List.length hbk; simp only [List.length_append, List.length_singleton] at this; omega }
end

section
theorem deedV5 {w : World} {kp : List (Addr × Obj)} {A : Around} {s : Shared} {h₀ : Heap} {L scr P : Addr} {m : Str → Option Value} {Q E : Value → Shared → Prop} {n : Nat} {box sl ms e0 e1 : Addr} {cs : List CellD} {k : Int} {dt kt : Tok}
    (C : Cx w A h₀ L scr 9) (F : Fr h₀ L s.heap m) (V : Inv w kp h₀ L scr P n box sl ms e0 e1 cs s.heap s.gens) (G : Gx h₀ P) (k0 : 0 ≤ k) (k9 : k < cs.length) (hn : n ≤ 30)
    (ret : ∀ (cs' : List CellD) (h' : Heap) (tk' : Nat) (g' : Array GenState), Fr h₀ L h' m → Inv w kp h₀ L scr P (n + 1) box sl ms e0 e1 cs' h' g' → cs.length ≤ cs'.length → Q (.bool true) { s with heap := h', toks := tk', gens := g' }) :
    wpAny (model PySem.Challenge.rw_bq5016_01.row.prog w) A (call (.ref 213) [.ref box, .int 5 dt, .int k kt, .ref sl, .ref ms]) Q E s := by
  have hX := C.X
  revert hX; k_fill; intro hX
  have hfew := V.few
  have hkk : k < 1000 := by omega
  obtain ⟨pre, c, post, rfl, hxs, hys⟩ := cell_at k0 k9
  obtain ⟨p, st, tp, ts, k1, k2, ps, imm, R, O⟩ := V.open
  obtain ⟨o1, o2, o3, o4, o5, o6, o7, o8, o9, o10, o11, o12⟩ := off12 O.off
  have hp := O.p0
  have hst := O.st0
  have hst' := O.st9
  have N := O.N
  have nd := O.nd
  have hG := O.good c (List.mem_append_right _ (.head _))
  have hM := hG.dict
  have lM := hG.sys
  have hnt := hG.nt
  have hnb := hG.nb
  have hb0 := V.bare
  try simp only [List.cons_append, List.nil_append] at N
  obtain ⟨n1_2, n1_3, n1_4, n1_5, n1_6, n1_7, n1_8, n1_9, n1_10, n1_11, n1_12, n2_3, n2_4, n2_5, n2_6, n2_7, n2_8, n2_9, n2_10, n2_11, n2_12, n3_4, n3_5, n3_6, n3_7, n3_8, n3_9, n3_10, n3_11, n3_12, n4_5, n4_6, n4_7, n4_8, n4_9, n4_10, n4_11, n4_12, n5_6, n5_7, n5_8, n5_9, n5_10, n5_11, n5_12, n6_7, n6_8, n6_9, n6_10, n6_11, n6_12, n7_8, n7_9, n7_10, n7_11, n7_12, n8_9, n8_10, n8_11, n8_12, n9_10, n9_11, n9_12, n10_11, n10_12, n11_12⟩ := nd12 nd
  clear nd
  refine wpAny_call ?_
  refine' enterCC [(Str.ofString "box", .ref box), (Str.ofString "deed", .int 5 dt), (Str.ofString "k", .int k kt), (Str.ofString "states", .ref sl), (Str.ofString "models", .ref ms)] C F N ?k6 ?k7 ?k9 ?kB ?kD ?c2 ?c3 ?c4 ?_
  case k6 => k_is
  case k7 => k_is
  case k9 => exact BindsTo.of_eq rfl
  case kB => exact rfl
  case kD => decide +kernel
  case c2 => exact rfl
  case c3 => exact rfl
  case c4 => exact rfl
  intro g' L' h' tk' cells pp lo mg mb F' N' Y' X' T' C' lt' st9
  k_cells Y'
  try simp only [List.cons_append, List.nil_append] at N'
  k_lt lt'
  clear C N
  have hA' := C'.hh
  try dsimp only
  try k_fold
  k_steps
  rename News h₀ _ _ _ => nZ
  rename Obj.IsDictOf _ _ _ => hD
  have hl8 : AllLt l8 R := by
    have q := l1
    repeat (replace q := q.2)
    exact q
  obtain ⟨i', j', om', nZ, hD⟩ : ∃ (i' j' : Bool) (om' : Obj), News h₀ L _ ((box, boxO scr p9 st9 tp9 ts9) :: (sl, W.listOf ((pre ++ c :: post).map fun c => Value.ref c.x).toArray k1) :: (ms, W.listOf ((pre ++ c :: post).map fun c => Value.ref c.md).toArray k2) :: (P, tabObj ps) ::
      (({ c with im := i', lk := j', ml := l8, om := om', k4 := 0 } : CellD).own w ++ ([] ++ R))) ∧ om'.IsDictOf (PySem.strKind PR w) (mdlOf (.str c.src c.ts') c.mtl l8 (.int c.d c.td') c.mbl c.f c.kept c.seen) := ⟨_, _, _, news_sub nZ (by walk_at "my sub"), hD⟩
  refine ret (pre ++ { c with im := i', lk := j', ml := l8, om := om', k4 := 0 } :: post) _ _ _ (by assumption) (V.close O (Nat.le_succ n) (es := []) nZ O.eqR (by assumption) (by assumption) (by assumption) O.tri hb0 rfl rfl rfl ?n1 (off12_mk ⟨o1, o2, o3, o4, o5, o6, o7, o8, o9, o10, allLt_ne hl8, o12⟩) O.ndR O.immR { hG.mono (fun _ h => h) (Nat.le_succ n) with dict := hD }) (by simp)
  case n1 =>
    refine nd_swap (l1 := [box, sl, ms, P, c.x, c.dx, c.tl, c.bl, c.md, c.mtl]) (a := c.ml) (l2 := [c.mbl]) O.nd ?_
    simp only [List.cons_append, List.nil_append, List.mem_cons, List.not_mem_nil, or_false, not_or]
    omega
end

section
/-- an item from the end is asked: the walk stops here -/
structure AtNeg (w : World) (A : Around) (value slice : Expr) (l : Addr) (d : Int) (t : Tok) (Q E : Value → Shared → Prop) (s : Shared) : Prop where
  go : wpAny (model PR w) A (subscriptTail value slice (.ref l) (.int d t)) Q E s
local macro_rules | `(tactic| walk_at "subscriptTail") => `(tactic| (k_here; (with_reducible show wpAny _ _ (subscriptTail _ (Expr.UnaryOp _ _ _) (Value.ref _) (Value.int _ _)) _ _ _); refine AtNeg.go ?_))
local macro_rules | `(tactic| walk_at "subscriptTail Name UnaryOp ref int") => `(tactic| (k_here; refine AtNeg.go ?_))
local macro_rules | `(tactic| walk_at "my step 31") => `(tactic| (k_here; (with_reducible show wpAny _ _ (call (Value.type "list") [Value.ref _]) _ _ _); k_dflt (refine' list_copyK ?k1 ?k2 ?k3 ?_ ?z; (case k1 => k_asm); (case k2 => k_asm); (case k3 => exact News.isList (by assumption) (by k_mem)); (case z => (rw [sizeLine_eq]; exact Nat.le_of_ble_eq_true rfl)); k_whole)))
set_option hygiene false in
local macro_rules | `(tactic| walk_at "call type:list") => `(tactic| (walk_at "my step 31"; intro D9 c9 h9 F9 N9 lD9; (try k_lt lD9); (try k_sweep)))
theorem nd8 {x dx tl bl md mtl ml mbl : Nat} (h1 : dx < x) (h2 : x < tl) (h3 : tl < bl) (h4 : bl < ml) (h5 : ml < md) (h6 : md < mtl) (h7 : mtl < mbl) : ([x, dx, tl, bl, md, mtl, ml, mbl] : List Nat).Nodup ∧ ∀ a ∈ ([x, dx, tl, bl, md, mtl, ml, mbl] : List Nat), dx ≤ a := by
  refine ⟨?_, ?_⟩
  · simp only [List.nodup_cons, List.mem_cons, List.not_mem_nil, or_false, not_or, not_false_eq_true, and_true, List.nodup_nil]
    omega
  · intro a ha
    simp only [List.mem_cons, List.not_mem_nil, or_false] at ha
    omega
theorem lt12 {q r : Prop} {a1 a2 a3 a4 a5 a6 a7 a8 a9 a10 a11 a12 d : Nat} (h : q ∧ a1 < d ∧ a2 < d ∧ a3 < d ∧ a4 < d ∧ a5 < d ∧ a6 < d ∧ a7 < d ∧ a8 < d ∧ a9 < d ∧ a10 < d ∧ a11 < d ∧ a12 < d ∧ r) : (∀ b ∈ ([a1, a2, a3, a4, a5, a6, a7, a8, a9, a10, a11, a12] : List Nat), b < d) ∧ r := by
  obtain ⟨_, h1, h2, h3, h4, h5, h6, h7, h8, h9, h10, h11, h12, hr⟩ := h
  refine ⟨?_, hr⟩
  intro b hb
  simp only [List.mem_cons, List.not_mem_nil, or_false] at hb
  rcases hb with rfl | rfl | rfl | rfl | rfl | rfl | rfl | rfl | rfl | rfl | rfl | rfl <;> assumption
/-- one more cell -/
theorem Inv.push {w : World} {kp : List (Addr × Obj)} {h₀ : Heap} {L scr P : Addr} {n n' : Nat} {box sl ms e0 e1 : Addr} {l1 l2 : List CellD} {c c' : CellD} {h : Heap} {g g' : Array GenState} {p st p' st' : Int} {tp ts tp' ts' : Tok} {k1 k2 k1' k2' : Nat} {ps ps' : Array Value} {imm R : List (Addr × Obj)} {h' : Heap}
    (V : Inv w kp h₀ L scr P n box sl ms e0 e1 (l1 ++ c :: l2) h g) (O : OpenAt w kp h₀ L scr P n box sl ms l1 c l2 p st tp ts k1 k2 ps imm R h) (hn : n ≤ n')
    (N : News h₀ L h' ((box, boxO scr p' st' tp' ts') :: (sl, W.listOf (((l1 ++ c :: l2).map fun c => Value.ref c.x) ++ [Value.ref c'.x]).toArray k1') :: (ms, W.listOf (((l1 ++ c :: l2).map fun c => Value.ref c.md) ++ [Value.ref c'.md]).toArray k2') :: (P, tabObj ps') :: (c.own w ++ (c'.own w ++ R))))
    (hbr : c'.brk = []) (hp : 0 ≤ p') (hst : 0 ≤ st') (hst' : st' < 2147483647) (htr : TriplesOk ps'.toList) (hb : AllBare g') (few : (l1 ++ c :: l2).length < 6)
    (nd' : (fsts (c'.own w)).Nodup) (hf1 : ∀ a ∈ fsts (c'.own w), a ∉ ([box, sl, ms, P, c.x, c.dx, c.tl, c.bl, c.md, c.mtl, c.ml, c.mbl] : List Nat)) (hf2 : ∀ a ∈ fsts (c'.own w), ∀ q ∈ R, @Ne Nat q.1 a)
    (G : Good w imm n' c') : Inv w kp h₀ L scr P n' box sl ms e0 e1 ((l1 ++ c :: l2) ++ [c']) h' g' := by
  obtain ⟨_, _, _, _, _, _, _, _, _, _, _, _, _, nd, _⟩ := V.go
  have eR := O.eqR
  have hperm := flat_perm w l1 c l2
  have hsp : ∀ q ∈ (l1 ++ c :: l2).flatMap (CellD.objs w), q ∈ c.own w ∨ q ∈ R := by
    intro q hq
    rw [eR]
    rcases List.mem_append.mp (hperm.mem_iff.mp hq) with hq | hq
    · rcases List.mem_append.mp hq with hq | hq
      · exact .inl hq
      · exact .inr (List.mem_append_left _ hq)
    · exact .inr (List.mem_append_right _ (List.mem_append_left _ hq))
  have hobj : c'.objs w = c'.own w := by show c'.own w ++ c'.bobjs w = _; rw [CellD.bobjs, hbr]; exact List.append_nil _
  have hflat : ((l1 ++ c :: l2) ++ [c']).flatMap (CellD.objs w) = (l1 ++ c :: l2).flatMap (CellD.objs w) ++ c'.own w := by
    rw [List.flatMap_append, List.flatMap_singleton, hobj]
  have hown : ∀ a : Nat, a ∈ fsts (c.own w) → a ∈ ([box, sl, ms, P, c.x, c.dx, c.tl, c.bl, c.md, c.mtl, c.ml, c.mbl] : List Nat) := fun a ha => .tail _ (.tail _ (.tail _ (.tail _ ha)))
  have hfour : ∀ a : Nat, a ∈ ([box, sl, ms, P] : List Nat) → a ∈ ([box, sl, ms, P, c.x, c.dx, c.tl, c.bl, c.md, c.mtl, c.ml, c.mbl] : List Nat) := fun a ha => List.mem_append_left ([c.x, c.dx, c.tl, c.bl, c.md, c.mtl, c.ml, c.mbl] : List Nat) ha
  refine ⟨⟨p', st', tp', ts', k1', k2', ps', imm, ?_, hp, hst, hst', htr, ?_, ?_, O.kept, ?_⟩, hb, ?_, V.ne, ?_⟩
  · have e1 : ((l1 ++ c :: l2) ++ [c']).map (fun c => Value.ref c.x) = (l1 ++ c :: l2).map (fun c => Value.ref c.x) ++ [Value.ref c'.x] := List.map_append
    have e2 : ((l1 ++ c :: l2) ++ [c']).map (fun c => Value.ref c.md) = (l1 ++ c :: l2).map (fun c => Value.ref c.md) ++ [Value.ref c'.md] := List.map_append
    rw [e1, e2, hflat]
    intro q hq
    refine N q ?_
    simp only [List.mem_cons] at hq ⊢
    rcases hq with hq | hq | hq | hq | hq
    · exact .inl hq
    · exact .inr (.inl hq)
    · exact .inr (.inr (.inl hq))
    · exact .inr (.inr (.inr (.inl hq)))
    · refine .inr (.inr (.inr (.inr ?_)))
      rcases List.mem_append.mp hq with hq | hq
      · rcases List.mem_append.mp hq with hq | hq
        · rcases hsp q hq with hq | hq
          · exact List.mem_append_left _ hq
          · exact List.mem_append_right _ (List.mem_append_right _ hq)
        · exact List.mem_append_right _ (List.mem_append_left _ hq)
      · exact List.mem_append_right _ (List.mem_append_right _ (by rw [eR]; exact List.mem_append_right _ (List.mem_append_right _ hq)))
  · rw [hflat, fsts_app, ← List.append_assoc]
    refine List.nodup_append.mpr ⟨nd, nd', ?_⟩
    intro a ha b hb' e
    subst e
    rcases List.mem_append.mp ha with ha | ha
    · exact hf1 a hb' (hfour a ha)
    · obtain ⟨q, hq, e⟩ := fsts_mem ha
      rcases hsp q hq with hq | hq
      · exact hf1 a hb' (hown a (e ▸ List.mem_map_of_mem hq))
      · exact hf2 a hb' q hq e
  · intro q hq hm
    have hqR : q ∈ R := by rw [eR]; exact List.mem_append_right _ (List.mem_append_right _ hq)
    rw [hflat, fsts_app] at hm
    rcases List.mem_append.mp hm with hm | hm
    · exact O.off q hqR (hfour _ hm)
    · rcases List.mem_append.mp hm with hm | hm
      · have hm2 : q.1 ∈ fsts (c.own w) ++ (fsts (c.bobjs w) ++ fsts ((l1 ++ l2).flatMap (CellD.objs w))) := by
          have := (hperm.map (fun q : Addr × Obj => (q.1 : Nat))).mem_iff (a := q.1)
          rw [List.map_append, CellD.objs, List.map_append, List.append_assoc] at this
          exact this.mp hm
        rcases List.mem_append.mp hm2 with hm | hm
        · exact O.off q hqR (hown _ hm)
        · exact O.immR q hq hm
      · exact hf2 _ hm q hqR rfl
  · intro c₂ hc₂
    rcases List.mem_append.mp hc₂ with h | h
    · exact (O.good _ h).mono (fun q hq => hq) hn
    · rw [List.mem_singleton.mp h]; exact G
  · obtain ⟨es, he⟩ := V.envs
    exact ⟨es ++ [c'.e], by rw [List.map_append, he]; rfl⟩
  · rw [List.length_append, List.length_singleton]; omega

theorem deedV6 {w : World} {kp : List (Addr × Obj)} {A : Around} {s : Shared} {h₀ : Heap} {L scr P : Addr} {m : Str → Option Value} {Q E : Value → Shared → Prop} {n : Nat} {box sl ms e0 e1 : Addr} {cs : List CellD} {k : Int} {dt kt : Tok}
    (C : Cx w A h₀ L scr 9) (F : Fr h₀ L s.heap m) (V : Inv w kp h₀ L scr P n box sl ms e0 e1 cs s.heap s.gens) (G : Gx h₀ P) (k0 : 0 ≤ k) (k9 : k < cs.length) (hn : n ≤ 30)
    (ret : ∀ (cs' : List CellD) (h' : Heap) (tk' : Nat) (g' : Array GenState), Fr h₀ L h' m → Inv w kp h₀ L scr P (n + 1) box sl ms e0 e1 cs' h' g' → cs.length ≤ cs'.length → Q (.bool true) { s with heap := h', toks := tk', gens := g' }) :
    wpAny (model PySem.Challenge.rw_bq5016_01.row.prog w) A (call (.ref 213) [.ref box, .int 6 dt, .int k kt, .ref sl, .ref ms]) Q E s := by
  have hX := C.X
  revert hX; k_fill; intro hX
  have hfew := V.few
  have hkk : k < 1000 := by omega
  obtain ⟨pre, c, post, rfl, hxs, hys⟩ := cell_at k0 k9
  obtain ⟨p, st, tp, ts, k1, k2, ps, imm, R, O⟩ := V.open
  obtain ⟨o1, o2, o3, o4, o5, o6, o7, o8', o9, o10, o11, o12⟩ := off12 O.off
  have hp := O.p0
  have hst := O.st0
  have hst' := O.st9
  have N := O.N
  have nd := O.nd
  have hG := O.good c (List.mem_append_right _ (.head _))
  have hM := hG.dict
  have lM := hG.sys
  have hnt := hG.nt
  have hnb := hG.nb
  have hmt : c.mtoks.length ≤ n := hG.len ▸ hnt
  have hb0 := V.bare
  try simp only [List.cons_append, List.nil_append] at N
  obtain ⟨n1_2, n1_3, n1_4, n1_5, n1_6, n1_7, n1_8, n1_9, n1_10, n1_11, n1_12, n2_3, n2_4, n2_5, n2_6, n2_7, n2_8, n2_9, n2_10, n2_11, n2_12, n3_4, n3_5, n3_6, n3_7, n3_8, n3_9, n3_10, n3_11, n3_12, n4_5, n4_6, n4_7, n4_8, n4_9, n4_10, n4_11, n4_12, n5_6, n5_7, n5_8, n5_9, n5_10, n5_11, n5_12, n6_7, n6_8, n6_9, n6_10, n6_11, n6_12, n7_8, n7_9, n7_10, n7_11, n7_12, n8_9, n8_10, n8_11, n8_12, n9_10, n9_11, n9_12, n10_11, n10_12, n11_12⟩ := nd12 nd
  clear nd
  refine wpAny_call ?_
  refine' enterCC [(Str.ofString "box", .ref box), (Str.ofString "deed", .int 6 dt), (Str.ofString "k", .int k kt), (Str.ofString "states", .ref sl), (Str.ofString "models", .ref ms)] C F N ?k6 ?k7 ?k9 ?kB ?kD ?c2 ?c3 ?c4 ?_
  case k6 => k_is
  case k7 => k_is
  case k9 => exact BindsTo.of_eq rfl
  case kB => exact rfl
  case kD => decide +kernel
  case c2 => exact rfl
  case c3 => exact rfl
  case c4 => exact rfl
  intro g' L' h' tk' cells pp lo mg mb F' N' Y' X' T' C' lt' st9
  k_cells Y'
  try simp only [List.cons_append, List.nil_append] at N'
  k_lt lt'
  clear C N
  have hA' := C'.hh
  try dsimp only
  try k_fold
  obtain ⟨XS, hXS⟩ : ∃ XS, XS = List.map (fun c : CellD => Value.ref c.x) (pre ++ c :: post) := ⟨_, rfl⟩
  obtain ⟨YS, hYS⟩ : ∃ YS, YS = List.map (fun c : CellD => Value.ref c.md) (pre ++ c :: post) := ⟨_, rfl⟩
  have hXl : XS.length = (pre ++ c :: post).length := by rw [hXS, List.length_map]
  have hYl : YS.length = (pre ++ c :: post).length := by rw [hYS, List.length_map]
  rw [← hXS] at N' hxs
  rw [← hYS] at N' hys
  k_steps
  · rename News g' _ _ _ => nN
    simp only [List.push_toArray] at nN
    refine ⟨?_⟩
    refine' Mine.item_last nN ?m1 ?_ ?hs1 ?ht1
    case m1 => k_mem
    case hs1 => exact sub_neg
    case ht1 => intro _; with_unfolding_all rfl
    k_steps
    refine ⟨?_⟩
    refine' Mine.item_last nN ?m2 ?_ ?hs2 ?ht2
    case m2 => k_mem
    case hs2 => exact sub_neg
    case ht2 => intro _; with_unfolding_all rfl
    k_steps
    refine ⟨?_⟩
    refine' Mine.item_last nN ?m3 ?_ ?hs3 ?ht3
    case m3 => k_mem
    case hs3 => exact sub_neg
    case ht3 => intro _; with_unfolding_all rfl
    k_steps
    have mR : ∀ q ∈ imm, q ∈ R := fun q hq => by rw [O.eqR]; exact List.mem_append_right _ (List.mem_append_right _ hq)
    refine AtCall.mk ?_
    refine' same_spec (scr := scr) (toks := []) (mtoks := []) (brs := []) (prs := []) (cx_at C' (by omega)) (by assumption) nN ?m1 ?m2 ?m3 ?m4 ?m5 hM9 lo9 ?m6 ?m7 ?m8 ?hE rfl (fun j h => absurd h (Nat.not_lt_zero _)) rfl (Nat.zero_le _) (fun j h => absurd h (Nat.not_lt_zero _)) ?_
    case m1 => k_mem
    case m2 => k_mem
    case m3 => k_mem
    case m4 => k_mem
    case m5 => k_mem
    case m6 => k_mem
    case m7 => k_mem
    case m8 => k_mem
    case hE => exact (hG.env.mono mR).mono (by walk_at "my atom")
    intro h7 tk7 F7 N7
    refine leaveK_ F7 N7 ?_
    intro kF nZ
    rename (dx9 < x9) => g1
    rename (x9 < tl9) => g2
    rename (tl9 < bl9) => g3
    rename (L' + 1 < dx9 ∧ _) => gA
    have g4 : @LT.lt Nat _ bl9 D9 := lD9.1
    have g5 : @LT.lt Nat _ D9 md9 := hl9.1
    have g6 : @LT.lt Nat _ md9 mtl9 := by first | exact hl9' | exact hl9'.1
    have g7 : @LT.lt Nat _ mtl9 mbl9 := by first | exact hl9'' | exact hl9''.1
    obtain ⟨h12, aR⟩ := lt12 gA
    have hn8 := nd8 (x := x9) (dx := dx9) (tl := tl9) (bl := bl9) (md := md9) (mtl := mtl9) (ml := D9) (mbl := mbl9) g1 g2 g3 g4 g5 g6 g7
    obtain ⟨t9, hD⟩ : ∃ t9 : Tok, Obj.IsDictOf (PySem.strKind PR w) mo9 (mdlOf (.str (Str.ofString "") mt9) mtl9 D9 (.int (c.d + 1) t9) mbl9 c.f .none .none) := ⟨_, hM9⟩
    obtain ⟨c', hc'⟩ : ∃ c' : CellD, c' = ⟨x9, dx9, tl9, bl9, md9, mtl9, D9, mbl9, c.e, c.f, K9, Str.ofString "", ts9, mt9, td9, t9, c.im, c.lk, c.d + 1, .none, .none, .none, mo9, [], [], [], 0, 0, 0, c9, 0⟩ := ⟨_, rfl⟩
    have hO : c'.own w = [(x9, instObj 103 dx9), (dx9, stO w K9 c.e (.str (Str.ofString "") ts9) tl9 (.bool c.im) (.int (c.d + 1) td9) (.bool c.lk) bl9 .none), (tl9, W.listOf #[] 0), (bl9, W.listOf #[] 0), (md9, mo9), (mtl9, W.listOf #[] 0), (D9, W.listOf #[.bool c.im, .bool c.lk] c9), (mbl9, W.listOf #[] 0)] := by subst hc'; rfl
    have hO' : fsts (c'.own w) = ([x9, dx9, tl9, bl9, md9, mtl9, D9, mbl9] : List Nat) := by rw [hO]; rfl
    have hcx : c'.x = x9 := by subst hc'; rfl
    have hcm : c'.md = md9 := by subst hc'; rfl
    have hcb : c'.brk = [] := by subst hc'; rfl
    have hGc : Good w imm (n + 1) c' := by
      subst hc'
      exact { dict := hD, sys := lo9, env := hG.env, len := rfl, toks := fun j h => absurd h (Nat.not_lt_zero _), scan := .inl ⟨rfl, rfl, rfl⟩, nt := Nat.zero_le _, nb := Nat.zero_le _ }
    clear hc'
    have hfw : (pre ++ c :: post).length < 6 := by
      rename ((XS.length : Int) < 6) => q
      rw [← hXl]; exact Int.ofNat_lt.mp q
    rw [hXS, hYS] at nZ
    refine ret ((pre ++ c :: post) ++ [c']) _ _ _ kF (V.push (c' := c') (p' := p) (st' := st) (tp' := tp) (ts' := ts) (ps' := ps) (k1' := k1 + 1) (k2' := k2 + 1) O (Nat.le_succ n) ?n0 hcb hp hst hst' O.tri hb0 hfw ?n1 ?n2 ?n3 hGc) (by rw [List.length_append (as := pre ++ c :: post)]; exact Nat.le_add_right _ _)
    case n0 =>
      rw [hcx, hcm, hO]
      exact news_sub nZ (by walk_at "my sub")
    case n1 => rw [hO']; exact hn8.1
    case n2 =>
      intro a ha hm
      rw [hO'] at ha
      exact absurd (h12 a hm) (Nat.not_lt.mpr (hn8.2 a ha))
    case n3 =>
      intro a ha q hq
      rw [hO'] at ha
      exact Nat.ne_of_lt (Nat.lt_of_lt_of_le (ktn_ltOf aR q hq) (hn8.2 a ha))
  · rename News h₀ _ _ _ => nZ
    rw [hXS, hYS] at nZ
    exact ret (pre ++ c :: post) _ _ _ (by assumption) (V.close O (Nat.le_succ n) (es := []) (news_sub nZ (by walk_at "my sub")) O.eqR hp hst hst' O.tri hb0 rfl rfl rfl O.nd O.off O.ndR O.immR (hG.mono (fun _ h => h) (Nat.le_succ n))) (Nat.le_refl _)
end

local macro_rules | `(tactic| walk_at "pad 7") => `(tactic| skip)
local macro_rules | `(tactic| walk_at "pad 8") => `(tactic| skip)
local macro_rules | `(tactic| walk_at "pad 9") => `(tactic| skip)
local macro_rules | `(tactic| walk_at "pad 10") => `(tactic| skip)
section
theorem eq_str_same {w : World} {A : Around} {s : Shared} {E Q : Value → Shared → Prop} {a : Str} {t u : Tok} (h : Q (.bool true) s) : wpAny (model PR w) A (compareOp .Eq (.str a t) (.str a u)) Q E s := by
  have := SeqAt.RcAt.str_str (A := A) (s := s) a t a u PR w E Q
  exact this (by simpa using h)
theorem eq_str_ne {w : World} {A : Around} {s : Shared} {E Q : Value → Shared → Prop} {a b : Str} {t u : Tok} (hab : a ≠ b) (h : Q (.bool false) s) : wpAny (model PR w) A (compareOp .Eq (.str a t) (.str b u)) Q E s := by
  have := SeqAt.RcAt.str_str (A := A) (s := s) a t b u PR w E Q
  have e : (a == b) = false := by simp [hab]
  exact this (by rw [e]; exact h)
local macro_rules | `(tactic| walk_at "compareOp Eq str str") => `(tactic| (k_here; first | refine eq_str_same ?_ | refine eq_str_ne (by assumption) ?_))

theorem deedV7 {w : World} {kp : List (Addr × Obj)} {A : Around} {s : Shared} {h₀ : Heap} {L scr P : Addr} {m : Str → Option Value} {Q E : Value → Shared → Prop} {n : Nat} {box sl ms e0 e1 : Addr} {cs : List CellD} {k : Int} {dt kt : Tok}
    (C : Cx w A h₀ L scr 9) (F : Fr h₀ L s.heap m) (V : Inv w kp h₀ L scr P n box sl ms e0 e1 cs s.heap s.gens) (G : Gx h₀ P) (k0 : 0 ≤ k) (k9 : k < cs.length) (hn : n ≤ 30)
    (ret : ∀ (cs' : List CellD) (h' : Heap) (tk' : Nat) (g' : Array GenState), Fr h₀ L h' m → Inv w kp h₀ L scr P (n + 1) box sl ms e0 e1 cs' h' g' → cs.length ≤ cs'.length → Q (.bool true) { s with heap := h', toks := tk', gens := g' }) :
    wpAny (model PySem.Challenge.rw_bq5016_01.row.prog w) A (call (.ref 213) [.ref box, .int 7 dt, .int k kt, .ref sl, .ref ms]) Q E s := by
  have hX := C.X
  revert hX; k_fill; intro hX
  have hfew := V.few
  have hkk : k < 1000 := by omega
  obtain ⟨pre, c, post, rfl, hxs, hys⟩ := cell_at k0 k9
  obtain ⟨p, st, tp, ts, k1, k2, ps, imm, R, O⟩ := V.open
  obtain ⟨o1, o2, o3, o4, o5, o6, o7, o8', o9, o10, o11, o12⟩ := off12 O.off
  have hp := O.p0
  have hst := O.st0
  have hst' := O.st9
  have N := O.N
  have nd := O.nd
  have hG := O.good c (List.mem_append_right _ (.head _))
  have hM := hG.dict
  have lM := hG.sys
  have hnt := hG.nt
  have hnb := hG.nb
  have hmt : c.mtoks.length ≤ n := hG.len ▸ hnt
  have hb0 := V.bare
  try simp only [List.cons_append, List.nil_append] at N
  obtain ⟨n1_2, n1_3, n1_4, n1_5, n1_6, n1_7, n1_8, n1_9, n1_10, n1_11, n1_12, n2_3, n2_4, n2_5, n2_6, n2_7, n2_8, n2_9, n2_10, n2_11, n2_12, n3_4, n3_5, n3_6, n3_7, n3_8, n3_9, n3_10, n3_11, n3_12, n4_5, n4_6, n4_7, n4_8, n4_9, n4_10, n4_11, n4_12, n5_6, n5_7, n5_8, n5_9, n5_10, n5_11, n5_12, n6_7, n6_8, n6_9, n6_10, n6_11, n6_12, n7_8, n7_9, n7_10, n7_11, n7_12, n8_9, n8_10, n8_11, n8_12, n9_10, n9_11, n9_12, n10_11, n10_12, n11_12⟩ := nd12 nd
  clear nd
  refine wpAny_call ?_
  refine' enterCC [(Str.ofString "box", .ref box), (Str.ofString "deed", .int 7 dt), (Str.ofString "k", .int k kt), (Str.ofString "states", .ref sl), (Str.ofString "models", .ref ms)] C F N ?k6 ?k7 ?k9 ?kB ?kD ?c2 ?c3 ?c4 ?_
  case k6 => k_is
  case k7 => k_is
  case k9 => exact BindsTo.of_eq rfl
  case kB => exact rfl
  case kD => decide +kernel
  case c2 => exact rfl
  case c3 => exact rfl
  case c4 => exact rfl
  intro g' L' h' tk' cells pp lo mg mb F' N' Y' X' T' C' lt' st9
  k_cells Y'
  try simp only [List.cons_append, List.nil_append] at N'
  k_lt lt'
  clear C N
  have hA' := C'.hh
  try dsimp only
  try k_fold
  rcases hG.scan with ⟨hdl, hkp, hsn⟩ | ⟨sc, sdx, en, Ks9, y, ty, ty', hdl, hkp, hsn, m1, m2⟩
  · rw [hdl] at N'
    rw [hkp, hsn] at hM
    k_steps
    rename News g' _ _ _ => nN
    refine AtGet.mk ?_
    refine' delimsA (scr := scr) (src := c.src) (rest := (L' + 1, _) :: (box, boxO scr p st tp ts) :: (sl, W.listOf ((pre ++ c :: post).map fun c => Value.ref c.x).toArray k1) :: (ms, W.listOf ((pre ++ c :: post).map fun c => Value.ref c.md).toArray k2) :: (P, tabObj ps) ::
      (c.tl, W.listOf c.toks.toArray c.k1) :: (c.bl, W.listOf c.brs.toArray c.k2) :: (c.md, c.om) :: (c.mtl, W.listOf c.mtoks.toArray c.k3) :: (c.ml, W.listOf #[.bool c.im, .bool c.lk] c.k4) :: (c.mbl, W.listOf c.prs.toArray c.k5) :: R) (cx_at C' (by omega)) (by assumption) (news_sub nN (by walk_at "my sub")) (by assumption) ?oo ?_
    case oo => first | k_all | fail
    intro sc' sdx' en' oe Ks' h7 tk7 F7 N7 hl7 hl71 hl72 hl73 hl74
    k_lt hl7
    have g0 : @LT.lt Nat _ c.x sdx' := hl71
    have g1 : @LT.lt Nat _ c.dx sdx' := hl72
    have g2 : @LT.lt Nat _ sdx' sc' := hl73
    have g3 : @LT.lt Nat _ c.md sdx' := by omega
    have u1 : NeA sdx' c.dx := Nat.ne_of_gt g1
    have u2 : NeA sc' c.dx := Nat.ne_of_gt (Nat.lt_trans g1 g2)
    have u3 : NeA sdx' c.md := Nat.ne_of_gt g3
    have u4 : NeA sc' c.md := Nat.ne_of_gt (Nat.lt_trans g3 g2)
    clear nN
    try k_sweep
    k_steps
    rename News g' _ _ _ => nN
    refine AtGet.mk ?_
    refine' delimsC (scr := scr) (src := c.src) (sc0 := sc') (sdx0 := sdx') (en0 := en') (K0 := Ks') (ty := c.ts) (rest := (sc', instObj 53 sdx') :: (sdx', scO w Ks' (.str c.src c.ts) en') :: (L' + 1, _) :: (box, boxO scr p st tp ts) :: (sl, W.listOf ((pre ++ c :: post).map fun c => Value.ref c.x).toArray k1) :: (ms, W.listOf ((pre ++ c :: post).map fun c => Value.ref c.md).toArray k2) :: (P, tabObj ps) ::
      (c.tl, W.listOf c.toks.toArray c.k1) :: (c.bl, W.listOf c.brs.toArray c.k2) :: (c.md, c.om) :: (c.mtl, W.listOf c.mtoks.toArray c.k3) :: (c.ml, W.listOf #[.bool c.im, .bool c.lk] c.k4) :: (c.mbl, W.listOf c.prs.toArray c.k5) :: R) (cx_at C' (by omega)) (by assumption) (news_sub nN (by walk_at "my sub")) (by assumption) ?o2 (.head _) (.tail _ (.head _)) ?_
    case o2 => first | k_all | fail
    intro h6 tk6 F6 N6
    clear nN
    try k_sweep
    k_steps
    rename News h₀ _ _ _ => nZ
    rename Obj.IsDictOf _ _ _ => hD
    have aR : AllLt sdx' R := by
      have q := hl7
      repeat (replace q := q.2)
      exact q
    obtain ⟨om', t9, nZ, hD⟩ : ∃ (om' : Obj) (t9 : Tok), News h₀ L _ ((box, boxO scr p st tp ts) :: (sl, W.listOf ((pre ++ c :: post).map fun c => Value.ref c.x).toArray k1) :: (ms, W.listOf ((pre ++ c :: post).map fun c => Value.ref c.md).toArray k2) :: (P, tabObj ps) ::
      (({ c with dl := .ref sc', kept := .ref sc', seen := .str c.src t9, om := om' } : CellD).own w ++ ([(sc', instObj 53 sdx'), (sdx', scO w Ks' (.str c.src c.ts) en')] ++ R))) ∧ om'.IsDictOf (PySem.strKind PR w) (mdlOf (.str c.src c.ts') c.mtl c.ml (.int c.d c.td') c.mbl c.f (.ref sc') (.str c.src t9)) := ⟨_, _, news_sub nZ (by walk_at "my sub"), hD⟩
    refine ret (pre ++ { c with dl := .ref sc', kept := .ref sc', seen := .str c.src t9, om := om' } :: post) _ _ _ (by assumption) (V.close O (Nat.le_succ n) (es := [(sc', instObj 53 sdx'), (sdx', scO w Ks' (.str c.src c.ts) en')]) nZ O.eqR hp hst hst' O.tri hb0 rfl rfl rfl O.nd ?n2 O.ndR (imm_fresh O.eqR O.immR ?n3) ?n4) (by simp)
    case n2 =>
      have two : ∀ a : Nat, (∀ q ∈ R, q.1 ≠ a) → @LT.lt Nat _ a sdx' → ∀ q ∈ [(sc', instObj 53 sdx'), (sdx', scO w Ks' (.str c.src c.ts) en')] ++ R, q.1 ≠ a := by
        intro a h1 h2 q hq
        rcases List.mem_append.mp hq with hq | hq
        · rcases List.mem_cons.mp hq with rfl | hq
          · exact Nat.ne_of_gt (Nat.lt_trans h2 g2)
          · rw [List.mem_singleton.mp hq]; exact Nat.ne_of_gt h2
        · exact h1 q hq
      exact off12_mk ⟨two box o1 (by omega), two sl o2 (by omega), two ms o3 (by omega), two P o4 (by omega), two c.x o5 g0, two c.dx o6 g1, two c.tl o7 (by omega), two c.bl o8' (by omega), two c.md o9 g3, two c.mtl o10 (by omega), two c.ml o11 (by omega), two c.mbl o12 (by omega)⟩
    case n3 =>
      intro q hq r hr
      have h1 := ktn_ltOf aR r hr
      rcases List.mem_cons.mp hq with rfl | hq
      · exact Nat.lt_trans h1 g2
      · rw [List.mem_singleton.mp hq]; exact h1
    case n4 =>
      have hm := hG.mono (imm' := [(sc', instObj 53 sdx'), (sdx', scO w Ks' (.str c.src c.ts) en')] ++ imm) (fun _ h => List.mem_append_right _ h) (Nat.le_succ n)
      exact { hm with dict := hD, scan := .inr ⟨sc', sdx', en', Ks', c.src, c.ts, t9, rfl, rfl, rfl, .head _, .tail _ (.head _)⟩ }
  · have mR : ∀ q ∈ imm, q ∈ R := fun q hq => by rw [O.eqR]; exact List.mem_append_right _ (List.mem_append_right _ hq)
    rw [hdl] at N'
    rw [hkp, hsn] at hM
    by_cases hy : y = c.src
    · subst hy
      k_steps
      rename News g' _ _ _ => nN
      refine AtGet.mk ?_
      refine' delimsC (scr := scr) (src := c.src) (sc0 := sc) (sdx0 := sdx) (en0 := en) (K0 := Ks9) (ty := ty) (rest := (L' + 1, _) :: (box, boxO scr p st tp ts) :: (sl, W.listOf ((pre ++ c :: post).map fun c => Value.ref c.x).toArray k1) :: (ms, W.listOf ((pre ++ c :: post).map fun c => Value.ref c.md).toArray k2) :: (P, tabObj ps) ::
      (c.tl, W.listOf c.toks.toArray c.k1) :: (c.bl, W.listOf c.brs.toArray c.k2) :: (c.md, c.om) :: (c.mtl, W.listOf c.mtoks.toArray c.k3) :: (c.ml, W.listOf #[.bool c.im, .bool c.lk] c.k4) :: (c.mbl, W.listOf c.prs.toArray c.k5) :: R) (cx_at C' (by omega)) (by assumption) (news_sub nN (by walk_at "my sub")) (by assumption) ?oa (.tail _ (.tail _ (.tail _ (.tail _ (.tail _ (.tail _ (.tail _ (.tail _ (.tail _ (.tail _ (.tail _ (mR _ m1)))))))))))) (.tail _ (.tail _ (.tail _ (.tail _ (.tail _ (.tail _ (.tail _ (.tail _ (.tail _ (.tail _ (.tail _ (mR _ m2)))))))))))) ?_
      case oa => first | k_all | fail
      intro h7 tk7 F7 N7
      clear nN
      try k_sweep
      k_steps
      rename News g' _ _ _ => nN
      refine AtGet.mk ?_
      refine' delimsC (scr := scr) (src := c.src) (sc0 := sc) (sdx0 := sdx) (en0 := en) (K0 := Ks9) (ty := ty) (rest := (L' + 1, _) :: (box, boxO scr p st tp ts) :: (sl, W.listOf ((pre ++ c :: post).map fun c => Value.ref c.x).toArray k1) :: (ms, W.listOf ((pre ++ c :: post).map fun c => Value.ref c.md).toArray k2) :: (P, tabObj ps) ::
      (c.tl, W.listOf c.toks.toArray c.k1) :: (c.bl, W.listOf c.brs.toArray c.k2) :: (c.md, c.om) :: (c.mtl, W.listOf c.mtoks.toArray c.k3) :: (c.ml, W.listOf #[.bool c.im, .bool c.lk] c.k4) :: (c.mbl, W.listOf c.prs.toArray c.k5) :: R) (cx_at C' (by omega)) (by assumption) (news_sub nN (by walk_at "my sub")) (by assumption) ?ob (.tail _ (.tail _ (.tail _ (.tail _ (.tail _ (.tail _ (.tail _ (.tail _ (.tail _ (.tail _ (.tail _ (mR _ m1)))))))))))) (.tail _ (.tail _ (.tail _ (.tail _ (.tail _ (.tail _ (.tail _ (.tail _ (.tail _ (.tail _ (.tail _ (mR _ m2)))))))))))) ?_
      case ob => first | k_all | fail
      intro h6 tk6 F6 N6
      clear nN
      have v1 : NeA sc c.md := o9 _ (mR _ m1)
      have v2 : NeA sdx c.md := o9 _ (mR _ m2)
      have N5 := news_dup (p := (sc, instObj 53 sdx)) (news_dup (p := (sdx, scO w Ks9 (.str c.src ty) en)) N6 (by repeat (first | exact mR _ m2 | refine List.Mem.tail _ ?_))) (by repeat (first | exact mR _ m1 | refine List.Mem.tail _ ?_))
      clear N6
      try k_sweep
      k_steps
      rename News h₀ _ _ _ => nZ
      rename Obj.IsDictOf _ _ _ => hD
      obtain ⟨om', t9, nZ, hD⟩ : ∃ (om' : Obj) (t9 : Tok), News h₀ L _ ((box, boxO scr p st tp ts) :: (sl, W.listOf ((pre ++ c :: post).map fun c => Value.ref c.x).toArray k1) :: (ms, W.listOf ((pre ++ c :: post).map fun c => Value.ref c.md).toArray k2) :: (P, tabObj ps) ::
        (({ c with dl := .ref sc, kept := .ref sc, seen := .str c.src t9, om := om' } : CellD).own w ++ ([] ++ R))) ∧ om'.IsDictOf (PySem.strKind PR w) (mdlOf (.str c.src c.ts') c.mtl c.ml (.int c.d c.td') c.mbl c.f (.ref sc) (.str c.src t9)) := ⟨_, _, news_sub nZ (by walk_at "my sub"), hD⟩
      refine ret (pre ++ { c with dl := .ref sc, kept := .ref sc, seen := .str c.src t9, om := om' } :: post) _ _ _ (by assumption) (V.close O (Nat.le_succ n) (es := []) nZ O.eqR hp hst hst' O.tri hb0 rfl rfl rfl O.nd O.off O.ndR O.immR ?n4) (by simp)
      case n4 =>
        have hm := hG.mono (fun _ h => h) (Nat.le_succ n)
        exact { hm with dict := hD, scan := .inr ⟨sc, sdx, en, Ks9, c.src, ty, t9, rfl, rfl, rfl, m1, m2⟩ }
    · have hy' : ¬ y = c.src := hy
      have hy2 : y ≠ c.src := hy
      k_steps
      rename News g' _ _ _ => nN
      refine AtGet.mk ?_
      refine' delimsB (scr := scr) (src := c.src) (sc0 := sc) (sdx0 := sdx) (en0 := en) (K0 := Ks9) (y := y) (ty := ty) (rest := (L' + 1, _) :: (box, boxO scr p st tp ts) :: (sl, W.listOf ((pre ++ c :: post).map fun c => Value.ref c.x).toArray k1) :: (ms, W.listOf ((pre ++ c :: post).map fun c => Value.ref c.md).toArray k2) :: (P, tabObj ps) ::
        (c.tl, W.listOf c.toks.toArray c.k1) :: (c.bl, W.listOf c.brs.toArray c.k2) :: (c.md, c.om) :: (c.mtl, W.listOf c.mtoks.toArray c.k3) :: (c.ml, W.listOf #[.bool c.im, .bool c.lk] c.k4) :: (c.mbl, W.listOf c.prs.toArray c.k5) :: R) (cx_at C' (by omega)) (by assumption) (news_sub nN (by walk_at "my sub")) (by assumption) ?oo (.tail _ (.tail _ (.tail _ (.tail _ (.tail _ (.tail _ (.tail _ (.tail _ (.tail _ (.tail _ (.tail _ (mR _ m1)))))))))))) (.tail _ (.tail _ (.tail _ (.tail _ (.tail _ (.tail _ (.tail _ (.tail _ (.tail _ (.tail _ (.tail _ (mR _ m2)))))))))))) hy2 ?_
      case oo => first | k_all | fail
      intro sc' sdx' en' oe Ks' h7 tk7 F7 N7 hl7 hl71 hl72 hl73 hl74
      k_lt hl7
      have g0 : @LT.lt Nat _ c.x sdx' := hl71
      have g1 : @LT.lt Nat _ c.dx sdx' := hl72
      have g2 : @LT.lt Nat _ sdx' sc' := hl73
      have g3 : @LT.lt Nat _ c.md sdx' := by omega
      have u1 : NeA sdx' c.dx := Nat.ne_of_gt g1
      have u2 : NeA sc' c.dx := Nat.ne_of_gt (Nat.lt_trans g1 g2)
      have u3 : NeA sdx' c.md := Nat.ne_of_gt g3
      have u4 : NeA sc' c.md := Nat.ne_of_gt (Nat.lt_trans g3 g2)
      clear nN
      try k_sweep
      k_steps
      rename News g' _ _ _ => nN
      refine AtGet.mk ?_
      refine' delimsC (scr := scr) (src := c.src) (sc0 := sc') (sdx0 := sdx') (en0 := en') (K0 := Ks') (ty := c.ts) (rest := (sc', instObj 53 sdx') :: (sdx', scO w Ks' (.str c.src c.ts) en') :: (L' + 1, _) :: (box, boxO scr p st tp ts) :: (sl, W.listOf ((pre ++ c :: post).map fun c => Value.ref c.x).toArray k1) :: (ms, W.listOf ((pre ++ c :: post).map fun c => Value.ref c.md).toArray k2) :: (P, tabObj ps) ::
        (c.tl, W.listOf c.toks.toArray c.k1) :: (c.bl, W.listOf c.brs.toArray c.k2) :: (c.md, c.om) :: (c.mtl, W.listOf c.mtoks.toArray c.k3) :: (c.ml, W.listOf #[.bool c.im, .bool c.lk] c.k4) :: (c.mbl, W.listOf c.prs.toArray c.k5) :: R) (cx_at C' (by omega)) (by assumption) (news_sub nN (by walk_at "my sub")) (by assumption) ?o2 (.head _) (.tail _ (.head _)) ?_
      case o2 => first | k_all | fail
      intro h6 tk6 F6 N6
      clear nN
      try k_sweep
      k_steps
      rename News h₀ _ _ _ => nZ
      rename Obj.IsDictOf _ _ _ => hD
      have aR : AllLt sdx' R := by
        have q := hl7
        repeat (replace q := q.2)
        exact q
      obtain ⟨om', t9, nZ, hD⟩ : ∃ (om' : Obj) (t9 : Tok), News h₀ L _ ((box, boxO scr p st tp ts) :: (sl, W.listOf ((pre ++ c :: post).map fun c => Value.ref c.x).toArray k1) :: (ms, W.listOf ((pre ++ c :: post).map fun c => Value.ref c.md).toArray k2) :: (P, tabObj ps) ::
        (({ c with dl := .ref sc', kept := .ref sc', seen := .str c.src t9, om := om' } : CellD).own w ++ ([(sc', instObj 53 sdx'), (sdx', scO w Ks' (.str c.src c.ts) en')] ++ R))) ∧ om'.IsDictOf (PySem.strKind PR w) (mdlOf (.str c.src c.ts') c.mtl c.ml (.int c.d c.td') c.mbl c.f (.ref sc') (.str c.src t9)) := ⟨_, _, news_sub nZ (by walk_at "my sub"), hD⟩
      refine ret (pre ++ { c with dl := .ref sc', kept := .ref sc', seen := .str c.src t9, om := om' } :: post) _ _ _ (by assumption) (V.close O (Nat.le_succ n) (es := [(sc', instObj 53 sdx'), (sdx', scO w Ks' (.str c.src c.ts) en')]) nZ O.eqR hp hst hst' O.tri hb0 rfl rfl rfl O.nd ?n2 O.ndR (imm_fresh O.eqR O.immR ?n3) ?n4) (by simp)
      case n2 =>
        have two : ∀ a : Nat, (∀ q ∈ R, q.1 ≠ a) → @LT.lt Nat _ a sdx' → ∀ q ∈ [(sc', instObj 53 sdx'), (sdx', scO w Ks' (.str c.src c.ts) en')] ++ R, q.1 ≠ a := by
          intro a h1 h2 q hq
          rcases List.mem_append.mp hq with hq | hq
          · rcases List.mem_cons.mp hq with rfl | hq
            · exact Nat.ne_of_gt (Nat.lt_trans h2 g2)
            · rw [List.mem_singleton.mp hq]; exact Nat.ne_of_gt h2
          · exact h1 q hq
        exact off12_mk ⟨two box o1 (by omega), two sl o2 (by omega), two ms o3 (by omega), two P o4 (by omega), two c.x o5 g0, two c.dx o6 g1, two c.tl o7 (by omega), two c.bl o8' (by omega), two c.md o9 g3, two c.mtl o10 (by omega), two c.ml o11 (by omega), two c.mbl o12 (by omega)⟩
      case n3 =>
        intro q hq r hr
        have h1 := ktn_ltOf aR r hr
        rcases List.mem_cons.mp hq with rfl | hq
        · exact Nat.lt_trans h1 g2
        · rw [List.mem_singleton.mp hq]; exact h1
      case n4 =>
        have hm := hG.mono (imm' := [(sc', instObj 53 sdx'), (sdx', scO w Ks' (.str c.src c.ts) en')] ++ imm) (fun _ h => List.mem_append_right _ h) (Nat.le_succ n)
        exact { hm with dict := hD, scan := .inr ⟨sc', sdx', en', Ks', c.src, c.ts, t9, rfl, rfl, rfl, .head _, .tail _ (.head _)⟩ }
end

local macro_rules | `(tactic| walk_at "pad 11") => `(tactic| skip)
section
theorem free_name {w : World} {A : Around} {E : Value → Shared → Prop} {s : Shared} {env : Env} {h₀ : Heap} {L cell : Addr} {news : List (Addr × Obj)} {oc : Obj} {x : Str} {px : Pos} {v : Value} {Q : Value → Shared → Prop} (N : News h₀ L s.heap news) (hm : (cell, oc) ∈ news) (hd : oc.data = .cell (some v))
    (hk : env.scope.kind = .function) (h2 : env.kindOf x = some .cell) (h3 : env.cells.lookup x = some cell) (h6 : (x == ("__debug__" : Str)) = false) (h : Q v s) : wpAny (model PR w) A (eval (.Name x px) env) Q E s :=
  wpAny_Name (wpAny_loadName_cell hk h2 h3 ⟨oc, (N _ hm).1, hd⟩ h) h6
set_option hygiene false in
local macro_rules | `(tactic| walk_at "eval Name") => `(tactic| (k_here; (with_reducible show wpAny _ _ (eval (Expr.Name (Str.ofString "box") _) _) _ _ _); k_dflt (refine' free_name ?N ?m ?d ?k ?h2 ?h3 ?h6 ?_; (case h3 => with_unfolding_all rfl); (case N => k_asm); (case d => exact hoc); (case m => walk_at "my mem"); (case k => rfl); (case h2 => with_unfolding_all rfl); (case h6 => decide); k_whole)))

theorem deedV8 {w : World} {kp : List (Addr × Obj)} {A : Around} {s : Shared} {h₀ : Heap} {L scr P : Addr} {m : Str → Option Value} {Q E : Value → Shared → Prop} {n : Nat} {box sl ms e0 e1 : Addr} {cs : List CellD} {k : Int} {dt kt : Tok}
    (C : Cx w A h₀ L scr 12) (F : Fr h₀ L s.heap m) (V : Inv w kp h₀ L scr P n box sl ms e0 e1 cs s.heap s.gens) (G : Gx h₀ P) (k0 : 0 ≤ k) (k9 : k < cs.length) (hn : n ≤ 30)
    (ret : ∀ (cs' : List CellD) (h' : Heap) (tk' : Nat) (g' : Array GenState), Fr h₀ L h' m → Inv w kp h₀ L scr P (n + 1) box sl ms e0 e1 cs' h' g' → cs.length ≤ cs'.length → Q (.bool true) { s with heap := h', toks := tk', gens := g' }) :
    wpAny (model PySem.Challenge.rw_bq5016_01.row.prog w) A (call (.ref 213) [.ref box, .int 8 dt, .int k kt, .ref sl, .ref ms]) Q E s := by
  have hX := C.X
  revert hX; k_fill; intro hX
  have hfew := V.few
  have hkk : k < 1000 := by omega
  obtain ⟨pre, c, post, rfl, hxs, hys⟩ := cell_at k0 k9
  obtain ⟨p, st, tp, ts, k1, k2, ps, imm, R, O⟩ := V.open
  obtain ⟨o1, o2, o3, o4, o5, o6, o7, o8', o9, o10, o11, o12⟩ := off12 O.off
  have hp := O.p0
  have hst := O.st0
  have hst' := O.st9
  have N := O.N
  have nd := O.nd
  have hG := O.good c (List.mem_append_right _ (.head _))
  have hM := hG.dict
  have lM := hG.sys
  have hnt := hG.nt
  have hnb := hG.nb
  have hmt : c.mtoks.length ≤ n := hG.len ▸ hnt
  have hb0 := V.bare
  try simp only [List.cons_append, List.nil_append] at N
  obtain ⟨n1_2, n1_3, n1_4, n1_5, n1_6, n1_7, n1_8, n1_9, n1_10, n1_11, n1_12, n2_3, n2_4, n2_5, n2_6, n2_7, n2_8, n2_9, n2_10, n2_11, n2_12, n3_4, n3_5, n3_6, n3_7, n3_8, n3_9, n3_10, n3_11, n3_12, n4_5, n4_6, n4_7, n4_8, n4_9, n4_10, n4_11, n4_12, n5_6, n5_7, n5_8, n5_9, n5_10, n5_11, n5_12, n6_7, n6_8, n6_9, n6_10, n6_11, n6_12, n7_8, n7_9, n7_10, n7_11, n7_12, n8_9, n8_10, n8_11, n8_12, n9_10, n9_11, n9_12, n10_11, n10_12, n11_12⟩ := nd12 nd
  clear nd
  refine wpAny_call ?_
  refine' enterCC [(Str.ofString "box", .ref box), (Str.ofString "deed", .int 8 dt), (Str.ofString "k", .int k kt), (Str.ofString "states", .ref sl), (Str.ofString "models", .ref ms)] C F N ?k6 ?k7 ?k9 ?kB ?kD ?c2 ?c3 ?c4 ?_
  case k6 => k_is
  case k7 => k_is
  case k9 => exact BindsTo.of_eq rfl
  case kB => exact rfl
  case kD => decide +kernel
  case c2 => exact rfl
  case c3 => exact rfl
  case c4 => exact rfl
  intro g' L' h' tk' cells pp lo mg mb F' N' Y' X' T' C' lt' st9
  k_cells Y'
  try simp only [List.cons_append, List.nil_append] at N'
  k_lt lt'
  clear C N
  have hA' := C'.hh
  try dsimp only
  try k_fold
  have st9' := st9
  k_steps
  rename News g' _ _ _ => nN
  rename Fr g' _ _ _ => nF
  have hr9 : @LT.lt Nat _ (L' + 1) r9 := l1.2.1
  have hLR : AllLt L' R := by
    have q := lt'
    repeat (replace q := q.2)
    exact q
  have hbL : @LT.lt Nat _ box (L' + 1) := Nat.lt_succ_of_lt lt'.1
  have hPL : @LT.lt Nat _ P (L' + 1) := Nat.lt_succ_of_lt lt'.2.2.2.1
  obtain ⟨RR, hRR⟩ : ∃ RR : List (Addr × Obj), RR = (sl, W.listOf ((pre ++ c :: post).map fun c => Value.ref c.x).toArray k1) :: (ms, W.listOf ((pre ++ c :: post).map fun c => Value.ref c.md).toArray k2) ::
      (c.x, instObj 103 c.dx) :: (c.dx, stO w c.K c.e (.str c.src c.ts) c.tl (.bool c.im) (.int c.d c.td) (.bool c.lk) c.bl c.dl) :: (c.tl, W.listOf c.toks.toArray c.k1) :: (c.bl, W.listOf c.brs.toArray c.k2) ::
      (c.md, c.om) :: (c.mtl, W.listOf c.mtoks.toArray c.k3) :: (c.ml, W.listOf #[.bool c.im, .bool c.lk] c.k4) :: (c.mbl, W.listOf c.prs.toArray c.k5) :: R := ⟨_, rfl⟩
  have hRb : ∀ q ∈ RR, q.1 ≠ box := by
    rw [hRR]
    first | k_all | fail
  have hRP : ∀ q ∈ RR, q.1 ≠ P := by
    rw [hRR]
    first | k_all | fail
  obtain ⟨oc, hoc, N8⟩ : ∃ oc : Obj, oc.data = Data.cell (some (.ref box)) ∧ News g' L' _ ((box, boxO scr p9 st9 tp9 ts9) :: ([(r9, rangeO d9 t9 td9 u9)] ++ ((L' + 1, oc) :: (P, tabObj ps) :: RR))) := by
    rename (Obj.data _ = _) => dO
    exact ⟨_, dO, by rw [hRR]; exact news_sub nN (by walk_at "my sub")⟩
  clear nN
  refine ⟨?_⟩
  refine comp_range (fun i ys nw => ∃ (tl : List (Addr × Obj)) (H Z : Nat) (p st : Int) (tp ts : Tok), nw = (box, boxO scr p st tp ts) :: (tl ++ ((L' + 1, oc) :: (P, tabObj ps) :: RR)) ∧
    0 ≤ p ∧ 0 ≤ st ∧ st < 2147483647 ∧ ys.length = i ∧ (∀ q ∈ tl, @LT.lt Nat _ (L' + 1) q.1) ∧ Tkns w tl ys H Z ∧ Z ≤ i * 48 ∧ H ≤ 4) hA' nF N8 (.tail _ (.head _)) (by assumption) (by omega)
    ⟨[(r9, rangeO d9 t9 td9 u9)], 0, 0, p9, st9, tp9, ts9, rfl, hp9, hs9, hs9', rfl, (fun q hq => by rw [List.mem_singleton.mp hq]; exact hr9), .nil, Nat.zero_le _, Nat.zero_le _⟩ ?turn ?fin
  case turn =>
    rintro s5 i t ys nw I oI C oC D m₂ h5 tk5 E' hi ⟨tl, H, Z, p, st, tp, ts, rfl, hp, hst, hst', hl, htl, hts, hZ, hH4⟩ hC hx F5 N5 off ⟨e1, e2, e3⟩
    clear nF N8
    have hIb : NeA box I := (off _ (.head _)).1
    have hCb : NeA box C := (off _ (.head _)).2.1
    have hDb : NeA box D := (off _ (.head _)).2.2
    have hrest : ∀ q ∈ tl ++ ((L' + 1, oc) :: (P, tabObj ps) :: RR), q.1 ≠ box := by
      intro q hq
      rcases List.mem_append.mp hq with hq | hq
      · exact Nat.ne_of_gt (Nat.lt_trans hbL (htl q hq))
      · rcases List.mem_cons.mp hq with rfl | hq
        · exact Nat.ne_of_gt hbL
        · rcases List.mem_cons.mp hq with rfl | hq
          · exact NeA.en n1_4
          · exact hRb q hq
    k_steps
    refine AtCall.mk ?_
    refine' tree_use 4 4 rfl (cx_at C' (by omega)) (by assumption) N5 ?PP hp hst hst' ?_
    case PP => first | walk_at "my pick" | fail
    intro v9 tl9 hg9 z9 p8 tp8 st8 ts8 h8 tk8 F8 N8 hp8 hs8 hs8' hf8 hT8 hh8 hz8
    dsimp only
    k_steps
    refine ⟨h8, _, (box, boxO scr p8 st8 tp8 ts8) :: ((tl9 ++ tl) ++ ((L' + 1, oc) :: (P, tabObj ps) :: RR)), rfl, F8, news_sub N8 (by walk_at "my sub"), ?_, tl9 ++ tl, max H hg9, Z + z9, p8, st8, tp8, ts8, rfl, hp8, hs8, hs8', by simp [hl], ?_, Tkns.snoc (hT8.mono fun q hq => List.mem_append_left _ hq) (hts.mono fun q hq => List.mem_append_right _ hq), by omega, by omega⟩
    · intro q hq
      rcases List.mem_cons.mp hq with rfl | hq
      · exact off (box, boxO scr p st tp ts) (.head _)
      · rcases List.mem_append.mp hq with hq | hq
        · rcases List.mem_append.mp hq with hq | hq
          · have h1 := (hf8 q hq).2
            exact ⟨Nat.ne_of_gt (h1 (I, oI) (.head _)), Nat.ne_of_gt (h1 (C, oC) (.tail _ (.head _))), Nat.ne_of_gt (h1 (D, _) (.tail _ (.tail _ (.head _))))⟩
          · exact off q (.tail _ (List.mem_append_left _ hq))
        · exact off q (.tail _ (List.mem_append_right _ hq))
    · intro q hq
      rcases List.mem_append.mp hq with hq | hq
      · exact (hf8 q hq).2 (L' + 1, oc) (.tail _ (.tail _ (.tail _ (List.mem_append_right _ (.head _)))))
      · exact htl q hq
  case fin =>
    rintro g5 ys nw ⟨tl, H, Z, p, st, tp, ts, rfl, hp, hst, hst', hl, htl, hts, hZ, hH4⟩ D h5 tk5 F5 N5 o1
    clear nF N8
    dsimp only
    have oD : ∀ q ∈ (box, boxO scr p st tp ts) :: (tl ++ ((L' + 1, oc) :: (P, tabObj ps) :: RR)), @Ne Nat q.1 D := off1_mem o1
    have hDb : NeA box D := oD _ (.head _)
    have hDP : NeA P D := oD (P, tabObj ps) (.tail _ (List.mem_append_right _ (.tail _ (.head _))))
    obtain ⟨BB, hBB⟩ : ∃ BB, BB = tl ++ ((L' + 1, oc) :: RR) := ⟨_, rfl⟩
    have hBb : ∀ q ∈ BB, q.1 ≠ box := by
      subst hBB
      intro q hq
      rcases List.mem_append.mp hq with hq | hq
      · exact Nat.ne_of_gt (Nat.lt_trans hbL (htl q hq))
      · rcases List.mem_cons.mp hq with rfl | hq
        · exact Nat.ne_of_gt hbL
        · exact hRb q hq
    have hBP : ∀ q ∈ BB, q.1 ≠ P := by
      subst hBB
      intro q hq
      rcases List.mem_append.mp hq with hq | hq
      · exact Nat.ne_of_gt (Nat.lt_trans hPL (htl q hq))
      · rcases List.mem_cons.mp hq with rfl | hq
        · exact Nat.ne_of_gt hPL
        · exact hRP q hq
    have hBD : ∀ q ∈ BB, q.1 ≠ D := by
      subst hBB
      intro q hq
      rcases List.mem_append.mp hq with hq | hq
      · exact oD q (.tail _ (List.mem_append_left _ hq))
      · rcases List.mem_cons.mp hq with rfl | hq
        · exact oD (L' + 1, oc) (.tail _ (List.mem_append_right _ (.head _)))
        · exact oD q (.tail _ (List.mem_append_right _ (.tail _ (.tail _ hq))))
    have hTB : Tkns w BB ys H Z := by subst hBB; exact hts.mono (fun q hq => List.mem_append_left _ hq)
    have hCB : (L' + 1, oc) ∈ BB := by subst hBB; exact List.mem_append_right _ (.head _)
    have hRB : ∀ q ∈ RR, q ∈ BB := by subst hBB; exact fun q hq => List.mem_append_right _ (.tail _ hq)
    obtain ⟨kD, N6⟩ : ∃ kD : Nat, News g' L' h5 ((D, (W.listOf ys.toArray kD : Obj)) :: (box, boxO scr p st tp ts) :: (P, tabObj ps) :: BB) := ⟨_, by subst hBB; exact news_sub N5 (by walk_at "my sub")⟩
    clear N5 oD o1 hts htl hBB
    have hyl : ys.length ≤ 3 := by omega
    have hZ9 : Z ≤ 150 := by omega
    k_steps
    rename News g' _ _ _ => nN
    rename Fr g' _ _ _ => nF
    rename Obj.IsDictOf _ _ _ => hD0
    obtain ⟨dn, rfl⟩ : ∃ dn : Nat, d9 = dn := ⟨d9.toNat, by omega⟩
    have hdn : dn < 61 := by omega
    have hd8P : @LT.lt Nat _ P d8 := by
      rename (box < d8 ∧ _) => q
      exact q.2.2.1
    have hr9P : @LT.lt Nat _ P r9 := l1.2.2.2.1
    refine with_map nF (fun m0 hm0 F7 => ?_)
    clear nF
    obtain ⟨BS, hBS⟩ : ∃ BS, BS = (box, boxO scr p9 st9 tp9 ts9) :: (D, (W.listOf ys.toArray kD : Obj)) :: (P, tabObj ps) :: BB := ⟨_, rfl⟩
    have N7 : News g' L' h9 ([(d8, o8), (r9, rangeO (dn : Int) t9 td9 u9)] ++ BS) := by rw [hBS]; exact news_sub nN (by walk_at "my sub")
    clear nN
    refine iter_range (fun i m' nw' g'' => g'' = s.gens ∧ ∃ (tc : List (Addr × Obj)) (v : Value), nw' = tc ++ BS ∧ Tkn w tc v i (i + 1) ∧ m' (Str.ofString "chain") = some v ∧ (∀ q ∈ tc, q.1 ≠ P) ∧ ∀ z, z ≠ Str.ofString "turn" → z ≠ Str.ofString "chain" → m' z = m0 z) hA' F7 N7
      (.tail _ (.head _)) (by omega) (by omega) ⟨rfl, _, .ref d8, rfl, .leaf (.head _) hD0 (by assumption) (by walk_at "my va") (Nat.le_of_ble_eq_true rfl), by rw [hm0]; rfl, ?q0, fun _ _ _ => rfl⟩ ?_ ?_
    case q0 =>
      intro q hq
      rcases List.mem_cons.mp hq with rfl | hq
      · exact Nat.ne_of_gt hd8P
      · rw [List.mem_singleton.mp hq]; exact Nat.ne_of_gt hr9P
    · rintro i t m₁ nw₁ g₁ h₁ tk₁ I oI hi ⟨rfl, tc, v, hnw, hTc, hv, htcP, hm₁⟩ hn hlt F₁ N₁
      rw [map_one hv hm₁] at F₁
      subst hm0
      have hPI : @LT.lt Nat _ P I := hlt (P, tabObj ps) (List.mem_append_right _ (by rw [hBS]; exact .tail _ (.tail _ (.head _))))
      clear F7 N7 hlt
      k_steps
      rename (I < d8 ∧ _) => i1
      rename News g' _ _ _ => nZ
      have hTs : Tkns w ((d8, o8) :: (l8, (W.listOf #[v] 0 : Obj)) :: tc) [v] i (i + 1) := by
        have q := Tkns.cons (hTc.mono (nl' := (d8, o8) :: (l8, (W.listOf #[v] 0 : Obj)) :: tc) (fun p hp => .tail _ (.tail _ hp))) Tkns.nil
        rw [Nat.max_zero, Nat.add_zero] at q
        exact q
      refine ⟨_, _, _, _, (d8, o8) :: (l8, W.listOf #[v] 0) :: nw₁, rfl, by assumption, news_sub nZ (by walk_at "my sub"), ?_, rfl, (d8, o8) :: (l8, W.listOf #[v] 0) :: tc, .ref d8, by rw [hnw]; rfl, .node (vs := [v]) (k := 0) (.head _) hd8 (by assumption) (by walk_at "my va") (.tail _ (.head _)) hTs (Nat.le_of_ble_eq_true rfl), if_pos rfl, ?_, ?_⟩
      · intro q hq
        rcases List.mem_cons.mp hq with rfl | hq
        · exact Nat.ne_of_gt i1.1
        · rcases List.mem_cons.mp hq with rfl | hq
          · exact Nat.ne_of_gt l1.2.1
          · exact hn q hq
      · intro q hq
        rcases List.mem_cons.mp hq with rfl | hq
        · exact Nat.ne_of_gt (Nat.lt_trans hPI i1.1)
        · rcases List.mem_cons.mp hq with rfl | hq
          · exact Nat.ne_of_gt (Nat.lt_trans hPI l1.2.1)
          · exact htcP q hq
      · intro z e1 e2
        simp only [if_neg e1, if_neg e2]
    · rintro h'' tk'' m'' nw'' g'' ⟨rfl, tc, v, hnw, hTc, hv, htcP, hm₁⟩ F₁ N₁
      rw [map_end hv hm₁] at F₁
      subst hm0
      simp only [Int.toNat_natCast] at hTc
      have hDN : (D, (W.listOf ys.toArray kD : Obj)) ∈ nw'' := by rw [hnw, hBS]; exact List.mem_append_right _ (.tail _ (.head _))
      have hTN : Tkns w nw'' ys H Z := by rw [hnw, hBS]; exact hTB.mono fun q hq => List.mem_append_right _ (.tail _ (.tail _ (.tail _ hq)))
      have F9 : Fr g' L' h'' _ := F₁
      have N9 : News g' L' h'' _ := N₁
      clear F₁ N₁ F7 N7
      k_steps
      rename News g' _ _ _ => nN
      rename Fr g' _ _ _ => nF
      refine with_map nF (fun m0 hm0 F7 => ?_)
      clear nF
      refine iter_list (vs := ys) (k := kD) (fun i m' nw' g'' => nw' = nw'' ∧ g'' = s.gens ∧ (∃ (x : Nat) (t : Tok) (h2 z2 : Nat), m' (Str.ofString "due") = some (.int x t) ∧ Tkns w nw'' (ys.drop i) h2 z2 ∧ h2 ≤ 4 ∧ max x h2 = max dn H) ∧
        ∀ z, z ≠ Str.ofString "token" → z ≠ Str.ofString "due" → m' z = m0 z) hA' F7 nN
        ⟨rfl, rfl, ⟨dn, _, H, Z, by rw [hm0]; rfl, hTN, hH4, rfl⟩, fun _ _ _ => rfl⟩ hDN (fun _ _ _ _ hj => hj.1 ▸ hDN) ?_ ?_
      · rintro i v₁ m₁ nw₁ g₁ h₁ tk₁ I oI hv₁ ⟨rfl, rfl, ⟨x, t, h2, z2, hx, hts, hh4, hmax⟩, hm₁⟩ hn hlt F₁ N₁
        rw [map_one hx hm₁] at F₁
        subst hm0
        have hdr : ys.drop i = v₁ :: ys.drop (i + 1) := by
          obtain ⟨hi, hv⟩ := List.getElem?_eq_some_iff.mp hv₁
          rw [← hv]; exact List.drop_eq_getElem_cons hi
        rw [hdr] at hts
        cases hts with
        | @cons _ _ h1 z1 h2' z2' ht1 hr1 =>
        clear F7 nN
        k_steps
        rename News g' _ _ _ => nN
        rename Fr g' _ _ _ => nF
        refine AtCall.mk ?_
        refine high_spec h1 (cx_at C' (by omega)) nF nN (Tkn.mono (fun p hp => .tail _ hp) ht1) (fun t' h6 tk6 F6 N6 => ?_)
        clear nN nF
        dsimp only
        k_steps
        refine ⟨_, _, _, _, _, rfl, by assumption, by assumption, hn, rfl, rfl, ⟨max x h1, (if (h1 : Int) > (x : Int) then t' else t), h2', z2', ?_, hr1, by omega, by omega⟩, ?_⟩
        · rw [← max_cast]; exact if_pos rfl
        · intro z e1 e2
          simp only [if_neg e1, if_neg e2]
      · rintro h6 tk6 m6 nw6 g6 ⟨rfl, rfl, ⟨x, t, h2, z2, hx, hts, hh4, hmax⟩, hm₁⟩ F₁ N₁
        rw [List.drop_length] at hts
        cases hts
        rw [map_end hx hm₁] at F₁
        subst hm0
        have hxm : x = max dn H := by omega
        subst hxm
        have F9 : Fr g' L' h6 _ := F₁
        have N9 : News g' L' h6 _ := N₁
        clear F₁ N₁ F7 nN
        dsimp only
        k_steps
        rename News g' _ _ _ => nN
        rename Fr g' _ _ _ => nF
        refine AtAdd.mk ?_
        refine' kmk_add_lit (zs := ys ++ [v]) nF nN (News.isList nN (.tail _ hDN)) (News.isList nN (.head _)) ?ee ?_ ?zz
        case ee => simp
        case zz => simp only [List.length_append, List.length_singleton, sizeLine_eq]; omega
        intro l7 h5 F5 N5 l2
        have hPN : (P, tabObj ps) ∈ nw6 := by rw [hnw, hBS]; exact List.mem_append_right _ (.tail _ (.tail _ (.head _)))
        have hP7 : @LT.lt Nat _ P l7 := l2 (P, tabObj ps) (.tail _ hPN)
        have hP8 : @LT.lt Nat _ P l8 := l1 (P, tabObj ps) hPN
        clear nN
        obtain ⟨XX, hXX⟩ : ∃ XX : List (Addr × Obj), XX = (l7, (W.listOf (ys ++ [v]).toArray 0 : Obj)) :: (l8, (W.listOf #[v] 0 : Obj)) :: (tc ++ ((box, boxO scr p9 st9 tp9 ts9) :: (D, (W.listOf ys.toArray kD : Obj)) :: BB)) := ⟨_, rfl⟩
        have N6 : News g' L' h5 ((P, tabObj ps) :: XX) := by
          rw [hnw, hBS] at N5
          rw [hXX]
          exact news_sub N5 (by walk_at "my sub")
        have hXP : ∀ q ∈ XX, q.1 ≠ P := by
          rw [hXX]
          intro q hq
          rcases List.mem_cons.mp hq with rfl | hq
          · exact Nat.ne_of_gt hP7
          · rcases List.mem_cons.mp hq with rfl | hq
            · exact Nat.ne_of_gt hP8
            · rcases List.mem_append.mp hq with hq | hq
              · exact htcP q hq
              · rcases List.mem_cons.mp hq with rfl | hq
                · exact NeA.ne n1_4
                · rcases List.mem_cons.mp hq with rfl | hq
                  · exact NeA.en hDP
                  · exact hBP q hq
        have hTX : Tkns w XX (ys ++ [v]) (max dn H) (Z + (dn + 1)) := by
          have q := Tkns.snoc (nl := XX) (hTc.mono (fun p hp => by rw [hXX]; exact .tail _ (.tail _ (List.mem_append_left _ hp)))) (hTB.mono (fun p hp => by rw [hXX]; exact .tail _ (.tail _ (List.mem_append_right _ (.tail _ (.tail _ hp))))))
          rw [Nat.max_comm H dn] at q
          exact q
        have hX7 : (l7, (W.listOf (ys ++ [v]).toArray 0 : Obj)) ∈ XX := by rw [hXX]; exact .head _
        have hXB : (box, boxO scr p9 st9 tp9 ts9) ∈ XX := by rw [hXX]; exact .tail _ (.tail _ (List.mem_append_right _ (.head _)))
        have hXR : ∀ q ∈ RR, q ∈ XX := by rw [hXX]; exact fun q hq => .tail _ (.tail _ (List.mem_append_right _ (.tail _ (.tail _ (hRB q hq)))))
        clear N5 hXX
        dsimp only
        k_steps
        refine AtCall.mk ?_
        refine' depth_spec (scr := scr) (vs := ys ++ [v]) (k0 := 0) (H := max dn H) (Zt := Z + (dn + 1)) (cx_at C' (by omega)) (by assumption) N6 (.head hXP) (G.keeps st9') O.tri hb0 hX7 hTX (by omega) ?_
        intro t7 ps7 h7 tk7 g7 F7 N7 ht7 hb7
        clear N6
        dsimp only
        k_steps
        rename News h₀ _ _ _ => nZ
        have e9 : (((max dn H : Nat) : Int) == ((max dn H : Nat) : Int)) = true := beq_self_eq_true _
        rw [e9]
        have N10 := news_sub nZ (l' := (box, boxO scr p9 st9 tp9 ts9) :: (P, tabObj ps7) :: RR) (sub_cons (.tail _ hXB) (sub_cons (.head _) (fun q hq => .tail _ (hXR q hq))))
        rw [hRR] at N10
        exact ret (pre ++ c :: post) _ _ _ (by assumption) (V.close (ps' := ps7) O (Nat.le_succ n) (es := []) (news_sub N10 (by walk_at "my sub")) O.eqR hp9 hs9 hs9' ht7 hb7 rfl rfl rfl O.nd O.off O.ndR O.immR (hG.mono (fun _ h => h) (Nat.le_succ n))) (Nat.le_refl _)
end

local macro_rules | `(tactic| walk_at "pad 12") => `(tactic| skip)
local macro_rules | `(tactic| walk_at "pad 13") => `(tactic| skip)
section
theorem Tkn.full {w : World} {nl : List (Addr × Obj)} {v : Value} {h z : Nat} (T : Tkn w nl v h z) : ∃ a o kvs, v = .ref a ∧ (a, o) ∈ nl ∧ o.IsDictOf (PySem.strKind PR w) kvs ∧ (a == sysModules) = false ∧ kvs.length ≤ 9 ∧
    (valueAt kvs (Str.ofString "children") = none ∨ ∃ c vs k h' z', valueAt kvs (Str.ofString "children") = some (.ref c) ∧ (c, (W.listOf vs.toArray k : Obj)) ∈ nl ∧ Tkns w nl vs h' z' ∧ h = h' + 1 ∧ z = z' + 1) := by
  cases T with
  | leaf a b c d e => exact ⟨_, _, _, rfl, a, b, c, e, .inl d⟩
  | node a b c d e f g => exact ⟨_, _, _, rfl, a, b, c, g, .inr ⟨_, _, _, _, _, d, e, f, rfl, rfl⟩⟩
theorem off_es {R es : List (Addr × Obj)} {l : List Nat} {d : Nat} (h : ∀ q ∈ R, q.1 ∉ l) (hl : ∀ a ∈ l, a < d) (he : ∀ q ∈ es, @LT.lt Nat _ d q.1) : ∀ q ∈ es ++ R, q.1 ∉ l := by
  intro q hq hm
  rcases List.mem_append.mp hq with hq | hq
  · exact absurd (hl _ hm) (Nat.not_lt.mpr (Nat.le_of_lt (he q hq)))
  · exact h q hq hm
theorem lt12' {r : Prop} {a1 a2 a3 a4 a5 a6 a7 a8 a9 a10 a11 a12 d : Nat} (h : a1 < d ∧ a2 < d ∧ a3 < d ∧ a4 < d ∧ a5 < d ∧ a6 < d ∧ a7 < d ∧ a8 < d ∧ a9 < d ∧ a10 < d ∧ a11 < d ∧ a12 < d ∧ r) : (∀ b ∈ ([a1, a2, a3, a4, a5, a6, a7, a8, a9, a10, a11, a12] : List Nat), b < d) ∧ r := by
  obtain ⟨h1, h2, h3, h4, h5, h6, h7, h8, h9, h10, h11, h12, hr⟩ := h
  refine ⟨?_, hr⟩
  intro b hb
  simp only [List.mem_cons, List.not_mem_nil, or_false] at hb
  rcases hb with rfl | rfl | rfl | rfl | rfl | rfl | rfl | rfl | rfl | rfl | rfl | rfl <;> assumption
theorem ne12 {q a1 a2 a3 a4 a5 a6 a7 a8 a9 a10 a11 a12 : Nat} (h : q ∉ ([a1, a2, a3, a4, a5, a6, a7, a8, a9, a10, a11, a12] : List Nat)) : NeA q a1 ∧ NeA q a2 ∧ NeA q a3 ∧ NeA q a4 ∧ NeA q a5 ∧ NeA q a6 ∧ NeA q a7 ∧ NeA q a8 ∧ NeA q a9 ∧ NeA q a10 ∧ NeA q a11 ∧ NeA q a12 := by
  simp only [List.mem_cons, List.not_mem_nil, or_false, not_or] at h
  exact h
theorem ne3 {a b c : Nat} (h : ([a, b, c] : List Nat).Nodup) : NeA a b ∧ NeA a c ∧ NeA b c := by
  simp only [List.nodup_cons, List.mem_cons, List.not_mem_nil, or_false, not_or, not_false_eq_true, and_true, List.nodup_nil] at h
  exact ⟨h.1.1, h.1.2, h.2⟩
theorem not3 {q a b c : Nat} (h : q ∉ ([a, b, c] : List Nat)) : q ≠ a ∧ q ≠ b ∧ q ≠ c := by
  simp only [List.mem_cons, List.not_mem_nil, or_false, not_or] at h
  exact h

theorem deedV1 {w : World} {kp : List (Addr × Obj)} {A : Around} {s : Shared} {h₀ : Heap} {L scr P : Addr} {m : Str → Option Value} {Q E : Value → Shared → Prop} {n : Nat} {box sl ms e0 e1 : Addr} {cs : List CellD} {k : Int} {dt kt : Tok}
    (C : Cx w A h₀ L scr 12) (F : Fr h₀ L s.heap m) (V : Inv w kp h₀ L scr P n box sl ms e0 e1 cs s.heap s.gens) (G : Gx h₀ P) (k0 : 0 ≤ k) (k9 : k < cs.length) (hn : n ≤ 30)
    (ret : ∀ (cs' : List CellD) (h' : Heap) (tk' : Nat) (g' : Array GenState), Fr h₀ L h' m → Inv w kp h₀ L scr P (n + 1) box sl ms e0 e1 cs' h' g' → cs.length ≤ cs'.length → Q (.bool true) { s with heap := h', toks := tk', gens := g' }) :
    wpAny (model PySem.Challenge.rw_bq5016_01.row.prog w) A (call (.ref 213) [.ref box, .int 1 dt, .int k kt, .ref sl, .ref ms]) Q E s := by
  have hX := C.X
  revert hX; k_fill; intro hX
  have hfew := V.few
  have hkk : k < 1000 := by omega
  obtain ⟨pre, c, post, rfl, hxs, hys⟩ := cell_at k0 k9
  obtain ⟨p, st, tp, ts, k1, k2, ps, imm, R, O⟩ := V.open
  obtain ⟨o1, o2, o3, o4, o5, o6, o7, o8', o9, o10, o11, o12⟩ := off12 O.off
  have hp := O.p0
  have hst := O.st0
  have hst' := O.st9
  have N := O.N
  have nd := O.nd
  have hG := O.good c (List.mem_append_right _ (.head _))
  have hM := hG.dict
  have lM := hG.sys
  have hnt := hG.nt
  have hnb := hG.nb
  have hmt : c.mtoks.length ≤ n := hG.len ▸ hnt
  have hb0 := V.bare
  try simp only [List.cons_append, List.nil_append] at N
  obtain ⟨n1_2, n1_3, n1_4, n1_5, n1_6, n1_7, n1_8, n1_9, n1_10, n1_11, n1_12, n2_3, n2_4, n2_5, n2_6, n2_7, n2_8, n2_9, n2_10, n2_11, n2_12, n3_4, n3_5, n3_6, n3_7, n3_8, n3_9, n3_10, n3_11, n3_12, n4_5, n4_6, n4_7, n4_8, n4_9, n4_10, n4_11, n4_12, n5_6, n5_7, n5_8, n5_9, n5_10, n5_11, n5_12, n6_7, n6_8, n6_9, n6_10, n6_11, n6_12, n7_8, n7_9, n7_10, n7_11, n7_12, n8_9, n8_10, n8_11, n8_12, n9_10, n9_11, n9_12, n10_11, n10_12, n11_12⟩ := nd12 nd
  clear nd
  refine wpAny_call ?_
  refine' enterCC [(Str.ofString "box", .ref box), (Str.ofString "deed", .int 1 dt), (Str.ofString "k", .int k kt), (Str.ofString "states", .ref sl), (Str.ofString "models", .ref ms)] C F N ?k6 ?k7 ?k9 ?kB ?kD ?c2 ?c3 ?c4 ?_
  case k6 => k_is
  case k7 => k_is
  case k9 => exact BindsTo.of_eq rfl
  case kB => exact rfl
  case kD => decide +kernel
  case c2 => exact rfl
  case c3 => exact rfl
  case c4 => exact rfl
  intro g' L' h' tk' cells pp lo mg mb F' N' Y' X' T' C' lt' st9
  k_cells Y'
  try simp only [List.cons_append, List.nil_append] at N'
  k_lt lt'
  clear C N
  have hA' := C'.hh
  try dsimp only
  try k_fold
  obtain ⟨h12, aLR⟩ := lt12' lt'
  have hLR : ∀ q ∈ R, @LT.lt Nat _ q.1 L' := ktn_ltOf aLR
  rcases snoc_cases c.brk with hbk | ⟨bs, b, hbk⟩
  · have ep : c.prs = [] := by simp [hbk]
    have eb : c.brs = [] := by simp [hbk]
    k_steps
    rename News g' _ _ _ => nN
    refine AtCall.mk ?_
    refine' tree_use 4 4 rfl (cx_at C' (by omega)) (by assumption) nN ?P1 hp hst hst' ?_
    case P1 => first | walk_at "my pick" | fail
    intro v9 tl9 hg9 z9 p9 tp9 st9 ts9 h9 tk9 F9 N9 hp9 hs9 hs9' hf9 hT9 hh9 hz9
    clear nN
    try k_sweep
    obtain ⟨ta, to, kvs, rfl, hta, hdk, hsk, hzk, _⟩ := hT9.full
    have hfL : ∀ q ∈ tl9, @LT.lt Nat _ (L' + 1) q.1 := fun q hq => (hf9 q hq).2 (L' + 1, _) (.head _)
    have q7 : ∀ q ∈ tl9, q.1 ≠ c.tl := fun q hq => Nat.ne_of_gt ((hf9 q hq).2 (c.tl, W.listOf c.toks.toArray c.k1) (by k_mem))
    have q10 : ∀ q ∈ tl9, q.1 ≠ c.mtl := fun q hq => Nat.ne_of_gt ((hf9 q hq).2 (c.mtl, W.listOf c.mtoks.toArray c.k3) (by k_mem))
    have r7 : NeA ta c.tl := q7 _ hta
    have r10 : NeA ta c.mtl := q10 _ hta
    obtain ⟨HT, hHT⟩ : ∃ HT : List (Addr × Obj), HT = (sl, W.listOf ((pre ++ c :: post).map fun c => Value.ref c.x).toArray k1) :: (ms, W.listOf ((pre ++ c :: post).map fun c => Value.ref c.md).toArray k2) :: (P, tabObj ps) :: (c.ml, W.listOf #[.bool c.im, .bool c.lk] c.k4) :: (R ++ tl9) := ⟨_, rfl⟩
    have t7 : ∀ q ∈ HT, q.1 ≠ c.tl := by
      rw [hHT]
      first | k_all | fail
    have t10 : ∀ q ∈ HT, q.1 ≠ c.mtl := by
      rw [hHT]
      first | k_all | fail
    obtain ⟨oc, N8⟩ : ∃ oc : Obj, News g' L' h9 ((ta, to) :: (box, boxO scr p9 st9 tp9 ts9) :: (L' + 1, oc) :: (c.x, instObj 103 c.dx) :: (c.dx, stO w c.K c.e (.str c.src c.ts) c.tl (.bool c.im) (.int c.d c.td) (.bool c.lk) c.bl c.dl) :: (c.tl, W.listOf c.toks.toArray c.k1) :: (c.bl, W.listOf c.brs.toArray c.k2) ::
      (c.md, c.om) :: (c.mtl, W.listOf c.mtoks.toArray c.k3) :: (c.mbl, W.listOf c.prs.toArray c.k5) :: HT) := ⟨_, by rw [hHT]; exact news_sub N9 (sub_cons (.tail _ (List.mem_append_left _ hta)) (by walk_at "my sub"))⟩
    clear N9
    k_steps
    have u7 : NeA c.tl d8 := Nat.ne_of_lt (show @LT.lt Nat _ c.tl d8 by omega)
    have hL8 : @LT.lt Nat _ (L' + 1) d8 := by omega
    rename News g' _ _ _ => nN
    refine AtCall.mk ?_
    refine' append_plain (toks := c.toks) (brs := c.brs) (kvs := kvs) (rest := (ta, to) :: (box, boxO scr p9 st9 tp9 ts9) :: (L' + 1, oc) :: (c.md, c.om) :: (c.mtl, W.listOf c.mtoks.toArray c.k3) :: (c.mbl, W.listOf c.prs.toArray c.k5) :: HT) (cx_at C' (by omega)) (by assumption) (news_sub nN (by walk_at "my sub")) n5_7 n6_7 n7_8 u7 ?oo (by omega) hd8 lo8 ?zb (.inl eb) ?_
    case oo => first | k_all | fail
    case zb => rw [eb]; exact Nat.zero_le _
    intro kp' h7 tk7 F7 N7
    clear nN
    try k_sweep
    have dd8 := Hide.mk hd8
    clear hd8
    k_steps
    rename News g' _ _ _ => nN
    refine ⟨truth_list (its := c.prs) nN (by k_mem) (by simp [ep]) fun tk9 => ?_⟩
    have e0 : c.prs.isEmpty = true := by simp [ep]
    rw [e0]
    k_steps
    rename News h₀ _ _ _ => nZ
    simp only [List.push_toArray] at nZ
    have hes : ∀ q ∈ (d8, o8) :: tl9, @LT.lt Nat _ L' q.1 := by
      intro q hq
      rcases List.mem_cons.mp hq with rfl | hq
      · exact Nat.lt_of_succ_lt hL8
      · exact Nat.lt_of_succ_lt (hfL q hq)
    rw [hHT] at nZ
    refine ret (pre ++ { c with toks := c.toks ++ [.ref d8], mtoks := c.mtoks ++ [.ref ta], k1 := kp', k3 := c.k3 + 1 } :: post) _ _ _ (by assumption) (V.close (tp' := tp9) (ts' := ts9) (k1' := k1) (k2' := k2) O (Nat.le_succ n) (es := (d8, o8) :: tl9) (news_sub nZ ?n0) O.eqR hp9 hs9 hs9' O.tri hb0 rfl rfl rfl O.nd (off_es O.off h12 hes) O.ndR (imm_fresh O.eqR O.immR (fun q hq r hr => Nat.lt_trans (hLR r hr) (hes q hq))) ?n4) (by simp)
    case n0 =>
      dsimp only [CellD.own, List.cons_append, List.nil_append]
      walk_at "my sub"
    case n4 =>
      have hm := hG.mono (imm' := ((d8, o8) :: tl9) ++ imm) (fun _ h => List.mem_append_right _ h) (Nat.le_succ n)
      exact { hm with
        len := by show (c.toks ++ _).length = (c.mtoks ++ _).length; rw [List.length_append, List.length_append, hG.len]; rfl
        toks := twin_snoc hG.len hm.toks ⟨d8, ta, o8, to, kvs, rfl, rfl, .head _, .tail _ (List.mem_append_left _ hta), dd8.out, hdk, lo8, hsk⟩
        nt := by show (c.toks ++ _).length ≤ n + 1; rw [List.length_append, List.length_singleton]; omega }
  · obtain ⟨bx, bdx, bp, bK, bt1, bt2, btd, btd', bim, bcd, bkp⟩ := b
    obtain ⟨SX, hSX⟩ : ∃ SX, SX = bs.map (fun b : BrkD => Value.ref b.x) := ⟨_, rfl⟩
    obtain ⟨SP, hSP⟩ : ∃ SP, SP = bs.map (fun b : BrkD => Value.ref b.p) := ⟨_, rfl⟩
    have ep : c.prs = SP ++ [.ref bp] := by rw [hSP]; show c.brk.map _ = _; rw [hbk, List.map_append]; rfl
    have eb : c.brs = SX ++ [.ref bx] := by rw [hSX]; show c.brk.map _ = _; rw [hbk, List.map_append]; rfl
    have hbl : bs.length < 31 := by have := congrArg List.length hbk; simp only [List.length_append, List.length_singleton] at this; omega
    have hSXl : SX.length < 31 := by rw [hSX, List.length_map]; exact hbl
    have hSPl : SP.length < 31 := by rw [hSP, List.length_map]; exact hbl
    have eR := O.eqR
    have hnd := O.ndR
    have himm := O.immR
    rw [CellD.bobjs, hbk] at eR hnd himm
    obtain ⟨b1, b2, b3⟩ := brk_last hnd
    rw [bobjs_snoc] at eR himm
    have hfb : ∀ q : Nat, q ∉ fsts (BrkD.objs w ⟨bx, bdx, bp, bK, bt1, bt2, btd, btd', bim, bcd, bkp⟩) → q ∉ ([bx, bdx, bp] : List Nat) := fun q h => h
    obtain ⟨R', hR'⟩ : ∃ R', R' = bs.flatMap (BrkD.objs w) ++ ((pre ++ post).flatMap (CellD.objs w) ++ imm) := ⟨_, rfl⟩
    have hR2 : ∀ q ∈ R, q ∈ (bx, instObj 163 bdx) :: (bdx, brO w bK (.int 0 bt1) (.int 0 bt2) (.bool bim) .none (.bool true) (.bool false) (.int bcd btd)) :: (bp, W.listOf #[.bool bim, .int bcd btd'] bkp) :: R' := by
      rw [eR, hR']
      intro q hq
      rcases List.mem_append.mp hq with hq | hq
      · rcases List.mem_append.mp hq with hq | hq
        · exact .tail _ (.tail _ (.tail _ (List.mem_append_left _ hq)))
        · exact List.mem_append_left (bs := bs.flatMap (BrkD.objs w) ++ ((pre ++ post).flatMap (CellD.objs w) ++ imm)) (as := BrkD.objs w ⟨bx, bdx, bp, bK, bt1, bt2, btd, btd', bim, bcd, bkp⟩) hq
      · exact .tail _ (.tail _ (.tail _ (List.mem_append_right _ hq)))
    have hR'R : ∀ q ∈ R', q ∈ R := by
      rw [eR, hR']
      intro q hq
      rcases List.mem_append.mp hq with hq | hq
      · exact List.mem_append_left _ (List.mem_append_left _ hq)
      · exact List.mem_append_right _ hq
    have hbx : (bx, instObj 163 bdx) ∈ R := by rw [eR]; exact List.mem_append_left _ (List.mem_append_right _ (.head _))
    have hbd : (bdx, brO w bK (.int 0 bt1) (.int 0 bt2) (.bool bim) .none (.bool true) (.bool false) (.int bcd btd)) ∈ R := by rw [eR]; exact List.mem_append_left _ (List.mem_append_right _ (.tail _ (.head _)))
    have hbp : (bp, (W.listOf #[.bool bim, .int bcd btd'] bkp : Obj)) ∈ R := by rw [eR]; exact List.mem_append_left _ (List.mem_append_right _ (.tail _ (.tail _ (.head _))))
    have hR'b : ∀ q ∈ R', q.1 ∉ ([bx, bdx, bp] : List Nat) := by
      rw [hR']
      intro q hq
      rcases List.mem_append.mp hq with hq | hq
      · exact b3 q.1 (List.mem_append_left _ (List.mem_map_of_mem hq))
      · rcases List.mem_append.mp hq with hq | hq
        · exact b3 q.1 (List.mem_append_right _ (List.mem_map_of_mem hq))
        · intro hm
          refine himm q hq (List.mem_append_left _ ?_)
          rw [fsts_app]
          exact List.mem_append_right _ hm
    obtain ⟨x1, x2, x3, x4, x5, x6, x7, x8, x9, x10, x11, x12⟩ := ne12 (O.off _ hbx)
    obtain ⟨y1, y2, y3, y4, y5, y6, y7, y8, y9, y10, y11, y12⟩ := ne12 (O.off _ hbd)
    obtain ⟨z1, z2, z3, z4, z5, z6, z7, z8, z9', z10, z11, z12⟩ := ne12 (O.off _ hbp)
    obtain ⟨m1, m2, m3⟩ := ne3 b2
    have st9' := st9
    k_steps
    rename News g' _ _ _ => nN
    refine AtCall.mk ?_
    refine' tree_use 4 4 rfl (cx_at C' (by omega)) (by assumption) nN ?P1 hp hst hst' ?_
    case P1 => first | walk_at "my pick" | fail
    intro v9 tl9 hg9 z9 p9 tp9 st9 ts9 h9 tk9 F9 N9 hp9 hs9 hs9' hf9 hT9 hh9 hz9
    clear nN
    try k_sweep
    obtain ⟨ta, to, kvs, rfl, hta, hdk, hsk, hzk, hfull⟩ := hT9.full
    have hfL : ∀ q ∈ tl9, @LT.lt Nat _ (L' + 1) q.1 := fun q hq => (hf9 q hq).2 (L' + 1, _) (.head _)
    have h12L : ∀ a : Nat, a < L' → ∀ q ∈ tl9, q.1 ≠ a := fun a ha q hq => Nat.ne_of_gt (Nat.lt_trans ha (Nat.lt_of_succ_lt (hfL q hq)))
    have ltl : @LT.lt Nat _ c.tl L' := h12 c.tl (by simp)
    have lmtl : @LT.lt Nat _ c.mtl L' := h12 c.mtl (by simp)
    have lP : @LT.lt Nat _ P L' := h12 P (by simp)
    have lbd : @LT.lt Nat _ bdx L' := hLR _ hbd
    have lbp : @LT.lt Nat _ bp L' := hLR _ hbp
    have q7 : ∀ q ∈ tl9, q.1 ≠ c.tl := h12L _ ltl
    have q10 : ∀ q ∈ tl9, q.1 ≠ c.mtl := h12L _ lmtl
    have qP : ∀ q ∈ tl9, q.1 ≠ P := h12L _ lP
    have qbd : ∀ q ∈ tl9, q.1 ≠ bdx := h12L _ lbd
    have qbp : ∀ q ∈ tl9, q.1 ≠ bp := h12L _ lbp
    have r7 : NeA ta c.tl := q7 _ hta
    have r10 : NeA ta c.mtl := q10 _ hta
    have rP : NeA ta P := qP _ hta
    have rbd : NeA ta bdx := qbd _ hta
    have rbp : NeA ta bp := qbp _ hta
    have w7 : ∀ q ∈ R', q.1 ≠ c.tl := fun q hq => o7 q (hR'R q hq)
    have w10 : ∀ q ∈ R', q.1 ≠ c.mtl := fun q hq => o10 q (hR'R q hq)
    have wP : ∀ q ∈ R', q.1 ≠ P := fun q hq => o4 q (hR'R q hq)
    have wbd : ∀ q ∈ R', q.1 ≠ bdx := fun q hq => (not3 (hR'b q hq)).2.1
    have wbp : ∀ q ∈ R', q.1 ≠ bp := fun q hq => (not3 (hR'b q hq)).2.2
    obtain ⟨HT, hHT⟩ : ∃ HT : List (Addr × Obj), HT = (sl, W.listOf ((pre ++ c :: post).map fun c => Value.ref c.x).toArray k1) :: (ms, W.listOf ((pre ++ c :: post).map fun c => Value.ref c.md).toArray k2) :: (c.ml, W.listOf #[.bool c.im, .bool c.lk] c.k4) :: (R' ++ tl9) := ⟨_, rfl⟩
    have t7 : ∀ q ∈ HT, q.1 ≠ c.tl := by
      rw [hHT]
      first | k_all | fail
    have t10 : ∀ q ∈ HT, q.1 ≠ c.mtl := by
      rw [hHT]
      first | k_all | fail
    have tP : ∀ q ∈ HT, q.1 ≠ P := by
      rw [hHT]
      first | k_all | fail
    have tbd : ∀ q ∈ HT, q.1 ≠ bdx := by
      rw [hHT]
      first | k_all | fail
    have tbp : ∀ q ∈ HT, q.1 ≠ bp := by
      rw [hHT]
      first | k_all | fail
    have hTT : ∀ q ∈ tl9, q ∈ HT := by rw [hHT]; exact fun q hq => .tail _ (.tail _ (.tail _ (List.mem_append_right _ hq)))
    rw [eb, ep] at N9
    obtain ⟨oc, N8⟩ : ∃ oc : Obj, News g' L' h9 ((ta, to) :: (box, boxO scr p9 st9 tp9 ts9) :: (L' + 1, oc) :: (c.x, instObj 103 c.dx) :: (c.dx, stO w c.K c.e (.str c.src c.ts) c.tl (.bool c.im) (.int c.d c.td) (.bool c.lk) c.bl c.dl) :: (c.tl, W.listOf c.toks.toArray c.k1) :: (c.bl, W.listOf (SX ++ [Value.ref bx]).toArray c.k2) ::
      (c.md, c.om) :: (c.mtl, W.listOf c.mtoks.toArray c.k3) :: (c.mbl, W.listOf (SP ++ [Value.ref bp]).toArray c.k5) ::
      (bx, instObj 163 bdx) :: (bdx, brO w bK (.int 0 bt1) (.int 0 bt2) (.bool bim) .none (.bool true) (.bool false) (.int bcd btd)) :: (bp, W.listOf #[.bool bim, .int bcd btd'] bkp) :: (P, tabObj ps) :: HT) :=
      ⟨_, by rw [hHT]; exact news_sub N9 (sub_cons (.tail _ (List.mem_append_left _ hta)) (by walk_at "my sub"))⟩
    clear N9 hf9
    k_steps
    have ll8 := lo8
    have u7 : NeA c.tl d8 := Nat.ne_of_lt (show @LT.lt Nat _ c.tl d8 by omega)
    have u10 : NeA c.mtl d8 := Nat.ne_of_lt (show @LT.lt Nat _ c.mtl d8 by omega)
    have uP : NeA P d8 := Nat.ne_of_lt (show @LT.lt Nat _ P d8 by omega)
    have ubd : NeA bdx d8 := Nat.ne_of_lt (show @LT.lt Nat _ bdx d8 by omega)
    have ubp : NeA bp d8 := Nat.ne_of_lt (show @LT.lt Nat _ bp d8 by omega)
    have hL8 : @LT.lt Nat _ (L' + 1) d8 := by omega
    have hes : ∀ q ∈ (d8, o8) :: tl9, @LT.lt Nat _ L' q.1 := by
      intro q hq
      rcases List.mem_cons.mp hq with rfl | hq
      · exact Nat.lt_of_succ_lt hL8
      · exact Nat.lt_of_succ_lt (hfL q hq)
    have hfin : ∀ (ncd : Nat) (tA tB : Tok) (kq kp' : Nat) (ps' : Array Value) (h' : Heap) (tk' : Nat) (g8 : Array GenState), Fr h₀ L h' m → News h₀ L h' ((box, boxO scr p9 st9 tp9 ts9) :: (c.x, instObj 103 c.dx) :: (c.dx, stO w c.K c.e (.str c.src c.ts) c.tl (.bool c.im) (.int c.d c.td) (.bool c.lk) c.bl c.dl) :: (c.tl, W.listOf (c.toks ++ [Value.ref d8]).toArray kp') :: (c.bl, W.listOf (SX ++ [Value.ref bx]).toArray c.k2) ::
      (c.md, c.om) :: (c.mtl, W.listOf (c.mtoks ++ [Value.ref ta]).toArray (c.k3 + 1)) :: (c.mbl, W.listOf (SP ++ [Value.ref bp]).toArray c.k5) ::
      (bx, instObj 163 bdx) :: (bdx, brO w bK (.int 0 bt1) (.int 0 bt2) (.bool bim) .none (.bool true) (.bool false) (.int ncd tA)) :: (bp, W.listOf #[.bool bim, .int ncd tB] kq) :: (P, tabObj ps') :: (d8, o8) :: HT) → TriplesOk ps'.toList → AllBare g8 → Q (.bool true) { s with heap := h', toks := tk', gens := g8 } := by
      intro ncd tA tB kq kp' ps' h' tk' g8 FF NN ht8 hb8
      obtain ⟨b', hb'⟩ : ∃ b' : BrkD, b' = ⟨bx, bdx, bp, bK, bt1, bt2, tA, tB, bim, ncd, kq⟩ := ⟨_, rfl⟩
      have hbo : b'.objs w = [(bx, instObj 163 bdx), (bdx, brO w bK (.int 0 bt1) (.int 0 bt2) (.bool bim) .none (.bool true) (.bool false) (.int ncd tA)), (bp, W.listOf #[.bool bim, .int ncd tB] kq)] := by subst hb'; rfl
      have hbX : b'.x = bx := by subst hb'; rfl
      have hbP : b'.p = bp := by subst hb'; rfl
      clear hb'
      have hfe : fsts ((bs ++ [b']).flatMap (BrkD.objs w)) = fsts (c.bobjs w) := by rw [CellD.bobjs, hbk, bobjs_snoc, bobjs_snoc, fsts_app, fsts_app, hbo]; rfl
      have hnn := O.ndR
      have hii := imm_fresh (es := (d8, o8) :: tl9) O.eqR O.immR (fun q hq r hr => Nat.lt_trans (hLR r hr) (hes q hq))
      rw [← hfe] at hnn hii
      have hoff : ∀ q ∈ (bs ++ [b']).flatMap (BrkD.objs w) ++ ((pre ++ post).flatMap (CellD.objs w) ++ imm), q.1 ∉ ([box, sl, ms, P, c.x, c.dx, c.tl, c.bl, c.md, c.mtl, c.ml, c.mbl] : List Nat) := by
        intro q hq
        have hq0 : ∃ q0 ∈ R, @Eq Nat q0.1 q.1 := by
          rcases List.mem_append.mp hq with hq | hq
          · have h1 : q.1 ∈ fsts (c.bobjs w) := hfe ▸ List.mem_map_of_mem hq
            obtain ⟨q0, h2, h3⟩ := fsts_mem h1
            exact ⟨q0, by rw [O.eqR]; exact List.mem_append_left _ h2, h3⟩
          · exact ⟨q, by rw [O.eqR]; exact List.mem_append_right _ hq, rfl⟩
        obtain ⟨q0, h2, h3⟩ := hq0
        rw [← h3]
        exact O.off q0 h2
      refine ret (pre ++ { c with brk := bs ++ [b'], toks := c.toks ++ [.ref d8], mtoks := c.mtoks ++ [.ref ta], k1 := kp', k3 := c.k3 + 1 } :: post) _ _ _ FF (V.close (p' := p9) (st' := st9) (tp' := tp9) (ts' := ts9) (k1' := k1) (k2' := k2) (ps' := ps') O (Nat.le_succ n) (es := (d8, o8) :: tl9) (R' := (bs ++ [b']).flatMap (BrkD.objs w) ++ ((pre ++ post).flatMap (CellD.objs w) ++ imm)) ?n0 rfl hp9 hs9 hs9' ht8 hb8 rfl rfl rfl O.nd (off_es hoff h12 hes) hnn hii ?n4) (by simp)
      case n0 =>
        have ex : (bs ++ [b']).map (fun b => Value.ref b.x) = SX ++ [Value.ref bx] := by rw [List.map_append, hSX]; simp [hbX]
        have ey : (bs ++ [b']).map (fun b => Value.ref b.p) = SP ++ [Value.ref bp] := by rw [List.map_append, hSP]; simp [hbP]
        dsimp only [CellD.own, CellD.brs, CellD.prs]
        rw [ex, ey, bobjs_snoc, hbo]
        rw [hHT, hR'] at NN
        dsimp only [List.cons_append, List.nil_append]
        exact news_sub NN (by walk_at "my sub")
      case n4 =>
        have hm := hG.mono (imm' := ((d8, o8) :: tl9) ++ imm) (fun _ h => List.mem_append_right _ h) (Nat.le_succ n)
        exact { hm with
          len := by show (c.toks ++ _).length = (c.mtoks ++ _).length; rw [List.length_append, List.length_append, hG.len]; rfl
          toks := twin_snoc hG.len hm.toks ⟨d8, ta, o8, to, kvs, rfl, rfl, .head _, .tail _ (List.mem_append_left _ hta), hd8, hdk, lo8, hsk⟩
          nt := by show (c.toks ++ _).length ≤ n + 1; rw [List.length_append, List.length_singleton]; omega
          nb := by
            show (bs ++ [b']).length ≤ n + 1
            have q := congrArg List.length hbk
            rw [List.length_append, List.length_singleton] at q ⊢
            omega }
    replace hfin := Hide.mk hfin
    have eSP : (SP ++ [Value.ref bp]).isEmpty = false := by simp
    rename News g' _ _ _ => nN
    clear l1
    rcases hfull with hc0 | ⟨cc, vs, kk, h', z', hc0, hcl, hts, rfl, rfl⟩
    · have hc' : (valueAt kvs (Str.ofString "children")).isSome = false := by rw [hc0]; rfl
      refine AtCall.mk ?_
      refine' append_plain (toks := c.toks) (brs := SX ++ [Value.ref bx]) (kvs := kvs) (rest := (ta, to) :: (box, boxO scr p9 st9 tp9 ts9) :: (L' + 1, oc) :: (c.md, c.om) :: (c.mtl, W.listOf c.mtoks.toArray c.k3) :: (c.mbl, W.listOf (SP ++ [Value.ref bp]).toArray c.k5) :: (bx, instObj 163 bdx) :: (bdx, brO w bK (.int 0 bt1) (.int 0 bt2) (.bool bim) .none (.bool true) (.bool false) (.int bcd btd)) :: (bp, W.listOf #[.bool bim, .int bcd btd'] bkp) :: (P, tabObj ps) :: HT)
        (cx_at C' (by omega)) (by assumption) (news_sub nN (by walk_at "my sub")) n5_7 n6_7 n7_8 u7 ?oo (by omega) hd8 lo8 ?zb (.inr hc0) ?_
      case oo => first | k_all | fail
      case zb => rw [List.length_append, List.length_singleton]; omega
      intro kp' h7 tk7 F7 N7
      clear nN
      try k_sweep
      have dd8 := Hide.mk hd8
      clear hd8
      k_steps
      rename News g' _ _ _ => nN
      refine ⟨truth_list nN (by k_mem) (by rw [List.length_append, List.length_singleton]; omega) fun tk9 => ?_⟩
      rw [eSP]
      k_steps
      rename News h₀ _ _ _ => nZ
      simp only [List.push_toArray] at nZ
      exact hfin.out bcd btd btd' bkp kp' ps _ _ _ (by assumption) (news_sub nZ (by walk_at "my sub")) O.tri hb0
    · have hc' : (valueAt kvs (Str.ofString "children")).isSome = true := by rw [hc0]; rfl
      have hclT : (cc, (W.listOf vs.toArray kk : Obj)) ∈ HT := hTT _ hcl
      have htsT : Tkns w HT vs h' z' := hts.mono hTT
      have hT9' := hT9.mono hTT
      have hcct : @Ne Nat cc c.tl := q7 _ hcl
      have hz' : z' ≤ 4000 := by omega
      obtain ⟨b9, hb9⟩ : ∃ b9, (valueAt kvs (Str.ofString "_autolink")).isSome = b9 := ⟨_, rfl⟩
      by_cases hlift : bim = true ∨ b9 = false
      · have hau : bim = true ∨ valueAt kvs (Str.ofString "_autolink") = none := by
          rcases hlift with h | h
          · exact .inl h
          · rw [h] at hb9
            exact .inr (by cases hq : valueAt kvs (Str.ofString "_autolink") with
              | none => rfl
              | some x => rw [hq] at hb9; cases hb9)
        refine AtCall.mk ?_
        refine' append_lift (scr := scr) (P := P) (toks := c.toks) (bs := SX) (bx := bx) (bdx := bdx) (kvs := kvs) (vs := vs) (kk := kk) (H := h') (Z := z') (ps := ps) (rest := (ta, to) :: (box, boxO scr p9 st9 tp9 ts9) :: (L' + 1, oc) :: (c.md, c.om) :: (c.mtl, W.listOf c.mtoks.toArray c.k3) :: (c.mbl, W.listOf (SP ++ [Value.ref bp]).toArray c.k5) :: (bp, W.listOf #[.bool bim, .int bcd btd'] bkp) :: HT)
          (cx_at C' (by omega)) (by assumption) (news_sub nN (by walk_at "my sub")) n5_7 n6_7 n7_8 u7 (NeA.en x7) (NeA.en y7) (NeA.en n4_7) ?oo (NeA.en y5) (NeA.en y6) (NeA.en y8) (NeA.en ubd) m1 y4 ?o2 (by omega) hd8 lo8 (by omega) hc0 hau ?mc (htsT.mono ?mt) hz' hzk hcct (G.keeps st9') O.tri hb0 (NeA.en n4_5) (NeA.en n4_6) (NeA.en n4_8) (NeA.en uP) x4 ?o3 ?_
        case oo => first | k_all | fail
        case o2 => first | k_all | fail
        case o3 => first | k_all | fail
        case mc => walk_at "my mem"
        case mt => walk_at "my atom"
        intro kp' t7 ps7 h7 tk7 g7 F7 N7 ht7 hb7
        clear nN
        try k_sweep
        have dd8 := Hide.mk hd8
        clear hd8
        k_steps
        rename News g' _ _ _ => nN
        refine ⟨truth_list nN (by k_mem) (by rw [List.length_append, List.length_singleton]; omega) fun tk9 => ?_⟩
        rw [eSP]
        k_steps
        k_here
        rename News g' _ _ _ => nY
        refine kdg_notin (knd := PySem.strKind PR w) nY (by k_mem) hdk hsk (strKind_is _ _ _ _) b9 hb9 ?_
        cases b9 with
        | false =>
          k_steps
          rename News g' _ _ _ => nX
          rename Fr g' _ _ _ => nF
          refine AtCall.mk ?_
          refine high_spec (h' + 1) (cx_at C' (by omega)) nF nX (Tkn.mono (by walk_at "my atom") hT9') (fun t8 h8 tk8 F8 N8 => ?_)
          clear nF nX
          dsimp only
          k_steps
          rename News h₀ _ _ _ => nZ
          simp only [max_cast] at nZ
          exact hfin.out (max bcd (h' + 1)) _ _ _ kp' ps7 _ _ _ (by assumption) (news_sub nZ (by walk_at "my sub")) ht7 hb7
        | true =>
          obtain rfl : bim = true := by
            rcases hlift with h | h
            · exact h
            · cases h
          k_steps
          rename News g' _ _ _ => nX
          rename Fr g' _ _ _ => nF
          refine AtCall.mk ?_
          refine high_spec (h' + 1) (cx_at C' (by omega)) nF nX (Tkn.mono (by walk_at "my atom") hT9') (fun t8 h8 tk8 F8 N8 => ?_)
          clear nF nX
          dsimp only
          k_steps
          rename News h₀ _ _ _ => nZ
          simp only [max_cast] at nZ
          exact hfin.out (max bcd (h' + 1)) _ _ _ kp' ps7 _ _ _ (by assumption) (news_sub nZ (by walk_at "my sub")) ht7 hb7
      · obtain rfl : bim = false := by
          cases bim with
          | false => rfl
          | true => exact absurd (.inl rfl) hlift
        obtain rfl : b9 = true := by
          cases b9 with
          | true => rfl
          | false => exact absurd (.inr rfl) hlift
        refine AtCall.mk ?_
        refine' append_auto (scr := scr) (P := P) (c := cc) (kk := 0) (toks := c.toks) (bs := SX) (bx := bx) (bdx := bdx) (kvs := kvs) (ps := ps) (rest := (ta, to) :: (box, boxO scr p9 st9 tp9 ts9) :: (L' + 1, oc) :: (c.md, c.om) :: (c.mtl, W.listOf c.mtoks.toArray c.k3) :: (c.mbl, W.listOf (SP ++ [Value.ref bp]).toArray c.k5) :: (bp, W.listOf #[.bool false, .int bcd btd'] bkp) :: HT)
          (cx_at C' (by omega)) (by assumption) (news_sub nN (by walk_at "my sub")) n5_7 n6_7 n7_8 u7 (NeA.en x7) (NeA.en y7) (NeA.en n4_7) ?oo (NeA.en y5) (NeA.en y6) (NeA.en y8) (NeA.en ubd) m1 y4 ?o2 (by omega) hd8 lo8 (by omega) hc0 hb9 rfl ?_
        case oo => first | k_all | fail
        case o2 => first | k_all | fail
        intro kp' h7 tk7 F7 N7
        clear nN
        try k_sweep
        have dd8 := Hide.mk hd8
        clear hd8
        k_steps
        rename News g' _ _ _ => nN
        refine ⟨truth_list nN (by k_mem) (by rw [List.length_append, List.length_singleton]; omega) fun tk9 => ?_⟩
        rw [eSP]
        k_steps
        k_here
        rename News g' _ _ _ => nY
        refine kdg_notin (knd := PySem.strKind PR w) nY (by k_mem) hdk hsk (strKind_is _ _ _ _) true hb9 ?_
        k_steps
        rename News h₀ _ _ _ => nZ
        simp only [List.push_toArray] at nZ
        exact hfin.out bcd btd btd' bkp kp' ps _ _ _ (by assumption) (news_sub nZ (by walk_at "my sub")) O.tri hb0
end

section
/-- each deed -/
theorem deed_all {w : World} {kp : List (Addr × Obj)} {A : Around} {s : Shared} {h₀ : Heap} {L scr P : Addr} {m : Str → Option Value} {Q E : Value → Shared → Prop} {n : Nat} {box sl ms e0 e1 : Addr} {cs : List CellD} {d k : Int} {dt kt : Tok}
    (C : Cx w A h₀ L scr 12) (F : Fr h₀ L s.heap m) (V : Inv w kp h₀ L scr P n box sl ms e0 e1 cs s.heap s.gens) (G : Gx h₀ P) (d0 : 0 ≤ d) (d9 : d < 9) (k0 : 0 ≤ k) (k9 : k < cs.length) (hn : n ≤ 30)
    (ret : ∀ (cs' : List CellD) (h' : Heap) (tk' : Nat) (g' : Array GenState), Fr h₀ L h' m → Inv w kp h₀ L scr P (n + 1) box sl ms e0 e1 cs' h' g' → cs.length ≤ cs'.length → Q (.bool true) { s with heap := h', toks := tk', gens := g' }) :
    wpAny (model PySem.Challenge.rw_bq5016_01.row.prog w) A (call (.ref 213) [.ref box, .int d dt, .int k kt, .ref sl, .ref ms]) Q E s := by
  have hd : d = 0 ∨ d = 1 ∨ d = 2 ∨ d = 3 ∨ d = 4 ∨ d = 5 ∨ d = 6 ∨ d = 7 ∨ d = 8 := by omega
  have C9 : Cx w A h₀ L scr 9 := C.less (by omega)
  rcases hd with rfl | rfl | rfl | rfl | rfl | rfl | rfl | rfl | rfl
  · exact deedV0 C9 F V G k0 k9 hn ret
  · exact deedV1 C F V G k0 k9 hn ret
  · exact deedV2 C9 F V G k0 k9 hn ret
  · exact deedV3 C9 F V G k0 k9 hn ret
  · exact deedV4 C9 F V G k0 k9 hn ret
  · exact deedV5 C9 F V G k0 k9 hn ret
  · exact deedV6 C9 F V G k0 k9 hn ret
  · exact deedV7 C9 F V G k0 k9 hn ret
  · exact deedV8 C F V G k0 k9 hn ret
end

section
/-- a loop over a walk of one new iterator -/
def LoopN (w : World) (A : Around) (h₀ : Heap) (env : Env) (x : Str) (body : List Stmt) (Q : Flow → Shared → Prop) (it : Value) (s₂ : Shared) : Prop :=
  ∃ (I : Addr) (fp : List Addr) (n : Nat) (P : Nat → Value → Prop) (St : Nat → Heap → Prop) (J : Nat → (Str → Option Value) → List (Addr × Obj) → Array GenState → Prop) (m : Str → Option Value) (news : List (Addr × Obj)),
    it = .ref I ∧ Walks PR w A I fp [I] n P St ∧ env.locals ∉ fp ∧ (∀ b ∈ fp, b ≠ I → ∀ i m' nw' g', J i m' nw' g' → ∃ o, (b, o) ∈ nw' ∧ (b, o) ∈ news) ∧ h₀.get? I = none ∧ St 0 s₂.heap ∧ (∀ i h, St i h → ∃ oI, h.get? I = some oI) ∧ Fr h₀ env.locals s₂.heap m ∧ News h₀ env.locals s₂.heap news ∧ (∀ p ∈ news, p.1 ≠ I) ∧ J 0 m news s₂.gens ∧
    (∀ i v m₁ nw₁ g₁ h₁ tk₁ oI, i < n → P i v → St (i + 1) h₁ → J i m₁ nw₁ g₁ → (∀ p ∈ nw₁, p.1 ≠ I) → Fr h₀ env.locals h₁ (fun y => if y = x then some v else m₁ y) → News h₀ env.locals h₁ ((I, oI) :: nw₁) →
      wpAny (model PR w) A (execs body env) (TurnPost h₀ env.locals I oI (J (i + 1)) s₂ Q) (fun _ _ => False) { s₂ with heap := h₁, toks := tk₁, gens := g₁ }) ∧
    ∀ h' tk' m' nw' g', J n m' nw' g' → Fr h₀ env.locals h' m' → News h₀ env.locals h' nw' → Q .next { s₂ with heap := h', toks := tk', gens := g' }

/-- a loop's iterable is at hand: the walk stops here -/
structure AtIterN (w : World) (A : Around) (h₀ : Heap) (env : Env) (x : Str) (body : List Stmt) (Q : Flow → Shared → Prop) (E : Value → Shared → Prop) (xv : Value) (s₁ : Shared) : Prop where
  go : wpAny (model PR w) A (pyIter xv) (fun it s₂ => LoopN w A h₀ env x body Q it s₂) E s₁

theorem for_ruleN {w : World} {A : Around} {s : Shared} {env : Env} {E : Value → Shared → Prop} {Q : Flow → Shared → Prop} {x : Str} {px pos : Pos} {iter : Expr} {body : List Stmt} {h₀ : Heap} {m₀ : Str → Option Value} (_F : Fr h₀ env.locals s.heap m₀) (hx : env.kindOf x = some .local)
    (hp : (env.scope.kind == .class || (env.scope.kind == .module && env.locals != env.globals)) = false)
    (h : wpAny (model PR w) A (eval iter env) (fun xv s₁ => AtIterN w A h₀ env x body Q E xv s₁) E s)
    (hs : ∀ x, foldedSetIterable iter env x = pure x := by intro _; rfl) :
    wpAny (model PR w) A (exec (.For (.Name x px) iter body [] pos) env) Q E s := by
  refine wpAny_For (wpAny_mono h (fun xv s₁ h₁ => wpAny_mono h₁.go (fun it s₂ h₂ => ?_) fun _ _ e => e) fun _ _ e => e) hs
  obtain ⟨I, fp, n, P, St, J, m, news, rfl, W, hLf, hfp, hI, hst, hsome, F, N, hnw, h0, turn, done⟩ := h₂
  have hIf : I ∈ fp := W.sub I (by simp)
  have hLI : env.locals ≠ I := fun e => hLf (e ▸ hIf)
  refine codeAny_forLoop
    (fun k s' => ∃ h' tk g' m' nw' i, s' = { s₂ with heap := h', toks := tk, gens := g' } ∧ St i h' ∧ Fr h₀ env.locals h' m' ∧ News h₀ env.locals h' nw' ∧ (∀ p ∈ nw', p.1 ≠ I) ∧ J i m' nw' g' ∧ i ≤ n ∧ k = n + 1 - i) ?_ (n + 1)
    ⟨s₂.heap, s₂.toks, s₂.gens, m, news, 0, rfl, hst, F, N, hnw, h0, Nat.zero_le _, rfl⟩
  rintro k s' ⟨h', tk, g', m', nw', i, rfl, hst', F', N', hnw', hJ, hi, rfl⟩
  have next : ∀ h₁ : Heap, (∀ b o, b ∉ [I] → h'.get? b = some o → h₁.get? b = some o) → Fr h₀ env.locals h₁ m' ∧ News h₀ env.locals h₁ nw' := fun h₁ hk₁ =>
    ⟨⟨F'.ns.at' fun o e => hk₁ _ o (by simpa using hLI) e, fun b o e => hk₁ b o (by simp only [List.mem_singleton]; rintro rfl; rw [hI] at e; cases e) (F'.keep b o e), F'.above⟩, fun p hp => ⟨hk₁ _ _ (by simpa using hnw' p hp) (N' p hp).1, (N' p hp).2⟩⟩
  by_cases hlt : i < n
  · refine W.item i _ _ _ hlt hst' fun v h₁ tk₁ hP hst₁ hk₁ => ?_
    obtain ⟨F₁, N₁⟩ := next h₁ hk₁
    refine wpAny_assign_Name (wpAny_storeName_local hx F₁.ns (fun h₂ hn₂ hs₂ => ?_) hp)
    have F₂ := F₁.set hn₂ hs₂
    have N₂ := N₁.set hs₂
    have hst₂ : St (i + 1) h₂ := W.frame _ _ _ hst₁ fun b hb o e => (hs₂.2 b fun q => hLf (q ▸ hb)).trans e
    obtain ⟨oI₂, hI₂⟩ := hsome _ _ hst₂
    · have NI : News h₀ env.locals h₂ ((I, oI₂) :: nw') := fun p hp => by
        rcases List.mem_cons.mp hp with rfl | hp
        · exact ⟨hI₂, fun e => hLI e.symm, hI⟩
        · exact N₂ p hp
      refine wpAny_mono (turn i v m' nw' g' h₂ _ oI₂ hlt hP hst₂ hJ hnw' F₂ NI) (fun f s₃ h₃ => ?_) fun _ _ e => e.elim
      have fin : TurnEnd h₀ env.locals I oI₂ (J (i + 1)) s₂ s₃ → ∃ mm, mm < n + 1 - i ∧ ∃ h' tk g' m' nw' i, s₃ = { s₂ with heap := h', toks := tk, gens := g' } ∧ St i h' ∧ Fr h₀ env.locals h' m' ∧ News h₀ env.locals h' nw' ∧ (∀ p ∈ nw', p.1 ≠ I) ∧ J i m' nw' g' ∧ i ≤ n ∧ mm = n + 1 - i := by
        rintro ⟨H₃, tk₃, g₃, m₃, nw₃, rfl, F₃, N₃, hn₃, hJ₃⟩
        refine ⟨n + 1 - (i + 1), by omega, H₃, tk₃, g₃, m₃, nw₃, i + 1, rfl, ?_, F₃, fun p hp => N₃ p (.tail _ hp), hn₃, hJ₃, hlt, rfl⟩
        refine W.frame _ _ _ hst₂ fun b hb o e => ?_
        by_cases hbI : b = I
        · subst hbI; rw [hI₂] at e; cases e; exact (N₃ _ (.head _)).1
        · obtain ⟨o₁, hm₁, hmn⟩ := hfp b hb hbI _ _ _ _ hJ
          obtain ⟨o₂, hm₂, hmn₂⟩ := hfp b hb hbI _ _ _ _ hJ₃
          have e1 := (N _ hmn).1
          have e2 := (N _ hmn₂).1
          rw [e1] at e2; cases e2
          have e3 := (N₂ _ hm₁).1
          rw [e] at e3; cases e3
          exact (N₃ _ (.tail _ hm₂)).1
      cases f with
      | ret v => exact h₃
      | brk => exact h₃
      | cont => exact fin h₃
      | next => exact fin h₃
  · have hin : i = n := by omega
    subst hin
    refine W.done _ _ _ hst' fun h₁ tk₁ hk₁ => wpAny_execs_nil ?_
    obtain ⟨F₁, N₁⟩ := next h₁ hk₁
    exact done h₁ tk₁ m' nw' g' hJ F₁ N₁

section
variable {w : World} {A : Around} {s : Shared} {env : Env} {E : Value → Shared → Prop} {Q : Flow → Shared → Prop} {x : Str} {body : List Stmt} {h₀ : Heap} {m : Str → Option Value} {news : List (Addr × Obj)}
/-- over a range from 0 -/
theorem iter_rangeN {r : Addr} {b₀ : Int} {t₀ u₀ v₀ : Tok} (J : Nat → (Str → Option Value) → List (Addr × Obj) → Array GenState → Prop)
    (hh : A.handled = none) (F : Fr h₀ env.locals s.heap m) (N : News h₀ env.locals s.heap news) (hm : (r, rangeO b₀ t₀ u₀ v₀) ∈ news) (hlo : 0 ≤ b₀) (hhi : b₀ < 1000) (h0 : J 0 m news s.gens)
    (turn : ∀ (i : Nat) t m₁ nw₁ g₁ h₁ tk₁ I oI, i < b₀.toNat → (∃ fs, oI.data = .fields fs) → J i m₁ nw₁ g₁ → (∀ p ∈ nw₁, p.1 ≠ I) → (∀ p ∈ news, p.1 < I) → Fr h₀ env.locals h₁ (fun y => if y = x then some (.int i t) else m₁ y) → News h₀ env.locals h₁ ((I, oI) :: nw₁) →
      wpAny (model PR w) A (execs body env) (TurnPost h₀ env.locals I oI (J (i + 1)) s Q) (fun _ _ => False) { s with heap := h₁, toks := tk₁, gens := g₁ })
    (done : ∀ h' tk' m' nw' g', J b₀.toNat m' nw' g' → Fr h₀ env.locals h' m' → News h₀ env.locals h' nw' → Q .next { s with heap := h', toks := tk', gens := g' }) :
    AtIterN w A h₀ env x body Q E (.ref r) s := by
  refine ⟨?_⟩
  have hr : IsRange s.heap r 0 b₀ 1 t₀ u₀ v₀ := (N _ hm).1
  have hn : Builtin.Range.rangeSize 0 b₀ 1 = (b₀.toNat : Int) := by rw [rangeSize_one]; split <;> omega
  refine wpAny_pyIter_range hr (small_one (by decide) (by decide) (by omega) (by omega)) ?_
  have W := Walks.range (prog := PR) (w := w) hh s.heap.objs.size 0 1 b₀.toNat
  refine ⟨_, _, _, _, _, J, m, news, rfl, W, ?_, ?_, next_is_new F, ?_, ?_, F.push _, (fun p hp => ⟨Heap.get?_push_of_some _ (N p hp).1, (N p hp).2⟩), ?_, h0, ?_, ?_⟩
  · intro hmm
    exact absurd F.ns.lt ((List.mem_singleton.mp hmm) ▸ Nat.lt_irrefl _)
  · intro b hb hbI
    exact absurd (List.mem_singleton.mp hb) hbI
  · show IsRangeIter _ _ _ _ _
    rw [hn]
    simpa using Heap.get?_push_size _ rfl
  · exact fun i h ho => ⟨_, ho⟩
  · intro p hp e
    exact absurd (Heap.lt_size (N p hp).1) (by rw [e]; exact Nat.lt_irrefl _)
  · rintro i v m₁ nw₁ g₁ h₁ tk₁ oI hi ⟨t, rfl⟩ hst hj hn F₁ N₁
    have hcl : ∃ fs, oI.data = .fields fs := by
      have q1 := (N₁ _ (.head _)).1
      unfold IsRangeIter at hst
      rw [hst] at q1
      cases q1
      exact ⟨_, rfl⟩
    have e1 : (0 : Int) + (i : Int) * 1 = (i : Int) := by omega
    rw [e1] at F₁
    exact turn i t m₁ nw₁ g₁ h₁ tk₁ _ oI hi hcl hj hn (fun p hp => Heap.lt_size (N p hp).1) F₁ N₁
  · exact fun h' tk' m' nw' g' hj F' N' => done h' tk' m' nw' g' hj F' N'
end
end
local macro_rules | `(tactic| walk_at "exec For Name Call cons nil") => `(tactic| (k_here; k_dflt (refine' for_ruleN ?F ?a ?b ?_; (case F => k_asm); (case a => rfl); (case b => rfl))))
local macro_rules | `(tactic| walk_at "exec For") => `(tactic| (k_here; k_dflt (refine' for_ruleN ?F ?a ?b ?_; (case F => k_asm); (case a => rfl); (case b => rfl))))
section
/-- what holds between the turns, told of a ledger -/
structure InvL (w : World) (scr P : Addr) (n : Nat) (box sl ms e0 e1 : Addr) (cs : List CellD) (nw : List (Addr × Obj)) (g : Array GenState) : Prop where
  go : ∃ (p st : Int) (tp ts : Tok) (k1 k2 : Nat) (ps : Array Value) (imm : List (Addr × Obj)),
    nw = (box, boxO scr p st tp ts) :: (sl, W.listOf (cs.map fun c => Value.ref c.x).toArray k1) :: (ms, W.listOf (cs.map fun c => Value.ref c.md).toArray k2) :: (P, tabObj ps) :: (cs.flatMap (CellD.objs w) ++ imm) ∧
    0 ≤ p ∧ 0 ≤ st ∧ st < 2147483647 ∧ TriplesOk ps.toList ∧ ([box, sl, ms, P] ++ fsts (cs.flatMap (CellD.objs w)) : List Nat).Nodup ∧ (∀ q ∈ imm, q.1 ∉ ([box, sl, ms, P] ++ fsts (cs.flatMap (CellD.objs w)) : List Nat)) ∧ ∀ c ∈ cs, Good w imm n c
  bare : AllBare g
  envs : ∃ es, cs.map (·.e) = e0 :: e1 :: es
  ne : @Ne Nat e0 e1
  few : cs.length ≤ 6
theorem kept_mem {h₀ h : Heap} {L I : Addr} {oI : Obj} {nw imm : List (Addr × Obj)} (N : News h₀ L h nw) (hs : ∀ q ∈ imm, q ∈ nw) (hI : (I, oI) ∈ nw) (hcl : ∃ fs, oI.data = .fields fs) {a : Addr} {o : Obj} (hm : (a, o) ∈ imm) (hc : ∀ fs, o.data ≠ .fields fs) :
    (a, o) ∈ imm.filter fun q => decide (@Ne Nat q.1 I) := by
  refine List.mem_filter.mpr ⟨hm, decide_eq_true ?_⟩
  intro e
  have h1 := (N _ (hs _ hm)).1
  have h2 := (N _ hI).1
  dsimp only at e h1 h2
  rw [e, h2] at h1
  cases h1
  obtain ⟨fs, hfs⟩ := hcl
  exact hc fs hfs
theorem dict_cls {w : World} {o : Obj} {kvs : List (Str × Value)} (d : o.IsDictOf (PySem.strKind PR w) kvs) : ∀ fs, o.data ≠ .fields fs := by
  obtain ⟨_, _, _, hc, _⟩ := d
  intro fs e
  rw [hc] at e
  cases e
theorem good_drop {w : World} {h₀ h : Heap} {L I : Addr} {oI : Obj} {nw imm : List (Addr × Obj)} {n : Nat} {c : CellD} (N : News h₀ L h nw) (hs : ∀ q ∈ imm, q ∈ nw) (hI : (I, oI) ∈ nw) (hcl : ∃ fs, oI.data = .fields fs) (G : Good w imm n c) :
    Good w (imm.filter fun q => decide (@Ne Nat q.1 I)) n c := by
  have tw : ∀ {u v : Value}, TwinAt w imm u v → TwinAt w (imm.filter fun q => decide (@Ne Nat q.1 I)) u v := fun ⟨a, b, oa, ob, kvs, e1, e2, m1, m2, d1, d2, r⟩ =>
    ⟨a, b, oa, ob, kvs, e1, e2, kept_mem N hs hI hcl m1 (dict_cls d1), kept_mem N hs hI hcl m2 (dict_cls d2), d1, d2, r⟩
  have hsc : ScanAt w (imm.filter fun q => decide (@Ne Nat q.1 I)) c.dl c.kept c.seen := by
    rcases G.scan with h | ⟨sc, sdx, en, K, x, t, t', e1, e2, e3, m1, m2⟩
    · exact .inl h
    · exact .inr ⟨sc, sdx, en, K, x, t, t', e1, e2, e3, kept_mem N hs hI hcl m1 (by intro fs e; cases e), kept_mem N hs hI hcl m2 (by intro fs e; cases e)⟩
  exact { G with env := tw G.env, toks := fun j h1 h2 => tw (G.toks j h1 h2), scan := hsc }
theorem Inv.drop {w : World} {h₀ : Heap} {L scr P : Addr} {n : Nat} {box sl ms e0 e1 I : Addr} {oI : Obj} {cs : List CellD} {h : Heap} {g : Array GenState} (V : Inv w [(I, oI)] h₀ L scr P n box sl ms e0 e1 cs h g) (hcl : ∃ fs, oI.data = .fields fs) :
    ∃ nw, News h₀ L h ((I, oI) :: nw) ∧ (∀ p ∈ nw, p.1 ≠ I) ∧ InvL w scr P n box sl ms e0 e1 cs nw g := by
  obtain ⟨p, st, tp, ts, k1, k2, ps, imm, N, hp, hst, hst', htr, nd, himm, hkp, good⟩ := V.go
  have hI : (I, oI) ∈ imm := hkp _ (.head _)
  have hIn := himm _ hI
  have hf : ∀ q ∈ imm.filter (fun q => decide (@Ne Nat q.1 I)), q ∈ imm := fun q hq => (List.mem_filter.mp hq).1
  refine ⟨(box, boxO scr p st tp ts) :: (sl, W.listOf (cs.map fun c => Value.ref c.x).toArray k1) :: (ms, W.listOf (cs.map fun c => Value.ref c.md).toArray k2) :: (P, tabObj ps) :: (cs.flatMap (CellD.objs w) ++ imm.filter fun q => decide (@Ne Nat q.1 I)), news_sub N ?_, ?_, ⟨⟨p, st, tp, ts, k1, k2, ps, _, rfl, hp, hst, hst', htr, nd, fun q hq => himm q (hf q hq), fun c hc => good_drop N (fun q hq => ?_) ?_ hcl (good c hc)⟩, V.bare, V.envs, V.ne, V.few⟩⟩
  · intro q hq
    simp only [List.mem_cons, List.mem_append] at hq ⊢
    rcases hq with hq | hq | hq | hq | hq | hq | hq
    · rw [hq]; exact .inr (.inr (.inr (.inr (.inr hI))))
    · exact .inl hq
    · exact .inr (.inl hq)
    · exact .inr (.inr (.inl hq))
    · exact .inr (.inr (.inr (.inl hq)))
    · exact .inr (.inr (.inr (.inr (.inl hq))))
    · exact .inr (.inr (.inr (.inr (.inr (hf q hq)))))
  · intro q hq e
    simp only [List.mem_append, List.mem_cons, List.not_mem_nil, or_false, not_or] at hIn
    obtain ⟨⟨i1, i2, i3, i4⟩, i5⟩ := hIn
    simp only [List.mem_cons, List.mem_append] at hq
    rcases hq with hq | hq | hq | hq | hq | hq
    · exact i1 (by rw [← e, hq])
    · exact i2 (by rw [← e, hq])
    · exact i3 (by rw [← e, hq])
    · exact i4 (by rw [← e, hq])
    · exact i5 (e ▸ List.mem_map_of_mem hq)
    · exact absurd e (of_decide_eq_true (List.mem_filter.mp hq).2)
  · exact .tail _ (.tail _ (.tail _ (.tail _ (List.mem_append_right _ hq))))
  · exact .tail _ (.tail _ (.tail _ (.tail _ (List.mem_append_right _ hI))))
/-- a cell's two halves are found the same -/
theorem same_at {w : World} {A : Around} {s : Shared} {h₀ : Heap} {L scr : Addr} {m : Str → Option Value} {news imm : List (Addr × Obj)} {Q E : Value → Shared → Prop} {n : Nat} {c : CellD}
    (C : Cx w A h₀ L scr 2) (F : Fr h₀ L s.heap m) (N : News h₀ L s.heap news) (ho : ∀ q ∈ c.objs w, q ∈ news) (hi : ∀ q ∈ imm, q ∈ news) (G : Good w imm n c) (hn : n ≤ 100)
    (ret : ∀ (h' : Heap) (tk' : Nat), Fr h₀ L h' m → News h₀ L h' news → Q (.bool true) { s with heap := h', toks := tk' }) :
    wpAny (model PySem.Challenge.rw_bq5016_01.row.prog w) A (call (.ref 208) [.ref c.x, .ref c.md]) Q E s := by
  have hown : ∀ q ∈ c.own w, q ∈ news := fun q hq => ho q (List.mem_append_left _ hq)
  have hb : ∀ q ∈ c.bobjs w, q ∈ news := fun q hq => ho q (List.mem_append_right _ hq)
  refine same_spec (scr := scr) C F N (hown _ (.head _)) (hown _ (.tail _ (.head _))) (hown _ (.tail _ (.tail _ (.head _)))) (hown _ (.tail _ (.tail _ (.tail _ (.head _))))) (hown _ (.tail _ (.tail _ (.tail _ (.tail _ (.head _)))))) G.dict G.sys (hown _ (.tail _ (.tail _ (.tail _ (.tail _ (.tail _ (.head _))))))) (hown _ (.tail _ (.tail _ (.tail _ (.tail _ (.tail _ (.tail _ (.head _)))))))) (hown _ (.tail _ (.tail _ (.tail _ (.tail _ (.tail _ (.tail _ (.tail _ (.head _)))))))))
    (G.env.mono hi) G.len (fun j h1 h2 => (G.toks j h1 h2).mono hi) (by rw [List.length_map, List.length_map]) (by rw [List.length_map]; exact Nat.le_trans G.nb hn) ?_ ret
  intro j h1 h2
  have hj : j < c.brk.length := by rw [List.length_map] at h1; exact h1
  have hm : ∀ q ∈ (c.brk[j]).objs w, q ∈ news := fun q hq => hb q (List.mem_flatMap.mpr ⟨_, List.getElem_mem hj, hq⟩)
  rw [List.getElem_map, List.getElem_map]
  exact ⟨_, _, _, _, _, _, _, _, _, _, _, rfl, rfl, hm _ (.head _), hm _ (.tail _ (.head _)), hm _ (.tail _ (.tail _ (.head _)))⟩
/-- a list of addresses, each below the next -/
def inc : List Nat → Prop
  | a :: b :: r => a < b ∧ inc (b :: r)
  | _ => True
theorem inc_lt : ∀ {l : List Nat} {a : Nat}, inc (a :: l) → ∀ b ∈ l, a < b
  | [], _, _ => fun _ h => nomatch h
  | c :: r, a, h => fun b hb => by
    rcases List.mem_cons.mp hb with rfl | hb
    · exact h.1
    · exact Nat.lt_trans h.1 (inc_lt h.2 b hb)
theorem inc_pw : ∀ {l : List Nat}, inc l → l.Pairwise (· < ·)
  | [], _ => .nil
  | [a], _ => .cons (fun _ h => nomatch h) .nil
  | a :: b :: r, h => .cons (inc_lt h) (inc_pw h.2)
theorem inc_get {S : List Nat} (h : inc S) {i j : Nat} (hi : i < S.length) (hj : j < S.length) (e : S.getD i 0 = S.getD j 0) : i = j := by
  have hp := List.pairwise_iff_getElem.mp (inc_pw h)
  have e1 : S.getD i 0 = S[i] := by simp [List.getD, hi]
  have e2 : S.getD j 0 = S[j] := by simp [List.getD, hj]
  rw [e1, e2] at e
  rcases Nat.lt_trichotomy i j with h | h | h
  · exact absurd e (Nat.ne_of_lt (hp i j hi hj h))
  · exact h
  · exact absurd e (Nat.ne_of_gt (hp j i hj hi h))
theorem inc_nodup {S : List Nat} (h : inc S) (is : List Nat) (hb : ∀ i ∈ is, i < S.length) (hn : is.Nodup) : (is.map fun i => S.getD i 0).Nodup := by
  refine List.pairwise_map.mpr (List.Pairwise.imp_of_mem (fun {a b} ha hb' hab e => hab (inc_get h (hb a ha) (hb b hb') e)) hn)
theorem map3 {m m₀ : Str → Option Value} {x y z : Str} {vx : Value} (hz : ∀ u, u ≠ x → u ≠ y → u ≠ z → m u = m₀ u) :
    (fun u => if u = x then some vx else m u) = fun u => if u = x then some vx else if u = y then m u else if u = z then m u else m₀ u := by
  funext u
  by_cases h1 : u = x
  · simp [h1]
  · by_cases h2 : u = y
    · simp [h2]
    · by_cases h3 : u = z
      · simp [h3]
      · simp only [if_neg h1, if_neg h2, if_neg h3]; exact hz u h1 h2 h3
theorem map3_end {m m₀ : Str → Option Value} {x y z : Str} (hz : ∀ u, u ≠ x → u ≠ y → u ≠ z → m u = m₀ u) :
    m = fun u => if u = x then m u else if u = y then m u else if u = z then m u else m₀ u := by
  funext u
  by_cases h1 : u = x
  · simp [h1]
  · by_cases h2 : u = y
    · simp [h2]
    · by_cases h3 : u = z
      · simp [h3]
      · simp only [if_neg h1, if_neg h2, if_neg h3]; exact hz u h1 h2 h3
theorem two_cells {cs : List CellD} {e0 e1 : Addr} {es : List Addr} (h : cs.map (·.e) = e0 :: e1 :: es) : ∃ ca cb cr, cs = ca :: cb :: cr ∧ ca.e = e0 ∧ cb.e = e1 := by
  match cs, h with
  | ca :: cb :: cr, h =>
    simp only [List.map_cons, List.cons.injEq] at h
    exact ⟨ca, cb, cr, rfl, h.1, h.2.1⟩
end

section
theorem law_end {c : ClaimW} {cl : Str → Option Addr} {mean : ExcName → Option Value} {args : List WData} {s₁ : Shared} {tabs : List (Addr × Addr)} {h : Heap} {g : Array GenState} {d : Drawn} {t : Nat} {L : Addr} {m : Str → Option Value} (hT : TabsAt tabs s₁.heap) (F : Fr (ghostOf s₁.heap tabs) L h m) (hgr : GrownAll tabs h)
    (hr : ∀ cls, c.raises args cls = false) (hp : c.post args (.bool true) args = true) (hb : AllBare g) :
    GoodWG c cl mean args s₁ (.ok (.ret (.bool true))) { heap := h, gens := g, drawn := d, toks := t, os := s₁.os } := by
  have keep : ∀ b o, b ∉ tabs.map (·.2) → s₁.heap.get? b = some o → h.get? b = some o := fun b o hb e => F.keep b o (ghost_ne e hb)
  have grown : ∀ b o, b ∈ tabs.map (·.2) → s₁.heap.get? b = some o → isCodeTable s₁.heap b ∧ o = tabObj #[] ∧ ∃ ps, h.get? b = some (tabObj ps) := fun b o hb e => by
    obtain ⟨q, hq, rfl⟩ := List.mem_map.mp hb
    have e2 := (hT q hq).2
    rw [e] at e2
    exact ⟨((hT q hq).1.tab (hT q hq).2).isCodeTable, Option.some.inj e2, hgr.get q hq⟩
  refine ⟨.inl ⟨_, _, [], rfl, hr, ReadsW.bool true, hp, fun _ => ⟨List.nodup_nil, fun _ hm => (nomatch hm)⟩⟩, ⟨fun b o e => ?_, fun b o e => ?_⟩, rfl, hb⟩
  · by_cases hb : b ∈ tabs.map (·.2)
    · obtain ⟨ht, rfl, ps, hP⟩ := grown b o hb e
      exact .inr (.inl ⟨ht, rfl, #[], ps, rfl, by rw [Array.empty_append]; exact hP⟩)
    · exact .inl (keep b o hb e)
  · by_cases hb : b ∈ tabs.map (·.2)
    · obtain ⟨_, _, ps, hP⟩ := grown b o hb e
      exact ⟨_, hP⟩
    · exact ⟨o, keep b o hb e⟩
theorem law_post (l : List Int) : PySem.Challenge.rw_bq5016_01.row.claim.post [ofPy (PyData.list (l.map PyData.int))] (WData.bool true) [ofPy (PyData.list (l.map PyData.int))] = true := by
  wrow_post
theorem law_cx {w : World} {g : Heap} {L scr : Addr} {name : Str} {scope : Scope} {fa : Addr} {cd : Value} {p : Program} {loose : List Str} {mg mb : Str → Option Value} {vs : List Value} {ns : List Int}
    (X : (hd.heap_39 w.params).In g) (T : TopRead p loose mg mb g) (hS : g.IsList scr vs.toArray) (hI : IntsAre vs ns) (hl : ¬ ((63 : Nat) : Int) < (ns.length : Int)) (hk : scope.kind = .function) :
    Cx w (callerA.deeper (envOf name scope L fa cd)) g L scr 20 where
  below := ⟨callerA, g, _, [], below_caller g, rfl, rfl, hk⟩
  X := X
  top := ⟨_, _, _, _, T⟩
  hh := rfl
  scr := ⟨vs, ns, hS, hI, by omega⟩
  dep := by rw [depth_deeper, depth_caller]; omega
  uni := by rw [units_deeper, units_caller]; omega
theorem law_use {w : World} {g : Heap} {L scr : Addr} {name : Str} {scope : Scope} {fa : Addr} {cd : Value} {p : Program} {loose : List Str} {mg mb : Str → Option Value} {vs : List Value} {ns : List Int} {t : Sem Flow} {Q : Flow → Shared → Prop} {E : Value → Shared → Prop} {s : Shared}
    (X : (hd.heap_39 w.params).In g) (T : TopRead p loose mg mb g) (hS : g.IsList scr vs.toArray) (hI : IntsAre vs ns) (hl : ¬ ((63 : Nat) : Int) < (ns.length : Int)) (hk : scope.kind = .function)
    (h : Cx w (callerA.deeper (envOf name scope L fa cd)) g L scr 20 → wpAny (model PR w) (callerA.deeper (envOf name scope L fa cd)) t Q E s) : wpAny (model PR w) (callerA.deeper (envOf name scope L fa cd)) t Q E s := h (law_cx X T hS hI hl hk)
local macro_rules | `(tactic| walk_at "call ref") => `(tactic| (k_here; (with_reducible show wpAny _ _ (call (Value.ref 213) _) _ _ _); refine AtCall.go ?_))
local macro_rules | `(tactic| walk_at "call ref") => `(tactic| (k_here; (with_reducible show wpAny _ _ (call (Value.ref 175) _) _ _ _); refine AtCall.go ?_))
local macro_rules | `(tactic| walk_at "compareOp IsNot ref ref") => `(tactic| (k_here; refine AtCmp.go ?_))
local macro_rules | `(tactic| walk_at "my step 30") => `(tactic| (k_here; (with_reducible show wpAny _ _ (call (Value.type "dict") [Value.ref _]) _ _ _); k_dflt (refine' dict_copy ?F ?N ?b ?m ?d ?l ?z ?_; (case F => k_asm); (case N => k_asm); (case b => exact TopRead.nolimit (by assumption)); (case m => k_mem); (case d => assumption); (case l => assumption); (case z => exact Nat.le_of_ble_eq_true rfl); k_whole)))
set_option hygiene false in
local macro_rules | `(tactic| walk_at "call type:dict") => `(tactic| (walk_at "my step 30"; intro d8 h9 o8 F9 N9 l1 lo8 hd8; (try k_lt l1); (try k_sweep)))
set_option maxHeartbeats 8000000 in
theorem T0 : PySem.Challenge.rw_bq5016_01.Holds := hd (by
  lge_go0
  all_goals try k_fold
  rename (hd.heap_39 _).In _ => KX
  rename World => w
  rename Addr => scr
  rename Shared => s1
  rename Top hd.view_39 _ _ _ _ _ => T
  have hc9 : (tabIn (hd.heap_39 w.params) (Str.ofString "token_depth")).map (·.1) = some 111 := by kernel_rfl
  obtain ⟨⟨c9, P⟩, hP⟩ := Option.isSome_iff_exists.mp (show (tabIn (hd.heap_39 w.params) (Str.ofString "token_depth")).isSome = true by kernel_rfl)
  rw [hP] at hc9
  obtain rfl : c9 = 111 := Option.some.inj hc9
  obtain ⟨dr, hdr⟩ := Option.isSome_iff_exists.mp (show ((recsOf hd.view_39).find? (fun e => e.name == Str.ofString "token_depth")).isSome = true by kernel_rfl)
  have hT9 : TabsAt [(111, P)] _ := List.forall_mem_cons.mpr ⟨tab_of T KX hdr hP, fun _ h => nomatch h⟩
  have hK9 : noTabs (hd.heap_39 w.params) = true := by kernel_rfl
  have XG := ghost_K hT9 KX hK9
  rename Fr _ _ _ _ => F
  rename News _ _ _ [] => N0
  rename IntsAre _ _ => hI
  rename Heap.IsList _ _ _ => hS
  rename LGe.Mark => hlm
  rename Heap.CodeRec _ _ _ => hcr
  have hS9 := ghost_list hT9 hS
  have FG := ghost_fr hT9 F
  have NG := ghost_news hT9 F N0
  have TGT := ghost_top hT9 T
  have TG := topRead_of TGT
  refine law_use XG TG hS9 hI (by assumption) rfl (fun C => ?_)
  rename Below _ _ _ _ => K0
  rename Ground _ _ _ _ _ _ _ _ _ => Gr
  rename Tables _ _ _ _ => Tb
  rename TopE _ _ _ _ => TE
  rename TopW _ _ _ => TW
  rename Based _ _ _ _ _ => Bs
  rename Glob _ _ _ _ _ _ _ _ => GL
  rename BMod _ _ _ _ _ => BM
  rename Flt.MathXP _ _ _ => MX
  rename Dflts _ _ _ _ _ _ => DF
  rename Well _ _ _ _ => WL
  have hos : True := trivial
  clear K0 GL Gr Tb TE TW Bs BM MX DF WL KX T F N0 hdr hS hlm hK9 hcr hc9 hP
  have GG : Gx (ghostOf _ [(111, P)]) P := ⟨(ghost_code hT9).1, ⟨_, bmod_of_top TGT⟩⟩
  clear TGT
  generalize hgh : ghostOf _ [(111, P)] = gh at *
  have hX := C.X
  have hA' := C.hh
  try dsimp only
  try k_fold
  replace NG : News gh _ _ [(P, tabObj #[])] := NG
  k_steps
  refine AtCall.mk ?_
  first | walk_at "my step 7 call_ref" | fail
  intro d9 td9 p9 tp9 st9 ts9 h9 tk9 F9 N9 hp9 hs9 hs9' hd9 hd9'
  try k_sweep
  k_steps
  rename IntsAre _ _ => hI
  rename (gh.IsList _ _) => hIL
  obtain ⟨box, f1, f2, e0, e1, dx1, x1, tl1, bl1, dx2, x2, tl2, bl2, sl, ml1, md1, mtl1, mbl1, ml2, md2, mtl2, mbl2, ms, r, of1, of2, oe0, oe1, om1, om2, K1, K2, ts1, td1, ts2, td2, t1, t2, t3, tp, ts, tm1, tm2, tn1, tn2, kv1, kv2, mq, hN, hof1, hoe0, hof2, hoe1, hom1, hom2, sf1, sf2, se0, se1, smd1, smd2, hinc, F8, rfl⟩ :
    ∃ (box f1 f2 e0 e1 dx1 x1 tl1 bl1 dx2 x2 tl2 bl2 sl ml1 md1 mtl1 mbl1 ml2 md2 mtl2 mbl2 ms r : Addr) (of1 of2 oe0 oe1 om1 om2 : Obj) (K1 K2 : Kt) (ts1 td1 ts2 td2 t1 t2 t3 tp ts tm1 tm2 tn1 tn2 : Tok) (kv1 kv2 : List (Str × Value)) (mq : Str → Option Value),
      News gh _ h9 [(r, rangeO (4 + d9) t1 t2 t3), (box, boxO scr p9 st9 tp ts), (ms, W.listOf #[.ref md1, .ref md2] 0), (mbl2, W.listOf #[] 0), (mtl2, W.listOf #[] 0), (md2, om2), (ml2, W.listOf #[.bool false, .bool false] 0), (mbl1, W.listOf #[] 0), (mtl1, W.listOf #[] 0), (md1, om1), (ml1, W.listOf #[.bool false, .bool false] 0),
      (sl, W.listOf #[.ref x1, .ref x2] 0), (bl2, W.listOf #[] 0), (tl2, W.listOf #[] 0), (x2, instObj 103 dx2), (dx2, stO w K2 e1 (.str (Str.ofString "") ts2) tl2 (.bool false) (.int 0 td2) (.bool false) bl2 .none), (e1, oe1),
      (bl1, W.listOf #[] 0), (tl1, W.listOf #[] 0), (x1, instObj 103 dx1), (dx1, stO w K1 e0 (.str (Str.ofString "a") ts1) tl1 (.bool false) (.int 0 td1) (.bool false) bl1 .none), (e0, oe0), (f2, of2), (f1, of1), (P, tabObj #[])] ∧
      of1.IsDictOf (PySem.strKind PR w) kv1 ∧ oe0.IsDictOf (PySem.strKind PR w) kv1 ∧ of2.IsDictOf (PySem.strKind PR w) kv2 ∧ oe1.IsDictOf (PySem.strKind PR w) kv2 ∧
      om1.IsDictOf (PySem.strKind PR w) (mdlOf (.str (Str.ofString "a") tm1) mtl1 ml1 (.int 0 tn1) mbl1 f1 .none .none) ∧ om2.IsDictOf (PySem.strKind PR w) (mdlOf (.str (Str.ofString "") tm2) mtl2 ml2 (.int 0 tn2) mbl2 f2 .none .none) ∧
      (f1 == sysModules) = false ∧ (f2 == sysModules) = false ∧ (e0 == sysModules) = false ∧ (e1 == sysModules) = false ∧ (md1 == sysModules) = false ∧ (md2 == sysModules) = false ∧
      inc [P, box, f1, f2, e0, dx1, x1, tl1, bl1, e1, dx2, x2, tl2, bl2, sl, ml1, md1, mtl1, mbl1, ml2, md2, mtl2, mbl2, ms, r] ∧ Fr gh _ h9 (fun y => if y = Str.ofString "model" then some (Value.ref md1) else if y = Str.ofString "state" then some (Value.ref x1) else if y = Str.ofString "models" then some (Value.ref ms) else if y = Str.ofString "states" then some (Value.ref sl) else if y = Str.ofString "second" then some (Value.ref f2) else if y = Str.ofString "first" then some (Value.ref f1) else if y = Str.ofString "box" then some (Value.ref box) else mq y) ∧ r = r9 :=
    ⟨_, _, _, _, _, _, _, _, _, _, _, _, _, _, _, _, _, _, _, _, _, _, _, _, _, _, _, _, _, _, _, _, _, _, _, _, _, _, _, _, _, _, _, _, _, _, _, _, N9, by assumption, by assumption, by assumption, by assumption, by assumption, by assumption, by assumption, by assumption, by assumption, by assumption, by assumption, by assumption, by ((simp only [inc]; repeat' (refine And.intro ?_ ?_)) <;> first | omega | assumption | trivial), F9, rfl⟩
  have hall := inc_nodup hinc [1, 14, 23, 0, 6, 5, 7, 8, 16, 17, 15, 18, 11, 10, 12, 13, 20, 21, 19, 22, 2, 3, 4, 9, 24] (by show ∀ i ∈ _, i < 25; decide) (by decide)
  replace hall : ([box, sl, ms, P, x1, dx1, tl1, bl1, md1, mtl1, ml1, mbl1, x2, dx2, tl2, bl2, md2, mtl2, ml2, mbl2] ++ [f1, f2, e0, e1, r] : List Nat).Nodup := hall
  obtain ⟨nd1, nd2, nd3⟩ := List.nodup_append.mp hall
  have hne : @Ne Nat e0 e1 := by
    have q := (List.pairwise_iff_getElem.mp nd2) 2 3 (by show 2 < 5; decide) (by show 3 < 5; decide) (by decide)
    exact q
  obtain ⟨imm, himm⟩ : ∃ imm : List (Addr × Obj), imm = [(f1, of1), (f2, of2), (e0, oe0), (e1, oe1), (r, rangeO (4 + d9) t1 t2 t3)] := ⟨_, rfl⟩
  have hif : fsts imm = ([f1, f2, e0, e1, r] : List Nat) := by rw [himm]; rfl
  have VL0 : InvL w scr P 0 box sl ms e0 e1 [⟨x1, dx1, tl1, bl1, md1, mtl1, ml1, mbl1, e0, f1, K1, Str.ofString "a", ts1, tm1, td1, tn1, false, false, 0, .none, .none, .none, om1, [], [], [], 0, 0, 0, 0, 0⟩, ⟨x2, dx2, tl2, bl2, md2, mtl2, ml2, mbl2, e1, f2, K2, Str.ofString "", ts2, tm2, td2, tn2, false, false, 0, .none, .none, .none, om2, [], [], [], 0, 0, 0, 0, 0⟩]
      ((box, boxO scr p9 st9 tp ts) :: (sl, W.listOf #[.ref x1, .ref x2] 0) :: (ms, W.listOf #[.ref md1, .ref md2] 0) :: (P, tabObj #[]) :: ([(x1, instObj 103 dx1), (dx1, stO w K1 e0 (.str (Str.ofString "a") ts1) tl1 (.bool false) (.int 0 td1) (.bool false) bl1 .none), (tl1, W.listOf #[] 0), (bl1, W.listOf #[] 0), (md1, om1), (mtl1, W.listOf #[] 0), (ml1, W.listOf #[.bool false, .bool false] 0), (mbl1, W.listOf #[] 0),
        (x2, instObj 103 dx2), (dx2, stO w K2 e1 (.str (Str.ofString "") ts2) tl2 (.bool false) (.int 0 td2) (.bool false) bl2 .none), (tl2, W.listOf #[] 0), (bl2, W.listOf #[] 0), (md2, om2), (mtl2, W.listOf #[] 0), (ml2, W.listOf #[.bool false, .bool false] 0), (mbl2, W.listOf #[] 0)] ++ imm)) #[] := by
    refine ⟨⟨p9, st9, tp, ts, 0, 0, #[], imm, rfl, hp9, hs9, hs9', ?_, nd1, ?_, ?_⟩, AllBare.empty, ⟨[], rfl⟩, hne, Nat.le_of_ble_eq_true rfl⟩
    · trivial
    · intro q hq hm
      have hq' : q.1 ∈ fsts imm := List.mem_map_of_mem hq
      rw [hif] at hq'
      exact nd3 q.1 hm q.1 hq' rfl
    · intro c hc
      rcases List.mem_cons.mp hc with rfl | hc
      · exact { dict := hom1, sys := smd1, env := ⟨e0, f1, oe0, of1, kv1, rfl, rfl, by rw [himm]; exact .tail _ (.tail _ (.head _)), by rw [himm]; exact .head _, hoe0, hof1, se0, sf1⟩, len := rfl, toks := fun j h => absurd h (Nat.not_lt_zero _), scan := .inl ⟨rfl, rfl, rfl⟩, nt := Nat.zero_le _, nb := Nat.zero_le _ }
      · rw [List.mem_singleton.mp hc]
        exact { dict := hom2, sys := smd2, env := ⟨e1, f2, oe1, of2, kv2, rfl, rfl, by rw [himm]; exact .tail _ (.tail _ (.tail _ (.head _))), by rw [himm]; exact .tail _ (.head _), hoe1, hof2, se1, sf2⟩, len := rfl, toks := fun j h => absurd h (Nat.not_lt_zero _), scan := .inl ⟨rfl, rfl, rfl⟩, nt := Nat.zero_le _, nb := Nat.zero_le _ }
  have hmr : (r, rangeO (4 + d9) t1 t2 t3) ∈ imm := by rw [himm]; exact .tail _ (.tail _ (.tail _ (.tail _ (.head _))))
  rename (Shared.gens _ = #[]) => hgn
  rw [← hgn] at VL0
  have N7 := news_sub hN (l' := (box, boxO scr p9 st9 tp ts) :: (sl, W.listOf #[.ref x1, .ref x2] 0) :: (ms, W.listOf #[.ref md1, .ref md2] 0) :: (P, tabObj #[]) :: ([(x1, instObj 103 dx1), (dx1, stO w K1 e0 (.str (Str.ofString "a") ts1) tl1 (.bool false) (.int 0 td1) (.bool false) bl1 .none), (tl1, W.listOf #[] 0), (bl1, W.listOf #[] 0), (md1, om1), (mtl1, W.listOf #[] 0), (ml1, W.listOf #[.bool false, .bool false] 0), (mbl1, W.listOf #[] 0),
        (x2, instObj 103 dx2), (dx2, stO w K2 e1 (.str (Str.ofString "") ts2) tl2 (.bool false) (.int 0 td2) (.bool false) bl2 .none), (tl2, W.listOf #[] 0), (bl2, W.listOf #[] 0), (md2, om2), (mtl2, W.listOf #[] 0), (ml2, W.listOf #[.bool false, .bool false] 0), (mbl2, W.listOf #[] 0)] ++ imm)) (by rw [himm]; dsimp only [List.cons_append, List.nil_append]; walk_at "my sub")
  refine with_map F8 (fun m0 hm0 F7 => ?_)
  clear hN F9 F8 N9 hall nd1 nd2 nd3 hinc hom1 hom2 hof1 hof2 hoe0 hoe1 himm hif
  refine iter_rangeN (fun i m' nw' g' => ∃ cs, InvL w scr P i box sl ms e0 e1 cs nw' g' ∧ ∀ z, z ≠ Str.ofString "turn" → z ≠ Str.ofString "k" → z ≠ Str.ofString "other" → m' z = m0 z) hA' F7 N7 (.tail _ (.tail _ (.tail _ (.tail _ (List.mem_append_right _ hmr))))) (by omega) (by omega) ⟨_, VL0, fun _ _ _ _ => rfl⟩ ?_ ?_
  · rintro i t m₁ nw₁ g₁ h₁ tk₁ I oI hi hcl ⟨cs, VL, hm₁⟩ hn hlt F₁ N₁
    have hi30 : i ≤ 30 := by omega
    clear VL0 N7 F7 hlt hmr hi
    rw [map3 hm₁] at F₁
    clear hm₁
    subst hm0
    obtain ⟨p, st, tp, ts, k1, k2, ps, imm, rfl, hp, hst, hst', htr, nd, himm, good⟩ := VL.go
    obtain ⟨XS, hXS⟩ : ∃ XS, XS = cs.map (fun c : CellD => Value.ref c.x) := ⟨_, rfl⟩
    obtain ⟨YS, hYS⟩ : ∃ YS, YS = cs.map (fun c : CellD => Value.ref c.md) := ⟨_, rfl⟩
    obtain ⟨FI, hFI⟩ : ∃ FI, FI = cs.flatMap (CellD.objs w) ++ imm := ⟨_, rfl⟩
    have hXl : XS.length = cs.length := by rw [hXS, List.length_map]
    have hcs6 := VL.few
    have hcs2 : 2 ≤ cs.length := by
      obtain ⟨es, hes⟩ := VL.envs
      have q := congrArg List.length hes
      rw [List.length_map, List.length_cons, List.length_cons] at q
      omega
    rw [← hXS, ← hYS, ← hFI] at N₁ hn
    have bI : NeA box I := hn _ (.head _)
    have bs : NeA box sl := by
      intro e
      simp only [List.cons_append, List.nil_append, List.nodup_cons, List.mem_cons, not_or] at nd
      exact nd.1.1 e
    have bm : NeA box ms := by
      intro e
      simp only [List.cons_append, List.nil_append, List.nodup_cons, List.mem_cons, not_or] at nd
      exact nd.1.2.1 e
    have bP : NeA box P := by
      intro e
      simp only [List.cons_append, List.nil_append, List.nodup_cons, List.mem_cons, not_or] at nd
      exact nd.1.2.2.1 e
    have bF : ∀ q ∈ FI, q.1 ≠ box := by
      rw [hFI]
      intro q hq e
      rcases List.mem_append.mp hq with hq | hq
      · have h1 : q.1 ∈ fsts (cs.flatMap (CellD.objs w)) := List.mem_map_of_mem hq
        rw [e] at h1
        simp only [List.cons_append, List.nil_append, List.nodup_cons, List.mem_cons, not_or] at nd
        exact nd.1.2.2.2 h1
      · exact himm q hq (by rw [e]; exact .head _)
    k_steps
    refine AtCall.mk ?_
    first | walk_at "my step 7 call_ref" | fail
    intro k tkk p9 tp9 st9 ts9 h9 tk9 F9 N9 hp9 hs9 hs9' hk0 hk9
    try k_sweep
    try dsimp only
    k_steps
    refine AtCall.mk ?_
    first | walk_at "my step 7 call_ref" | fail
    intro o to p9 tp9 st9 ts9 h9 tk9 F9 N9 hp9 hs9 hs9' ho0 ho9
    try k_sweep
    try dsimp only
    k_steps
    refine AtCall.mk ?_
    first | walk_at "my step 7 call_ref" | fail
    intro d td p9 tp9 st9 ts9 h9 tk9 F9 N9 hp9 hs9 hs9' hd0 hd9
    try k_sweep
    try dsimp only
    k_steps
    refine AtCall.mk ?_
    rename Fr gh _ _ _ => nF
    rename News gh _ _ _ => nN
    rw [hXl] at hk9 ho9
    have VI : Inv w [(I, oI)] gh s1.heap.objs.size scr P i box sl ms e0 e1 cs h9 g₁ := by
      refine ⟨⟨p9, st9, tp9, ts9, k1, k2, ps, (I, oI) :: imm, news_sub nN ?_, hp9, hs9, hs9', htr, nd, ?_, ?_, fun c hc => (good c hc).mono (fun q hq => .tail _ hq) (Nat.le_refl _)⟩, VL.bare, VL.envs, VL.ne, VL.few⟩
      · rw [hXS, hYS, hFI]
        intro q hq
        simp only [List.mem_cons, List.mem_append] at hq ⊢
        rcases hq with hq | hq | hq | hq | hq | hq | hq <;> simp [hq]
      · intro q hq
        rcases List.mem_cons.mp hq with rfl | hq
        · have hIF : I ∉ fsts FI := by
            intro hm
            obtain ⟨q, hq, e⟩ := fsts_mem hm
            exact hn q (.tail _ (.tail _ (.tail _ (.tail _ hq)))) e
          have h1 := hn _ (.tail _ (.head _))
          have h2 := hn _ (.tail _ (.tail _ (.head _)))
          have h3 := hn _ (.tail _ (.tail _ (.tail _ (.head _))))
          rw [hFI, fsts_app] at hIF
          intro hm
          rcases List.mem_append.mp hm with hm | hm
          · simp only [List.mem_cons, List.not_mem_nil, or_false] at hm
            rcases hm with hm | hm | hm | hm
            · exact bI hm.symm
            · exact h1 hm.symm
            · exact h2 hm.symm
            · exact h3 hm.symm
          · exact hIF (List.mem_append_left _ hm)
        · exact himm q hq
      · intro q hq
        rw [List.mem_singleton.mp hq]; exact .head _
    clear nN
    refine' deed_all (kp := [(I, oI)]) (cx_at C (by omega)) nF VI GG hd0 hd9 hk0 hk9 hi30 ?_
    intro cs' h6 tk6 g6 F6 V6 hlen
    dsimp only
    obtain ⟨p6, st6, tp6, ts6, k16, k26, ps6, imm6, N6, hp6, hst6, hst6', htr6, nd6, himm6, hkp6, good6⟩ := V6.go
    have hcs6' := V6.few
    have hk9' : k < cs'.length := by omega
    have ho9' : o < cs'.length := by omega
    obtain ⟨l1, ca, l2, eca, hxa, hya⟩ := cell_at hk0 hk9'
    obtain ⟨l3, cb, l4, ecb, hxb, hyb⟩ := cell_at ho0 ho9'
    have hca : ca ∈ cs' := by rw [eca]; exact List.mem_append_right _ (.head _)
    have hcb : cb ∈ cs' := by rw [ecb]; exact List.mem_append_right _ (.head _)
    clear eca ecb l1 l2 l3 l4
    obtain ⟨XT, hXT⟩ : ∃ XT, XT = cs'.map (fun c : CellD => Value.ref c.x) := ⟨_, rfl⟩
    obtain ⟨YT, hYT⟩ : ∃ YT, YT = cs'.map (fun c : CellD => Value.ref c.md) := ⟨_, rfl⟩
    obtain ⟨FT, hFT⟩ : ∃ FT, FT = cs'.flatMap (CellD.objs w) ++ imm6 := ⟨_, rfl⟩
    have hFa : ∀ q ∈ ca.objs w, q ∈ FT := by rw [hFT]; exact fun q hq => List.mem_append_left _ (List.mem_flatMap.mpr ⟨_, hca, hq⟩)
    have hFb : ∀ q ∈ cb.objs w, q ∈ FT := by rw [hFT]; exact fun q hq => List.mem_append_left _ (List.mem_flatMap.mpr ⟨_, hcb, hq⟩)
    have hFi : ∀ q ∈ imm6, q ∈ FT := by rw [hFT]; exact fun q hq => List.mem_append_right _ hq
    rw [← hXT, ← hYT, ← hFT] at N6
    rw [← hXT] at hxa hxb
    rw [← hYT] at hya hyb
    have ga := good6 ca hca
    have gb := good6 cb hcb
    clear nF VI bI bs bm bP bF hXS hYS hFI hXl hcs2 hn
    k_steps
    refine AtCall.mk ?_
    refine same_at (scr := scr) (cx_at C (by omega)) (by assumption) N6 (fun q hq => .tail _ (.tail _ (.tail _ (.tail _ (hFa q hq))))) (fun q hq => .tail _ (.tail _ (.tail _ (.tail _ (hFi q hq))))) ga (by omega) (fun h7 tk7 F7 N7 => ?_)
    clear N6 F6
    dsimp only
    k_steps
    refine AtCall.mk ?_
    refine same_at (scr := scr) (cx_at C (by omega)) (by assumption) N7 (fun q hq => .tail _ (.tail _ (.tail _ (.tail _ (hFb q hq))))) (fun q hq => .tail _ (.tail _ (.tail _ (.tail _ (hFi q hq))))) gb (by omega) (fun h8 tk8 F8 N8 => ?_)
    clear N7 F7
    dsimp only
    k_steps
    rw [hXT, hYT, hFT] at N8
    have V8 : Inv w [(I, oI)] gh s1.heap.objs.size scr P (i + 1) box sl ms e0 e1 cs' h8 g6 := ⟨⟨p6, st6, tp6, ts6, k16, k26, ps6, imm6, N8, hp6, hst6, hst6', htr6, nd6, himm6, hkp6, good6⟩, V6.bare, V6.envs, V6.ne, V6.few⟩
    obtain ⟨nw, N9, hn9, VL9⟩ := V8.drop hcl
    refine ⟨h8, _, _, _, nw, rfl, F8, N9, hn9, cs', VL9, ?_⟩
    intro z e1 e2 e3
    simp only [if_neg e1, if_neg e2, if_neg e3]
  · rintro h6 tk6 m6 nw6 g6 ⟨cs, VL, hm₁⟩ F₁ N₁
    clear VL0 N7 F7 hmr
    rw [map3_end hm₁] at F₁
    clear hm₁
    subst hm0
    obtain ⟨p, st, tp, ts, k1, k2, ps, imm, rfl, hp, hst, hst', htr, nd, himm, good⟩ := VL.go
    obtain ⟨es, hes⟩ := VL.envs
    obtain ⟨ca, cb, cr, rfl, hea, heb⟩ := two_cells hes
    obtain ⟨FT, hFT⟩ : ∃ FT, FT = (ca :: cb :: cr).flatMap (CellD.objs w) ++ imm := ⟨_, rfl⟩
    have hFa : ∀ q ∈ ca.objs w, q ∈ FT := by rw [hFT]; exact fun q hq => List.mem_append_left _ (List.mem_flatMap.mpr ⟨_, .head _, hq⟩)
    have hFb : ∀ q ∈ cb.objs w, q ∈ FT := by rw [hFT]; exact fun q hq => List.mem_append_left _ (List.mem_flatMap.mpr ⟨_, .tail _ (.head _), hq⟩)
    have hFi : ∀ q ∈ imm, q ∈ FT := by rw [hFT]; exact fun q hq => List.mem_append_right _ hq
    have a1 : (ca.x, instObj 103 ca.dx) ∈ FT := hFa _ (List.mem_append_left _ (.head _))
    have a2 : (ca.dx, stO w ca.K ca.e (.str ca.src ca.ts) ca.tl (.bool ca.im) (.int ca.d ca.td) (.bool ca.lk) ca.bl ca.dl) ∈ FT := hFa _ (List.mem_append_left _ (.tail _ (.head _)))
    have b1 : (cb.x, instObj 103 cb.dx) ∈ FT := hFb _ (List.mem_append_left _ (.head _))
    have b2 : (cb.dx, stO w cb.K cb.e (.str cb.src cb.ts) cb.tl (.bool cb.im) (.int cb.d cb.td) (.bool cb.lk) cb.bl cb.dl) ∈ FT := hFb _ (List.mem_append_left _ (.tail _ (.head _)))
    rw [← hFT] at N₁
    simp only [List.map_cons] at N₁
    rw [hea] at a2
    rw [heb] at b2
    have N9 := news_dup (news_dup (news_dup (news_dup N₁ (.tail _ (.tail _ (.tail _ (.tail _ a1))))) (.tail _ (.tail _ (.tail _ (.tail _ (.tail _ a2)))))) (.tail _ (.tail _ (.tail _ (.tail _ (.tail _ (.tail _ b1))))))) (.tail _ (.tail _ (.tail _ (.tail _ (.tail _ (.tail _ (.tail _ b2)))))))
    have F9 : Fr gh s1.heap.objs.size h6 _ := F₁
    replace N9 : News gh s1.heap.objs.size h6 _ := N9
    clear F₁
    have ga := good ca (.head _)
    have gb := good cb (.tail _ (.head _))
    obtain ⟨xe0, _, oa, _, kva, ee0, _, pa, _, da, _, _, _⟩ := ga.env
    obtain ⟨xe1, _, ob, _, kvb, ee1, _, pb, _, db, _, _, _⟩ := gb.env
    rw [hea] at ee0
    rw [heb] at ee1
    obtain rfl : e0 = xe0 := by injection ee0
    obtain rfl : e1 = xe1 := by injection ee1
    have hne' := VL.ne
    have hbare := VL.bare
    clear VL hes htr nd himm
    k_steps
    refine AtCmp.mk ?_
    refine wpAny_isNot_ref_other hne' (N₁ _ (.tail _ (.tail _ (.tail _ (.tail _ (hFi _ pa)))))).1 (N₁ _ (.tail _ (.tail _ (.tail _ (.tail _ (hFi _ pb)))))).1 ?nt ?_
    case nt =>
      obtain ⟨_, _, hE, _⟩ := da
      intro e
      dsimp only at e
      unfold Obj.ExactDict at hE
      simp [e] at hE
    k_steps
    refine AtCall.mk ?_
    refine same_at (scr := scr) (cx_at C (by omega)) (by assumption) N₁ (fun q hq => .tail _ (.tail _ (.tail _ (.tail _ (hFa q hq))))) (fun q hq => .tail _ (.tail _ (.tail _ (.tail _ (hFi q hq))))) ga (by omega) (fun h7 tk7 F7 N7 => ?_)
    dsimp only
    subst hgh
    have hgrow : GrownAll [(111, P)] h7 := ⟨⟨ps, (N7 _ (.tail _ (.tail _ (.tail _ (.head _))))).1⟩, trivial⟩
    exact law_end hT9 F7 hgrow (fun _ => rfl) (law_post _) hbare)
end

end Mine
set_option maxRecDepth 100000 in
set_option maxHeartbeats 8000000 in
theorem PySem.Challenge.cw_bq5016_01_holds : PySem.Challenge.rw_bq5016_01.Holds :=
  Mine.T0
