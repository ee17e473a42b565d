import PyProof.Rows.All
import Wide.All
import OpenK.AllK
import Wide.FinOn
import Lean
import PySem.Challenge.RW_pg0310_02
set_option Elab.async false
section
-- Slim
theorem Mine.fresh_Slim : True := by
  w_top off
  trivial
namespace Mine
theorem room1 {d a b R : Nat} (h : d + a < R) (hb : 1 + b ≤ a) : d + 1 + b < R := by omega
theorem room3 {d a b R : Nat} (h : d + a < R) (hb : 3 + b ≤ a) : d + 3 + b < R := by omega
theorem lt_num {a b c : Nat} (h : a < b) (hbc : b ≤ c) : a < c := Nat.lt_of_lt_of_le h hbc
theorem le_num {a b c : Nat} (h : a < b) (hbc : b ≤ c + 1) : a ≤ c := by omega
theorem le_le {a b c : Nat} (h : a ≤ b) (hbc : b ≤ c) : a ≤ c := Nat.le_trans h hbc
theorem le_lt {a b c : Nat} (h : a ≤ b) (hbc : b + 1 ≤ c) : a < c := Nat.lt_of_le_of_lt h hbc
theorem half_k {k : Nat} (h : 2 ≤ k) : 1 ≤ k / 2 ∧ k / 2 < k ∧ 1 ≤ k - k / 2 ∧ k - k / 2 < k ∧ k / 2 + (k - k / 2) = k ∧ k - k / 2 + k / 2 = k := by omega
theorem half_n {k l n : Nat} (h : l + k ≤ n) : l + k / 2 ≤ n ∧ l + k / 2 + (k - k / 2) ≤ n ∧ l + (k / 2 + (k - k / 2)) ≤ n := by omega
theorem half_d {d k R : Nat} (h : d + (k + 5) < R) (hk : 2 ≤ k) : d + 1 + (k / 2 + 5) < R ∧ d + 1 + (k - k / 2 + 5) < R := by omega
theorem half_u {u k C : Nat} (h : u + (5 * k + 20) < C) (hk : 2 ≤ k) : u + 3 + (5 * (k / 2) + 20) < C ∧ u + 3 + (5 * (k - k / 2) + 20) < C := by omega
theorem half_two {L R : Int} {k : Nat} (h1 : 1 ≤ k) (hR : R = L + k) (hne : L + 1 ≠ R) : 2 ≤ k := by omega
theorem half_one {L R : Int} {k : Nat} (hR : R = L + k) (he : L + 1 = R) : k = 1 := by omega
theorem half_ends {L R M : Int} {k l : Nat} (hL : L = l) (hR : R = L + k) (hM : M = ((l + k / 2 : Nat) : Int)) : M = L + ((k / 2 : Nat) : Int) ∧ R = M + ((k - k / 2 : Nat) : Int) := by omega
theorem half_mid (l k : Nat) : ((l : Int) + ((l : Int) + (k : Int))) / 2 = ((l + k / 2 : Nat) : Int) := by omega
theorem half_dif (l k : Nat) : ((l + k / 2 : Nat) : Int) - (l : Int) = ((k / 2 : Nat) : Int) := by omega
theorem half_200 {l k n : Nat} (h : l + k ≤ n) (h2 : n ≤ 200) : k ≤ 200 ∧ k / 2 ≤ 200 ∧ k - k / 2 ≤ 200 := by omega
theorem half_min {l k n : Nat} (h : l + k ≤ n) : k - k / 2 ≤ n - (l + k / 2) ∧ k / 2 ≤ n - l := by omega
end Mine

end
section
-- Base1
theorem Mine.fresh_Base1 : True := by
  w_top off
  trivial
open PySem PySem.W PyProof.Rows PySem.Calls
set_option maxRecDepth 100000
namespace Mine

/-- an end that no line of the walk opens -/
def Seg (P : Shared → Prop) (s : Shared) : Prop := P s
def Done (s : Shared) (Post : Value → Heap → Prop) (v : Value) (s' : Shared) : Prop := ∃ h' tk', s' = { s with heap := h', toks := tk' } ∧ Post v h'
theorem Done.mk {s : Shared} {Post : Value → Heap → Prop} {v : Value} {h : Heap} {tk : Nat} (h1 : Post v h) : Done s Post v { s with heap := h, toks := tk } := ⟨h, tk, rfl, h1⟩

/-- a call's contract: it ends, and of its answer and of the heap behind it Post holds -/
def Does (M : Model) (d u : Nat) (t : Sem Value) (s : Shared) (Post : Value → Heap → Prop) : Prop :=
  ∀ (d0 u0 : Nat) (fr : Option (List Env)) (gs : Option (List Code)), d0 + d < recursionLimit → u0 + u < cLine →
    wpAny M ⟨none, d0, fr, gs, u0⟩ t (Done s Post) (fun _ _ => False) s

section
variable {M : Model} {A : Around} {E : Value → Shared → Prop} {Q : Value → Shared → Prop} {s : Shared} {t : Sem Value} {d u : Nat} {Post Post' : Value → Heap → Prop}
theorem Does.use (D : Does M d u t s Post) (hh : A.handled = none) (hd : A.depth + d < recursionLimit) (hu : A.units + u < cLine)
    (h : ∀ v h' tk', Post v h' → Q v { s with heap := h', toks := tk' }) : wpAny M A t Q E s := by
  obtain ⟨h1, d0, fr, gs, u0⟩ := A
  cases hh
  exact wpAny_mono (D d0 u0 fr gs hd hu) (fun v s' ⟨h', tk', e, p⟩ => e ▸ h v h' tk' p) fun _ _ x => x.elim
theorem Does.mono (D : Does M d u t s Post) (h : ∀ v h', Post v h' → Post' v h') : Does M d u t s Post' :=
  fun d0 u0 fr gs hd hu => wpAny_mono (D d0 u0 fr gs hd hu) (fun _ _ ⟨h', tk', e, p⟩ => ⟨h', tk', e, h _ _ p⟩) fun _ _ x => x
end

/-- the run's ground: the written part and the top's facts at a heap that every later heap keeps -/
structure Gd (K : Frag) (loose : List Str) (mean : ExcName → Option Value) (mg mb : Str → Option Value) (B : Heap) : Prop where
  X : K.In B
  T : Top topProg loose mean mg mb B

section
variable {prog : Program} {w : World} {A : Around} {s : Shared} {K : Frag} {B : Heap} {loose : List Str} {mean : ExcName → Option Value} {mg mb : Str → Option Value}
  {Q : Value → Shared → Prop} {name qual : Str} {params : Arguments} {body : List Stmt} {scope : Scope} {dV kV doc pm cdv ct oc : Value} {an od : Option Addr} {osl : Array (Option Value)} {f : Addr} {args : List Value} {kw : List (Str × Value)} {binds : List (Str × Value)}

theorem hide_stays {hid : List Addr} {h : Heap} (hB : B.StaysIn h) (hN : ∀ b ∈ hid, B.get? b = none) : B.StaysIn (hideAll h hid) := fun b o e =>
  hideAll_get _ (hB b o e) fun q => by rw [hN b q] at e; cases e

theorem enter (G : Gd K loose mean mg mb B) (hB : B.StaysIn s.heap) (hid : List (Addr × Obj)) (hN : ∀ p ∈ hid, s.heap.get? p.1 = some p.2 ∧ B.get? p.1 = none)
    (ho : K.lookup f = some ⟨oc, od, .func (fnOf name qual params body scope dV kV doc pm an cdv ct), osl⟩) (hcd : codeIn K cdv qual = true) (hroom : A.depth < recursionLimit)
    (hbind : BindsTo s (fnOf name qual params body scope dV kV doc pm an cdv ct) ⟨args, kw⟩ binds) (hloc : ∀ y ∈ binds, scope.names.lookup y.1 = some .local)
    (h : ∀ g L' h₁, g = hideAll s.heap (hid.map (·.1)) → Fr g L' h₁ (fun y => binds.reverse.lookup y) → News g L' h₁ hid → (∀ p ∈ hid, p.1 < L') → K.In g → Top topProg loose mean mg mb g →
      wpAny (model prog w) (A.deeper (envOf qual scope L' f cdv)) (execs body (envOf qual scope L' f cdv))
        (fun fl s' => Q (match fl with | .ret v => v | _ => .none) s')
        (fun _ _ => False)
        { s with heap := h₁, toks := s.toks + binds.length })
    (hco : scope.isCoroutine = false := by rfl) (hgen : scope.isGenerator = false := by rfl) (hk : scope.kind = .function := by rfl)
    (hcell : ∀ x ∈ scope.names, x.2 ≠ .cell := by decide) : wpAny (model prog w) A (call (.ref f) args kw) Q (fun _ _ => False) s := by
  have X := G.X.keeps hB
  refine wpAny_call (codeAny_call_def (fd := fnOf name qual params body scope dV kV doc pm an cdv ct) (body := body) (binds := binds) hroom (X _ _ ho) rfl (G.T.nolimit.keeps hB) (codeRec_of X hcd) rfl hbind hcell hloc (fun h₁ hns hk₁ => ?_) hco hgen hk)
  have st : B.StaysIn (hideAll s.heap (hid.map (·.1))) := hide_stays hB fun b hb => by
    obtain ⟨p, hp, rfl⟩ := List.mem_map.mp hb
    exact (hN p hp).2
  refine wpAny_mono (h _ s.heap.objs.size h₁ rfl ⟨hns, fun b o e => hk₁ b o (of_hideAll _ e), Nat.le_of_eq (hideAll_size _ _)⟩
    (fun p hp => ⟨hk₁ _ _ (hN p hp).1, Nat.ne_of_lt (Heap.lt_size (hN p hp).1), hideAll_none _ (List.mem_map_of_mem hp)⟩) (fun p hp => Heap.lt_size (hN p hp).1) (G.X.keeps st) (G.T.keeps st)) (fun _ _ x => x) fun _ _ x => x.elim

/-- the same of a def whose names are captured: its cells lie ahead in the ledger -/
theorem enterC (G : Gd K loose mean mg mb B) (hB : B.StaysIn s.heap) (hid : List (Addr × Obj)) (hN : ∀ p ∈ hid, s.heap.get? p.1 = some p.2 ∧ B.get? p.1 = none)
    (ho : K.lookup f = some ⟨oc, od, .func (fnOf name qual params body scope dV kV doc pm an cdv ct), osl⟩) (hcd : codeIn K cdv qual = true) (hroom : A.depth < recursionLimit)
    (hbind : BindsTo s (fnOf name qual params body scope dV kV doc pm an cdv ct) ⟨args, kw⟩ binds)
    (hkind : (binds.all fun y => scope.names.lookup y.1 == some .local || scope.names.lookup y.1 == some .cell) = true)
    (hnd : ((cellsFrom 0 scope.names []).map (·.1)).Nodup)
    (h : ∀ g L' h₁ tk cells, g = hideAll s.heap (hid.map (·.1)) → Fr g L' h₁ (bindL (envOfC qual scope L' f cdv).kindOf binds fun _ => none) → News g L' h₁ (cells ++ hid) →
      CellsAre (bindC (envOfC qual scope L' f cdv).kindOf binds fun _ => none) (cellsFrom (L' + 1) scope.names []) cells → (∀ p ∈ hid, p.1 < L') → K.In g → Top topProg loose mean mg mb g →
      wpAny (model prog w) (A.deeper (envOfC qual scope L' f cdv)) (execs body (envOfC qual scope L' f cdv))
        (fun fl s' => Q (match fl with | .ret v => v | _ => .none) s')
        (fun _ _ => False)
        { s with heap := h₁, toks := tk })
    (hco : scope.isCoroutine = false := by rfl) (hgen : scope.isGenerator = false := by rfl) (hk : scope.kind = .function := by rfl) :
    wpAny (model prog w) A (call (.ref f) args kw) Q (fun _ _ => False) s := by
  have X := G.X.keeps hB
  have st : B.StaysIn (hideAll s.heap (hid.map (·.1))) := hide_stays hB fun b hb => by
    obtain ⟨p, hp, rfl⟩ := List.mem_map.mp hb
    exact (hN p hp).2
  refine wpAny_call (codeAny_call_function hroom (X _ _ ho) rfl hco hgen rfl (codeRec_of X hcd) (hbind _ _ _ _ ?_))
  refine wpAny_newFunctionEnv_cells hk (kindsX hkind _) fun env' he s' x => ?_
  subst he
  refine ⟨(G.T.nolimit.keeps hB).keeps x.toInCall.keep, codeAny_func ?_⟩
  obtain ⟨h₁, tk, rfl, _⟩ := x.done
  have hk₁ := x.toInCall.keep
  obtain ⟨cells, NC, Y⟩ := Cl.news (h₀ := s.heap) (Nat.le_refl _) fun n c hm => ⟨x.cell n c (lookup_of_mem_nodup (cellsFrom_names scope.names 0 (s.heap.objs.size + 1) [] [] rfl ▸ hnd) hm), x.above n c hm⟩
  refine wpAny_mono (h _ s.heap.objs.size h₁ tk cells rfl ⟨x.toInCall.ns, fun b o e => hk₁ b o (of_hideAll _ e), Nat.le_of_eq (hideAll_size _ _)⟩ (fun p hp => ?_) Y (fun p hp => Heap.lt_size (hN p hp).1) (G.X.keeps st) (G.T.keeps st)) (fun _ _ y => y) fun _ _ y => y.elim
  rcases List.mem_append.mp hp with hp | hp
  · refine ⟨(NC p hp).1, (NC p hp).2.1, ?_⟩
    cases q : (hideAll s.heap (hid.map (·.1))).get? p.1 with
    | none => rfl
    | some o => have := of_hideAll _ q; rw [(NC p hp).2.2] at this; cases this
  · exact ⟨hk₁ _ _ (hN p hp).1, Nat.ne_of_lt (Heap.lt_size (hN p hp).1), hideAll_none _ (List.mem_map_of_mem hp)⟩
end

section
variable {prog : Program} {w : World} {A : Around} {E : Value → Shared → Prop} {s : Shared} {env : Env} {h₀ : Heap} {Q : Flow → Shared → Prop}

/-- what a turn of a loop leaves -/
def OurTurn (h₀ : Heap) (L I : Addr) (own : List (Addr × Obj)) (J : (Str → Option Value) → List (Addr × Obj) → Prop) (s₁ : Shared) (Q : Flow → Shared → Prop) (f : Flow) (s₂ : Shared) : Prop :=
  match f with
  | .ret v => Q (.ret v) s₂
  | .brk => Q .next s₂
  | _ => ∃ h' tk m' nx, s₂ = { s₁ with heap := h', toks := tk } ∧ Fr h₀ L h' m' ∧ News h₀ L h' (nx ++ own) ∧ (∀ p ∈ nx, p.1 ≠ I) ∧ J m' nx

theorem OurTurn.ret {L I : Addr} {own : List (Addr × Obj)} {J : (Str → Option Value) → List (Addr × Obj) → Prop} {s₁ s₂ : Shared} {v : Value} (h : Q (.ret v) s₂) : OurTurn h₀ L I own J s₁ Q (.ret v) s₂ := h
theorem OurTurn.brk {L I : Addr} {own : List (Addr × Obj)} {J : (Str → Option Value) → List (Addr × Obj) → Prop} {s₁ s₂ : Shared} (h : Q .next s₂) : OurTurn h₀ L I own J s₁ Q .brk s₂ := h
theorem OurTurn.next {L I : Addr} {own nx : List (Addr × Obj)} {J : (Str → Option Value) → List (Addr × Obj) → Prop} {s₁ : Shared} {h' : Heap} {tk : Nat} {m' : Str → Option Value}
    (F : Fr h₀ L h' m') (N : News h₀ L h' (nx ++ own)) (hI : ∀ p ∈ nx, p.1 ≠ I) (hj : J m' nx) : OurTurn h₀ L I own J s₁ Q .next { s₁ with heap := h', toks := tk } := ⟨h', tk, m', nx, rfl, F, N, hI, hj⟩
theorem OurTurn.cont {L I : Addr} {own nx : List (Addr × Obj)} {J : (Str → Option Value) → List (Addr × Obj) → Prop} {s₁ : Shared} {h' : Heap} {tk : Nat} {m' : Str → Option Value}
    (F : Fr h₀ L h' m') (N : News h₀ L h' (nx ++ own)) (hI : ∀ p ∈ nx, p.1 ≠ I) (hj : J m' nx) : OurTurn h₀ L I own J s₁ Q .cont { s₁ with heap := h', toks := tk } := ⟨h', tk, m', nx, rfl, F, N, hI, hj⟩

/-- what a for over any target wants of its iterator: a walk of values, an invariant over the frame's map and the ledger -/
def LoopAny (prog : Program) (w : World) (A : Around) (h₀ : Heap) (env : Env) (target : Expr) (body : List Stmt) (Q : Flow → Shared → Prop) (E : Value → Shared → Prop) (it : Value) (s₂ : Shared) : Prop :=
  ∃ (I : Addr) (fp : List Addr) (n : Nat) (P : Nat → Value → Prop) (St : Nat → Heap → Prop) (m : Str → Option Value) (news : List (Addr × Obj)) (J : Nat → (Str → Option Value) → List (Addr × Obj) → Prop),
    it = .ref I ∧ (∀ v, letOwnedTupleGo target it v = pure ()) ∧ Walks prog w A I fp [I] n P St ∧ env.locals ∉ fp ∧ h₀.get? I = none ∧ (∀ p ∈ news, p.1 ≠ I) ∧ St 0 s₂.heap ∧ Fr h₀ env.locals s₂.heap m ∧ News h₀ env.locals s₂.heap news ∧ J 0 m news ∧
    (∀ i v m₁ news₁ h tk own, i < n → P i v → J i m₁ news₁ → (∀ p ∈ news₁, p.1 ≠ I) → (∀ p ∈ own, p.1 ∈ fp) → Fr h₀ env.locals h m₁ → News h₀ env.locals h (news₁ ++ own) →
      wpAny (model prog w) A (assign target env v) (fun _ s₄ => wpAny (model prog w) A (execs body env) (OurTurn h₀ env.locals I own (J (i + 1)) s₂ Q) E s₄) E { s₂ with heap := h, toks := tk }) ∧
    (∀ m₁ news₁ h tk, J n m₁ news₁ → Fr h₀ env.locals h m₁ → News h₀ env.locals h news₁ → Q .next { s₂ with heap := h, toks := tk })

/-- a for, any target -/
theorem for_any {target iter : Expr} {body : List Stmt} {pos : Pos} (h₀ : Heap)
    (h : wpAny (model prog w) A (eval iter env) (fun x s₁ => wpAny (model prog w) A (pyIter x) (fun it s₂ => LoopAny prog w A h₀ env target body Q E it s₂) E s₁) E s)
    (hs : ∀ x, foldedSetIterable iter env x = pure x := by intro _; rfl)
    (hE : PassesOwn (model prog w) A env E := by passes_own) :
    wpAny (model prog w) A (exec (.For target iter body [] pos) env) Q E s := by
  refine wpAny_For (wpAny_mono h (fun xv s₁ h₁ => wpAny_mono h₁ (fun it s₂ h₂ => ?_) fun _ _ e => e) fun _ _ e => e) hs
  obtain ⟨I, fp, n, P, St, m, news, J, rfl, ht, W, hLf, hI0, hnI, hst, F, N, hj, turn, done⟩ := h₂
  have hIf : I ∈ fp := W.sub I (List.mem_singleton.mpr rfl)
  refine codeAny_forLoop
    (fun k s' => ∃ h' tk m' nx i, s' = { s₂ with heap := h', toks := tk } ∧ St i h' ∧ Fr h₀ env.locals h' m' ∧ News h₀ env.locals h' nx ∧ (∀ p ∈ nx, p.1 ≠ I) ∧ J i m' nx ∧ i ≤ n ∧ k = n + 1 - i) ?_ (n + 1)
    ⟨s₂.heap, s₂.toks, m, news, 0, rfl, hst, F, N, hnI, hj, Nat.zero_le _, rfl⟩ ht
  rintro k s' ⟨h', tk, m', nx, i, rfl, hst', F', N', hnx, hJ, hi, rfl⟩
  have next : ∀ h₁ : Heap, (∀ b o, b ∉ [I] → h'.get? b = some o → h₁.get? b = some o) → Fr h₀ env.locals h₁ m' ∧ News h₀ env.locals h₁ nx := fun h₁ hk₁ =>
    ⟨⟨F'.ns.at' fun o e => hk₁ _ o (fun q => hLf ((List.mem_singleton.mp q) ▸ hIf)) e, fun b o e => hk₁ b o (fun q => by rw [List.mem_singleton.mp q, hI0] at e; cases e) (F'.keep b o e), F'.above⟩,
      fun p hp => ⟨hk₁ _ _ (fun q => hnx p hp (List.mem_singleton.mp q)) (N' p hp).1, (N' p hp).2⟩⟩
  by_cases hlt : i < n
  · refine W.item i _ _ _ hlt hst' fun v h₁ tk₁ hP hst₁ hk₁ => ?_
    obtain ⟨F₁, N₁⟩ := next h₁ hk₁
    have Nown : News h₀ env.locals h₁ (ownOf h₀ fp h₁) := news_ownOf hLf
    have N₂ : News h₀ env.locals h₁ (nx ++ ownOf h₀ fp h₁) := fun p hp => (List.mem_append.mp hp).elim (N₁ p) (Nown p)
    have T := turn i v m' nx h₁ tk₁ (ownOf h₀ fp h₁) hlt hP hJ hnx ownOf_sub F₁ N₂
    have fin : ∀ s₅ : Shared, (∃ h'' tk m'' nx', s₅ = { s₂ with heap := h'', toks := tk } ∧ Fr h₀ env.locals h'' m'' ∧ News h₀ env.locals h'' (nx' ++ ownOf h₀ fp h₁) ∧ (∀ p ∈ nx', p.1 ≠ I) ∧ J (i + 1) m'' nx') →
        ∃ mm, mm < n + 1 - i ∧ ∃ h' tk m' nx i, s₅ = { s₂ with heap := h', toks := tk } ∧ St i h' ∧ Fr h₀ env.locals h' m' ∧ News h₀ env.locals h' nx ∧ (∀ p ∈ nx, p.1 ≠ I) ∧ J i m' nx ∧ i ≤ n ∧ mm = n + 1 - i := by
      rintro s₅ ⟨h₃, tk₃, m₂, nx₂, rfl, F₃, N₃, ha₃, hJ₃⟩
      refine ⟨n + 1 - (i + 1), by omega, h₃, tk₃, m₂, nx₂, i + 1, rfl, ?_, F₃, fun p hp => N₃ p (List.mem_append_left _ hp), ha₃, hJ₃, hlt, rfl⟩
      refine W.frame _ _ _ hst₁ fun b hb o e => ?_
      cases hn : h₀.get? b with
      | some o₀ =>
        have e0 : o₀ = o := by have := F₁.keep b o₀ hn; rw [e] at this; exact (Option.some.inj this).symm
        exact e0 ▸ F₃.keep b o₀ hn
      | none => exact (N₃ (b, o) (List.mem_append_right _ (mem_ownOf hb hn e))).1
    refine wpAny_mono (wpAny_passesOwn hE T) (fun _ s₄ T₄ => wpAny_mono (wpAny_passesOwn hE T₄) (fun f s₅ T₅ => ?_) fun _ _ e => e) fun _ _ e => e
    cases f with
    | ret v => exact T₅
    | brk => exact T₅
    | next =>
      obtain ⟨h₃, tk₃, m₂, nx₂, e, r⟩ := T₅
      exact fin s₅ ⟨h₃, tk₃, m₂, nx₂, e, r⟩
    | cont =>
      obtain ⟨h₃, tk₃, m₂, nx₂, e, r⟩ := T₅
      exact fin s₅ ⟨h₃, tk₃, m₂, nx₂, e, r⟩
  · have hin : i = n := by omega
    subst hin
    refine W.done _ _ _ hst' fun h₁ tk₁ hk₁ => wpAny_execs_nil ?_
    obtain ⟨F₁, N₁⟩ := next h₁ hk₁
    exact done m' nx h₁ tk₁ hJ F₁ N₁

theorem fresh_none {L : Addr} {m : Str → Option Value} {h : Heap} (F : Fr h₀ L h m) : h₀.get? h.objs.size = none := by
  cases e : h₀.get? h.objs.size with
  | none => rfl
  | some o => exact absurd (Heap.lt_size (F.keep _ _ e)) (Nat.lt_irrefl _)

/-- over a list, wherever it lies -/
theorem iter_list {target : Expr} {body : List Stmt} {l : Addr} {vs : List Value} {m₀ : Str → Option Value} {news : List (Addr × Obj)} (J : Nat → (Str → Option Value) → List (Addr × Obj) → Prop)
    (hh : A.handled = none) (hl : s.heap.IsList l vs.toArray) (hlL : l ≠ env.locals) (F : Fr h₀ env.locals s.heap m₀) (N : News h₀ env.locals s.heap news) (hj : J 0 m₀ news)
    (turn : ∀ i v m₁ news₁ h tk I own, vs[i]? = some v → J i m₁ news₁ → (∀ p ∈ news₁, p.1 ≠ I) → l < I → (∀ p ∈ own, p.1 = I ∨ p.1 = l) → Fr h₀ env.locals h m₁ → News h₀ env.locals h (news₁ ++ own) →
      wpAny (model prog w) A (assign target env v) (fun _ s₄ => wpAny (model prog w) A (execs body env) (OurTurn h₀ env.locals I own (J (i + 1)) s Q) E s₄) E { s with heap := h, toks := tk })
    (done : ∀ m₁ news₁ h tk, J vs.length m₁ news₁ → Fr h₀ env.locals h m₁ → News h₀ env.locals h news₁ → Q .next { s with heap := h, toks := tk })
    (ht : ∀ a v, letOwnedTupleGo target a v = pure () := by intro _ _; rfl) :
    wpAny (model prog w) A (pyIter (.ref l)) (fun it s₂ => LoopAny prog w A h₀ env target body Q E it s₂) E s := by
  obtain ⟨ol, hol, _⟩ := id hl
  have hlt := Heap.lt_size hol
  refine wpAny_pyIter_list hl ?_
  have W := Walks.list (prog := prog) (w := w) hh s.heap.objs.size l (Nat.ne_of_lt hlt) vs.toArray
  refine ⟨_, _, _, _, _, m₀, news, J, rfl, ht _, W, ?_, fresh_none F, fun p hp => Nat.ne_of_lt (Heap.lt_size (N p hp).1), ⟨⟨_, Heap.get?_push_size _ rfl, rfl, rfl⟩, hl.at fun o e => Heap.get?_push_of_some _ e⟩, F.push _, (fun p hp => ⟨Heap.get?_push_of_some _ (N p hp).1, (N p hp).2⟩), hj, ?_, ?_⟩
  · intro hm
    rcases List.mem_cons.mp hm with e | hm
    · exact absurd F.ns.lt (e ▸ Nat.lt_irrefl _)
    · exact hlL (List.mem_singleton.mp hm).symm
  · intro i v m₁ news₁ h tk own hi hP hJ hnx hown F₁ N₁
    refine turn i v m₁ news₁ h tk _ own (by simpa using hP) hJ hnx hlt (fun p hp => ?_) F₁ N₁
    rcases List.mem_cons.mp (hown p hp) with e | hm
    · exact .inl e
    · exact .inr (List.mem_singleton.mp hm)
  · intro m₁ news₁ h tk hJ F₁ N₁
    exact done m₁ news₁ h tk (by simpa using hJ) F₁ N₁

end
end Mine

end
section
-- Base2
theorem Mine.fresh_Base2 : True := by
  w_top off
  trivial
open PySem PySem.W PyProof.Rows PySem.Calls PySem.Builtin PySem.Builtin.Str
set_option maxRecDepth 100000
namespace Mine

def find4 (x y : Str) (i j : Int) : Int := match occurrences x y (fromIndex x.length i) (min (fromIndex x.length j) x.length) 1 with | k :: _ => (k : Int) | [] => -1
theorem gives_find4 (x y : Str) (i j : Int) (t u v v' : Tok) : Gives («str.find» ⟨[.str x t, .str y u, .int i v, .int j v'], []⟩) (.int (find4 x y i j)) := by
  show Gives (match occurrences x y (fromIndex x.length i) (min (fromIndex x.length j) x.length) 1 with | k :: _ => retInt k | [] => (do rule "str.find.not-found"; retInt (-1))) _
  unfold find4
  cases occurrences x y (fromIndex x.length i) (min (fromIndex x.length j) x.length) 1 with
  | nil => exact .rule (.of_eq rfl)
  | cons k _ => exact .of_eq rfl

section
variable {prog : Program} {w : World} {A : Around} {E : Value → Shared → Prop} {s : Shared} {h₀ : Heap} {L D : Addr} {m : Str → Option Value} {news news' : List (Addr × Obj)} {x y : Str} {t u v v' : Tok} {i j : Int}
theorem find4K {Q : Value → Shared → Prop} (hq : ∀ tk k, Q (.int (find4 x y i j) tk) { s with toks := k }) :
    wpAny (model prog w) A (call (.builtin "str.find") [.str x t, .str y u, .int i v, .int j v']) Q E s :=
  call_gives F.slot_str_find (typeIs_str _ _ _) F.entry_str_find (F.args_str_find_4 _ _ _ _) (gives_find4 x y i j t u v v') (hq _ _)
theorem truthyK {Q : Bool → Shared → Prop} (hl : x.length ≤ 1000000) (hq : ∀ k, Q ((x.length : Int) != 0) { s with toks := k }) : wpAny (model prog w) A (truthy (.str x t)) Q E s :=
  P.truthy_str (by omega) (hq _)
theorem splitK {Q : Value → Shared → Prop} (hF : Fr h₀ L s.heap m) (hN : News h₀ L s.heap news) (hy : (y.length == 0) = false)
    (h : ∀ D l h' k, l.map (·.1) = Txt.split x y → Fr h₀ L h' m → News h₀ L h' ((D, listOf (strValues l).toArray 0) :: news) → (∀ p ∈ news, p.1 < D) → Q (.ref D) { s with heap := h', toks := k })
    (hsz : x.length ≤ 1000000) : wpAny (model prog w) A (call (.builtin "str.split") [.str x t, .str y u]) Q E s :=
  splitN1 hF hN hy (fun l h' k e F N => h _ l h' k e F N fun p hp => Heap.lt_size (hN p hp).1) (by rw [sizeLine_eq]; omega)
theorem delK {its : Array Value} {n k : Nat} {Q : Unit → Shared → Prop} (F : Fr h₀ L s.heap m) (N : News h₀ L s.heap news) (hk : seqIndex? i its.size = some k)
    (U : Upd D (listOf its n) (listOf (its.toList.eraseIdx k).toArray (n + 1)) news news') (hfit : Builtin.List.listFitsIndex i = true)
    (h : ∀ h', Fr h₀ L h' m → News h₀ L h' news' → Q () { s with heap := h' }) (hsz : its.size ≤ 1000000) :
    wpAny (model prog w) A (delItem (.ref D) (.int i u)) Q E s := by
  obtain ⟨pre, post, rfl, rfl, a, b⟩ := U.split
  have z := N (D, listOf its n) (List.mem_append.mpr (.inr (.head _)))
  exact delItem_at z.1 hfit hk (fun h' hs ho' => h h' (F.change hs z.2.1 z.2.2) (news_set N a b hs ho')) (by rw [sizeLine_eq]; omega)
end

/-- a cut between two statements -/
theorem cut {M : Model} {A : Around} {E : Value → Shared → Prop} {s : Shared} {env : Env} {st : Stmt} {rest : List Stmt} {Q : Flow → Shared → Prop} (J : Shared → Prop)
    (h1 : wpAny M A (exec st env) (fun f s' => match f with | .next => J s' | f => Q f s') E s) (h2 : ∀ s', J s' → wpAny M A (execs rest env) Q E s') :
    wpAny M A (execs (st :: rest) env) Q E s :=
  wpAny_execs_cons (wpAny_mono h1 (fun f s' h => by cases f <;> first | exact h2 s' h | exact h) fun _ _ x => x)

theorem execs_append_wp {M : Model} {A : Around} {E : Value → Shared → Prop} {env : Env} {bs : List Stmt} {Q : Flow → Shared → Prop} {Γ : Ctx} (hΓ : Γ.In A) : ∀ {as : List Stmt} {p : Pos} {s : Shared},
    Sem.wp M Γ (execs as env) (fun f _ s' => match f with | .next => wpAny M A (execs bs env) Q E s' | f => Q f s') (fun e _ s' => E e s') p s → Sem.wp M Γ (execs (as ++ bs) env) (fun f _ s' => Q f s') (fun e _ s' => E e s') p s
  | [], p, s, h => by
    have h' : wpAny M A (execs bs env) Q E s := h
    exact h' Γ p hΓ
  | a :: as, p, s, h => by
    rw [execs_cons, Sem.wp_bind'] at h
    show Sem.wp M Γ (execs (a :: (as ++ bs)) env) _ _ p s
    rw [execs_cons, Sem.wp_bind']
    refine Sem.wp_mono M Γ _ (fun f p' s' h' => ?_) (fun _ _ _ x => x) p s h
    cases f with
    | next => exact execs_append_wp hΓ h'
    | _ => exact h'
theorem execs_append {M : Model} {A : Around} {E : Value → Shared → Prop} {env : Env} {as bs : List Stmt} {Q : Flow → Shared → Prop} {s : Shared}
    (h : wpAny M A (execs as env) (fun f s' => match f with | .next => wpAny M A (execs bs env) Q E s' | f => Q f s') E s) : wpAny M A (execs (as ++ bs) env) Q E s :=
  fun Γ p hΓ => execs_append_wp hΓ (h Γ p hΓ)
/-- a cut behind the n-th statement -/
theorem cutN {M : Model} {A : Around} {E : Value → Shared → Prop} {env : Env} {body : List Stmt} {Q : Flow → Shared → Prop} {s : Shared} (n : Nat) (J : Shared → Prop)
    (h1 : wpAny M A (execs (body.take n) env) (fun f s' => match f with | .next => Seg J s' | f => Q f s') E s)
    (h2 : ∀ s', J s' → wpAny M A (execs (body.drop n) env) Q E s') : wpAny M A (execs body env) Q E s := by
  rw [← List.take_append_drop n body]
  exact execs_append (wpAny_mono h1 (fun f s' h => by cases f <;> first | exact h2 s' h | exact h) fun _ _ x => x)

theorem len_ge2 (x y : Str) (hk : PySem.Builtin.Str.strKind y = 1) (h : (occurrences x y 0 x.length 1).isEmpty = false) : 2 ≤ (Txt.split x y).length := by
  rcases StrLaws.occ_head x y 1 (Nat.le_refl _) with ⟨e, _⟩ | ⟨i, r, e, hat, _⟩
  · rw [e] at h; cases h
  have h1 : ¬ (x.length < y.length) := fun hlt => by have := hat.1; omega
  have h2 : ¬ (PySem.Builtin.Str.strKind x < PySem.Builtin.Str.strKind y) := by
    rw [hk]; unfold PySem.Builtin.Str.strKind; split <;> (try split) <;> omega
  have h3 : ¬ ((occurrences x y 0 x.length (x.length + 1)).isEmpty = true) := by
    rcases StrLaws.occ_head x y (x.length + 1) (by omega) with ⟨_, hn⟩ | ⟨i', r', e', _, _⟩
    · exact absurd hat (hn i)
    · rw [e']; exact Bool.false_ne_true
  unfold Txt.split
  rw [if_neg (by simp [h1, h2]), if_neg h3, length_partsBetween]
  cases he : occurrences x y 0 x.length (x.length + 1) with
  | nil => rw [he] at h3; exact absurd rfl h3
  | cons a b => simp


theorem two_ends : ∀ {l : List (Str × Tok)}, 2 ≤ l.length → ∃ a mid z, l = (a :: mid) ++ [z]
  | a :: b :: r, _ => ⟨a, (b :: r).dropLast, (b :: r).getLast (by simp), by
      rw [List.cons_append, List.dropLast_concat_getLast]⟩

section
variable {prog : Program} {w : World} {A : Around} {E : Value → Shared → Prop} {s : Shared} {h₀ : Heap} {L D : Addr} {m : Str → Option Value} {news news' : List (Addr × Obj)} {n : Nat} {u : Tok} {value slice : Expr}
theorem item_first {a : Value} {r : List Value} {Q : Value → Shared → Prop} (N : News h₀ L s.heap news) (hm : (D, listOf (a :: r).toArray n) ∈ news) (h : Q a s)
    (hs : subscripted slice false (.ref D) (.int 0 u) = operate [.ref D, .int 0 u] (getItem (.ref D) (.int 0 u)) := by with_unfolding_all rfl) (hg : ∀ r, letTemporaryGo value (.ref D) r = pure () := by intro _; with_unfolding_all rfl) :
    wpAny (model prog w) A (subscriptTail value slice (.ref D) (.int 0 u)) Q E s := kim_list N hm rfl rfl (by decide) (by decide) rfl h hs hg
theorem item_last {a : Value} {r : List Value} {Q : Value → Shared → Prop} (N : News h₀ L s.heap news) (hm : (D, listOf (r ++ [a]).toArray n) ∈ news) (h : Q a s)
    (hs : subscripted slice false (.ref D) (.int (-1) u) = operate [.ref D, .int (-1) u] (getItem (.ref D) (.int (-1) u)) := by with_unfolding_all rfl) (hg : ∀ r, letTemporaryGo value (.ref D) r = pure () := by intro _; with_unfolding_all rfl) :
    wpAny (model prog w) A (subscriptTail value slice (.ref D) (.int (-1) u)) Q E s :=
  kim_back N hm rfl rfl (by decide) (by simp only [List.length_append, List.length_singleton]; omega) (by decide)
    (by rw [show (-1 + (((r ++ [a]).length : Nat) : Int)).toNat = r.length by simp only [List.length_append, List.length_singleton]; omega]; simp) h hs hg
theorem del_first {a : Value} {r : List Value} {Q : Unit → Shared → Prop} (F : Fr h₀ L s.heap m) (N : News h₀ L s.heap news)
    (U : Upd D (listOf (a :: r).toArray n) (listOf r.toArray (n + 1)) news news')
    (h : ∀ h', Fr h₀ L h' m → News h₀ L h' news' → Q () { s with heap := h' }) (hsz : r.length ≤ 900000) :
    wpAny (model prog w) A (delItem (.ref D) (.int 0 u)) Q E s :=
  delK (its := (a :: r).toArray) (k := 0) F N (by simp only [List.size_toArray, List.length_cons]; unfold seqIndex?; simp) U (by decide) h (by simp only [List.size_toArray, List.length_cons]; omega)
theorem del_last {a : Value} {r : List Value} {Q : Unit → Shared → Prop} (F : Fr h₀ L s.heap m) (N : News h₀ L s.heap news)
    (U : Upd D (listOf (r ++ [a]).toArray n) (listOf r.toArray (n + 1)) news news')
    (h : ∀ h', Fr h₀ L h' m → News h₀ L h' news' → Q () { s with heap := h' }) (hsz : r.length ≤ 900000) :
    wpAny (model prog w) A (delItem (.ref D) (.int (-1) u)) Q E s := by
  refine delK (n := n) (its := (r ++ [a]).toArray) (k := r.length) F N (by simp only [List.size_toArray, List.length_append, List.length_singleton]; unfold seqIndex?; simp; omega) ?_ (by decide) h (by simp only [List.size_toArray, List.length_append, List.length_singleton]; omega)
  have e : ((r ++ [a]).toArray.toList.eraseIdx r.length) = r := by simp [List.eraseIdx_append_of_length_le]
  rw [e]
  exact U
end

theorem strValues_snoc (r : List (Str × Tok)) (z : Str) (tz : Tok) : strValues (r ++ [(z, tz)]) = strValues r ++ [.str z tz] := by simp [strValues]
section
variable {prog : Program} {w : World} {A : Around} {E : Value → Shared → Prop} {s : Shared} {h₀ : Heap} {L D : Addr} {m : Str → Option Value} {news news' : List (Addr × Obj)} {n : Nat} {u tz : Tok} {value slice : Expr} {z : Str}
theorem item_lastS {r : List (Str × Tok)} {Q : Value → Shared → Prop} (N : News h₀ L s.heap news) (hm : (D, listOf (strValues (r ++ [(z, tz)])).toArray n) ∈ news) (h : Q (.str z tz) s)
    (hs : subscripted slice false (.ref D) (.int (-1) u) = operate [.ref D, .int (-1) u] (getItem (.ref D) (.int (-1) u)) := by with_unfolding_all rfl) (hg : ∀ r, letTemporaryGo value (.ref D) r = pure () := by intro _; with_unfolding_all rfl) :
    wpAny (model prog w) A (subscriptTail value slice (.ref D) (.int (-1) u)) Q E s :=
  item_last (r := strValues r) N (by rw [← strValues_snoc]; exact hm) h hs hg
theorem del_lastS {r : List (Str × Tok)} {Q : Unit → Shared → Prop} (F : Fr h₀ L s.heap m) (N : News h₀ L s.heap news)
    (U : Upd D (listOf (strValues (r ++ [(z, tz)])).toArray n) (listOf (strValues r).toArray (n + 1)) news news')
    (h : ∀ h', Fr h₀ L h' m → News h₀ L h' news' → Q () { s with heap := h' }) (hsz : (strValues r).length ≤ 900000) :
    wpAny (model prog w) A (delItem (.ref D) (.int (-1) u)) Q E s :=
  del_last (r := strValues r) F N (by rw [← strValues_snoc]; exact U) h hsz
end

section
variable {prog : Program} {w : World} {A : Around} {E : Value → Shared → Prop} {s : Shared} {h₀ : Heap} {L l : Addr} {m : Str → Option Value} {news : List (Addr × Obj)} {n : Nat} {u : Tok} {v : Value} {x : Int}
theorem mulK {Q : Value → Shared → Prop} (F : Fr h₀ L s.heap m) (N : News h₀ L s.heap news) (hm : (l, listOf [v].toArray n) ∈ news) (h0 : 0 ≤ x) (h1 : x ≤ 200)
    (h : ∀ D h', Fr h₀ L h' m → News h₀ L h' ((D, listOf (List.replicate x.toNat v).toArray 0) :: news) → (∀ p ∈ news, p.1 < D) → Q (.ref D) { s with heap := h' }) : wpAny (model prog w) A (binaryOp .Mult (.ref l) (.int x u)) Q E s :=
  KMa.mul (vs := [v]) F N ⟨_, (N _ hm).1, rfl, _, rfl⟩ (by omega) (by omega) (by simp only [List.length_singleton]; omega) (lm_rep_flat_one v _) h
end

end Mine

end
section
-- Base3
theorem Mine.fresh_Base3 : True := by
  w_top off
  trivial
open PySem PySem.W PyProof.Rows PySem.Calls PySem.Builtin PySem.Builtin.Str
set_option maxRecDepth 100000
namespace Mine

/-- a def's table of the code objects that its body makes: where it lies, whence the one code comes, its name -/
structure TabSpec where
  P : Addr
  pos : Pos
  qual : Str
def TabOne (S : TabSpec) (t : List (Addr × Obj)) : Prop :=
  t = [(S.P, tabObj #[])] ∨ ∃ c oc vs tk, t = [(c, oc), (S.P, tabObj #[rawInt S.pos.line, rawInt S.pos.col, .ref c])] ∧ oc.data = .fields vs ∧ vs[1]? = some (.str S.qual tk)
def TabS (S T : TabSpec) (tl : List (Addr × Obj)) : Prop := ∃ t1 t2, tl = t1 ++ t2 ∧ TabOne S t1 ∧ TabOne T t2
def Fld (o : Obj) : Prop := ∃ vs, o.data = .fields vs
def NotFld (o : Obj) : Prop := ∀ vs, o.data ≠ .fields vs
theorem TabOne.fld {S : TabSpec} {t : List (Addr × Obj)} (h : TabOne S t) : ∀ q ∈ t, Fld q.2 := by
  rcases h with rfl | ⟨c, oc, vs, tk, rfl, hd, _⟩
  · intro q hq; rw [List.mem_singleton.mp hq]; exact ⟨_, rfl⟩
  · intro q hq
    rcases List.mem_cons.mp hq with rfl | hq
    · exact ⟨_, hd⟩
    · rw [List.mem_singleton.mp hq]; exact ⟨_, rfl⟩
theorem TabS.fld {S T : TabSpec} {t : List (Addr × Obj)} (h : TabS S T t) : ∀ q ∈ t, Fld q.2 := by
  obtain ⟨t1, t2, rfl, h1, h2⟩ := h
  intro q hq
  exact (List.mem_append.mp hq).elim (h1.fld q) (h2.fld q)

/-- what a call that may lay a code object leaves of the tables and of the rest -/
def TabPost (S T : TabSpec) (tl : List (Addr × Obj)) (h h' : Heap) : Prop :=
  ∃ tl', TabS S T tl' ∧ (∀ b o, b ∉ tl.map (·.1) → h.get? b = some o → h'.get? b = some o) ∧ (∀ p ∈ tl', h'.get? p.1 = some p.2 ∧ (p.1 ∈ tl.map (·.1) ∨ h.get? p.1 = none)) ∧ ∀ a ∈ tl.map (·.1), a ∈ tl'.map (·.1)

/-- a ledger with the tables' part in it, and the same with another such part -/
inductive Suf (tl tl' : List (Addr × Obj)) : List (Addr × Obj) → List (Addr × Obj) → Prop
  | nil : Suf tl tl' tl tl'
  | here {rest} (h : ∀ p ∈ rest, ∀ q ∈ tl, p.1 ≠ q.1) : Suf tl tl' (tl ++ rest) (tl' ++ rest)
  | cons {p n n'} (h : NotFld p.2) (r : Suf tl tl' n n') : Suf tl tl' (p :: n) (p :: n')

theorem hide_none {h : Heap} : ∀ {l : List Addr} {b : Addr}, (hideAll h l).get? b = none → b ∈ l ∨ h.get? b = none := by
  intro l b e
  by_cases hb : b ∈ l
  · exact .inl hb
  · right
    cases q : h.get? b with
    | none => rfl
    | some o => rw [hideAll_get _ q hb] at e; cases e

section
variable {S T : TabSpec} {tl tl' n n' : List (Addr × Obj)} {h₀ h h' : Heap} {L : Addr} {m : Str → Option Value}
theorem Suf.mem (U : Suf tl tl' n n') : ∀ p ∈ tl, p ∈ n := by
  induction U with
  | nil => exact fun p hp => hp
  | here _ => exact fun p hp => List.mem_append_left _ hp
  | cons _ _ ih => exact fun p hp => List.mem_cons_of_mem _ (ih p hp)
theorem Suf.news (U : Suf tl tl' n n') (N : News h₀ L h n) (hF : ∀ q ∈ tl, Fld q.2) (keep : ∀ b o, b ∉ tl.map (·.1) → h.get? b = some o → h'.get? b = some o)
    (hnew : ∀ p ∈ tl', h'.get? p.1 = some p.2 ∧ p.1 ≠ L ∧ h₀.get? p.1 = none) : News h₀ L h' n' := by
  have hN := N
  have tlN : ∀ p ∈ tl, h.get? p.1 = some p.2 := fun p hp => (N p (U.mem p hp)).1
  clear hN
  induction U with
  | nil => exact hnew
  | here hr =>
    intro p hp
    rcases List.mem_append.mp hp with hp | hp
    · exact hnew p hp
    · have z := N p (List.mem_append_right _ hp)
      refine ⟨keep _ _ (fun q => ?_) z.1, z.2⟩
      obtain ⟨r, hr', e⟩ := List.mem_map.mp q
      exact hr p hp r hr' e.symm
  | cons hp0 r ih =>
    rename_i p n n'
    intro q hq
    rcases List.mem_cons.mp hq with rfl | hq
    · have z := N q (List.mem_cons_self ..)
      refine ⟨keep _ _ (fun e => ?_) z.1, z.2⟩
      obtain ⟨r, hr', e⟩ := List.mem_map.mp e
      have := tlN r hr'
      rw [e, z.1] at this
      obtain ⟨vs, hv⟩ := hF r hr'
      rw [← Option.some.inj this] at hv
      exact hp0 vs hv
    · exact ih (fun p hp => N p (List.mem_cons_of_mem _ hp)) q hq

/-- the frame and the ledger behind such a call -/
theorem TabPost.back (P : TabPost S T tl h h') (hS : TabS S T tl) (F : Fr h₀ L h m) (N : News h₀ L h n) (hsuf : ∀ tl', ∃ n', Suf tl tl' n n') :
    ∃ tl', TabS S T tl' ∧ Fr h₀ L h' m ∧ (∀ n', Suf tl tl' n n' → News h₀ L h' n') ∧ (∀ a ∈ tl.map (·.1), a ∈ tl'.map (·.1)) ∧ (∀ b o, b ∉ tl.map (·.1) → h.get? b = some o → h'.get? b = some o) := by
  obtain ⟨tl', hS', keep, hnew, hsub⟩ := P
  obtain ⟨n0, U0⟩ := hsuf tl'
  have tlN : ∀ a ∈ tl.map (·.1), a ≠ L ∧ h₀.get? a = none := fun a ha => by
    obtain ⟨p, hp, rfl⟩ := List.mem_map.mp ha
    exact (N p (U0.mem p hp)).2
  obtain ⟨oL, es, ep, hL, r⟩ := F.ns
  refine ⟨tl', hS', ⟨⟨oL, es, ep, keep _ _ (fun q => (tlN _ q).1 rfl) hL, r⟩, fun b o e => keep b o (fun q => by rw [(tlN _ q).2] at e; cases e) (F.keep b o e), F.above⟩, fun n' U => ?_, hsub, keep⟩
  refine U.news N hS.fld keep fun p hp => ?_
  obtain ⟨h1, h2⟩ := hnew p hp
  refine ⟨h1, ?_⟩
  rcases h2 with h2 | h2
  · exact tlN _ h2
  · refine ⟨fun e => ?_, ?_⟩
    · rw [e, hL] at h2; cases h2
    · cases q : h₀.get? p.1 with
      | none => rfl
      | some o => rw [F.keep _ _ q] at h2; cases h2

/-- at a def's end: what it leaves, from its own frame and ledger over the hidden heap -/
theorem TabPost.of {s : Heap} (hS : TabS S T tl') (F : Fr (hideAll s (tl.map (·.1))) L h m) (N : News (hideAll s (tl.map (·.1))) L h n) (hm : ∀ p ∈ tl', p ∈ n) (hsub : ∀ a ∈ tl.map (·.1), a ∈ tl'.map (·.1)) :
    TabPost S T tl s h :=
  ⟨tl', hS, fun b o hb e => F.keep b o (hideAll_get _ e hb), fun p hp => ⟨(N p (hm p hp)).1, hide_none (N p (hm p hp)).2.2⟩, hsub⟩
theorem new_none {s : Heap} {D : Addr} {o : Obj} (hS : TabS S T tl') (N : News (hideAll s (tl.map (·.1))) L h n) (hm : ∀ p ∈ tl', p ∈ n) (hsub : ∀ a ∈ tl.map (·.1), a ∈ tl'.map (·.1)) (hD : (D, o) ∈ n) (ho : NotFld o) :
    s.get? D = none := by
  rcases hide_none (N _ hD).2.2 with h | h
  · obtain ⟨q, hq, e⟩ := List.mem_map.mp (hsub D h)
    have h1 := (N q (hm q hq)).1
    rw [e, (N _ hD).1] at h1
    obtain ⟨vs, hv⟩ := hS.fld q hq
    rw [← Option.some.inj h1] at hv
    exact absurd hv (ho vs)
  · exact h
end

section
variable {M : Model} {A : Around} {E : Value → Shared → Prop} {s : Shared} {h₀ : Heap} {L a c : Addr} {m mg mb : Str → Option Value} {cn : Str} {cs : Scope} {ccd : Value} {cl : List (Str × Addr)} {led t1 t2 : List (Addr × Obj)}
  {p : Program} {loose : List Str} {mean : ExcName → Option Value} {name qual : Str} {params : Arguments} {body : List Stmt} {scope : Scope} {pos : Pos} {firstLine : Nat} {clos : List (Str × Addr)} {S : TabSpec}
theorem updF_mid {P : Addr} {o : Obj} {rest : List (Addr × Obj)} (hr : ∀ q ∈ rest, q.1 ≠ P) : ∀ {led : List (Addr × Obj)}, (∀ q ∈ led, q.1 ≠ P) → UpdF P o (led ++ (P, o) :: rest) (fun o' => led ++ (P, o') :: rest)
  | [], _ => .head hr
  | q :: led, h => .tail (h q (List.mem_cons_self ..)) (updF_mid hr fun r hr' => h r (List.mem_cons_of_mem _ hr'))

/-- a def within a def: cold or warm, one way -/
theorem nestAny {Q : Value → Shared → Prop} (F : Fr h₀ L s.heap m) (N : News h₀ L s.heap (led ++ (t1 ++ t2))) (T : Top p loose mean mg mb h₀) (C : CodeHd h₀ c S.P) (hcd : ccd = .ref c) (ht : TabOne S t1)
    (hs1 : ∀ q ∈ led, q.1 ≠ S.P) (hs2 : ∀ q ∈ t2, q.1 ≠ S.P) (hpos : pos = S.pos) (hq : qual = S.qual) (hcl : closureFor scope (envX cn cs L a ccd cl) = pure clos)
    (h : ∀ f c' t1' ctv doc h' tk, TabOne S t1' → (∃ oc vs t, (c', oc) ∈ t1' ∧ oc.data = .fields vs ∧ vs[1]? = some (.str qual t)) → (∀ a ∈ t1.map (·.1), a ∈ t1'.map (·.1)) → Fr h₀ L h' m →
      News h₀ L h' ((f, fnMade name qual params body scope clos doc ((mg "__name__").getD .none) c' ctv) :: (led ++ (t1' ++ t2))) → (∀ q ∈ led, q.1 < f) → (∀ q ∈ t1' ++ t2, q.1 < f) → Q (.ref f) { s with heap := h', toks := tk }) :
    wpAny M A (makeFunction name qual params (.stmts body) scope (envX cn cs L a ccd cl) [] [] [] pos firstLine) Q E s := by
  subst hpos hq
  rcases ht with rfl | ⟨c0, oc0, vs0, tk0, rfl, hd0, hv0⟩
  · refine nest_K (g := fun o' => led ++ (S.P, o') :: t2) F N T C hcd (ps := #[]) (updF_mid hs2 hs1) trivial rfl hcl fun f c' oc vs t ctv doc h' tk F' N' hd hv l1 l2 => ?_
    refine h f c' [(c', oc), (S.P, tabObj #[rawInt S.pos.line, rawInt S.pos.col, .ref c'])] ctv doc h' tk (.inr ⟨c', oc, vs, t, rfl, hd, hv⟩) ⟨oc, vs, t, List.mem_cons_self .., hd, hv⟩ (fun a ha => ?_) F' (fun q hq => N' q ?_) (fun q hq => ?_) (fun q hq => ?_)
    · simp only [List.map_cons, List.map_nil, List.mem_singleton] at ha
      subst ha; simp
    · simp only [List.mem_cons, List.mem_append, List.not_mem_nil, or_false] at hq ⊢
      rcases hq with h | h | (h | h) | h
      · exact .inl h
      · exact .inr (.inr (.inl h))
      · exact .inr (.inl h)
      · exact .inr (.inr (.inr (.inl h)))
      · exact .inr (.inr (.inr (.inr h)))
    · exact Nat.lt_trans (l1 q (List.mem_append_left _ hq)) l2
    · simp only [List.mem_cons, List.mem_append, List.not_mem_nil, or_false] at hq
      rcases hq with (h | h) | h
      · rw [h]; exact l2
      · rw [h]; exact Nat.lt_trans (l1 (S.P, tabObj #[]) (by simp)) l2
      · exact Nat.lt_trans (l1 q (by simp [h])) l2
  · refine nestHit_K (c' := c0) (ps := #[rawInt S.pos.line, rawInt S.pos.col, .ref c0]) F N T C hcd (by simp) (by simp [TriplesOk, rawInt]) (by simp [codeAmong, rawInt]) hcl fun f ctv doc h' tk F' N' l1 => ?_
    exact h f c0 _ ctv doc h' tk (.inr ⟨c0, oc0, vs0, tk0, rfl, hd0, hv0⟩) ⟨oc0, vs0, tk0, List.mem_cons_self .., hd0, hv0⟩ (fun a ha => ha) F' N' (fun q hq => l1 q (List.mem_append_left _ hq)) (fun q hq => l1 q (List.mem_append_right _ hq))
end

/-- a tail of the ledger that lies below an address -/
def Low (d : Addr) (l : List (Addr × Obj)) : Prop := ∀ p ∈ l, p.1 < d
theorem Low.ne {d e : Addr} {l : List (Addr × Obj)} (h : Low d l) (hde : @LE.le Nat _ d e) : ∀ p ∈ l, p.1 ≠ e := fun p hp => Nat.ne_of_lt (Nat.lt_of_lt_of_le (h p hp) hde)
theorem allLt_all {d : Addr} : ∀ {l : List (Addr × Obj)}, AllLt d l → ∀ p ∈ l, @LT.lt Nat _ p.1 d
  | [], _, _, hp => nomatch hp
  | _ :: _, h, p, hp => (List.mem_cons.mp hp).elim (fun e => e ▸ h.1) fun m => allLt_all h.2 p m
theorem allLt_low {d : Addr} {l : List (Addr × Obj)} (h : AllLt d l) : Low d l := allLt_all h
theorem allLt_ne {d : Addr} {l : List (Addr × Obj)} (h : AllLt d l) : ∀ p ∈ l, p.1 ≠ d := fun p hp => Nat.ne_of_lt (allLt_all h p hp)

theorem tab_mem {S : TabSpec} {t : List (Addr × Obj)} (h : TabOne S t) : ∃ ps, (S.P, tabObj ps) ∈ t ∧ ∀ x tk, ps[1]? ≠ some (.str x tk) := by
  rcases h with rfl | ⟨c, oc, vs, tk, rfl, _, _⟩
  · exact ⟨#[], List.mem_cons_self .., fun x tk e => by cases e⟩
  · exact ⟨_, List.mem_cons_of_mem _ (List.mem_cons_self ..), fun x tk e => by cases e⟩
theorem tab_apart {S T : TabSpec} {h : Heap} {t1 t2 : List (Addr × Obj)} (h1 : TabOne S t1) (h2 : TabOne T t2) (hne : S.P ≠ T.P) (hk1 : ∀ p ∈ t1, h.get? p.1 = some p.2) (hk2 : ∀ p ∈ t2, h.get? p.1 = some p.2) : ∀ q ∈ t2, q.1 ≠ S.P := by
  obtain ⟨ps, hm, hps⟩ := tab_mem h1
  have hP := hk1 _ hm
  rcases h2 with rfl | ⟨c, oc, vs, tk, rfl, hd, hv⟩
  · intro q hq; rw [List.mem_singleton.mp hq]; exact fun e => hne e.symm
  · intro q hq
    rcases List.mem_cons.mp hq with rfl | hq
    · intro e
      have hc := hk2 _ (List.mem_cons_self ..)
      dsimp only at e hc hP
      rw [e, hP] at hc
      rw [← Option.some.inj hc] at hd
      cases hd
      exact hps _ _ hv
    · rw [List.mem_singleton.mp hq]; exact fun e => hne e.symm

section
variable {M : Model} {A : Around} {E : Value → Shared → Prop} {s : Shared} {h₀ : Heap} {L a c : Addr} {m mg mb : Str → Option Value} {cn : Str} {cs : Scope} {ccd : Value} {cl : List (Str × Addr)} {tl : List (Addr × Obj)}
  {p : Program} {loose : List Str} {mean : ExcName → Option Value} {name qual : Str} {params : Arguments} {body : List Stmt} {scope : Scope} {pos : Pos} {firstLine : Nat} {clos : List (Str × Addr)} {S T : TabSpec}
theorem led_apart {led : List (Addr × Obj)} {h : Heap} (hk : ∀ p ∈ tl, h.get? p.1 = some p.2) (hl : ∀ p ∈ led, h.get? p.1 = some p.2) (hf : ∀ q ∈ tl, Fld q.2) (hn : ∀ q ∈ led, NotFld q.2) {P : Addr} {o : Obj} (hP : (P, o) ∈ tl) : ∀ q ∈ led, q.1 ≠ P := by
  intro q hq e
  have h1 := hl q hq
  have h2 := hk _ hP
  dsimp only at h2
  rw [e, h2] at h1
  obtain ⟨vs, hv⟩ := hf _ hP
  exact hn q hq vs (by rw [← Option.some.inj h1]; exact hv)

/-- a def within a def, the first table's -/
theorem nest1 {Q : Value → Shared → Prop} (led : List (Addr × Obj)) (F : Fr h₀ L s.heap m) (N : News h₀ L s.heap (led ++ tl)) (Tt : Top p loose mean mg mb h₀) (C : CodeHd h₀ c S.P) (hcd : ccd = .ref c) (hS : TabS S T tl)
    (hne : S.P ≠ T.P) (hnf : ∀ q ∈ led, NotFld q.2) (hpos : pos = S.pos) (hq : qual = S.qual) (hcl : closureFor scope (envX cn cs L a ccd cl) = pure clos)
    (h : ∀ f c' tl' ctv doc h' tk, TabS S T tl' → (∃ oc vs t, (c', oc) ∈ tl' ∧ oc.data = .fields vs ∧ vs[1]? = some (.str qual t)) → (∀ a ∈ tl.map (·.1), a ∈ tl'.map (·.1)) → Fr h₀ L h' m →
      News h₀ L h' ((f, fnMade name qual params body scope clos doc ((mg "__name__").getD .none) c' ctv) :: (led ++ tl')) → (∀ q ∈ led, q.1 < f) → Low f tl' → Q (.ref f) { s with heap := h', toks := tk }) :
    wpAny M A (makeFunction name qual params (.stmts body) scope (envX cn cs L a ccd cl) [] [] [] pos firstLine) Q E s := by
  obtain ⟨t1, t2, rfl, h1, h2⟩ := id hS
  obtain ⟨ps, hm, _⟩ := tab_mem h1
  have kt : ∀ p ∈ t1 ++ t2, s.heap.get? p.1 = some p.2 := fun p hp => (N p (List.mem_append_right _ hp)).1
  have kl : ∀ p ∈ led, s.heap.get? p.1 = some p.2 := fun p hp => (N p (List.mem_append_left _ hp)).1
  refine nestAny (led := led) F N Tt C hcd h1 (led_apart kt kl hS.fld hnf (List.mem_append_left _ hm)) (tab_apart h1 h2 hne (fun p hp => kt p (List.mem_append_left _ hp)) fun p hp => kt p (List.mem_append_right _ hp)) hpos hq hcl ?_
  intro f c' t1' ctv doc h' tk hT hc hsub F' N' l1 l2
  obtain ⟨oc, vs, t, hcm, r⟩ := hc
  refine h f c' (t1' ++ t2) ctv doc h' tk ⟨t1', t2, rfl, hT, h2⟩ ⟨oc, vs, t, List.mem_append_left _ hcm, r⟩ (fun a ha => ?_) F' N' l1 l2
  rw [List.map_append] at ha ⊢
  rcases List.mem_append.mp ha with ha | ha
  · exact List.mem_append_left _ (hsub a ha)
  · exact List.mem_append_right _ ha

/-- a def within a def, the second table's -/
theorem nest2 {Q : Value → Shared → Prop} (led : List (Addr × Obj)) (F : Fr h₀ L s.heap m) (N : News h₀ L s.heap (led ++ tl)) (Tt : Top p loose mean mg mb h₀) (C : CodeHd h₀ c T.P) (hcd : ccd = .ref c) (hS : TabS S T tl)
    (hne : S.P ≠ T.P) (hnf : ∀ q ∈ led, NotFld q.2) (hpos : pos = T.pos) (hq : qual = T.qual) (hcl : closureFor scope (envX cn cs L a ccd cl) = pure clos)
    (h : ∀ f c' tl' ctv doc h' tk, TabS S T tl' → (∃ oc vs t, (c', oc) ∈ tl' ∧ oc.data = .fields vs ∧ vs[1]? = some (.str qual t)) → (∀ a ∈ tl.map (·.1), a ∈ tl'.map (·.1)) → Fr h₀ L h' m →
      News h₀ L h' ((f, fnMade name qual params body scope clos doc ((mg "__name__").getD .none) c' ctv) :: (led ++ tl')) → (∀ q ∈ led, q.1 < f) → Low f tl' → Q (.ref f) { s with heap := h', toks := tk }) :
    wpAny M A (makeFunction name qual params (.stmts body) scope (envX cn cs L a ccd cl) [] [] [] pos firstLine) Q E s := by
  obtain ⟨t1, t2, rfl, h1, h2⟩ := hS
  refine nest1 (S := T) (T := S) (tl := t2 ++ t1) led F (fun p hp => N p ?_) Tt C hcd ⟨t2, t1, rfl, h2, h1⟩ hne.symm hnf hpos hq hcl ?_
  · simp only [List.mem_append] at hp ⊢
    rcases hp with h | h | h
    · exact .inl h
    · exact .inr (.inr h)
    · exact .inr (.inl h)
  rintro f c' _ ctv doc h' tk ⟨u2, u1, rfl, g2, g1⟩ ⟨oc, vs, t, hcm, r⟩ hsub F' N' l1 l2
  refine h f c' (u1 ++ u2) ctv doc h' tk ⟨u1, u2, rfl, g1, g2⟩ ⟨oc, vs, t, ?_, r⟩ (fun a ha => ?_) F' (fun p hp => N' p ?_) l1 (fun p hp => l2 p ?_)
  · simp only [List.mem_append] at hcm ⊢; exact hcm.symm
  · have := hsub a (by simp only [List.map_append, List.mem_append] at ha ⊢; exact ha.symm)
    simp only [List.map_append, List.mem_append] at this ⊢; exact this.symm
  · simp only [List.mem_cons, List.mem_append] at hp ⊢
    rcases hp with h | h | h | h
    · exact .inl h
    · exact .inr (.inl h)
    · exact .inr (.inr (.inr h))
    · exact .inr (.inr (.inl h))
  · simp only [List.mem_append] at hp ⊢; exact hp.symm
end

theorem tail_ne {S T : TabSpec} {h₀ h : Heap} {L d : Addr} {tl n : List (Addr × Obj)} {o : Obj} (N : News h₀ L h n) (hS : TabS S T tl) (hsub : ∀ p ∈ tl, p ∈ n) (hm : (d, o) ∈ n) (hn : NotFld o) : ∀ p ∈ tl, p.1 ≠ d := by
  intro p hp e
  have h1 := (N p (hsub p hp)).1
  rw [e, (N _ hm).1] at h1
  obtain ⟨vs, hv⟩ := hS.fld p hp
  rw [← Option.some.inj h1] at hv
  exact hn vs hv
theorem notFld_cell {o : Obj} {v : Option Value} (h : o.data = .cell v) : NotFld o := fun vs e => by rw [h] at e; cases e
theorem notFld_list {a : Array Value} {n : Nat} : NotFld (listOf a n) := fun _ e => by cases e
theorem notFld_seq {a : Array Value} {n : Nat} {c : Value} {d : Option Addr} {sl : Array (Option Value)} : NotFld ⟨c, d, .seq a n, sl⟩ := fun _ e => by cases e

section
variable {prog : Program} {w : World} {A : Around} {s : Shared} {K : Frag} {B : Heap} {loose : List Str} {mean : ExcName → Option Value} {mg mb : Str → Option Value}
  {Q : Value → Shared → Prop} {name qual : Str} {params : Arguments} {body : List Stmt} {scope : Scope} {cl : List (Str × Addr)} {doc pm ctv : Value} {c' f : Addr} {args : List Value} {binds : List (Str × Value)}
/-- a def made within a def -/
theorem enterX (G : Gd K loose mean mg mb B) (hB : B.StaysIn s.heap) (hid : List (Addr × Obj)) (hN : ∀ p ∈ hid, s.heap.get? p.1 = some p.2 ∧ B.get? p.1 = none)
    (ho : B.get? f = some (fnMade name qual params body scope cl doc pm c' ctv)) (hcd : B.CodeRec (.ref c') qual) (hroom : A.depth < recursionLimit)
    (hbind : BindsTo s (fnX name qual params body scope cl .none .none doc pm none (.ref c') ctv) ⟨args, []⟩ binds) (hloc : ∀ y ∈ binds, scope.names.lookup y.1 = some .local)
    (h : ∀ g L' h₁, g = hideAll s.heap (hid.map (·.1)) → Fr g L' h₁ (fun y => binds.reverse.lookup y) → News g L' h₁ hid → (∀ p ∈ hid, p.1 < L') → K.In g → Top topProg loose mean mg mb g → B.StaysIn g →
      wpAny (model prog w) (A.deeper (envX qual scope L' f (.ref c') cl)) (execs body (envX qual scope L' f (.ref c') cl))
        (fun fl s' => Q (match fl with | .ret v => v | _ => .none) s')
        (fun _ _ => False)
        { s with heap := h₁, toks := s.toks + binds.length })
    (hco : scope.isCoroutine = false := by rfl) (hgen : scope.isGenerator = false := by rfl) (hk : scope.kind = .function := by rfl)
    (hcell : ∀ x ∈ scope.names, x.2 ≠ .cell := by decide) : wpAny (model prog w) A (call (.ref f) args) Q (fun _ _ => False) s := by
  have st : B.StaysIn (hideAll s.heap (hid.map (·.1))) := hide_stays hB fun b hb => by
    obtain ⟨p, hp, rfl⟩ := List.mem_map.mp hb
    exact (hN p hp).2
  have hcd' : s.heap.CodeRec (.ref c') qual := by
    obtain ⟨c, oc, vs, t, e1, e2, e3, e4⟩ := hcd
    exact ⟨c, oc, vs, t, e1, hB _ _ e2, e3, e4⟩
  refine wpAny_call (codeAny_call_def (fd := fnX name qual params body scope cl .none .none doc pm none (.ref c') ctv) (body := body) (binds := binds) hroom (hB _ _ ho) rfl (G.T.nolimit.keeps hB) hcd' rfl hbind hcell hloc (fun h₁ hns hk₁ => ?_) hco hgen hk)
  refine wpAny_mono (h _ s.heap.objs.size h₁ rfl ⟨hns, fun b o e => hk₁ b o (of_hideAll _ e), Nat.le_of_eq (hideAll_size _ _)⟩
    (fun p hp => ⟨hk₁ _ _ (hN p hp).1, Nat.ne_of_lt (Heap.lt_size (hN p hp).1), hideAll_none _ (List.mem_map_of_mem hp)⟩) (fun p hp => Heap.lt_size (hN p hp).1) (G.X.keeps st) (G.T.keeps st) st) (fun _ _ x => x) fun _ _ x => x.elim
end
section
variable {M : Model} {A : Around} {E : Value → Shared → Prop} {s : Shared} {h₀ : Heap} {L a : Addr} {m : Str → Option Value} {cn : Str} {cs : Scope} {ccd : Value} {cl : List (Str × Addr)} {x : Str} {pos : Pos} {v : Value} {Q : Value → Shared → Prop} {c : Addr} {o : Obj}
/-- a captured name whose cell lies in the ground -/
theorem nameX_FB (F : Fr h₀ L s.heap m) (hc : cl.lookup x = some c) (ho : h₀.get? c = some o) (hv : o.data = .cell (some v)) (h : Q v s)
    (hk : cs.kind = .function := by rfl) (hx : (envX cn cs L a ccd cl).kindOf x = some .free := by rfl) (hb : (x == ("__debug__" : Str)) = false := by decide) (hn : (x == ("__classdict__" : Str)) = false := by decide) :
    wpAny M A (eval (.Name x pos) (envX cn cs L a ccd cl)) Q E s := wpAny_Name (wpAny_loadName_free hk hx hc ⟨o, F.keep _ _ ho, hv⟩ h hn) hb
end

/-- a def that lies in the written part: its body; and the def that its body makes at a place -/
def fnBody (K : Frag) (f : Addr) : List Stmt := match K.lookup f with
  | some ⟨_, _, .func fd, _⟩ => (match fd.body with | .stmts b => b | _ => [])
  | _ => []
def defParams : Option Stmt → Arguments
  | some (.FunctionDef _ p ..) => p
  | _ => { posonlyargs := [], args := [], vararg := none, kwonlyargs := [], kw_defaults := [], kwarg := none, defaults := [] }
def defBody : Option Stmt → List Stmt
  | some (.FunctionDef _ _ b ..) => b
  | _ => []
def defScope : Option Stmt → Scope
  | some (.FunctionDef _ _ _ _ _ _ sc ..) => sc
  | _ => { kind := .function, names := [], isGenerator := false, isCoroutine := false }
theorem fnAt_keep {h₀ h : Heap} {L q : Addr} {m : Str → Option Value} (F : Fr h₀ L h m) (x : FnAt q h₀) : FnAt q h := let ⟨oc, od, fd, sl, e⟩ := x; ⟨oc, od, fd, sl, F.keep _ _ e⟩
/-- the frame and the ledger behind a change of one made object -/
theorem back_one {h₀ h h' : Heap} {L D : Addr} {m : Str → Option Value} {news news' : List (Addr × Obj)} {o o' : Obj} (F : Fr h₀ L h m) (N : News h₀ L h news) (U : Upd D o o' news news')
    (keep : ∀ b x, b ≠ D → h.get? b = some x → h'.get? b = some x) (hD : h'.get? D = some o') : Fr h₀ L h' m ∧ News h₀ L h' news' := by
  obtain ⟨pre, post, rfl, rfl, a, b⟩ := U.split
  have z := N (D, o) (List.mem_append.mpr (.inr (.head _)))
  obtain ⟨oL, es, ep, hL, r⟩ := F.ns
  refine ⟨⟨⟨oL, es, ep, keep _ _ z.2.1.symm hL, r⟩, fun b x e => keep b x (fun q => by rw [q, z.2.2] at e; cases e) (F.keep b x e), F.above⟩, fun p hp => ?_⟩
  rcases List.mem_append.mp hp with hp | hp
  · have y := N p (List.mem_append_left _ hp)
    exact ⟨keep _ _ (a p hp) y.1, y.2⟩
  · rcases List.mem_cons.mp hp with rfl | hp
    · exact ⟨hD, z.2⟩
    · have y := N p (List.mem_append_right _ (.tail _ hp))
      exact ⟨keep _ _ (b p hp) y.1, y.2⟩
section
variable {prog : Program} {w : World} {A : Around} {E : Value → Shared → Prop} {s : Shared} {h₀ : Heap} {L D : Addr} {news : List (Addr × Obj)} {n : Nat} {vs : List Value}
theorem lenK {Q : Value → Shared → Prop} (N : News h₀ L s.heap news) (hm : (D, listOf vs.toArray n) ∈ news) (hsz : vs.length ≤ 1000000) (h : ∀ tk k, Q (.int (vs.length : Nat) tk) { s with toks := k }) :
    wpAny (model prog w) A (call (.builtin "len") [.ref D]) Q E s :=
  len_list ⟨_, (N _ hm).1, rfl, _, rfl⟩ (by rw [List.size_toArray]; omega) (h _ _)
end
theorem hide_one_get {h : Heap} {D b : Addr} {o : Obj} (e : h.get? b = some o) (hb : b ≠ D) : (hideAll h [D]).get? b = some o := hideAll_get _ e (by simpa using hb)
theorem Gd.hide_one {K : Frag} {loose : List Str} {mean : ExcName → Option Value} {mg mb : Str → Option Value} {g h : Heap} {L D : Addr} {m : Str → Option Value} (G : Gd K loose mean mg mb g) (F : Fr g L h m) (hD : g.get? D = none) : Gd K loose mean mg mb (hideAll h [D]) :=
  have st : g.StaysIn (hideAll h [D]) := hide_stays F.keep fun b hb => by rw [List.mem_singleton.mp hb]; exact hD
  ⟨G.X.keeps st, G.T.keeps st⟩
section
variable {prog : Program} {w : World} {A : Around} {E : Value → Shared → Prop} {s : Shared} {h₀ : Heap} {L D : Addr} {m : Str → Option Value} {vs : List Value}
theorem lenB {Q : Value → Shared → Prop} (F : Fr h₀ L s.heap m) (hl : h₀.IsList D vs.toArray) (hsz : vs.length ≤ 1000000) (h : ∀ tk k, Q (.int (vs.length : Nat) tk) { s with toks := k }) :
    wpAny (model prog w) A (call (.builtin "len") [.ref D]) Q E s :=
  len_list (stays_list F.keep hl) (by rw [List.size_toArray]; omega) (h _ _)
theorem truthyB {Q : Bool → Shared → Prop} (F : Fr h₀ L s.heap m) (hl : h₀.IsList D vs.toArray) (hsz : vs.length ≤ 1000000) (h : ∀ k, Q (decide (0 < vs.length)) { s with toks := k }) : wpAny (model prog w) A (truthy (.ref D)) Q E s :=
  wpAny_truthy_list (stays_list F.keep hl) (by rw [List.size_toArray]; omega) (by
    have e : (!vs.toArray.isEmpty) = decide (0 < vs.length) := by
      cases vs with
      | nil => rfl
      | cons a b => simp
    rw [e]; exact h _)
end
section
variable {prog : Program} {w : World} {A : Around} {E : Value → Shared → Prop} {s : Shared} {env : Env} {h₀ : Heap} {Q : Flow → Shared → Prop}
/-- over a list from its end -/
theorem iter_rev {target : Expr} {body : List Stmt} {l I : Addr} {vs : List Value} {m₀ : Str → Option Value} {news : List (Addr × Obj)} (J : Nat → (Str → Option Value) → List (Addr × Obj) → Prop)
    (hh : A.handled = none) (F : Fr h₀ env.locals s.heap m₀) (N : News h₀ env.locals s.heap ((I, revObj l ((vs.length : Int) - 1)) :: news)) (hnI : ∀ p ∈ news, p.1 ≠ I) (hl : s.heap.IsList l vs.toArray) (hlI : l ≠ I) (hlL : l ≠ env.locals) (hj : J 0 m₀ news)
    (turn : ∀ i v m₁ news₁ h tk own, i < vs.length → vs[vs.length - 1 - i]? = some v → J i m₁ news₁ → (∀ p ∈ news₁, p.1 ≠ I) → (∀ p ∈ own, p.1 = I ∨ p.1 = l) → Fr h₀ env.locals h m₁ → News h₀ env.locals h (news₁ ++ own) →
      wpAny (model prog w) A (assign target env v) (fun _ s₄ => wpAny (model prog w) A (execs body env) (OurTurn h₀ env.locals I own (J (i + 1)) s Q) E s₄) E { s with heap := h, toks := tk })
    (done : ∀ m₁ news₁ h tk, J vs.length m₁ news₁ → Fr h₀ env.locals h m₁ → News h₀ env.locals h news₁ → Q .next { s with heap := h, toks := tk })
    (ht : ∀ a v, letOwnedTupleGo target a v = pure () := by intro _ _; rfl) :
    wpAny (model prog w) A (pyIter (.ref I)) (fun it s₂ => LoopAny prog w A h₀ env target body Q E it s₂) E s := by
  have hI := N _ (List.mem_cons_self ..)
  have hit : s.heap.IsRevIter I l ((vs.length : Int) - 1) := ⟨_, hI.1, rfl, rfl⟩
  refine wpAny_pyIter_revIter hit ?_
  have W := Walks.listRev (prog := prog) (w := w) hh I l hlI vs.toArray
  have e0 : ((vs.toArray.size : Int) - 1 - ((0 : Nat) : Int)) = (vs.length : Int) - 1 := by simp
  refine ⟨I, _, _, _, _, m₀, news, J, rfl, ht _, W, ?_, hI.2.2, hnI, ⟨Nat.zero_le _, by rw [e0]; exact hit, hl⟩, F, (fun p hp => N p (List.mem_cons_of_mem _ hp)), hj, ?_, ?_⟩
  · intro hm
    rcases List.mem_cons.mp hm with e | hm
    · exact hI.2.1 e.symm
    · exact hlL (List.mem_singleton.mp hm).symm
  · intro i v m₁ news₁ h tk own hi hP hJ hnx hown F₁ N₁
    refine turn i v m₁ news₁ h tk own (by simpa using hi) (by simpa using hP) hJ hnx (fun p hp => ?_) F₁ N₁
    rcases List.mem_cons.mp (hown p hp) with e | hm
    · exact .inl e
    · exact .inr (List.mem_singleton.mp hm)
  · intro m₁ news₁ h tk hJ F₁ N₁
    exact done m₁ news₁ h tk (by simpa using hJ) F₁ N₁
end
section
variable {prog : Program} {w : World} {A : Around} {E : Value → Shared → Prop} {s : Shared} {h₀ : Heap} {L : Addr} {m : Str → Option Value} {news : List (Addr × Obj)} {a b : Int} {t u : Tok}
theorem divmodK {Q : Value → Shared → Prop} (F : Fr h₀ L s.heap m) (N : News h₀ L s.heap news) (hb : b ≠ 0) (hs : b.natAbs < 2 ^ 300)
    (h : ∀ T h' tq tr k, Fr h₀ L h' m → News h₀ L h' ((T, { cls := .type "tuple", data := .seq #[.int (a.fdiv b) tq, .int (a.fmod b) tr] }) :: news) → (∀ p ∈ news, p.1 < T) → Q (.ref T) { s with heap := h', toks := k }) :
    wpAny (model prog w) A (call (.builtin "divmod") [.int a t, .int b u]) Q E s :=
  divmod_N F N hb (fun h' F' N' => h _ h' _ _ _ F' N' fun p hp => Heap.lt_size (N p hp).1) (Or.inl (PyProof.noPylong_of_log2 (by
    have : b.natAbs.log2 < 300 := (Nat.log2_lt (by omega)).mpr hs
    omega)))
end
end Mine

end
section
-- Top02
theorem Mine.fresh_Top02 : True := by
  w_top off
  trivial
open PySem PySem.W PyProof.Rows
set_option maxRecDepth 100000
set_option maxHeartbeats 8000000
namespace Mine
open_top hd02 for PySem.Challenge.rw_pg0310_02
set_option pp.deepTerms false
end Mine

end
section
-- Ell02
theorem Mine.fresh_Ell02 : True := by
  w_top off
  trivial
open PySem PySem.W PyProof.Rows PySem.Calls PySem.Builtin.Str
set_option maxRecDepth 100000
set_option maxHeartbeats 2000000
set_option pp.deepTerms false
namespace Mine

def ellGo (got : Str) (e : Int) : List Str → Int → Bool
  | [], _ => true
  | w :: r, p => if find4 got w p e < 0 then false else ellGo got e r (find4 got w p e + w.length)
def ell3 (got : Str) (p e : Int) (ws : List Str) : Bool := if p > e then false else ellGo got e ws p
def ell2 (got : Str) (p : Int) (ws : List Str) (z : Str) : Bool :=
  if (z.length : Int) != 0 then (if Txt.endswith got z then ell3 got p (got.length - z.length) ws else false) else ell3 got p got.length (ws ++ [z])
def ell1 (got : Str) (a : Str) (mid : List Str) (z : Str) : Bool :=
  if (a.length : Int) != 0 then (if Txt.startswith got a then ell2 got a.length mid z else false) else ell2 got 0 (a :: mid) z
def dots : Str := "..."
def ellip (want got : Str) : Bool :=
  if (occurrences want dots 0 want.length 1).isEmpty then want == got else
  match Txt.split want dots with
  | [] => false
  | a :: r => ell1 got a r.dropLast (r.getLastD a)
theorem ellip_split {want got : Str} {a ta mid z tz} {l : List (Str × Tok)} (h : (occurrences want dots 0 want.length 1).isEmpty = false) (e : l.map (·.1) = Txt.split want dots) (hl : l = ((a, ta) :: mid) ++ [(z, tz)]) :
    ellip want got = ell1 got a (mid.map (·.1)) z := by
  unfold ellip
  rw [h, ← e, hl]
  simp

local macro_rules | `(tactic| k_room) => `(tactic| ((try simp only [Around.deeper, recursionLimit] at *); omega))
local macro_rules | `(tactic| k_units) => `(tactic| ((try simp only [Around.deeper, Around.in1, cLine] at *); omega))
local macro_rules | `(tactic| walk_at "truthy str") => `(tactic| (refine truthyK (by first | assumption | omega) ?_; intro _))
local macro_rules | `(tactic| walk_at "call builtin:str.split") => `(tactic| ((with_reducible rename Fr _ _ _ _ => F'); (with_reducible rename News _ _ _ _ => N'); (refine splitK F' N' (by first | rfl | assumption) ?_ (by first | assumption | omega)); intro D' l' h' k' e' F' N' l1; (try k_lt l1)))
local macro_rules | `(tactic| walk_at "subscriptTail Name Constant ref int") => `(tactic| (k_here; k_dflt (refine' item_first ?k1 ?k2 ?_; (case k1 => k_asm); (case k2 => k_mem); k_whole)))

local macro_rules | `(tactic| walk_at "subscriptTail Name UnaryOp ref int") => `(tactic| (k_here; k_dflt (refine' item_lastS ?k1 ?k2 ?_; (case k1 => k_asm); (case k2 => k_mem); k_whole)))
local macro_rules | `(tactic| walk_at "delItem ref int") => `(tactic| (k_here; k_dflt (first
  | ((with_reducible show wpAny _ _ (delItem (Value.ref _) (Value.int 0 _)) _ _ _); refine' del_first ?k1 ?k2 ?k3 ?_ ?k5; (case k1 => k_asm); (case k2 => k_asm); (case k3 => k_upd); (case k5 => assumption); k_whole)
  | ((with_reducible show wpAny _ _ (delItem (Value.ref _) (Value.int (-1) _)) _ _ _); refine' del_lastS ?k1 ?k2 ?k3 ?_ ?k5; (case k1 => k_asm); (case k2 => k_asm); (case k3 => k_upd); (case k5 => assumption); k_whole)); intro h' F' N'; (try k_sweep)))

local macro_rules | `(tactic| walk_at "eval Name") => `(tactic| (k_here; k_dflt (refine' ld ?k1 ?k2 ?_; (case k1 => k_asm); (case k2 => first | exact rfl | assumption); k_whole)))

local macro_rules | `(tactic| walk_at "loadName") => `(tactic| (k_here; k_dflt (refine' ldn ?k1 ?k2 ?_; (case k1 => k_asm); (case k2 => first | exact rfl | assumption); k_whole)))
local macro_rules | `(tactic| walk_at "call builtin:str.find") => `(tactic| ((with_reducible show wpAny _ _ (call (Value.builtin "str.find") [_, _, _, _]) _ _ _); (refine find4K ?_); intro _ _))

theorem ell_spec {w : World} {s : Shared} {B : Heap} {loose mean mg mb} {want got : Str} {t1 t2 : Tok}
    (G : Gd (Mine.hd02.heap_39 w.params) loose mean mg mb B) (hB : B.StaysIn s.heap) 
    (hw : want.length ≤ 1000) (hg : got.length ≤ 1000) :
    Does (model PySem.Challenge.rw_pg0310_02.row.prog w) 5 20 (call (.ref 235) [.str want t1, .str got t2]) s (fun v h' => v = .bool (ellip want got) ∧ s.heap.StaysIn h') := by
  intro d0 u0 fr gs hd hu
  revert G
  k_fill
  intro G
  refine' enter (binds := [("want", .str want t1), ("got", .str got t2)]) G hB [] (fun _ h => nomatch h) ?k6 ?k7 ?k8 ?k9 ?kB ?_ ?c2 ?c3 ?c4 ?c5; (case k6 => k_is); (case k7 => k_is); (case k8 => k_room); (case k9 => exact BindsTo.of_eq rfl);  (case c5 => decide); (case kB => exact locs rfl); (case c2 => exact rfl); (case c3 => exact rfl); (case c4 => exact rfl)
  intro g' L' h' hg' F' N' _ X' T'
  have st : s.heap.StaysIn g' := by rw [hg']; exact fun _ _ e => e
  clear hg'
  have hw' : want.length ≤ 1000000 := by omega
  (try dsimp only)
  refine cutN 3 (fun s' => ∃ h tk D l a ta mid z tz, s' = { s with heap := h, toks := tk } ∧ Fr g' L' h (fun y => if y = "ws" then some (.ref D) else List.lookup y ([("want", Value.str want t1), ("got", .str got t2)] : List (Str × Value)).reverse) ∧ News g' L' h [(D, listOf (strValues l).toArray 0)] ∧ l = ((a, ta) :: mid) ++ [(z, tz)] ∧ l.map (·.1) = Txt.split want dots ∧ ellip want got = ell1 got a (mid.map (·.1)) z) ?_ ?_
  · dsimp only [List.take]
    (try k_fold)
    k_steps
    · refine Done.mk ⟨?_, fun b o e => F'.keep b o (st b o e)⟩
      rename_i ho
      dsimp only
      unfold ellip
      rw [show (occurrences want dots 0 want.length 1).isEmpty = true from ho]; rfl
    · rename List (Str × Tok) => l
      rename (List.map _ _ = _) => e
      rename Fr _ _ _ _ => F
      rename News _ _ _ _ => N
      obtain ⟨⟨a, ta⟩, mid, ⟨z, tz⟩, hl⟩ := two_ends (l := l) (by first | with_reducible assumption | with_reducible exact lt_num (by with_reducible assumption) (Nat.le_of_ble_eq_true rfl) | with_reducible exact le_num (by with_reducible assumption) (Nat.le_of_ble_eq_true rfl) | with_reducible exact le_le (by with_reducible assumption) (Nat.le_of_ble_eq_true rfl) | omega)
      exact ⟨_, _, _, l, a, ta, mid, z, tz, rfl, F, N, hl, e, ellip_split (by assumption) e hl⟩
    · exfalso
      have := len_ge2 want dots (by decide +kernel) (by assumption)
      rename (List.map _ _ = _) => e
      rw [← show _ = Txt.split want dots from e, List.length_map] at this
      omega
  · rintro _ ⟨h, tk, D, l, a, ta, mid, z, tz, rfl, F, N, hl, hsp, hell⟩
    have hlen : l.length ≤ want.length + 2 := len_le_of_split hsp
    have hb : ∀ q ∈ l, q.1.length ≤ 1000 := fun q hq => by
      have := part_short (x := want) (y := dots) (a := q.1) (by rw [← hsp]; exact List.mem_map_of_mem hq)
      omega
    subst hl
    have hb1 : ∀ q ∈ mid, q.1.length ≤ 1000 := fun q hq => hb q (by first | ((repeat with_reducible refine List.mem_cons_of_mem _ ?_); first | exact hq | exact List.mem_append_left _ hq | exact List.mem_append_right _ hq | exact List.mem_append_right _ (List.mem_append_left _ hq) | exact List.mem_append_right _ (List.mem_append_right _ hq) | exact List.mem_append_left _ (List.mem_append_right _ hq) | exact List.mem_append_right _ (List.mem_append_right _ (List.mem_append_left _ hq))) | simp [hq])
    have hza1 : a.length ≤ 1000 := hb (a, ta) (by first | ((repeat (first | with_reducible exact List.mem_cons_self .. | with_reducible refine List.mem_cons_of_mem _ ?_)); done) | simp)
    have hza : a.length ≤ 1000000 := by omega
    have hzz : z.length ≤ 1000000 := by have := hb (z, tz) (by first | ((repeat (first | with_reducible exact List.mem_cons_self .. | with_reducible refine List.mem_cons_of_mem _ ?_)); done) | simp); dsimp only at this; omega
    have hml : mid.length ≤ 2000 := by simp at hlen; omega
    have hml1 : (strValues (mid ++ [(z, tz)])).length ≤ 900000 := by simp [strValues]; omega
    clear hsp hb hlen
    dsimp only [List.drop]
    refine cutN 3 (fun s' => ∃ h tk D vs z tz n p tp te m, s' = { s with heap := h, toks := tk } ∧ Fr g' L' h m ∧ News g' L' h [(D, listOf (strValues (vs ++ [(z, tz)])).toArray n)] ∧ m "got" = some (.str got t2) ∧ m "ws" = some (.ref D) ∧ m "startpos" = some (.int p tp) ∧ m "endpos" = some (.int got.length te) ∧
        (∀ q ∈ vs, q.1.length ≤ 1000) ∧ z.length ≤ 1000000 ∧ vs.length ≤ 3000 ∧ 0 ≤ p ∧ p ≤ 1000000 ∧ ellip want got = ell2 got p (vs.map (·.1)) z) ?_ ?_
    · dsimp only [List.take]
      (try k_fold)
      k_steps
      all_goals (try dsimp only)
      · rename Fr _ _ _ _ => F
        rename News _ _ _ _ => N
        refine ⟨_, _, D, mid, z, tz, _, _, _, _, _, rfl, F, fun p hp => N p (List.mem_cons_of_mem _ hp), rfl, rfl, rfl, rfl, hb1, hzz, by omega, Int.natCast_nonneg _, by omega, ?_⟩
        rw [hell]; unfold ell1
        rw [if_pos (by simp_all), if_pos (by assumption)]
      · refine Done.mk ⟨?_, fun b o e => Fr.keep (by assumption) b o (st b o e)⟩
        rw [hell]; unfold ell1
        rw [if_pos (by simp_all), if_neg (by simp_all)]
      · rename Fr _ _ _ _ => F
        rename News _ _ _ _ => N
        refine ⟨_, _, D, (a, ta) :: mid, z, tz, _, _, _, _, _, rfl, F, fun p hp => N p (List.mem_cons_of_mem _ hp), rfl, rfl, rfl, rfl, ?_, hzz, by simp; omega, Int.le_refl _, by omega, ?_⟩
        · intro q hq
          rcases List.mem_cons.mp hq with rfl | hq
          · exact hza1
          · exact hb1 q hq
        rw [hell]; unfold ell1
        rw [if_neg (by simp_all)]; rfl
    · clear hell hml hml1 hb1 hza hza1 hzz F N
      rintro _ ⟨h, tk, D, vs, z, tz, n, p, tp, te, m, rfl, F, N, m1, m2, m3, m4, hb, hz, hl, hp0, hp1, hell⟩
      have hl1 : (strValues vs).length ≤ 900000 := by simp [strValues]; omega
      dsimp only [List.drop]
      refine cutN 3 (fun s' => ∃ h tk D vs n p tp e te m, s' = { s with heap := h, toks := tk } ∧ Fr g' L' h m ∧ News g' L' h [(D, listOf (strValues vs).toArray n)] ∧ m "got" = some (.str got t2) ∧ m "ws" = some (.ref D) ∧ m "startpos" = some (.int p tp) ∧ m "endpos" = some (.int e te) ∧
        (∀ q ∈ vs, q.1.length ≤ 1000000) ∧ 0 ≤ p ∧ p ≤ 1000000 ∧ e ≤ 1000000 ∧ ellip want got = ellGo got e (vs.map (·.1)) p) ?_ ?_
      · dsimp only [List.take]
        (try k_fold)
        k_steps
        all_goals (first | (k_unmd; k_unfold; try dsimp only) | (try dsimp only))
        all_goals first
          | (refine Done.mk ⟨?_, fun b o e => Fr.keep (by assumption) b o (st b o e)⟩
             dsimp only
             rw [hell]; unfold ell2 ell3
             (repeat' split) <;> first | rfl | (exfalso; simp_all; done) | (exfalso; simp_all; omega))
          | (rename Fr _ _ _ _ => F
             rename News _ _ _ _ => N
             first
               | (refine ⟨_, _, D, vs, _, _, _, _, _, _, rfl, F, N, m1, m2, m3, rfl, fun q hq => by have := hb q hq; omega, hp0, hp1, by omega, ?_⟩
                  rw [hell]; unfold ell2 ell3
                  rw [if_pos (by simp_all), if_pos (by assumption), if_neg (by first | with_reducible assumption | with_reducible exact lt_num (by with_reducible assumption) (Nat.le_of_ble_eq_true rfl) | with_reducible exact le_num (by with_reducible assumption) (Nat.le_of_ble_eq_true rfl) | with_reducible exact le_le (by with_reducible assumption) (Nat.le_of_ble_eq_true rfl) | omega)])
               | (refine ⟨_, _, D, vs ++ [(z, tz)], _, _, _, _, _, _, rfl, F, N, m1, m2, m3, m4, ?_, hp0, hp1, by omega, ?_⟩
                  · intro q hq
                    rcases List.mem_append.mp hq with hq | hq
                    · have := hb q hq; omega
                    · rw [List.mem_singleton.mp hq]; exact hz
                  rw [hell]; unfold ell2 ell3
                  rw [if_neg (by simp_all), if_neg (by first | with_reducible assumption | with_reducible exact lt_num (by with_reducible assumption) (Nat.le_of_ble_eq_true rfl) | with_reducible exact le_num (by with_reducible assumption) (Nat.le_of_ble_eq_true rfl) | with_reducible exact le_le (by with_reducible assumption) (Nat.le_of_ble_eq_true rfl) | omega)]; simp))
      · clear hell hl1 hl hb hz hp0 hp1 m1 m2 m3 m4 F N
        rintro _ ⟨h, tk, D, vs, n, p, tp, e, te, m, rfl, F, N, m1, m2, m3, m4, hb, hp0, hp1, he, hell⟩
        dsimp only [List.drop]
        (try k_fold)
        refine wpAny_execs_cons ?_
        refine for_any g' ?_
        k_steps
        have z := N _ (List.mem_cons_self ..)
        refine iter_list (vs := strValues vs) (fun i m nx => nx = [(D, listOf (strValues vs).toArray n)] ∧ m "got" = some (.str got t2) ∧ (∃ p tp, m "startpos" = some (.int p tp) ∧ 0 ≤ p ∧ ellip want got = ellGo got e ((vs.map (·.1)).drop i) p) ∧ m "endpos" = some (.int e te))
          rfl ⟨_, z.1, rfl, _, rfl⟩ z.2.1 F N ⟨rfl, m1, ⟨p, tp, m3, hp0, hell⟩, m4⟩ ?_ ?_
        · clear N F m1 m2 m3 m4 hp0 hp1 z hell tp p
          rintro i v m₁ nx h tk I own hv ⟨rfl, m1, ⟨p, tp, m2, hp0, hell⟩, m3⟩ hI hDI hown F N
          obtain ⟨⟨y, ty⟩, hy, rfl⟩ : ∃ q : Str × Tok, vs[i]? = some q ∧ v = .str q.1 q.2 := by
            unfold strValues at hv
            rw [List.getElem?_map] at hv
            cases hq : vs[i]? with
            | none => rw [hq] at hv; cases hv
            | some q => rw [hq] at hv; exact ⟨q, rfl, (Option.some.inj hv).symm⟩
          have hdrop : (vs.map (·.1)).drop i = y :: (vs.map (·.1)).drop (i + 1) := by
            rw [List.drop_eq_getElem?_toList_append, List.getElem?_map, hy]; rfl
          rw [hdrop] at hell
          have hyl : y.length ≤ 1000000 := hb _ (List.mem_of_getElem? hy)
          (try k_fold)
          k_steps
          · refine OurTurn.ret (Done.mk ⟨?_, fun b o e => Fr.keep (by assumption) b o (st b o e)⟩)
            rw [hell]; unfold ellGo
            rw [if_pos (by assumption)]
          · rename Fr _ _ _ _ => F2
            rename News _ _ _ _ => N2
            refine OurTurn.next F2 N2 hI ⟨rfl, m1, ⟨_, _, rfl, by omega, ?_⟩, m3⟩
            rw [hell, ellGo, if_neg (by assumption)]
        · rintro m₁ nx h tk ⟨rfl, m1, ⟨p, tp, m2, hp0, hell⟩, m3⟩ F N
          (try k_fold)
          k_steps
          (first | (k_unmd; k_unfold; try dsimp only) | (try dsimp only))
          refine Done.mk ⟨?_, fun b o e => Fr.keep (by assumption) b o (st b o e)⟩
          rw [hell, show (List.map (fun x => x.1) vs).drop (strValues vs).length = [] by rw [List.drop_eq_nil_iff]; simp [strValues]]
          rfl
end Mine

end
section
-- Dig
theorem Mine.fresh_Dig : True := by
  w_top off
  trivial
open PySem PySem.W PyProof.Rows PySem.Calls PySem.Builtin PySem.Builtin.Str
set_option maxRecDepth 100000
namespace Mine

/-- the k lowest digits, the lowest first -/
def digs (b : Nat) : Nat → Nat → List Int
  | 0, _ => []
  | k + 1, x => ((x % b : Nat) : Int) :: digs b k (x / b)
theorem digs_length (b : Nat) : ∀ (k x : Nat), (digs b k x).length = k
  | 0, _ => rfl
  | k + 1, x => by rw [digs, List.length_cons, digs_length]
theorem digs_add (b : Nat) (hb : 0 < b) : ∀ (k1 k2 x : Nat), digs b (k1 + k2) x = digs b k1 (x % b ^ k1) ++ digs b k2 (x / b ^ k1)
  | 0, k2, x => by simp [digs]
  | k1 + 1, k2, x => by
    rw [show k1 + 1 + k2 = (k1 + k2) + 1 by omega, digs, digs_add b hb k1 k2, digs, List.cons_append]
    congr 2
    · rw [Nat.pow_succ, Nat.mod_mod_of_dvd]
      exact Nat.dvd_mul_left _ _
    · congr 2
      rw [Nat.pow_succ', Nat.mod_mul_right_div_self]
    · rw [Nat.pow_succ', Nat.div_div_eq_div_mul]
theorem digs_one {b x : Nat} (h : x < b) : digs b 1 x = [(x : Int)] := by simp [digs, Nat.mod_eq_of_lt h]
theorem digs_zero (b : Nat) : ∀ k : Nat, digs b k 0 = List.replicate k 0
  | 0 => rfl
  | k + 1 => by rw [digs, List.replicate_succ, Nat.zero_div, digs_zero b k]; simp

theorem and_high (x s : Nat) : x &&& (x / 2 ^ s * 2 ^ s) = x / 2 ^ s * 2 ^ s := by
  apply Nat.eq_of_testBit_eq
  intro i
  rw [Nat.testBit_and, Nat.testBit_mul_two_pow, Nat.testBit_div_two_pow]
  by_cases h : s ≤ i
  · simp [h, Nat.sub_add_cancel h]
  · simp [h]
theorem xor_high (x s : Nat) : Builtin.bitXor (x : Int) ((x / 2 ^ s * 2 ^ s : Nat) : Int) = ((x % 2 ^ s : Nat) : Int) := by
  rw [bitXor_and]
  have e : Builtin.bitAnd (x : Int) ((x / 2 ^ s * 2 ^ s : Nat) : Int) = ((x / 2 ^ s * 2 ^ s : Nat) : Int) := by
    unfold Builtin.bitAnd
    rw [decide_eq_true (Int.natCast_nonneg _), decide_eq_true (Int.natCast_nonneg _)]
    show ((((x : Int).toNat &&& ((x / 2 ^ s * 2 ^ s : Nat) : Int).toNat : Nat)) : Int) = _
    rw [Int.toNat_natCast, Int.toNat_natCast, and_high]
  rw [e]
  have := Nat.div_add_mod x (2 ^ s)
  rw [Nat.mul_comm] at this
  omega
theorem fdiv_nat (x y : Nat) : (x : Int).fdiv (y : Int) = ((x / y : Nat) : Int) := by
  rw [Int.fdiv_eq_ediv_of_nonneg _ (Int.natCast_nonneg _)]; rfl
theorem fmod_nat (x y : Nat) : (x : Int).fmod (y : Int) = ((x % y : Nat) : Int) := by
  rw [Int.fmod_eq_emod_of_nonneg _ (Int.natCast_nonneg _)]; rfl
theorem two_pow_cast (s : Nat) : (2 : Int) ^ s = ((2 ^ s : Nat) : Int) := by rw [Int.natCast_pow]; rfl

theorem splice {l k1 k2 : Nat} {ns d1 d2 : List Int} (h1 : d1.length = k1) (hl : l + (k1 + k2) ≤ ns.length) :
    (ns.take l ++ d1 ++ ns.drop (l + k1)).take (l + k1) ++ d2 ++ (ns.take l ++ d1 ++ ns.drop (l + k1)).drop (l + k1 + k2) = ns.take l ++ (d1 ++ d2) ++ ns.drop (l + (k1 + k2)) := by
  have e : (ns.take l ++ d1).length = l + k1 := by rw [List.length_append, List.length_take, h1]; omega
  rw [List.take_left' e, Nat.add_assoc, List.drop_append, e, List.drop_of_length_le (by rw [e]; omega), List.drop_drop]
  simp only [List.nil_append, List.append_assoc]
  congr 4
  omega
theorem splice_len {l k1 : Nat} {ns d1 : List Int} (h1 : d1.length = k1) (hl : l + k1 ≤ ns.length) : (ns.take l ++ d1 ++ ns.drop (l + k1)).length = ns.length := by
  simp only [List.length_append, List.length_take, List.length_drop]; omega
theorem set_splice {l : Nat} {ns : List Int} {x : Int} (hl : l < ns.length) : ns.set l x = ns.take l ++ [x] ++ ns.drop (l + 1) := by
  rw [List.set_eq_take_append_cons_drop, if_pos hl]; simp

section
variable {prog : Program} {w : World} {A : Around} {E : Value → Shared → Prop} {s : Shared} {a b n : Int} {t u : Tok}
theorem rshiftG {Q : Value → Shared → Prop} (hn : 0 ≤ n) (h : ∀ M : Int, M = a.fdiv (2 ^ n.toNat) → ∀ tk k, Q (.int M tk) { s with toks := k }) : wpAny (model prog w) A (binaryOp .RShift (.int a t) (.int n u)) Q E s := rshift_int hn (h _ rfl _ _)
theorem lshiftG {Q : Value → Shared → Prop} (hn : 0 ≤ n) (hsz : (Builtin.Int.intBits a : Int) + n ≤ 2 ^ 27) (h : ∀ M : Int, M = a * 2 ^ n.toNat → ∀ tk k, Q (.int M tk) { s with toks := k }) : wpAny (model prog w) A (binaryOp .LShift (.int a t) (.int n u)) Q E s := lshift_int hn hsz (h _ rfl _ _)
theorem xorG {Q : Value → Shared → Prop} (h : ∀ M : Int, M = Builtin.bitXor a b → ∀ tk k, Q (.int M tk) { s with toks := k }) : wpAny (model prog w) A (binaryOp .BitXor (.int a t) (.int b u)) Q E s := xor_int (h _ rfl _ _)
end
/-- what the shifts of a half's width want -/
def ShOk (L R n x : Int) : Prop := ∀ M : Int, M = (L + R).fdiv (2 ^ Int.toNat 1) → 0 ≤ (M - L) * n ∧ ∀ U : Int, U = x.fdiv (2 ^ ((M - L) * n).toNat) → (Builtin.Int.intBits U : Int) + (M - L) * n ≤ 2 ^ 27
theorem ShOk.nonneg {L R n x M : Int} (h : ShOk L R n x) (hM : M = (L + R).fdiv (2 ^ Int.toNat 1)) : 0 ≤ (M - L) * n := (h M hM).1
theorem ShOk.size {L R n x M U : Int} (h : ShOk L R n x) (hM : M = (L + R).fdiv (2 ^ Int.toNat 1)) (hU : U = x.fdiv (2 ^ ((M - L) * n).toNat)) : (Builtin.Int.intBits U : Int) + (M - L) * n ≤ 2 ^ 27 := (h M hM).2 U hU
theorem bits_nat_le {x m : Nat} (h : x < 2 ^ m) : Builtin.Int.intBits (x : Int) ≤ m := intBits_le_iff.mpr (by rw [Int.natAbs_natCast]; exact h)

/-- the number of these digits, the lowest first -/
def fromD (b : Nat) : List Nat → Nat
  | [] => 0
  | d :: r => d + b * fromD b r
theorem fromD_append (b : Nat) : ∀ d1 d2 : List Nat, fromD b (d1 ++ d2) = fromD b d1 + b ^ d1.length * fromD b d2
  | [], d2 => by simp [fromD]
  | d :: r, d2 => by
    rw [List.cons_append, fromD, fromD_append b r d2, fromD, List.length_cons, Nat.pow_succ', Nat.mul_add, Nat.mul_assoc, Nat.add_assoc]
theorem fromD_lt (b : Nat) : ∀ ds : List Nat, (∀ d ∈ ds, d < b) → fromD b ds < b ^ ds.length
  | [], _ => by simp [fromD]
  | d :: r, h => by
    have h1 := h d (List.mem_cons_self ..)
    have h2 := fromD_lt b r fun e he => h e (List.mem_cons_of_mem _ he)
    rw [fromD, List.length_cons, Nat.pow_succ']
    have h3 : b * (fromD b r + 1) ≤ b * b ^ r.length := Nat.mul_le_mul_left b h2
    rw [Nat.mul_add] at h3
    omega
theorem take_two (ds : List Nat) (l k1 k2 : Nat) : (ds.drop l).take (k1 + k2) = (ds.drop l).take k1 ++ (ds.drop (l + k1)).take k2 := by
  rw [List.take_add, List.drop_drop]
def castL (ds : List Nat) : List Int := ds.map fun d : Nat => (d : Int)
theorem castL_length (ds : List Nat) : (castL ds).length = ds.length := List.length_map ..
theorem castL_getD (ds : List Nat) (i : Nat) : (castL ds).getD i 0 = ((ds.getD i 0 : Nat) : Int) := by
  unfold castL
  rw [List.getD_eq_getElem?_getD, List.getD_eq_getElem?_getD, List.getElem?_map]
  cases ds[i]? <;> rfl
theorem fromD_one (b : Nat) (ds : List Nat) (l : Nat) (h : l < ds.length) : fromD b ((ds.drop l).take 1) = ds.getD l 0 := by
  rw [List.drop_eq_getElem_cons h, List.take_succ_cons, List.take_zero, fromD, fromD, List.getD_eq_getElem?_getD, List.getElem?_eq_getElem h]; simp
theorem nn_of {a : Int} {n : Nat} (h : a = n) : 0 ≤ a := by rw [h]; exact Int.natCast_nonneg _
theorem sz_of {V a : Int} {p m : Nat} (es : a = p) (hb : Builtin.Int.intBits V ≤ m) (h : m + p ≤ 134217728) : (Builtin.Int.intBits V : Int) + a ≤ 2 ^ 27 := by omega
end Mine

end
section
-- Inn02
theorem Mine.fresh_Inn02 : True := by
  w_top off
  trivial
open PySem PySem.W PyProof.Rows PySem.Calls PySem.Builtin.Str
set_option maxRecDepth 100000
set_option maxHeartbeats 1000000
set_option pp.deepTerms false
namespace Mine
local macro_rules | `(tactic| k_room) => `(tactic| ((try simp only [Around.deeper, recursionLimit] at *); omega))
local macro_rules | `(tactic| k_units) => `(tactic| ((try simp only [Around.deeper, Around.in1, cLine] at *); omega))
noncomputable abbrev innerD (w : World) : Option Stmt := (fnBody (hd02.heap_39 w.params) 207)[1]?
noncomputable def innerParams (w : World) := defParams (innerD w)
noncomputable def innerBody (w : World) := defBody (innerD w)
noncomputable def innerScope (w : World) := defScope (innerD w)
noncomputable abbrev innerFn (w : World) (cl : List (Str × Addr)) (doc pm : Value) (c' : Addr) (ctv : Value) : Obj := fnMade "inner" "_int2digits.<locals>.inner" (innerParams w) (innerBody w) (innerScope w) cl doc pm c' ctv

section
local macro_rules | `(tactic| walk_at "eval Name") => `(tactic| (k_here; k_dflt (refine' nameX_FB ?k1 ?k2 ?k3 ?k4 ?_; (case k1 => k_asm); (case k2 => exact rfl); (case k3 => with_reducible assumption); (case k4 => with_reducible assumption); k_whole)))
local macro_rules | `(tactic| walk_at "binaryOp RShift int int") => `(tactic| (refine' rshiftG ?k1 ?_; (case k1 => first | decide | exact ShOk.nonneg (by with_reducible assumption) (by with_reducible assumption)); intro _ _ _ _))
local macro_rules | `(tactic| walk_at "binaryOp LShift int int") => `(tactic| (refine' lshiftG ?k1 ?k2 ?_; (case k1 => exact ShOk.nonneg (by with_reducible assumption) (by with_reducible assumption)); (case k2 => exact ShOk.size (by with_reducible assumption) (by with_reducible assumption) (by with_reducible assumption)); intro _ _ _ _))
local macro_rules | `(tactic| walk_at "binaryOp BitXor int int") => `(tactic| (refine' xorG ?_; intro _ _ _ _))
local macro_rules | `(tactic| walk_at "callWith ref") => `(tactic| (k_here; k_dflt (refine' callWith_F ?k1 ?_; (case k1 => exact fnAt_keep (by k_asm) (by with_reducible assumption)); k_whole)))
local macro_rules | `(tactic| walk_at "FnAt") => `(tactic| exact fnAt_keep (by k_asm) (by with_reducible assumption))

theorem inner_spec {w : World} {B : Heap} {loose mean mg mb} {f cA cI cN D : Addr} {c' : Addr} {doc pm ctv : Value} {n : Int} {tn : Tok} {oA oI oN : Obj} {N : Nat}
    (G : Gd (Mine.hd02.heap_39 w.params) loose mean mg mb B) (hf : B.get? f = some (innerFn w [("n", cN), ("inner", cI), ("a_digits", cA)] doc pm c' ctv)) (hcd : B.CodeRec (.ref c') "_int2digits.<locals>.inner")
    (hA : B.get? cA = some oA) (hA1 : oA.data = .cell (some (.ref D))) (hI : B.get? cI = some oI) (hI1 : oI.data = .cell (some (.ref f))) (hN : B.get? cN = some oN) (hN1 : oN.data = .cell (some (.int n tn)))
    (hnN : n = N) (hn1 : N ≤ 100) (hD : B.get? D = none) :
    ∀ (k : Nat) (s : Shared) (x L R : Int) (X l : Nat) (tx tL tR : Tok) (vs : List Value) (ns : List Int) (nn : Nat), 1 ≤ k → L = l → R = L + k → x = X → X < (2 ^ N) ^ k → l + k ≤ ns.length → ns.length ≤ 200 → IntsAre vs ns → B.StaysIn s.heap → s.heap.get? D = some (listOf vs.toArray nn) →
    Does (model PySem.Challenge.rw_pg0310_02.row.prog w) (k + 5) (5 * k + 20) (call (.ref f) [.int x tx, .int L tL, .int R tR]) s
      (fun v h' => v = .none ∧ (∃ vs' nn', h'.get? D = some (listOf vs'.toArray nn') ∧ IntsAre vs' (ns.take l ++ digs (2 ^ N) k X ++ ns.drop (l + k))) ∧ ∀ b o, b ≠ D → s.heap.get? b = some o → h'.get? b = some o) := by
  have hfn : FnAt f B := ⟨_, _, _, _, hf⟩
  delta innerFn at hf
  conv at hf in (innerParams w) => whnf
  conv at hf in (innerBody w) => whnf
  conv at hf in (innerScope w) => whnf
  intro k
  induction k using Nat.strongRecOn with
  | ind k ih =>
  intro s x L R X l tx tL tR vs ns nn hk0 hL hR hx hX hlk hns hi hB hDs d0 u0 fr gs hd hu
  revert G
  k_fill
  intro G
  refine' enterX (binds := [("x", .int x tx), ("L", .int L tL), ("R", .int R tR)]) G hB [(D, listOf vs.toArray nn)] (List.forall_mem_cons.mpr ⟨⟨hDs, hD⟩, List.forall_mem_nil _⟩) hf hcd ?k8 ?k9 ?kB ?_ ?c2 ?c3 ?c4 ?c5; (case k8 => k_room); (case k9 => exact BindsTo.of_eq rfl); (case kB => exact locs rfl); (case c2 => exact rfl); (case c3 => exact rfl); (case c4 => exact rfl); (case c5 => decide)
  intro g' L' h' hg' F' N' l1 X' T' stB
  have st : ∀ b o, b ≠ D → s.heap.get? b = some o → g'.get? b = some o := by rw [hg']; exact fun b o hb e => hideAll_get _ e (by simpa using hb)
  clear hg'
  (try dsimp only)
  have hA' := stB _ _ hA
  have hI' := stB _ _ hI
  have hN' := stB _ _ hN
  have hfn' : FnAt f g' := let ⟨a, b, c, d, e⟩ := hfn; ⟨a, b, c, d, stB _ _ e⟩
  have hM : ∀ M : Int, M = (L + R).fdiv (2 ^ Int.toNat 1) → M = ((l + k / 2 : Nat) : Int) := by
    intro M hM
    rw [hM, hR, hL]
    rw [Int.fdiv_eq_ediv_of_nonneg _ (by decide)]
    exact half_mid l k
  have hs1 : ∀ M : Int, M = (L + R).fdiv (2 ^ Int.toNat 1) → (M - L) * n = ((N * (k / 2) : Nat) : Int) := by
    intro M h
    rw [hM M h, hL, hnN, Int.natCast_mul, Int.mul_comm]
    exact congrArg _ (half_dif l k)
  have hU : ∀ M U : Int, M = (L + R).fdiv (2 ^ Int.toNat 1) → U = x.fdiv (2 ^ ((M - L) * n).toNat) → U = ((X / 2 ^ (N * (k / 2)) : Nat) : Int) := by
    intro M U h h2
    rw [h2, hs1 M h, hx, Int.toNat_natCast, two_pow_cast, fdiv_nat]
  have hN2 : N * (k / 2) ≤ 20000 := Nat.le_trans (Nat.mul_le_mul hn1 (half_200 hlk hns).2.1) (by decide)
  have hNk : N * k ≤ 20000 := Nat.le_trans (Nat.mul_le_mul hn1 (half_200 hlk hns).1) (by decide)
  have hXp : X < 2 ^ (N * k) := by rw [Nat.pow_mul]; exact hX
  have hok : ShOk L R n x := by
    intro M h
    rw [hs1 M h]
    refine ⟨Int.natCast_nonneg _, fun U h2 => ?_⟩
    rw [← hs1 M h] at h2
    rw [hU M U h h2]
    have := bits_nat_le (x := X / 2 ^ (N * (k / 2))) (m := N * k) (Nat.lt_of_le_of_lt (Nat.div_le_self _ _) hXp)
    omega
  clear hA hI hN
  (try k_fold)
  k_steps
  · (first | (k_unmd; k_unfold; try dsimp only) | (try dsimp only))
    rename Fr _ _ _ _ => F
    rename News _ _ _ _ => Nw
    rename L + 1 = R => h1
    rename IntsAre (vs.set _ _) _ => hi2
    refine Done.mk ⟨rfl, ⟨_, nn, (Nw _ (List.mem_cons_self ..)).1, ?_⟩, fun b o hb e => F.keep b o (st b o hb e)⟩
    have hk1 : k = 1 := half_one hR h1
    subst hk1
    rw [digs_one (by simpa using hX), ← set_splice (by omega), ← hx]
    have : L.toNat = l := by omega
    rw [this] at hi2 ⊢
    exact hi2
  · rename Fr _ _ _ _ => F
    rename News _ _ _ _ => Nw
    rename _ = Int.fdiv (L + R) _ => hM1
    rename _ = Int.fdiv x _ => hU1
    rename _ = _ * 2 ^ _ => hS1
    rename _ = Builtin.bitXor x _ => hW1
    rename L + 1 ≠ R => hne
    have eM := hM _ hM1
    have eU := hU _ _ hM1 hU1
    rw [hS1, hs1 _ hM1, eU, Int.toNat_natCast, two_pow_cast, ← Int.natCast_mul, hx, xor_high] at hW1
    have hk2 := half_two hk0 hR hne
    obtain ⟨b1, b2, b3, b4, b5, b6⟩ := half_k hk2
    obtain ⟨n1, n2, n3⟩ := half_n hlk
    obtain ⟨r1, r2⟩ := half_d hd hk2
    obtain ⟨u1, u2⟩ := half_u hu hk2
    obtain ⟨e1, e2⟩ := half_ends hL hR eM
    have hlow : X % 2 ^ (N * (k / 2)) < (2 ^ N) ^ (k / 2) := by rw [← Nat.pow_mul]; exact Nat.mod_lt _ (Nat.two_pow_pos _)
    have hup : X / 2 ^ (N * (k / 2)) < (2 ^ N) ^ (k - k / 2) := by
      rw [Nat.div_lt_iff_lt_mul (Nat.two_pow_pos _), Nat.pow_mul, ← Nat.pow_add, b6]
      exact hX
    refine Does.use (ih (k / 2) (by first | with_reducible assumption | omega) _ _ _ _ (X % 2 ^ (N * (k / 2))) l _ _ _ vs ns nn (by first | with_reducible assumption | omega) hL (by first | with_reducible assumption | omega) hW1 hlow (by first | with_reducible assumption | omega) hns hi (fun b o e => F.keep b o (stB b o e)) (Nw _ (List.mem_cons_self ..)).1) rfl (by simp only [Around.deeper]; first | with_reducible assumption | omega) (by simp only [Around.deeper]; first | with_reducible assumption | omega) ?_
    rintro v h2 tk2 ⟨rfl, ⟨vs1, nn1, hD1, hi1⟩, keep1⟩
    obtain ⟨F2, N2⟩ := back_one F Nw (.head (List.forall_mem_nil _)) keep1 hD1
    clear F Nw
    k_steps
    rename Fr _ _ _ _ => F
    rename News _ _ _ _ => Nw
    have hl1 := splice_len (ns := ns) (l := l) (digs_length (2 ^ N) (k / 2) (X % 2 ^ (N * (k / 2)))) (by first | with_reducible assumption | omega)
    refine Does.use (ih (k - k / 2) (by first | with_reducible assumption | omega) _ _ _ _ (X / 2 ^ (N * (k / 2))) (l + k / 2) _ _ _ vs1 _ nn1 (by first | with_reducible assumption | omega) eM (by first | with_reducible assumption | omega) eU hup (by rw [hl1]; first | with_reducible assumption | omega) (by rw [hl1]; exact hns) hi1 (fun b o e => F.keep b o (stB b o e)) (Nw _ (List.mem_cons_self ..)).1) rfl (by simp only [Around.deeper]; first | with_reducible assumption | omega) (by simp only [Around.deeper]; first | with_reducible assumption | omega) ?_
    rintro v h3 tk3 ⟨rfl, ⟨vs2, nn2, hD2, hi2⟩, keep2⟩
    obtain ⟨F2, N2⟩ := back_one F Nw (.head (List.forall_mem_nil _)) keep2 hD2
    clear F Nw
    k_steps
    refine Done.mk ⟨rfl, ⟨vs2, nn2, hD2, ?_⟩, fun b o hb e => F2.keep b o (st b o hb e)⟩
    rw [splice (digs_length _ _ _) (by first | with_reducible assumption | omega)] at hi2
    have e := digs_add (2 ^ N) (Nat.two_pow_pos _) (k / 2) (k - k / 2) X
    rw [b5, ← Nat.pow_mul] at e
    rw [e]
    rw [b5] at hi2
    exact hi2
end
end Mine

end
section
-- I2d02
theorem Mine.fresh_I2d02 : True := by
  w_top off
  trivial
open PySem PySem.W PyProof.Rows PySem.Calls PySem.Builtin.Str
set_option maxRecDepth 100000
set_option maxHeartbeats 2000000
set_option pp.deepTerms false
namespace Mine
local macro_rules | `(tactic| k_room) => `(tactic| ((try simp only [Around.deeper, recursionLimit] at *); omega))
local macro_rules | `(tactic| k_units) => `(tactic| ((try simp only [Around.deeper, Around.in1, cLine] at *); omega))
local macro_rules | `(tactic| walk_at "binaryOp Mult ref int") => `(tactic| (k_here; (with_reducible show wpAny _ _ (binaryOp Operator.Mult (Value.ref _) (Value.int _ _)) _ _ _); k_dflt (refine' mulK ?k1 ?k2 ?k3 ?k4 ?k5 ?_; (case k1 => k_asm); (case k2 => k_asm); (case k3 => k_mem); (case k4 => assumption); (case k5 => assumption)); intro D' h' F' N' l1; (try k_lt l1); (try k_sweep)))

local macro_rules | `(tactic| k_all) => `(tactic| first | with_reducible assumption | exact allLt_ne (by with_reducible assumption) | exact Low.ne (by with_reducible assumption) (by omega) | (exact Low.ne (by assumption) (by omega)))
local macro_rules | `(tactic| walk_at "call builtin:len") => `(tactic| (k_here; (with_reducible show wpAny _ _ (call (Value.builtin "len") [Value.ref _]) _ _ _); k_dflt (refine' lenK ?k1 ?k2 ?k3 ?_; (case k1 => k_asm); (case k2 => k_mem); (case k3 => assumption); k_whole); intro _ _))
abbrev S1 : TabSpec := ⟨202, ⟨131, 4, 140, 28⟩, "_int2digits.<locals>.inner"⟩
abbrev S2 : TabSpec := ⟨209, ⟨146, 4, 151, 55⟩, "_digits2int.<locals>.inner"⟩


def ndig (N X : Nat) : Nat := (Builtin.Int.intBits (X : Int) + N - 1) / N
theorem ndig_cast (N X : Nat) (hN : 1 ≤ N) : ((Builtin.Int.intBits (X : Int) : Int) + N - 1).fdiv N = (ndig N X : Int) := by
  unfold ndig
  rw [← fdiv_nat]
  congr 1
  omega
theorem ndig_le {N X m : Nat} (hN : 1 ≤ N) (hX : X < 2 ^ m) : ndig N X ≤ m := by
  unfold ndig
  have := bits_nat_le hX
  refine Nat.le_of_lt_succ ?_
  rw [Nat.div_lt_iff_lt_mul (by first | with_reducible assumption | with_reducible exact lt_num (by with_reducible assumption) (Nat.le_of_ble_eq_true rfl) | with_reducible exact le_num (by with_reducible assumption) (Nat.le_of_ble_eq_true rfl) | with_reducible exact le_le (by with_reducible assumption) (Nat.le_of_ble_eq_true rfl) | omega), Nat.succ_mul]
  generalize Builtin.Int.intBits (X : Int) = b at *
  have h3 : m * 1 ≤ m * N := Nat.mul_le_mul_left m hN
  omega
theorem lt_ndig (N X : Nat) (hN : 1 ≤ N) : X < (2 ^ N) ^ ndig N X := by
  have h : X < 2 ^ Builtin.Int.intBits (X : Int) := by
    have := (intBits_le_iff (m := Builtin.Int.intBits (X : Int)) (x := (X : Int))).mp (Nat.le_refl _)
    rwa [Int.natAbs_natCast] at this
  refine Nat.lt_of_lt_of_le h ?_
  rw [← Nat.pow_mul]
  refine Nat.pow_le_pow_right (by decide) ?_
  unfold ndig
  generalize Builtin.Int.intBits (X : Int) = b
  have h1 := Nat.div_add_mod (b + N - 1) N
  have h2 := Nat.mod_lt (b + N - 1) (show 0 < N by omega)
  omega
theorem ndig_pos {N X : Nat} (hN : 1 ≤ N) (hX : X ≠ 0) : 1 ≤ ndig N X := by
  rcases Nat.eq_zero_or_pos (ndig N X) with h | h
  · have := lt_ndig N X hN
    rw [h] at this
    simp at this
    exact absurd this hX
  · exact h
theorem ints_rep (k : Nat) (tk : Tok) : IntsAre (List.replicate k (Value.int 0 tk)) (List.replicate k 0) := by
  induction k with
  | zero => exact .nil
  | succ k ih => rw [List.replicate_succ, List.replicate_succ]; exact .cons 0 tk ih

theorem inner_call {w : World} {s : Shared} {g : Heap} {L : Addr} {m : Str → Option Value} {loose mean mg mb} {f D l0 c1 c2 c3 : Addr} {o0 o1 o2 o3 : Obj} {c' : Addr} {doc pm ctv : Value} {n : Int} {tn : Tok} {N : Nat} {vs : List Value} {ns : List Int} {nn : Nat} {tl2 : List (Addr × Obj)}
    (F : Fr g L s.heap m) (Nw : News g L s.heap ((f, innerFn w [("n", c1), ("inner", c3), ("a_digits", c2)] doc pm c' ctv) :: (D, listOf vs.toArray nn) :: (l0, o0) :: (c3, o3) :: (c2, o2) :: (c1, o1) :: tl2))
    (X : (hd02.heap_39 w.params).In g) (T : Top topProg loose mean mg mb g)
    (hl : @LT.lt Nat _ D f ∧ @LT.lt Nat _ c3 D ∧ @LT.lt Nat _ c2 D ∧ @LT.lt Nat _ c1 D ∧ @LT.lt Nat _ l0 D) (hA4 : ∀ p ∈ tl2, p.1 ≠ D) (h2 : o2.data = .cell (some (.ref D))) (h3 : o3.data = .cell (some (.ref f))) (h1 : o1.data = .cell (some (.int n tn)))
    (hc' : ∃ oc cvs t, (c', oc) ∈ tl2 ∧ oc.data = .fields cvs ∧ cvs[1]? = some (.str "_int2digits.<locals>.inner" t)) (hnN : n = N) (hn1 : N ≤ 100)
    {k : Nat} {x R : Int} {Xn : Nat} {tx tL tR : Tok} (hk : 1 ≤ k) (hR : R = k) (hx : x = Xn) (hX : Xn < (2 ^ N) ^ k) (hkn : k = ns.length) (hns : ns.length ≤ 200) (hi : IntsAre vs ns) :
    Does (model PySem.Challenge.rw_pg0310_02.row.prog w) (k + 5) (5 * k + 20) (call (.ref f) [.int x tx, .int 0 tL, .int R tR]) s
      (fun v h' => ∃ vs' nn', IntsAre vs' (digs (2 ^ N) k Xn) ∧ Fr g L h' m ∧ News g L h' ((f, innerFn w [("n", c1), ("inner", c3), ("a_digits", c2)] doc pm c' ctv) :: (D, listOf vs'.toArray nn') :: (l0, o0) :: (c3, o3) :: (c2, o2) :: (c1, o1) :: tl2)) := by
  obtain ⟨oc, cvs, ct, hcm, hcd, hcv⟩ := hc'
  have hDN := Nw (D, listOf vs.toArray nn) (by first | ((repeat (first | with_reducible exact List.mem_cons_self .. | with_reducible refine List.mem_cons_of_mem _ ?_)); done) | simp)
  have G' : Gd _ loose mean mg mb (hideAll s.heap [D]) := Gd.hide_one ⟨X, T⟩ F hDN.2.2
  have get : ∀ {b : Addr} {o : Obj}, (b, o) ∈ _ → b ≠ D → (hideAll s.heap [D]).get? b = some o := fun {b o} hm hb => hide_one_get (Nw (b, o) hm).1 hb
  have := inner_spec G' (get (List.mem_cons_self ..) (Nat.ne_of_gt hl.1)) ⟨c', oc, cvs, ct, rfl, get (by simp [hcm]) (hA4 _ hcm), hcd, hcv⟩ (get (b := c2) (by first | ((repeat (first | with_reducible exact List.mem_cons_self .. | with_reducible refine List.mem_cons_of_mem _ ?_)); done) | simp) (Nat.ne_of_lt hl.2.2.1)) h2 (get (b := c3) (by first | ((repeat (first | with_reducible exact List.mem_cons_self .. | with_reducible refine List.mem_cons_of_mem _ ?_)); done) | simp) (Nat.ne_of_lt hl.2.1)) h3 (get (b := c1) (by first | ((repeat (first | with_reducible exact List.mem_cons_self .. | with_reducible refine List.mem_cons_of_mem _ ?_)); done) | simp) (Nat.ne_of_lt hl.2.2.2.1)) h1
    hnN hn1 (hideAll_none _ (List.mem_singleton.mpr rfl)) k s x 0 R Xn 0 tx tL tR vs ns nn hk rfl (by first | with_reducible assumption | with_reducible exact lt_num (by with_reducible assumption) (Nat.le_of_ble_eq_true rfl) | with_reducible exact le_num (by with_reducible assumption) (Nat.le_of_ble_eq_true rfl) | with_reducible exact le_le (by with_reducible assumption) (Nat.le_of_ble_eq_true rfl) | omega) hx hX (by first | with_reducible assumption | with_reducible exact lt_num (by with_reducible assumption) (Nat.le_of_ble_eq_true rfl) | with_reducible exact le_num (by with_reducible assumption) (Nat.le_of_ble_eq_true rfl) | with_reducible exact le_le (by with_reducible assumption) (Nat.le_of_ble_eq_true rfl) | omega) hns hi (fun b o e => of_hideAll _ e) hDN.1
  refine this.mono ?_
  rintro _ h' ⟨_, ⟨vs', nn', hD', hi'⟩, keep⟩
  refine ⟨vs', nn', ?_, back_one (o := listOf vs.toArray nn) F Nw ?_ keep hD'⟩
  · rw [List.take_zero, List.nil_append, Nat.zero_add, List.drop_of_length_le (by first | with_reducible assumption | with_reducible exact lt_num (by with_reducible assumption) (Nat.le_of_ble_eq_true rfl) | with_reducible exact le_num (by with_reducible assumption) (Nat.le_of_ble_eq_true rfl) | with_reducible exact le_le (by with_reducible assumption) (Nat.le_of_ble_eq_true rfl) | omega), List.append_nil] at hi'
    exact hi'
  · refine Upd.tail (Nat.ne_of_gt hl.1) (Upd.head ?_)
    refine List.forall_mem_cons.mpr ⟨Nat.ne_of_lt hl.2.2.2.2, List.forall_mem_cons.mpr ⟨Nat.ne_of_lt hl.2.1, List.forall_mem_cons.mpr ⟨Nat.ne_of_lt hl.2.2.1, List.forall_mem_cons.mpr ⟨Nat.ne_of_lt hl.2.2.2.1, hA4⟩⟩⟩⟩

theorem i2d_spec {w : World} {s : Shared} {B : Heap} {loose mean mg mb} {a n : Int} {X N : Nat} {t1 t2 : Tok} {tl : List (Addr × Obj)}
    (G : Gd (Mine.hd02.heap_39 w.params) loose mean mg mb B) (hB : B.StaysIn s.heap) (hS : TabS S1 S2 tl) (htl : ∀ p ∈ tl, s.heap.get? p.1 = some p.2 ∧ B.get? p.1 = none)
    (ha : a = X) (ha1 : X < 2 ^ 150) (hn : n = N) (hn0 : 1 ≤ N) (hn1 : N ≤ 100) :
    Does (model PySem.Challenge.rw_pg0310_02.row.prog w) 170 800 (call (.ref 207) [.int a t1, .int n t2]) s
      (fun v h' => TabPost S1 S2 tl s.heap h' ∧ ∃ D vs nn, v = .ref D ∧ h'.get? D = some (listOf vs.toArray nn) ∧ s.heap.get? D = none ∧ IntsAre vs (digs (2 ^ N) (ndig N X) X)) := by
  intro d0 u0 fr gs hd hu
  revert G
  k_fill
  intro G
  refine' enterC (binds := [("a", .int a t1), ("n", .int n t2)]) G hB tl htl ?k6 ?k7 ?k8 ?k9 ?kB ?kD ?_ ?c2 ?c3 ?c4; (case k6 => k_is); (case k7 => k_is); (case k8 => k_room); (case k9 => exact BindsTo.of_eq rfl);  (case kB => exact rfl); (case kD => decide +kernel); (case c2 => exact rfl); (case c3 => exact rfl); (case c4 => exact rfl)
  intro g' L' h' tk' cells' hg' F' N' Y' l1 X' T'
  have hkK : (↑(Builtin.Int.intBits a) + n - 1).fdiv n = (ndig N X : Int) := by rw [ha, hn]; exact ndig_cast N X hn0
  have hK := ndig_le hn0 ha1
  have hk0 : 0 ≤ (↑(Builtin.Int.intBits a) + n - 1).fdiv n := by omega
  have hk1 : (↑(Builtin.Int.intBits a) + n - 1).fdiv n ≤ 200 := by omega
  subst hg'
  have hlow : Low L' tl := l1
  have C1 : CodeHd (hideAll s.heap (tl.map (·.1))) 206 202 := codeHd_of_K X' rfl
  k_cells Y'
  (try simp only [List.cons_append, List.nil_append] at N')
  (try dsimp only)
  (try k_fold)
  k_steps
  k_dflt (refine' nestDef_K ?d0 ?k0 ?a0 ?_; (case d0 => exact rfl); (case k0 => exact rfl); (case a0 => exact rfl))
  refine nest1 (S := S1) (T := S2) [_, _, _, _, _] (by k_asm) (by k_asm) T' C1 rfl hS (by decide) ?_ rfl rfl rfl ?_
  · (repeat' (first | exact List.forall_mem_nil _ | refine List.forall_mem_cons.mpr ⟨?_, ?_⟩)) <;> (intro vs hvs; first | (cases hvs; done) | (simp_all; done))
  clear hlow
  intro f c' tl2 ctv doc h' tk hT3 hc' hsub F' N' l1 hlow
  (try simp only [List.cons_append, List.nil_append] at N' l1)
  (try k_lt l1)
  (try k_sweep)
  (try dsimp only)
  rw [hkK, Int.toNat_natCast] at N'
  have A1 := tail_ne (d := L' + 1 + 1 + 1) N' hT3 (fun p hp => by first | ((repeat with_reducible refine List.mem_cons_of_mem _ ?_); first | exact hp | exact List.mem_append_left _ hp | exact List.mem_append_right _ hp | exact List.mem_append_right _ (List.mem_append_left _ hp) | exact List.mem_append_right _ (List.mem_append_right _ hp) | exact List.mem_append_left _ (List.mem_append_right _ hp) | exact List.mem_append_right _ (List.mem_append_right _ (List.mem_append_left _ hp))) | simp [hp]) (by k_mem) (notFld_cell (by assumption))
  have A2 := tail_ne (d := L' + 1 + 1) N' hT3 (fun p hp => by first | ((repeat with_reducible refine List.mem_cons_of_mem _ ?_); first | exact hp | exact List.mem_append_left _ hp | exact List.mem_append_right _ hp | exact List.mem_append_right _ (List.mem_append_left _ hp) | exact List.mem_append_right _ (List.mem_append_right _ hp) | exact List.mem_append_left _ (List.mem_append_right _ hp) | exact List.mem_append_right _ (List.mem_append_right _ (List.mem_append_left _ hp))) | simp [hp]) (by k_mem) (notFld_cell (by assumption))
  have A3 := tail_ne (d := L' + 1) N' hT3 (fun p hp => by first | ((repeat with_reducible refine List.mem_cons_of_mem _ ?_); first | exact hp | exact List.mem_append_left _ hp | exact List.mem_append_right _ hp | exact List.mem_append_right _ (List.mem_append_left _ hp) | exact List.mem_append_right _ (List.mem_append_right _ hp) | exact List.mem_append_left _ (List.mem_append_right _ hp) | exact List.mem_append_right _ (List.mem_append_right _ (List.mem_append_left _ hp))) | simp [hp]) (by k_mem) (notFld_cell (by assumption))
  have A4 := tail_ne N' hT3 (fun p hp => by first | ((repeat with_reducible refine List.mem_cons_of_mem _ ?_); first | exact hp | exact List.mem_append_left _ hp | exact List.mem_append_right _ hp | exact List.mem_append_right _ (List.mem_append_left _ hp) | exact List.mem_append_right _ (List.mem_append_right _ hp) | exact List.mem_append_left _ (List.mem_append_right _ hp) | exact List.mem_append_right _ (List.mem_append_right _ (List.mem_append_left _ hp))) | simp [hp]) (List.mem_cons_of_mem _ (List.mem_cons_self ..)) notFld_list
  have hlen : (List.replicate (ndig N X) (Value.int 0 tk')).length ≤ 1000000 := by rw [List.length_replicate]; omega
  k_steps
  · rename Fr _ _ _ _ => F
    rename News _ _ _ _ => Nw
    rename a ≠ 0 => ha0
    refine Does.use (inner_call F Nw X' T' (tn := t2) (N := N) (Xn := X) (x := a) (k := ndig N X) (R := (List.replicate (ndig N X) (Value.int 0 tk')).length) (ns := List.replicate (ndig N X) 0) ?q1 A4 ?q2 ?q3 ?q4 hc' hn hn1 (ndig_pos hn0 (by first | with_reducible assumption | with_reducible exact lt_num (by with_reducible assumption) (Nat.le_of_ble_eq_true rfl) | with_reducible exact le_num (by with_reducible assumption) (Nat.le_of_ble_eq_true rfl) | with_reducible exact le_le (by with_reducible assumption) (Nat.le_of_ble_eq_true rfl) | omega)) (by rw [List.length_replicate]) ha (lt_ndig N X hn0) (by rw [List.length_replicate]) (by rw [List.length_replicate]; omega) (ints_rep _ _)) rfl ?q5 ?q6 ?_
    case q1 => exact ⟨by omega, by omega, by omega, by omega, by omega⟩
    case q2 => assumption
    case q3 => assumption
    case q4 => assumption
    case q5 => (first | exact room1 hd (Nat.le_of_ble_eq_true rfl) | exact room3 hu (Nat.le_of_ble_eq_true rfl) | (simp only [Around.deeper]; omega))
    case q6 => (first | exact room1 hd (Nat.le_of_ble_eq_true rfl) | exact room3 hu (Nat.le_of_ble_eq_true rfl) | (simp only [Around.deeper]; omega))
    rintro v h2 tk2 ⟨vs', nn', hi', F2, N2⟩
    clear F Nw
    k_steps
    (first | (k_unmd; k_unfold; try dsimp only) | (try dsimp only))
    rename Fr _ _ _ _ => F
    rename News _ _ _ _ => Nw
    exact Done.mk ⟨TabPost.of hT3 F Nw (fun p hp => by first | ((repeat with_reducible refine List.mem_cons_of_mem _ ?_); first | exact hp | exact List.mem_append_left _ hp | exact List.mem_append_right _ hp | exact List.mem_append_right _ (List.mem_append_left _ hp) | exact List.mem_append_right _ (List.mem_append_right _ hp) | exact List.mem_append_left _ (List.mem_append_right _ hp) | exact List.mem_append_right _ (List.mem_append_right _ (List.mem_append_left _ hp))) | simp [hp]) hsub, _, _, _, rfl, (Nw _ (List.mem_cons_of_mem _ (List.mem_cons_self ..))).1, new_none hT3 Nw (fun p hp => by first | ((repeat with_reducible refine List.mem_cons_of_mem _ ?_); first | exact hp | exact List.mem_append_left _ hp | exact List.mem_append_right _ hp | exact List.mem_append_right _ (List.mem_append_left _ hp) | exact List.mem_append_right _ (List.mem_append_right _ hp) | exact List.mem_append_left _ (List.mem_append_right _ hp) | exact List.mem_append_right _ (List.mem_append_right _ (List.mem_append_left _ hp))) | simp [hp]) hsub (List.mem_cons_of_mem _ (List.mem_cons_self ..)) notFld_list, hi'⟩
  · (first | (k_unmd; k_unfold; try dsimp only) | (try dsimp only))
    rename Fr _ _ _ _ => F
    rename News _ _ _ _ => Nw
    rename a = 0 => ha0
    have hX0 : X = 0 := by omega
    refine Done.mk ⟨TabPost.of hT3 F Nw (fun p hp => by first | ((repeat with_reducible refine List.mem_cons_of_mem _ ?_); first | exact hp | exact List.mem_append_left _ hp | exact List.mem_append_right _ hp | exact List.mem_append_right _ (List.mem_append_left _ hp) | exact List.mem_append_right _ (List.mem_append_right _ hp) | exact List.mem_append_left _ (List.mem_append_right _ hp) | exact List.mem_append_right _ (List.mem_append_right _ (List.mem_append_left _ hp))) | simp [hp]) hsub, _, _, _, rfl, (Nw _ (List.mem_cons_of_mem _ (List.mem_cons_self ..))).1, new_none hT3 Nw (fun p hp => by first | ((repeat with_reducible refine List.mem_cons_of_mem _ ?_); first | exact hp | exact List.mem_append_left _ hp | exact List.mem_append_right _ hp | exact List.mem_append_right _ (List.mem_append_left _ hp) | exact List.mem_append_right _ (List.mem_append_right _ hp) | exact List.mem_append_left _ (List.mem_append_right _ hp) | exact List.mem_append_right _ (List.mem_append_right _ (List.mem_append_left _ hp))) | simp [hp]) hsub (List.mem_cons_of_mem _ (List.mem_cons_self ..)) notFld_list, ?_⟩
    rw [hX0, digs_zero]
    exact ints_rep _ _
end Mine

end
section
-- D2i02
theorem Mine.fresh_D2i02 : True := by
  w_top off
  trivial
open PySem PySem.W PyProof.Rows PySem.Calls PySem.Builtin.Str
set_option maxRecDepth 100000
set_option maxHeartbeats 1000000
set_option pp.deepTerms false
namespace Mine
local macro_rules | `(tactic| k_room) => `(tactic| ((try simp only [Around.deeper, recursionLimit] at *); omega))
local macro_rules | `(tactic| k_units) => `(tactic| ((try simp only [Around.deeper, Around.in1, cLine] at *); omega))
local macro_rules | `(tactic| k_all) => `(tactic| first | with_reducible assumption | exact allLt_ne (by with_reducible assumption) | exact Low.ne (by with_reducible assumption) (by omega) | (exact Low.ne (by assumption) (by omega)))
noncomputable abbrev inner2D (w : World) : Option Stmt := (fnBody (hd02.heap_39 w.params) 214)[0]?
noncomputable def inner2Params (w : World) := defParams (inner2D w)
noncomputable def inner2Body (w : World) := defBody (inner2D w)
noncomputable def inner2Scope (w : World) := defScope (inner2D w)
noncomputable abbrev inner2Fn (w : World) (cl : List (Str × Addr)) (doc pm : Value) (c' : Addr) (ctv : Value) : Obj := fnMade "inner" "_digits2int.<locals>.inner" (inner2Params w) (inner2Body w) (inner2Scope w) cl doc pm c' ctv

section
local macro_rules | `(tactic| walk_at "eval Name") => `(tactic| (k_here; k_dflt (refine' nameX_FB ?k1 ?k2 ?k3 ?k4 ?_; (case k1 => k_asm); (case k2 => exact rfl); (case k3 => with_reducible assumption); (case k4 => with_reducible assumption); k_whole)))
local macro_rules | `(tactic| walk_at "binaryOp RShift int int") => `(tactic| (refine' rshiftG ?k1 ?_; (case k1 => decide); intro _ _ _ _))
local macro_rules | `(tactic| walk_at "callWith ref") => `(tactic| (k_here; k_dflt (refine' callWith_F ?k1 ?_; (case k1 => exact fnAt_keep (by k_asm) (by with_reducible assumption)); k_whole)))
local macro_rules | `(tactic| walk_at "FnAt") => `(tactic| exact fnAt_keep (by k_asm) (by with_reducible assumption))
local macro_rules | `(tactic| walk_at "subscriptTail Name Name ref int") => `(tactic| (k_here; (with_reducible show wpAny _ _ (subscriptTail _ _ (Value.ref _) (Value.int _ _)) _ _ _); k_dflt (refine' item_anyK ?k1 ?k2 ?k3 ?k4 ?k5 ?_ ?k7; (case k1 => exact stays_list (Fr.keep (by k_asm)) (by with_reducible assumption)); (case k2 => with_reducible assumption); (case k3 => omega); (case k4 => omega); (case k5 => omega); (case k7 => with_unfolding_all rfl)); intro _))

local macro_rules | `(tactic| walk_at "binaryOp LShift int int") => `(tactic| (refine' lshiftG ?k1 ?k2 ?_; (case k1 => with_reducible assumption); (case k2 => with_reducible assumption); intro _ _ _ _))

theorem inner2_spec {w : World} {B : Heap} {loose mean mg mb} {f cA cI cN D : Addr} {c' : Addr} {doc pm ctv : Value} {n : Int} {tn : Tok} {oA oI oN : Obj} {N : Nat} {vs : List Value} {ds : List Nat}
    (G : Gd (Mine.hd02.heap_39 w.params) loose mean mg mb B) (hf : B.get? f = some (inner2Fn w [("n", cN), ("inner", cI), ("digits", cA)] doc pm c' ctv)) (hcd : B.CodeRec (.ref c') "_digits2int.<locals>.inner")
    (hA : B.get? cA = some oA) (hA1 : oA.data = .cell (some (.ref D))) (hI : B.get? cI = some oI) (hI1 : oI.data = .cell (some (.ref f))) (hN : B.get? cN = some oN) (hN1 : oN.data = .cell (some (.int n tn)))
    (hnN : n = N) (hn1 : N ≤ 100) (hD : B.IsList D vs.toArray) (hi : IntsAre vs (castL ds)) (hds : ∀ d ∈ ds, d < 2 ^ N) (hns : (castL ds).length ≤ 200) :
    ∀ (k : Nat) (s : Shared) (L R : Int) (l : Nat) (tL tR : Tok), 1 ≤ k → L = l → R = L + k → l + k ≤ (castL ds).length → B.StaysIn s.heap →
    Does (model PySem.Challenge.rw_pg0310_02.row.prog w) (k + 5) (5 * k + 20) (call (.ref f) [.int L tL, .int R tR]) s
      (fun v h' => (∃ tk, v = .int (fromD (2 ^ N) ((ds.drop l).take k)) tk) ∧ s.heap.StaysIn h') := by
  have hfn : FnAt f B := ⟨_, _, _, _, hf⟩
  delta inner2Fn at hf
  conv at hf in (inner2Params w) => whnf
  conv at hf in (inner2Body w) => whnf
  conv at hf in (inner2Scope w) => whnf
  intro k
  induction k using Nat.strongRecOn with
  | ind k ih =>
  intro s L R l tL tR hk0 hL hR hlk hB d0 u0 fr gs hd hu
  revert G
  k_fill
  intro G
  refine' enterX (binds := [("L", .int L tL), ("R", .int R tR)]) G hB [] (List.forall_mem_nil _) hf hcd ?k8 ?k9 ?kB ?_ ?c2 ?c3 ?c4 ?c5; (case k8 => k_room); (case k9 => exact BindsTo.of_eq rfl); (case kB => exact locs rfl); (case c2 => exact rfl); (case c3 => exact rfl); (case c4 => exact rfl); (case c5 => decide)
  intro g' L' h' hg' F' N' l1 X' T' stB
  have st : s.heap.StaysIn g' := by rw [hg']; exact fun _ _ e => e
  clear hg'
  (try dsimp only)
  have hA' := stB _ _ hA
  have hI' := stB _ _ hI
  have hN' := stB _ _ hN
  have hfn' : FnAt f g' := let ⟨a, b, c, d, e⟩ := hfn; ⟨a, b, c, d, stB _ _ e⟩
  have hD' := stays_list stB hD
  have hM : ∀ M : Int, M = (L + R).fdiv (2 ^ Int.toNat 1) → M = ((l + k / 2 : Nat) : Int) := by
    intro M hM
    rw [hM, hR, hL]
    rw [Int.fdiv_eq_ediv_of_nonneg _ (by decide)]
    exact half_mid l k
  have hs1 : ∀ M : Int, M = (L + R).fdiv (2 ^ Int.toNat 1) → (M - L) * n = ((N * (k / 2) : Nat) : Int) := by
    intro M h
    rw [hM M h, hL, hnN, Int.natCast_mul, Int.mul_comm]
    exact congrArg _ (half_dif l k)
  clear hA hI hN hD
  (try k_fold)
  have hlen : (castL ds).length = ds.length := castL_length ds
  k_steps
  · (first | (k_unmd; k_unfold; try dsimp only) | (try dsimp only))
    rename Fr _ _ _ _ => F
    rename L + 1 = R => h1
    have hk1 : k = 1 := half_one hR h1
    subst hk1
    refine Done.mk ⟨⟨_, congrArg (fun z => Value.int z _) ?_⟩, fun b o e => F.keep b o (st b o e)⟩
    rw [castL_getD, fromD_one _ _ _ (by omega), show L.toNat = l by omega]
  · rename Fr _ _ _ _ => F
    rename News _ _ _ _ => Nw
    rename _ = Int.fdiv (L + R) _ => hM1
    rename L + 1 ≠ R => hne
    have eM := hM _ hM1
    have es := hs1 _ hM1
    have hk2 := half_two hk0 hR hne
    obtain ⟨b1, b2, b3, b4, b5, b6⟩ := half_k hk2
    obtain ⟨n1, n2, n3⟩ := half_n hlk
    obtain ⟨r1, r2⟩ := half_d hd hk2
    obtain ⟨u1, u2⟩ := half_u hu hk2
    obtain ⟨e1, e2⟩ := half_ends hL hR eM
    obtain ⟨m1, m2⟩ := half_min hlk
    rw [hlen] at m1 m2
    have hs0 := nn_of es
    have hlt2 := fromD_lt (2 ^ N) ((ds.drop (l + k / 2)).take (k - k / 2)) fun d hd => hds d (List.mem_of_mem_drop (List.mem_of_mem_take hd))
    rw [← Nat.pow_mul] at hlt2
    have hb2 := bits_nat_le hlt2
    rw [List.length_take, List.length_drop, Nat.min_eq_left (by first | with_reducible assumption | omega)] at hb2
    have hN2 : N * (k / 2) ≤ 20000 := Nat.le_trans (Nat.mul_le_mul hn1 (half_200 hlk hns).2.1) (by decide)
    have hN3 : N * (k - k / 2) ≤ 20000 := Nat.le_trans (Nat.mul_le_mul hn1 (half_200 hlk hns).2.2) (by decide)
    have hz := sz_of es hb2 (by first | with_reducible assumption | omega)
    refine Does.use (ih (k - k / 2) (by first | with_reducible assumption | omega) _ _ _ (l + k / 2) _ _ (by first | with_reducible assumption | omega) eM (by first | with_reducible assumption | omega) (by first | with_reducible assumption | omega) (fun b o e => F.keep b o (stB b o e))) rfl (by simp only [Around.deeper]; first | with_reducible assumption | omega) (by simp only [Around.deeper]; first | with_reducible assumption | omega) ?_
    rintro v h2 tk2 ⟨⟨tkv, rfl⟩, keep1⟩
    replace F := F.keeps keep1
    replace Nw := Nw.grown keep1
    k_steps
    rename Fr _ _ _ _ => F
    rename News _ _ _ _ => Nw
    rename _ = _ * 2 ^ _ => hS1
    refine Does.use (ih (k / 2) (by first | with_reducible assumption | omega) _ _ _ l _ _ (by first | with_reducible assumption | omega) hL (by first | with_reducible assumption | omega) (by first | with_reducible assumption | omega) (fun b o e => F.keep b o (stB b o e))) rfl (by simp only [Around.deeper]; first | with_reducible assumption | omega) (by simp only [Around.deeper]; first | with_reducible assumption | omega) ?_
    rintro v h3 tk3 ⟨⟨tkw, rfl⟩, keep2⟩
    replace F := F.keeps keep2
    replace Nw := Nw.grown keep2
    k_steps
    (first | (k_unmd; k_unfold; try dsimp only) | (try dsimp only))
    refine Done.mk ⟨⟨_, congrArg (fun z => Value.int z _) ?_⟩, fun b o e => F.keep b o (st b o e)⟩
    rw [hS1, es, Int.toNat_natCast, two_pow_cast, ← Int.natCast_mul, ← Int.natCast_add]
    congr 1
    have e := fromD_append (2 ^ N) ((ds.drop l).take (k / 2)) ((ds.drop (l + k / 2)).take (k - k / 2))
    rw [← take_two, b5, List.length_take, List.length_drop, Nat.min_eq_left (by first | with_reducible assumption | omega), ← Nat.pow_mul] at e
    rw [e, Nat.mul_comm, Nat.add_comm]
end

local macro_rules | `(tactic| walk_at "call builtin:len") => `(tactic| (k_here; (with_reducible show wpAny _ _ (call (Value.builtin "len") [Value.ref _]) _ _ _); k_dflt (refine' lenB ?k1 ?k2 ?k3 ?_; (case k1 => k_asm); (case k2 => with_reducible assumption); (case k3 => assumption); k_whole); intro _ _))
local macro_rules | `(tactic| walk_at "truthy ref") => `(tactic| (k_here; k_dflt (refine' truthyB ?k1 ?k2 ?k3 ?_; (case k1 => k_asm); (case k2 => with_reducible assumption); (case k3 => assumption); k_whole); intro _))

theorem inner2_call {w : World} {s : Shared} {g : Heap} {L : Addr} {m : Str → Option Value} {loose mean mg mb} {f D c1 c2 c3 : Addr} {o1 o2 o3 : Obj} {c' : Addr} {doc pm ctv : Value} {n : Int} {tn : Tok} {N : Nat} {vs : List Value} {ds : List Nat} {tl2 : List (Addr × Obj)}
    (F : Fr g L s.heap m) (Nw : News g L s.heap ((f, inner2Fn w [("n", c2), ("inner", c3), ("digits", c1)] doc pm c' ctv) :: (c3, o3) :: (c2, o2) :: (c1, o1) :: tl2))
    (X : (hd02.heap_39 w.params).In g) (T : Top topProg loose mean mg mb g) (hD : g.IsList D vs.toArray)
    (h1 : o1.data = .cell (some (.ref D))) (h3 : o3.data = .cell (some (.ref f))) (h2 : o2.data = .cell (some (.int n tn)))
    (hc' : ∃ oc cvs t, (c', oc) ∈ tl2 ∧ oc.data = .fields cvs ∧ cvs[1]? = some (.str "_digits2int.<locals>.inner" t)) (hnN : n = N) (hn1 : N ≤ 100) (hi : IntsAre vs (castL ds)) (hds : ∀ d ∈ ds, d < 2 ^ N) (hns : ds.length ≤ 200)
    {R : Int} {tL tR : Tok} (hR : R = ds.length) (hk : 1 ≤ ds.length) :
    Does (model PySem.Challenge.rw_pg0310_02.row.prog w) (ds.length + 5) (5 * ds.length + 20) (call (.ref f) [.int 0 tL, .int R tR]) s
      (fun v h' => (∃ tk, v = .int (fromD (2 ^ N) ds) tk) ∧ s.heap.StaysIn h') := by
  obtain ⟨oc, cvs, ct, hcm, hcd, hcv⟩ := hc'
  have get : ∀ {b : Addr} {o : Obj}, (b, o) ∈ _ → s.heap.get? b = some o := fun {b o} hm => (Nw (b, o) hm).1
  have := inner2_spec (B := s.heap) ⟨X.keeps F.keep, T.keeps F.keep⟩ (get (List.mem_cons_self ..)) ⟨c', oc, cvs, ct, rfl, get (by simp [hcm]), hcd, hcv⟩ (get (b := c1) (by simp)) h1 (get (b := c3) (by simp)) h3 (get (b := c2) (by simp)) h2
    hnN hn1 (stays_list F.keep hD) hi hds (by rw [castL_length]; exact hns) ds.length s 0 R 0 tL tR hk rfl (by omega) (by rw [castL_length]; omega) (fun _ _ e => e)
  rw [List.drop_zero, List.take_length] at this
  exact this

theorem d2i_spec {w : World} {s : Shared} {B : Heap} {loose mean mg mb} {n : Int} {N D nn : Nat} {t2 : Tok} {tl : List (Addr × Obj)} {vs : List Value} {ds : List Nat}
    (G : Gd (Mine.hd02.heap_39 w.params) loose mean mg mb B) (hB : B.StaysIn s.heap) (hS : TabS S1 S2 tl) (htl : ∀ p ∈ tl, s.heap.get? p.1 = some p.2 ∧ B.get? p.1 = none)
    (hD : s.heap.get? D = some (listOf vs.toArray nn)) (hi : IntsAre vs (castL ds)) (hds : ∀ d ∈ ds, d < 2 ^ N) (hns : ds.length ≤ 150) (hn : n = N) (hn1 : N ≤ 100) :
    Does (model PySem.Challenge.rw_pg0310_02.row.prog w) 170 800 (call (.ref 214) [.ref D, .int n t2]) s
      (fun v h' => TabPost S1 S2 tl s.heap h' ∧ ∃ tk, v = .int (fromD (2 ^ N) ds) tk) := by
  intro d0 u0 fr gs hd hu
  revert G
  k_fill
  intro G
  refine' enterC (binds := [("digits", .ref D), ("n", .int n t2)]) G hB tl htl ?k6 ?k7 ?k8 ?k9 ?kB ?kD ?_ ?c2 ?c3 ?c4; (case k6 => k_is); (case k7 => k_is); (case k8 => k_room); (case k9 => exact BindsTo.of_eq rfl);  (case kB => exact rfl); (case kD => decide +kernel); (case c2 => exact rfl); (case c3 => exact rfl); (case c4 => exact rfl)
  intro g' L' h' tk' cells' hg' F' N' Y' l1 X' T'
  subst hg'
  have hD0 : D ∉ tl.map (·.1) := fun q => by
    obtain ⟨p, hp, rfl⟩ := List.mem_map.mp q
    have h1 := (htl p hp).1
    rw [hD] at h1
    obtain ⟨fs, hf⟩ := hS.fld p hp
    rw [← Option.some.inj h1] at hf
    cases hf
  have hD1 : (hideAll s.heap (tl.map (·.1))).IsList D vs.toArray := ⟨_, hideAll_get _ hD hD0, rfl, _, rfl⟩
  have C1 : CodeHd (hideAll s.heap (tl.map (·.1))) 213 209 := codeHd_of_K X' rfl
  k_cells Y'
  (try simp only [List.cons_append, List.nil_append] at N')
  (try dsimp only)
  (try k_fold)
  refine wpAny_execs_cons ?_
  k_dflt (refine' nestDef_K ?d0 ?k0 ?a0 ?_; (case d0 => exact rfl); (case k0 => exact rfl); (case a0 => exact rfl))
  refine nest2 (S := S1) (T := S2) [_, _, _] (by k_asm) (by k_asm) T' C1 rfl hS (by decide) ?_ rfl rfl rfl ?_
  · (repeat' (first | exact List.forall_mem_nil _ | refine List.forall_mem_cons.mpr ⟨?_, ?_⟩)) <;> (intro vs hvs; first | (cases hvs; done) | (simp_all; done))
  intro f c' tl2 ctv doc h' tk hT3 hc' hsub F' N' l1 hlow
  (try simp only [List.cons_append, List.nil_append] at N' l1)
  (try k_lt l1)
  (try k_sweep)
  (try dsimp only)
  have A1 := tail_ne (d := L' + 1 + 1 + 1) N' hT3 (fun p hp => by simp [hp]) (by k_mem) (notFld_cell (by assumption))
  have A2 := tail_ne (d := L' + 1 + 1) N' hT3 (fun p hp => by simp [hp]) (by k_mem) (notFld_cell (by assumption))
  have A3 := tail_ne (d := L' + 1) N' hT3 (fun p hp => by simp [hp]) (by k_mem) (notFld_cell (by assumption))
  have hvl : vs.length ≤ 1000000 := by rw [hi.length, castL_length]; omega
  have hvl2 : vs.length = ds.length := by rw [hi.length, castL_length]
  k_steps
  · rename Fr _ _ _ _ => F
    rename News _ _ _ _ => Nw
    rename 0 < vs.length => hpos
    refine Does.use (inner2_call F Nw X' T' (tn := t2) (N := N) (ds := ds) hD1 ?q2 ?q3 ?q4 hc' hn hn1 hi hds (by omega) (by rw [hvl2]) (by omega)) rfl ?q5 ?q6 ?_
    case q2 => assumption
    case q3 => assumption
    case q4 => assumption
    case q5 => simp only [Around.deeper]; omega
    case q6 => simp only [Around.deeper]; omega
    rintro v h2 tk2 ⟨⟨tkv, rfl⟩, keep⟩
    replace F := F.keeps keep
    replace Nw := Nw.grown keep
    k_steps
    (first | (k_unmd; k_unfold; try dsimp only) | (try dsimp only))
    exact Done.mk ⟨TabPost.of hT3 F Nw (fun p hp => by simp [hp]) hsub, _, rfl⟩
  · (first | (k_unmd; k_unfold; try dsimp only) | (try dsimp only))
    rename Fr _ _ _ _ => F
    rename News _ _ _ _ => Nw
    rename ¬ 0 < vs.length => hpos
    refine Done.mk ⟨TabPost.of hT3 F Nw (fun p hp => by simp [hp]) hsub, _, congrArg (fun z => Value.int z _) ?_⟩
    rw [show ds = [] from List.length_eq_zero_iff.mp (by omega)]
    rfl
end Mine

end
section
-- Div02
theorem Mine.fresh_Div02 : True := by
  w_top off
  trivial
open PySem PySem.W PyProof.Rows PySem.Calls PySem.Builtin.Str
set_option maxRecDepth 100000
set_option maxHeartbeats 1000000
set_option pp.deepTerms false
namespace Mine
local macro_rules | `(tactic| k_room) => `(tactic| ((try simp only [Around.deeper, recursionLimit] at *); omega))
local macro_rules | `(tactic| k_units) => `(tactic| ((try simp only [Around.deeper, Around.in1, cLine] at *); omega))
local macro_rules | `(tactic| k_all) => `(tactic| first | with_reducible assumption | exact allLt_ne (by with_reducible assumption) | exact Low.ne (by with_reducible assumption) (by omega) | (exact Low.ne (by assumption) (by omega)))

local macro_rules | `(tactic| walk_at "call builtin:divmod") => `(tactic| (k_here; (with_reducible show wpAny _ _ (call (Value.builtin _) [Value.int _ _, Value.int _ _]) _ _ _); k_dflt (refine' divmodK ?k1 ?k2 ?k3 ?k4 ?_; (case k1 => k_asm); (case k2 => k_asm); (case k3 => assumption); (case k4 => assumption)); intro T' h' _ _ _ F' N' l1; (try k_lt l1); (try k_sweep)))
theorem none_of {h g : Heap} {a : Addr} (st : h.StaysIn g) (e : g.get? a = none) : h.get? a = none := by
  cases q : h.get? a with
  | none => rfl
  | some o => have := st _ _ q; rw [e] at this; cases this
theorem div2_spec {w : World} {s : Shared} {B : Heap} {loose mean mg mb} {a b n : Int} {t1 t2 t3 : Tok} {An Bn N : Nat}
    (G : Gd (Mine.hd02.heap_39 w.params) loose mean mg mb B) (hB : B.StaysIn s.heap) (ha : a = An) (ha1 : An < 2 ^ 300) (hb : b = Bn) (hb0 : 1 ≤ Bn) (hb1 : Bn < 2 ^ 300) (hn : n = (N : Nat)) :
    Does (model PySem.Challenge.rw_pg0310_02.row.prog w) 5 20 (call (.ref 193) [.int a t1, .int b t2, .int n t3]) s
      (fun v h' => s.heap.StaysIn h' ∧ ∃ T n0 tq tr, v = .ref T ∧ h'.get? T = some ({ cls := .type "tuple", data := .seq #[.int ((An / Bn : Nat) : Int) tq, .int ((An % Bn : Nat) : Int) tr] n0 } : Obj) ∧ s.heap.get? T = none) := by
  intro d0 u0 fr gs hd hu
  revert G
  k_fill
  intro G
  refine' enter (binds := [("a", .int a t1), ("b", .int b t2), ("n", .int n t3)]) G hB [] (List.forall_mem_nil _) ?k6 ?k7 ?k8 ?k9 ?kB ?_ ?c2 ?c3 ?c4 ?c5; (case k6 => k_is); (case k7 => k_is); (case k8 => k_room); (case k9 => exact BindsTo.of_eq rfl);  (case c5 => decide); (case kB => exact locs rfl); (case c2 => exact rfl); (case c3 => exact rfl); (case c4 => exact rfl)
  intro g' L' h' hg' F' N' _ X' T'
  have st : s.heap.StaysIn g' := by rw [hg']; exact fun _ _ e => e
  have hb00 : b ≠ 0 := by omega
  have hbits : (Builtin.Int.intBits a : Int) - n ≤ 4000 := by
    have := bits_nat_le ha1
    rw [ha]; omega
  have hbs : b.natAbs < 2 ^ 300 := by rw [hb, Int.natAbs_natCast]; exact hb1
  clear hg'
  (try dsimp only)
  (try k_fold)
  k_steps
  (first | (k_unmd; k_unfold; try dsimp only) | (try dsimp only))
  rename Fr _ _ _ _ => F
  rename News _ _ _ _ => Nw
  have z := Nw _ (List.mem_cons_self ..)
  have hT := none_of st z.2.2
  have z1 := z.1
  dsimp only at z1
  rw [ha, hb, fdiv_nat, fmod_nat] at z1
  exact Done.mk ⟨fun b o e => F.keep b o (st b o e), _, _, _, _, rfl, z1, hT⟩

theorem digs_get (b : Nat) : ∀ (k x j : Nat), j < k → (digs b k x)[j]? = some (((x / b ^ j) % b : Nat) : Int)
  | 0, _, _, h => absurd h (Nat.not_lt_zero _)
  | k + 1, x, 0, _ => by simp [digs]
  | k + 1, x, j + 1, h => by
    rw [digs, List.getElem?_cons_succ, digs_get b k (x / b) j (by first | with_reducible assumption | with_reducible exact lt_num (by with_reducible assumption) (Nat.le_of_ble_eq_true rfl) | with_reducible exact le_num (by with_reducible assumption) (Nat.le_of_ble_eq_true rfl) | with_reducible exact le_le (by with_reducible assumption) (Nat.le_of_ble_eq_true rfl) | omega), Nat.div_div_eq_div_mul, Nat.pow_succ']

/-- the state of the division's loop: what is divided so far, the quotient's digits, the rest -/
def DivSt (b K A B i : Nat) (qs : List Nat) (r : Nat) : Prop :=
  r = A / b ^ (K - i) % B ∧ fromD b qs.reverse = A / b ^ (K - i) / B ∧ (∀ q ∈ qs, q < b) ∧ qs.length = i
theorem DivSt.start {b K A B : Nat} (h : A < b ^ K) : DivSt b K A B 0 [] 0 := by
  refine ⟨?_, ?_, List.forall_mem_nil _, rfl⟩
  · rw [Nat.sub_zero, Nat.div_eq_of_lt h, Nat.zero_mod]
  · rw [Nat.sub_zero, Nat.div_eq_of_lt h, Nat.zero_div]; rfl
theorem DivSt.step {b K A B i r : Nat} {qs : List Nat} (h : DivSt b K A B i qs r) (hi : i < K) (hB : 0 < B) (hb : 0 < b) :
    DivSt b K A B (i + 1) (qs ++ [(r * b + A / b ^ (K - 1 - i) % b) / B]) ((r * b + A / b ^ (K - 1 - i) % b) % B) := by
  obtain ⟨h1, h2, h3, h4⟩ := h
  have e : K - i = (K - 1 - i) + 1 := by omega
  have e2 : K - (i + 1) = K - 1 - i := by omega
  have ex : A / b ^ (K - i) = A / b ^ (K - 1 - i) / b := by rw [e, Nat.pow_succ, Nat.div_div_eq_div_mul]
  rw [DivSt, e2]
  generalize A / b ^ (K - 1 - i) = X at *
  rw [ex] at h1 h2
  have hX := Nat.div_add_mod X b
  have hY := Nat.div_add_mod (X / b) B
  have hr : r < B := by rw [h1]; exact Nat.mod_lt _ hB
  have eX : X = B * (b * (X / b / B)) + (r * b + X % b) := by
    rw [h1, Nat.mul_left_comm, Nat.mul_comm (X / b % B) b, ← Nat.add_assoc, ← Nat.mul_add, hY, hX]
  refine ⟨?_, ?_, ?_, ?_⟩
  · conv => rhs; rw [eX]
    rw [Nat.mul_add_mod]
  · rw [List.reverse_append, List.reverse_singleton, List.singleton_append, fromD, h2]
    conv => rhs; rw [eX]
    rw [Nat.mul_add_div hB, Nat.add_comm]
  · intro q hq
    rcases List.mem_append.mp hq with hq | hq
    · exact h3 q hq
    · rw [List.mem_singleton.mp hq]
      rw [Nat.div_lt_iff_lt_mul hB]
      have h5 : X % b < b := Nat.mod_lt _ hb
      have h6 : (r + 1) * b ≤ B * b := Nat.mul_le_mul_right b hr
      rw [Nat.add_mul, Nat.one_mul, Nat.mul_comm B b] at h6
      omega
  · rw [List.length_append, h4]; rfl
end Mine

end
section
-- Pos02
theorem Mine.fresh_Pos02 : True := by
  w_top off
  trivial
open PySem PySem.W PyProof.Rows PySem.Calls PySem.Builtin.Str
set_option maxRecDepth 100000
set_option maxHeartbeats 1000000
set_option pp.deepTerms false
namespace Mine
local macro_rules | `(tactic| k_room) => `(tactic| ((try simp only [Around.deeper, recursionLimit] at *); omega))
local macro_rules | `(tactic| k_units) => `(tactic| ((try simp only [Around.deeper, Around.in1, cLine] at *); omega))
local macro_rules | `(tactic| k_all) => `(tactic| first | with_reducible assumption | exact allLt_ne (by with_reducible assumption) | exact Low.ne (by with_reducible assumption) (by omega) | (exact Low.ne (by assumption) (by omega)))
local macro_rules | `(tactic| walk_at "eval Name") => `(tactic| (k_here; k_dflt (refine' ld ?k1 ?k2 ?_; (case k1 => k_asm); (case k2 => first | exact rfl | assumption); k_whole)))
local macro_rules | `(tactic| walk_at "call type:reversed") => `(tactic| (k_here; (with_reducible show wpAny _ _ (call (Value.type "reversed") [Value.ref _]) _ _ _); k_dflt (refine' krv_reversed ?k1 ?k2 ?k3 ?_; (case k1 => k_asm); (case k2 => k_asm); (case k3 => exact News.isList (by k_asm) (by k_mem))); intro D' h' F' N' l1; (try k_lt l1); (try k_sweep)))

theorem for_anyF {prog : Program} {w : World} {A : Around} {E : Value → Shared → Prop} {s : Shared} {env : Env} {h₀ : Heap} {L : Addr} {m : Str → Option Value} {Q : Flow → Shared → Prop} {target iter : Expr} {body : List Stmt} {pos : Pos} (_F : Fr h₀ L s.heap m)
    (h : wpAny (model prog w) A (eval iter env) (fun x s₁ => wpAny (model prog w) A (pyIter x) (fun it s₂ => LoopAny prog w A h₀ env target body Q E it s₂) E s₁) E s)
    (hs : ∀ x, foldedSetIterable iter env x = pure x := by intro _; rfl)
    (hE : PassesOwn (model prog w) A env E := by passes_own) :
    wpAny (model prog w) A (exec (.For target iter body [] pos) env) Q E s := for_any h₀ h hs hE
local macro_rules | `(tactic| walk_at "exec For Name Call cons nil") => `(tactic| (k_here; k_dflt (refine' for_anyF ?k1 ?_ ?k2 ?k3; (case k1 => k_asm); (case k2 => (intro _; rfl)); (case k3 => passes_own))))
theorem reverseK {prog : Program} {w : World} {A : Around} {E : Value → Shared → Prop} {s : Shared} {h₀ : Heap} {L D : Addr} {m : Str → Option Value} {news news' : List (Addr × Obj)} {n : Nat} {vs : List Value} {Q : Value → Shared → Prop} (F : Fr h₀ L s.heap m) (N : News h₀ L s.heap news)
    (U : Upd D (listOf vs.toArray n) (listOf vs.reverse.toArray n) news news') (hsz : vs.length ≤ 1000000)
    (h : ∀ h', Fr h₀ L h' m → News h₀ L h' news' → Q .none { s with heap := h' }) : wpAny (model prog w) A (call (.builtin "list.reverse") [.ref D]) Q E s := by
  exact kl_reverse F N rfl U (by rw [sizeLine_eq]; show vs.length ≤ _; omega) h
theorem news_drop3 {g h : Heap} {L : Addr} {a b c : Addr × Obj} {r : List (Addr × Obj)} (N : News g L h (a :: b :: c :: r)) : News g L h (a :: b :: r) := fun p hp => N p (by
  rcases List.mem_cons.mp hp with rfl | hp
  · exact List.mem_cons_self ..
  · rcases List.mem_cons.mp hp with rfl | hp
    · exact List.mem_cons_of_mem _ (List.mem_cons_self ..)
    · exact List.mem_cons_of_mem _ (List.mem_cons_of_mem _ (List.mem_cons_of_mem _ hp)))
theorem news_new {g h h' : Heap} {L D : Addr} {m : Str → Option Value} {o : Obj} {n : List (Addr × Obj)} (F : Fr g L h m) (hn : h.get? D = none) (hD : h'.get? D = some o) (N : News g L h' n) : News g L h' ((D, o) :: n) := fun p hp => by
  rcases List.mem_cons.mp hp with rfl | hp
  · refine ⟨hD, fun e => ?_, none_of F.keep hn⟩
    obtain ⟨oL, _, _, hL, _⟩ := F.ns
    dsimp only at e
    rw [e, hL] at hn; cases hn
  · exact N p hp
theorem tabs_at {g h : Heap} {L : Addr} {n tl : List (Addr × Obj)} (N : News g L h n) (hm : ∀ p ∈ tl, p ∈ n) : ∀ p ∈ tl, h.get? p.1 = some p.2 ∧ g.get? p.1 = none := fun p hp => ⟨(N p (hm p hp)).1, (N p (hm p hp)).2.2⟩
theorem sub_trans {tl tl2 tl3 : List (Addr × Obj)} (h1 : ∀ a ∈ tl.map (·.1), a ∈ tl2.map (·.1)) (h2 : ∀ a ∈ tl2.map (·.1), a ∈ tl3.map (·.1)) : ∀ a ∈ tl.map (·.1), a ∈ tl3.map (·.1) := fun a h => h2 a (h1 a h)

local macro_rules | `(tactic| walk_at "binaryOp LShift int int") => `(tactic| (refine' lshiftG ?k1 ?k2 ?_; (case k1 => with_reducible assumption); (case k2 => with_reducible assumption); intro _ _ _ _))
local macro_rules | `(tactic| walk_at "call builtin:list.reverse") => `(tactic| (k_here; (with_reducible show wpAny _ _ (call (Value.builtin _) [Value.ref _]) _ _ _); k_dflt (refine' reverseK ?k1 ?k2 ?k3 ?k4 ?_; (case k1 => k_asm); (case k2 => k_asm); (case k3 => k_upd); (case k4 => omega)); intro h' F' N'; (try k_sweep)))
theorem pos_spec {w : World} {s : Shared} {B : Heap} {loose mean mg mb} {a b : Int} {An Bn : Nat} {t1 t2 : Tok} {tl : List (Addr × Obj)}
    (G : Gd (Mine.hd02.heap_39 w.params) loose mean mg mb B) (hB : B.StaysIn s.heap) (hS : TabS S1 S2 tl) (htl : ∀ p ∈ tl, s.heap.get? p.1 = some p.2 ∧ B.get? p.1 = none)
    (ha : a = An) (ha1 : An < 2 ^ 150) (hb : b = Bn) (hb0 : 1 ≤ Bn) (hb1 : Bn < 2 ^ 100) :
    Does (model PySem.Challenge.rw_pg0310_02.row.prog w) 180 820 (call (.ref 221) [.int a t1, .int b t2]) s
      (fun v h' => TabPost S1 S2 tl s.heap h' ∧ ∃ T n0 tq tr, v = .ref T ∧ h'.get? T = some ({ cls := .type "tuple", data := .seq #[.int ((An / Bn : Nat) : Int) tq, .int ((An % Bn : Nat) : Int) tr] n0 } : Obj) ∧ s.heap.get? T = none) := by
  intro d0 u0 fr gs hd hu
  revert G
  k_fill
  intro G
  refine' enter (binds := [("a", .int a t1), ("b", .int b t2)]) G hB tl htl ?k6 ?k7 ?k8 ?k9 ?kB ?_ ?c2 ?c3 ?c4 ?c5; (case k6 => k_is); (case k7 => k_is); (case k8 => k_room); (case k9 => exact BindsTo.of_eq rfl);  (case c5 => decide); (case kB => exact locs rfl); (case c2 => exact rfl); (case c3 => exact rfl); (case c4 => exact rfl)
  intro g' L' h' hg' F' N' hlow X' T'
  subst hg'
  have hlow : Low L' tl := hlow
  (try dsimp only)
  (try k_fold)
  k_steps
  rename Fr _ _ _ _ => F
  rename News _ _ _ _ => Nw
  have hN0 : 1 ≤ Builtin.Int.intBits b := by
    rcases Nat.eq_zero_or_pos (Builtin.Int.intBits b) with h | h
    · have := (intBits_le_iff (m := 0) (x := b)).mp (by first | with_reducible assumption | with_reducible exact lt_num (by with_reducible assumption) (Nat.le_of_ble_eq_true rfl) | with_reducible exact le_num (by with_reducible assumption) (Nat.le_of_ble_eq_true rfl) | with_reducible exact le_le (by with_reducible assumption) (Nat.le_of_ble_eq_true rfl) | omega)
      rw [hb, Int.natAbs_natCast] at this
      omega
    · exact h
  have hN1 : Builtin.Int.intBits b ≤ 100 := by rw [hb]; exact bits_nat_le hb1
  have hBb : Bn < 2 ^ Builtin.Int.intBits b := by
    have := (intBits_le_iff (m := Builtin.Int.intBits b) (x := b)).mp (Nat.le_refl _)
    rwa [hb, Int.natAbs_natCast, ← hb] at this
  refine Does.use (i2d_spec ⟨X', T'⟩ F.keep hS (tabs_at Nw fun p hp => hp) ha ha1 (N := Builtin.Int.intBits b) rfl hN0 hN1) rfl (by first | exact room1 hd (Nat.le_of_ble_eq_true rfl) | exact room3 hu (Nat.le_of_ble_eq_true rfl) | (simp only [Around.deeper]; omega)) (by first | exact room1 hd (Nat.le_of_ble_eq_true rfl) | exact room3 hu (Nat.le_of_ble_eq_true rfl) | (simp only [Around.deeper]; omega)) ?_
  rintro v h2 tk2 ⟨hP, D, vs, nn, rfl, hD, hD0, hi⟩
  obtain ⟨tl2, hS2, F2, N2, hsub2, keep2⟩ := hP.back hS F Nw fun tl' => ⟨_, .nil⟩
  have N3 := news_new F hD0 hD (N2 _ .nil)
  have A1 := tail_ne N3 hS2 (fun p hp => by first | ((repeat with_reducible refine List.mem_cons_of_mem _ ?_); first | exact hp | exact List.mem_append_left _ hp | exact List.mem_append_right _ hp | exact List.mem_append_right _ (List.mem_append_left _ hp) | exact List.mem_append_right _ (List.mem_append_right _ hp) | exact List.mem_append_left _ (List.mem_append_right _ hp) | exact List.mem_append_right _ (List.mem_append_right _ (List.mem_append_left _ hp))) | simp [hp]) (List.mem_cons_self ..) notFld_list
  clear F Nw N2 keep2 hP hD hD0
  (try dsimp only)
  k_steps
  rename Fr _ _ _ _ => F
  rename News _ _ _ _ => Nw
  have z1 := Nw (D, listOf vs.toArray nn) (by first | ((repeat (first | with_reducible exact List.mem_cons_self .. | with_reducible refine List.mem_cons_of_mem _ ?_)); done) | simp)
  refine iter_rev (vs := vs) (fun i m nx => ∃ Qd qvs qn qs r tr tn, nx = (Qd, listOf qvs.toArray qn) :: tl2 ∧ Qd ≠ D ∧ IntsAre qvs (castL qs) ∧ DivSt (2 ^ Builtin.Int.intBits b) (ndig (Builtin.Int.intBits b) An) An Bn i qs r ∧
      m "q_digits" = some (.ref Qd) ∧ m "r" = some (.int (r : Nat) tr) ∧ m "n" = some (.int (Builtin.Int.intBits b) tn) ∧ m "b" = some (.int b t2)) rfl F (news_drop3 Nw) ?_ ⟨_, z1.1, rfl, _, rfl⟩ ?_ z1.2.1 ?_ ?_ ?_ ?ht
  case ht => intro _ _; rfl
  · rename _ ∧ _ ∧ AllLt _ tl2 => l9
    exact List.forall_mem_cons.mpr ⟨Nat.ne_of_lt l9.1, allLt_ne l9.2.2⟩
  · rename _ ∧ _ ∧ AllLt _ tl2 => l9
    exact Nat.ne_of_lt l9.2.1
  · rename _ ∧ AllLt _ tl2 => l9
    have hne0 := Nat.ne_of_gt l9.1
    exact ⟨_, [], _, [], 0, _, _, rfl, hne0, .nil, DivSt.start (lt_ndig _ _ hN0), rfl, rfl, rfl, rfl⟩
  · clear z1 F Nw
    rintro i v m₁ nx h tk own hi1 hv ⟨Qd, qvs, qn, qs, r, tr, tn, rfl, hQD, hq, hst, m1, m2, m3, m4⟩ hI hown F Nw
    obtain ⟨rest, hrest⟩ : ∃ r, r = tl2 ++ own := ⟨_, rfl⟩
    have F : Fr (hideAll s.heap (tl.map (·.1))) L' h m₁ := F
    have Nw : News (hideAll s.heap (tl.map (·.1))) L' h ((Qd, listOf qvs.toArray qn) :: rest) := by rw [hrest]; exact Nw
    have A2 := tail_ne Nw hS2 (fun p hp => by rw [hrest]; first | ((repeat with_reducible refine List.mem_cons_of_mem _ ?_); first | exact hp | exact List.mem_append_left _ hp | exact List.mem_append_right _ hp | exact List.mem_append_right _ (List.mem_append_left _ hp) | exact List.mem_append_right _ (List.mem_append_right _ hp) | exact List.mem_append_left _ (List.mem_append_right _ hp) | exact List.mem_append_right _ (List.mem_append_right _ (List.mem_append_left _ hp))) | simp [hp]) (List.mem_cons_self ..) notFld_list
    have hvl : vs.length = ndig (Builtin.Int.intBits b) An := by rw [hi.length, digs_length]
    obtain ⟨x, t, rfl, hx⟩ := hi.at _ _ hv
    rw [digs_get _ _ _ _ (by first | with_reducible assumption | with_reducible exact lt_num (by with_reducible assumption) (Nat.le_of_ble_eq_true rfl) | with_reducible exact le_num (by with_reducible assumption) (Nat.le_of_ble_eq_true rfl) | with_reducible exact le_le (by with_reducible assumption) (Nat.le_of_ble_eq_true rfl) | omega)] at hx
    obtain rfl := Option.some.inj hx
    have hown2 : ∀ p ∈ rest, p.1 ≠ Qd := by
      rw [hrest]
      intro p hp
      rcases List.mem_append.mp hp with hp | hp
      · exact A2 p hp
      · rcases hown p hp with e | e
        · rw [e]; exact (hI _ (List.mem_cons_self ..)).symm
        · rw [e]; exact hQD.symm
    have hrn : r < 2 ^ 100 := Nat.lt_trans (by rw [hst.1]; exact Nat.mod_lt _ hb0) hb1
    have hrb := bits_nat_le hrn
    have hs0 : 0 ≤ (Builtin.Int.intBits b : Int) := Int.natCast_nonneg _
    have hz : (Builtin.Int.intBits (r : Int) : Int) + (Builtin.Int.intBits b : Int) ≤ 2 ^ 27 := by omega
    (try k_fold)
    k_steps
    clear F Nw
    rename Fr _ _ _ _ => F
    rename News _ _ _ _ => Nw
    rename _ = (r : Int) * 2 ^ _ => hM1
    rw [Int.toNat_natCast, two_pow_cast, ← Int.natCast_mul] at hM1
    have hd2 : An / (2 ^ Builtin.Int.intBits b) ^ (vs.length - 1 - i) % 2 ^ Builtin.Int.intBits b < 2 ^ Builtin.Int.intBits b := Nat.mod_lt _ (Nat.two_pow_pos _)
    have hp100 : 2 ^ Builtin.Int.intBits b ≤ 2 ^ 100 := Nat.pow_le_pow_right (by decide) hN1
    have hsum : r * 2 ^ Builtin.Int.intBits b + An / (2 ^ Builtin.Int.intBits b) ^ (vs.length - 1 - i) % 2 ^ Builtin.Int.intBits b < 2 ^ 300 := by
      have h1 : r * 2 ^ Builtin.Int.intBits b ≤ 2 ^ 100 * 2 ^ 100 := Nat.mul_le_mul (Nat.le_of_lt hrn) hp100
      omega
    refine Does.use (div2_spec ⟨X', T'⟩ F.keep (An := r * 2 ^ Builtin.Int.intBits b + An / (2 ^ Builtin.Int.intBits b) ^ (vs.length - 1 - i) % 2 ^ Builtin.Int.intBits b) (Bn := Bn) (N := Builtin.Int.intBits b) (by rw [hM1, Int.natCast_add]) hsum hb hb0 (Nat.lt_trans hb1 (by decide)) rfl) rfl (by first | exact room1 hd (Nat.le_of_ble_eq_true rfl) | exact room3 hu (Nat.le_of_ble_eq_true rfl) | (simp only [Around.deeper]; omega)) (by first | exact room1 hd (Nat.le_of_ble_eq_true rfl) | exact room3 hu (Nat.le_of_ble_eq_true rfl) | (simp only [Around.deeper]; omega)) ?_
    rintro v h3 tk3 ⟨keep, T, n0, tq, tr2, rfl, hT, hT0⟩
    have hTQ : @Ne Nat T Qd := fun e => by
      have := (Nw _ (List.mem_cons_self ..)).1
      dsimp only at this hT0
      rw [← e, hT0] at this; cases this
    have F3 := F.keeps keep
    have N3 := news_new F hT0 hT (Nw.grown keep)
    clear F Nw
    have hst2 := hst.step (by first | with_reducible assumption | with_reducible exact lt_num (by with_reducible assumption) (Nat.le_of_ble_eq_true rfl) | with_reducible exact le_num (by with_reducible assumption) (Nat.le_of_ble_eq_true rfl) | with_reducible exact le_le (by with_reducible assumption) (Nat.le_of_ble_eq_true rfl) | omega) hb0 (Nat.two_pow_pos _)
    have hsz : qvs.length ≤ 200 := by rw [hq.length, castL_length, hst.2.2.2]; have := ndig_le hN0 ha1; omega
    (try dsimp only)
    k_steps
    rename Fr _ _ _ _ => F
    rename News _ _ _ _ => Nw
    rw [List.push_toArray] at Nw
    refine OurTurn.next (nx := (Qd, listOf (qvs ++ [Value.int (((r * 2 ^ Builtin.Int.intBits b + An / (2 ^ Builtin.Int.intBits b) ^ (vs.length - 1 - i) % 2 ^ Builtin.Int.intBits b) / Bn : Nat) : Int) tq]).toArray (qn + 1)) :: tl2) F (fun p hp => Nw p ?_) (List.forall_mem_cons.mpr ⟨hI (Qd, listOf qvs.toArray qn) (List.mem_cons_self ..), fun p hp => hI p (List.mem_cons_of_mem _ hp)⟩)
      ⟨Qd, _, _, qs ++ [(r * 2 ^ Builtin.Int.intBits b + An / (2 ^ Builtin.Int.intBits b) ^ (vs.length - 1 - i) % 2 ^ Builtin.Int.intBits b) / Bn], _, _, _, rfl, hQD, ?_, (by rw [hvl]; exact hst2), m1, rfl, m3, m4⟩
    · rw [hrest]
      refine List.mem_cons_of_mem _ ?_
      rw [List.cons_append] at hp
      exact hp
    · unfold castL at hq ⊢
      rw [List.map_append]
      exact hq.append (.cons _ _ .nil)
  · clear z1 F Nw
    rintro m₁ nx h tk ⟨Qd, qvs, qn, qs, r, tr, tn, rfl, hQD, hq, hst, m1, m2, m3, m4⟩ F Nw
    have F : Fr (hideAll s.heap (tl.map (·.1))) L' h m₁ := F
    have Nw : News (hideAll s.heap (tl.map (·.1))) L' h ((Qd, listOf qvs.toArray qn) :: tl2) := Nw
    have A2 := tail_ne Nw hS2 (fun p hp => by first | ((repeat with_reducible refine List.mem_cons_of_mem _ ?_); first | exact hp | exact List.mem_append_left _ hp | exact List.mem_append_right _ hp | exact List.mem_append_right _ (List.mem_append_left _ hp) | exact List.mem_append_right _ (List.mem_append_right _ hp) | exact List.mem_append_left _ (List.mem_append_right _ hp) | exact List.mem_append_right _ (List.mem_append_right _ (List.mem_append_left _ hp))) | simp [hp]) (List.mem_cons_self ..) notFld_list
    have hsz : qvs.length ≤ 200 := by rw [hq.length, castL_length, hst.2.2.2, hi.length, digs_length]; have := ndig_le hN0 ha1; omega
    (try k_fold)
    k_steps
    clear F Nw
    rename Fr _ _ _ _ => F
    rename News _ _ _ _ => Nw
    obtain ⟨hr1, hq1, hq2, hq3⟩ := hst
    rw [hi.length, digs_length, Nat.sub_self, Nat.pow_zero, Nat.div_one] at hr1 hq1
    have hlen : qs.reverse.length ≤ 150 := by rw [List.length_reverse, hq3, hi.length, digs_length]; exact ndig_le hN0 ha1
    have hrev : IntsAre qvs.reverse (castL qs.reverse) := by
      have := hq.reverse
      unfold castL at this ⊢
      rw [← List.map_reverse] at this
      exact this
    refine Does.use (d2i_spec ⟨X', T'⟩ F.keep hS2 (tabs_at Nw fun p hp => List.mem_cons_of_mem _ hp) (Nw _ (List.mem_cons_self ..)).1 (ds := qs.reverse) (N := Builtin.Int.intBits b) hrev (fun d hd => hq2 d (by simpa using hd)) hlen rfl hN1) rfl (by first | exact room1 hd (Nat.le_of_ble_eq_true rfl) | exact room3 hu (Nat.le_of_ble_eq_true rfl) | (simp only [Around.deeper]; omega)) (by first | exact room1 hd (Nat.le_of_ble_eq_true rfl) | exact room3 hu (Nat.le_of_ble_eq_true rfl) | (simp only [Around.deeper]; omega)) ?_
    rintro v h5 tk5 ⟨hP, tkq, rfl⟩
    rw [hq1]
    obtain ⟨tl3, hS3, F5, N5, hsub3, _⟩ := hP.back hS2 F Nw fun tl' => ⟨_, .cons notFld_list .nil⟩
    have N6 := N5 _ (.cons notFld_list .nil)
    have A3 := tail_ne N6 hS3 (fun p hp => by first | ((repeat with_reducible refine List.mem_cons_of_mem _ ?_); first | exact hp | exact List.mem_append_left _ hp | exact List.mem_append_right _ hp | exact List.mem_append_right _ (List.mem_append_left _ hp) | exact List.mem_append_right _ (List.mem_append_right _ hp) | exact List.mem_append_left _ (List.mem_append_right _ hp) | exact List.mem_append_right _ (List.mem_append_right _ (List.mem_append_left _ hp))) | simp [hp]) (List.mem_cons_self ..) notFld_list
    clear F Nw N5 hP A2 hq hrev
    (try dsimp only)
    k_steps
    rename Fr _ _ _ _ => F
    rename News _ _ _ _ => Nw
    rw [hr1] at Nw
    exact Done.mk ⟨TabPost.of hS3 F Nw (fun p hp => by first | ((repeat with_reducible refine List.mem_cons_of_mem _ ?_); first | exact hp | exact List.mem_append_left _ hp | exact List.mem_append_right _ hp | exact List.mem_append_right _ (List.mem_append_left _ hp) | exact List.mem_append_right _ (List.mem_append_right _ hp) | exact List.mem_append_left _ (List.mem_append_right _ hp) | exact List.mem_append_right _ (List.mem_append_right _ (List.mem_append_left _ hp))) | simp [hp]) (sub_trans hsub2 hsub3), _, _, _, _, rfl, (Nw _ (List.mem_cons_self ..)).1, new_none hS3 Nw (fun p hp => by first | ((repeat with_reducible refine List.mem_cons_of_mem _ ?_); first | exact hp | exact List.mem_append_left _ hp | exact List.mem_append_right _ hp | exact List.mem_append_right _ (List.mem_append_left _ hp) | exact List.mem_append_right _ (List.mem_append_right _ hp) | exact List.mem_append_left _ (List.mem_append_right _ hp) | exact List.mem_append_right _ (List.mem_append_right _ (List.mem_append_left _ hp))) | simp [hp]) (sub_trans hsub2 hsub3) (List.mem_cons_self ..) notFld_seq⟩
end Mine
end
section
-- Idm02
theorem Mine.fresh_Idm02 : True := by
  w_top off
  trivial
open PySem PySem.W PyProof.Rows PySem.Calls PySem.Builtin.Str
set_option maxRecDepth 100000
set_option maxHeartbeats 1000000
set_option pp.deepTerms false
namespace Mine
local macro_rules | `(tactic| k_room) => `(tactic| ((try simp only [Around.deeper, recursionLimit] at *); omega))
local macro_rules | `(tactic| k_units) => `(tactic| ((try simp only [Around.deeper, Around.in1, cLine] at *); omega))
local macro_rules | `(tactic| k_all) => `(tactic| first | with_reducible assumption | exact allLt_ne (by with_reducible assumption) | exact Low.ne (by with_reducible assumption) (by omega) | (exact Low.ne (by assumption) (by omega)))
local macro_rules | `(tactic| walk_at "eval Name") => `(tactic| (k_here; k_dflt (refine' ld ?k1 ?k2 ?_; (case k1 => k_asm); (case k2 => first | exact rfl | assumption); k_whole)))

theorem fdm_neg (a b : Int) : (-a).fdiv (-b) = a.fdiv b ∧ -((-a).fmod (-b)) = a.fmod b := by
  rw [Int.fmod_def, Int.fmod_def, Int.neg_fdiv_neg]
  refine ⟨rfl, ?_⟩
  rw [Int.neg_mul]; omega
theorem fdm_inv {a b : Int} (hb : 0 < b) : -((-a - 1).fdiv b) - 1 = a.fdiv b ∧ b + (-((-a - 1).fmod b) - 1) = a.fmod b := by
  rw [Int.fdiv_eq_ediv_of_nonneg _ (by first | with_reducible assumption | with_reducible exact lt_num (by with_reducible assumption) (Nat.le_of_ble_eq_true rfl) | with_reducible exact le_num (by with_reducible assumption) (Nat.le_of_ble_eq_true rfl) | with_reducible exact le_le (by with_reducible assumption) (Nat.le_of_ble_eq_true rfl) | omega), Int.fdiv_eq_ediv_of_nonneg _ (by first | with_reducible assumption | with_reducible exact lt_num (by with_reducible assumption) (Nat.le_of_ble_eq_true rfl) | with_reducible exact le_num (by with_reducible assumption) (Nat.le_of_ble_eq_true rfl) | with_reducible exact le_le (by with_reducible assumption) (Nat.le_of_ble_eq_true rfl) | omega), Int.fmod_eq_emod_of_nonneg _ (by first | with_reducible assumption | with_reducible exact lt_num (by with_reducible assumption) (Nat.le_of_ble_eq_true rfl) | with_reducible exact le_num (by with_reducible assumption) (Nat.le_of_ble_eq_true rfl) | with_reducible exact le_le (by with_reducible assumption) (Nat.le_of_ble_eq_true rfl) | omega), Int.fmod_eq_emod_of_nonneg _ (by first | with_reducible assumption | with_reducible exact lt_num (by with_reducible assumption) (Nat.le_of_ble_eq_true rfl) | with_reducible exact le_num (by with_reducible assumption) (Nat.le_of_ble_eq_true rfl) | with_reducible exact le_le (by with_reducible assumption) (Nat.le_of_ble_eq_true rfl) | omega)]
  have h1 := Int.mul_ediv_add_emod a b
  have h2 := Int.emod_nonneg a (show b ≠ 0 by omega)
  have h3 := Int.emod_lt_of_pos a hb
  have e : -a - 1 = b * (-(a / b) - 1) + (b - 1 - a % b) := by
    rw [Int.mul_sub, Int.mul_neg, Int.mul_one]; omega
  have e1 : (-a - 1) / b = -(a / b) - 1 := by
    rw [e, Int.mul_comm, Int.add_comm, Int.add_mul_ediv_right _ _ (by first | with_reducible assumption | with_reducible exact lt_num (by with_reducible assumption) (Nat.le_of_ble_eq_true rfl) | with_reducible exact le_num (by with_reducible assumption) (Nat.le_of_ble_eq_true rfl) | with_reducible exact le_le (by with_reducible assumption) (Nat.le_of_ble_eq_true rfl) | omega), Int.ediv_eq_zero_of_lt (by first | with_reducible assumption | with_reducible exact lt_num (by with_reducible assumption) (Nat.le_of_ble_eq_true rfl) | with_reducible exact le_num (by with_reducible assumption) (Nat.le_of_ble_eq_true rfl) | with_reducible exact le_le (by with_reducible assumption) (Nat.le_of_ble_eq_true rfl) | omega) (by first | with_reducible assumption | with_reducible exact lt_num (by with_reducible assumption) (Nat.le_of_ble_eq_true rfl) | with_reducible exact le_num (by with_reducible assumption) (Nat.le_of_ble_eq_true rfl) | with_reducible exact le_le (by with_reducible assumption) (Nat.le_of_ble_eq_true rfl) | omega), Int.zero_add]
  have e2 : (-a - 1) % b = b - 1 - a % b := by
    rw [e, Int.add_comm, Int.add_mul_emod_self_left, Int.emod_eq_of_lt (by first | with_reducible assumption | with_reducible exact lt_num (by with_reducible assumption) (Nat.le_of_ble_eq_true rfl) | with_reducible exact le_num (by with_reducible assumption) (Nat.le_of_ble_eq_true rfl) | with_reducible exact le_le (by with_reducible assumption) (Nat.le_of_ble_eq_true rfl) | omega) (by first | with_reducible assumption | with_reducible exact lt_num (by with_reducible assumption) (Nat.le_of_ble_eq_true rfl) | with_reducible exact le_num (by with_reducible assumption) (Nat.le_of_ble_eq_true rfl) | with_reducible exact le_le (by with_reducible assumption) (Nat.le_of_ble_eq_true rfl) | omega)]
  rw [e1, e2]
  constructor <;> omega
theorem bitNot_is (x : Int) : Builtin.bitNot x = -x - 1 := rfl
def idmM (a b : Int) : Nat := (if b < 0 then 2 else 0) + (if a < 0 then 1 else 0)

theorem idm_spec {w : World} {loose mean mg mb} :
    ∀ (k : Nat) {B : Heap} (_ : Gd (Mine.hd02.heap_39 w.params) loose mean mg mb B) {s : Shared} {a b : Int} {t1 t2 : Tok} {tl : List (Addr × Obj)} (_ : B.StaysIn s.heap) (_ : TabS S1 S2 tl) (_ : ∀ p ∈ tl, s.heap.get? p.1 = some p.2 ∧ B.get? p.1 = none)
    (_ : a.natAbs < 2 ^ 149) (_ : b ≠ 0) (_ : b.natAbs < 2 ^ 100) (_ : idmM a b = k),
    Does (model PySem.Challenge.rw_pg0310_02.row.prog w) (185 + k) (830 + 5 * k) (call (.ref 228) [.int a t1, .int b t2]) s
      (fun v h' => TabPost S1 S2 tl s.heap h' ∧ ∃ T n0 tq tr, v = .ref T ∧ h'.get? T = some ({ cls := .type "tuple", data := .seq #[.int (a.fdiv b) tq, .int (a.fmod b) tr] n0 } : Obj) ∧ s.heap.get? T = none) := by
  intro k
  induction k using Nat.strongRecOn with
  | ind k ih =>
  intro B G s a b t1 t2 tl hB hS htl ha hb hb1 hk d0 u0 fr gs hd hu
  revert G
  k_fill
  intro G
  refine' enter (binds := [("a", .int a t1), ("b", .int b t2)]) G hB tl htl ?k6 ?k7 ?k8 ?k9 ?kB ?_ ?c2 ?c3 ?c4 ?c5; (case k6 => k_is); (case k7 => k_is); (case k8 => k_room); (case k9 => exact BindsTo.of_eq rfl);  (case c5 => decide); (case kB => exact locs rfl); (case c2 => exact rfl); (case c3 => exact rfl); (case c4 => exact rfl)
  intro g' L' h' hg' F' N' hlow X' T'
  subst hg'
  (try dsimp only)
  (try k_fold)
  k_steps
  · exact absurd (by assumption) hb
  · rename Fr _ _ _ _ => F
    rename News _ _ _ _ => Nw
    rename b < 0 => hb0
    refine Does.use (ih (idmM (-a) (-b)) (by rw [← hk]; unfold idmM; rw [if_pos hb0, if_neg (show ¬ -b < 0 by omega)]; split <;> split <;> omega) ⟨X', T'⟩ F.keep hS (tabs_at Nw fun p hp => hp) (by rw [Int.natAbs_neg]; exact ha) (by first | with_reducible assumption | with_reducible exact lt_num (by with_reducible assumption) (Nat.le_of_ble_eq_true rfl) | with_reducible exact le_num (by with_reducible assumption) (Nat.le_of_ble_eq_true rfl) | with_reducible exact le_le (by with_reducible assumption) (Nat.le_of_ble_eq_true rfl) | omega) (by rw [Int.natAbs_neg]; exact hb1) rfl) rfl ?q1 ?q2 ?_
    case q1 => have : idmM (-a) (-b) ≤ 1 := (by unfold idmM; rw [if_neg (show ¬ -b < 0 by omega)]; split <;> omega); have : 2 ≤ k := (by rw [← hk]; unfold idmM; rw [if_pos hb0]; omega); simp only [Around.deeper]; omega
    case q2 => have : idmM (-a) (-b) ≤ 1 := (by unfold idmM; rw [if_neg (show ¬ -b < 0 by omega)]; split <;> omega); have : 2 ≤ k := (by rw [← hk]; unfold idmM; rw [if_pos hb0]; omega); simp only [Around.deeper]; omega
    rintro v h2 tk2 ⟨hP, T, n0, tq, tr, rfl, hT, hT0⟩
    have hfd := fdm_neg a b
    obtain ⟨tl2, hS2, F2, N2, hsub2, _⟩ := hP.back hS F Nw fun tl' => ⟨_, .nil⟩
    have N3 := news_new F hT0 hT (N2 _ .nil)
    have A1 := tail_ne N3 hS2 (fun p hp => by first | ((repeat with_reducible refine List.mem_cons_of_mem _ ?_); first | exact hp | exact List.mem_append_left _ hp | exact List.mem_append_right _ hp | exact List.mem_append_right _ (List.mem_append_left _ hp) | exact List.mem_append_right _ (List.mem_append_right _ hp) | exact List.mem_append_left _ (List.mem_append_right _ hp) | exact List.mem_append_right _ (List.mem_append_right _ (List.mem_append_left _ hp))) | simp [hp]) (List.mem_cons_self ..) notFld_seq
    clear F Nw N2 hP
    (try dsimp only)
    k_steps
    (first | (k_unmd; k_unfold; try dsimp only) | (try dsimp only))
    rename Fr _ _ _ _ => F
    rename News _ _ _ _ => Nw
    try simp only [bitNot_is] at Nw
    rw [hfd.1, hfd.2] at Nw
    exact Done.mk ⟨TabPost.of hS2 F Nw (fun p hp => by first | ((repeat with_reducible refine List.mem_cons_of_mem _ ?_); first | exact hp | exact List.mem_append_left _ hp | exact List.mem_append_right _ hp | exact List.mem_append_right _ (List.mem_append_left _ hp) | exact List.mem_append_right _ (List.mem_append_right _ hp) | exact List.mem_append_left _ (List.mem_append_right _ hp) | exact List.mem_append_right _ (List.mem_append_right _ (List.mem_append_left _ hp))) | simp [hp]) hsub2, _, _, _, _, rfl, (Nw _ (List.mem_cons_self ..)).1, new_none hS2 Nw (fun p hp => by first | ((repeat with_reducible refine List.mem_cons_of_mem _ ?_); first | exact hp | exact List.mem_append_left _ hp | exact List.mem_append_right _ hp | exact List.mem_append_right _ (List.mem_append_left _ hp) | exact List.mem_append_right _ (List.mem_append_right _ hp) | exact List.mem_append_left _ (List.mem_append_right _ hp) | exact List.mem_append_right _ (List.mem_append_right _ (List.mem_append_left _ hp))) | simp [hp]) hsub2 (List.mem_cons_self ..) notFld_seq⟩
  · rename Fr _ _ _ _ => F
    rename News _ _ _ _ => Nw
    rename ¬ b < 0 => hb0
    rename a < 0 => ha0
    have eN2 : ∀ x, Builtin.bitNot x = -x - 1 := fun _ => rfl
    have eN := eN2 a
    rw [eN]
    refine Does.use (ih (idmM (-a - 1) b) (by rw [← hk]; unfold idmM; rw [if_neg hb0, if_pos ha0, if_neg (show ¬ -a - 1 < 0 by omega)]; omega) ⟨X', T'⟩ F.keep hS (tabs_at Nw fun p hp => hp) (by first | with_reducible assumption | with_reducible exact lt_num (by with_reducible assumption) (Nat.le_of_ble_eq_true rfl) | with_reducible exact le_num (by with_reducible assumption) (Nat.le_of_ble_eq_true rfl) | with_reducible exact le_le (by with_reducible assumption) (Nat.le_of_ble_eq_true rfl) | omega) hb hb1 rfl) rfl ?q3 ?q4 ?_
    case q3 => have : idmM (-a - 1) b = 0 := (by unfold idmM; rw [if_neg hb0, if_neg (show ¬ -a - 1 < 0 by omega)]); have : 1 ≤ k := (by rw [← hk]; unfold idmM; rw [if_neg hb0, if_pos ha0]; omega); simp only [Around.deeper]; omega
    case q4 => have : idmM (-a - 1) b = 0 := (by unfold idmM; rw [if_neg hb0, if_neg (show ¬ -a - 1 < 0 by omega)]); have : 1 ≤ k := (by rw [← hk]; unfold idmM; rw [if_neg hb0, if_pos ha0]; omega); simp only [Around.deeper]; omega
    rintro v h2 tk2 ⟨hP, T, n0, tq, tr, rfl, hT, hT0⟩
    have hfd := fdm_inv (a := a) (b := b) (by first | with_reducible assumption | with_reducible exact lt_num (by with_reducible assumption) (Nat.le_of_ble_eq_true rfl) | with_reducible exact le_num (by with_reducible assumption) (Nat.le_of_ble_eq_true rfl) | with_reducible exact le_le (by with_reducible assumption) (Nat.le_of_ble_eq_true rfl) | omega)
    obtain ⟨tl2, hS2, F2, N2, hsub2, _⟩ := hP.back hS F Nw fun tl' => ⟨_, .nil⟩
    have N3 := news_new F hT0 hT (N2 _ .nil)
    have A1 := tail_ne N3 hS2 (fun p hp => by first | ((repeat with_reducible refine List.mem_cons_of_mem _ ?_); first | exact hp | exact List.mem_append_left _ hp | exact List.mem_append_right _ hp | exact List.mem_append_right _ (List.mem_append_left _ hp) | exact List.mem_append_right _ (List.mem_append_right _ hp) | exact List.mem_append_left _ (List.mem_append_right _ hp) | exact List.mem_append_right _ (List.mem_append_right _ (List.mem_append_left _ hp))) | simp [hp]) (List.mem_cons_self ..) notFld_seq
    clear F Nw N2 hP
    (try dsimp only)
    k_steps
    (first | (k_unmd; k_unfold; try dsimp only) | (try dsimp only))
    rename Fr _ _ _ _ => F
    rename News _ _ _ _ => Nw
    try simp only [bitNot_is] at Nw
    rw [hfd.1, hfd.2] at Nw
    exact Done.mk ⟨TabPost.of hS2 F Nw (fun p hp => by first | ((repeat with_reducible refine List.mem_cons_of_mem _ ?_); first | exact hp | exact List.mem_append_left _ hp | exact List.mem_append_right _ hp | exact List.mem_append_right _ (List.mem_append_left _ hp) | exact List.mem_append_right _ (List.mem_append_right _ hp) | exact List.mem_append_left _ (List.mem_append_right _ hp) | exact List.mem_append_right _ (List.mem_append_right _ (List.mem_append_left _ hp))) | simp [hp]) hsub2, _, _, _, _, rfl, (Nw _ (List.mem_cons_self ..)).1, new_none hS2 Nw (fun p hp => by first | ((repeat with_reducible refine List.mem_cons_of_mem _ ?_); first | exact hp | exact List.mem_append_left _ hp | exact List.mem_append_right _ hp | exact List.mem_append_right _ (List.mem_append_left _ hp) | exact List.mem_append_right _ (List.mem_append_right _ hp) | exact List.mem_append_left _ (List.mem_append_right _ hp) | exact List.mem_append_right _ (List.mem_append_right _ (List.mem_append_left _ hp))) | simp [hp]) hsub2 (List.mem_cons_self ..) notFld_seq⟩
  · rename Fr _ _ _ _ => F
    rename News _ _ _ _ => Nw
    rename ¬ b < 0 => hb0
    rename ¬ a < 0 => ha0
    have ea : a = (a.toNat : Int) := by omega
    have eb : b = (b.toNat : Int) := by omega
    refine Does.use (pos_spec ⟨X', T'⟩ F.keep hS (tabs_at Nw fun p hp => hp) ea (by first | with_reducible assumption | with_reducible exact lt_num (by with_reducible assumption) (Nat.le_of_ble_eq_true rfl) | with_reducible exact le_num (by with_reducible assumption) (Nat.le_of_ble_eq_true rfl) | with_reducible exact le_le (by with_reducible assumption) (Nat.le_of_ble_eq_true rfl) | omega) eb (by first | with_reducible assumption | with_reducible exact lt_num (by with_reducible assumption) (Nat.le_of_ble_eq_true rfl) | with_reducible exact le_num (by with_reducible assumption) (Nat.le_of_ble_eq_true rfl) | with_reducible exact le_le (by with_reducible assumption) (Nat.le_of_ble_eq_true rfl) | omega) (by first | with_reducible assumption | with_reducible exact lt_num (by with_reducible assumption) (Nat.le_of_ble_eq_true rfl) | with_reducible exact le_num (by with_reducible assumption) (Nat.le_of_ble_eq_true rfl) | with_reducible exact le_le (by with_reducible assumption) (Nat.le_of_ble_eq_true rfl) | omega)) rfl (by first | exact room1 hd (Nat.le_of_ble_eq_true rfl) | exact room3 hu (Nat.le_of_ble_eq_true rfl) | (simp only [Around.deeper]; omega)) (by first | exact room1 hd (Nat.le_of_ble_eq_true rfl) | exact room3 hu (Nat.le_of_ble_eq_true rfl) | (simp only [Around.deeper]; omega)) ?_
    rintro v h2 tk2 ⟨hP, T, n0, tq, tr, rfl, hT, hT0⟩
    rw [← fdiv_nat, ← fmod_nat, ← ea, ← eb] at hT
    obtain ⟨tl2, hS2, F2, N2, hsub2, _⟩ := hP.back hS F Nw fun tl' => ⟨_, .nil⟩
    have N3 := news_new F hT0 hT (N2 _ .nil)
    have A1 := tail_ne N3 hS2 (fun p hp => by first | ((repeat with_reducible refine List.mem_cons_of_mem _ ?_); first | exact hp | exact List.mem_append_left _ hp | exact List.mem_append_right _ hp | exact List.mem_append_right _ (List.mem_append_left _ hp) | exact List.mem_append_right _ (List.mem_append_right _ hp) | exact List.mem_append_left _ (List.mem_append_right _ hp) | exact List.mem_append_right _ (List.mem_append_right _ (List.mem_append_left _ hp))) | simp [hp]) (List.mem_cons_self ..) notFld_seq
    clear F Nw N2 hP
    (try dsimp only)
    k_steps
    rename Fr _ _ _ _ => F
    rename News _ _ _ _ => Nw
    exact Done.mk ⟨TabPost.of hS2 F Nw (fun p hp => by first | ((repeat with_reducible refine List.mem_cons_of_mem _ ?_); first | exact hp | exact List.mem_append_left _ hp | exact List.mem_append_right _ hp | exact List.mem_append_right _ (List.mem_append_left _ hp) | exact List.mem_append_right _ (List.mem_append_right _ hp) | exact List.mem_append_left _ (List.mem_append_right _ hp) | exact List.mem_append_right _ (List.mem_append_right _ (List.mem_append_left _ hp))) | simp [hp]) hsub2, _, _, _, _, rfl, (Nw _ (List.mem_cons_self ..)).1, new_none hS2 Nw (fun p hp => by first | ((repeat with_reducible refine List.mem_cons_of_mem _ ?_); first | exact hp | exact List.mem_append_left _ hp | exact List.mem_append_right _ hp | exact List.mem_append_right _ (List.mem_append_left _ hp) | exact List.mem_append_right _ (List.mem_append_right _ hp) | exact List.mem_append_left _ (List.mem_append_right _ hp) | exact List.mem_append_right _ (List.mem_append_right _ (List.mem_append_left _ hp))) | simp [hp]) hsub2 (List.mem_cons_self ..) notFld_seq⟩
end Mine

end
section
-- Re
theorem Mine.fresh_Re : True := by
  w_top off
  trivial
open PySem PySem.W PyProof.Rows PySem.Calls PySem.Builtin PySem.Builtin.Re
set_option maxRecDepth 100000
namespace Mine
def Safe (x : Str) : Prop := ∀ c ∈ x.cps.toList, 32 ≤ c ∧ c < 127

theorem plainAttrs_pat : PlainAttrs "re.Pattern" :=
  ⟨⟨"object.__getattribute__", by rw [typeLookup_type, builtinLookup_eq_fast]; kernel_rfl, by decide +kernel⟩, by rw [typeLookup_type, builtinLookup_eq_fast]; kernel_rfl⟩
theorem owner_pat : Manifest.owners.lookup (String.ofList ['n', 'r', 'e', 't', 't', 'a', 'P', '.', 'e', 'r'].reverse) = some Manifest.sig_re_Pattern := by kernel_rfl
theorem slot_pat_search : Slot "re.Pattern" "search" "re.Pattern.search" :=
  .of (owner := "re.Pattern") (n := "search") (by rw [typeLookup_type, builtinLookup_eq_fast]; kernel_rfl) (by decide +kernel) (by decide +kernel) (by decide +kernel)
    (by first | exact .inl (by decide +kernel) | exact .inr (by decide +kernel)) (by rw [isSubtype_type]; kernel_rfl)
theorem type_pat_search : typeOf (.builtin "re.Pattern.search") = pure (.type "method_descriptor") := by show builtinType _ = _; rw [builtinType_eq_fast]; kernel_rfl
theorem entry_pat_search : entryFor table "re.Pattern.search" = some Builtin.«re.Pattern.search» := entryFor_of_tree (by kernel_rfl)
theorem args_pat_search_2 (a b : Value) : argsOk "re.Pattern.search" ⟨[a, b], []⟩ := by
  unfold argsOk; rw [signature?_of (id := "re.Pattern.search") (n := ['h', 'c', 'r', 'a', 'e', 's']) (o := ['n', 'r', 'e', 't', 't', 'a', 'P', '.', 'e', 'r']) (by kernel_rfl) owner_pat]; kernel_rfl

/-- a set that takes none of the safe signs -/
def NoSafe (code : Array Nat) : Prop := ∀ c seen, 32 ≤ c → c < 127 → ∃ seen', Sre.inSet code c code.size 5 true seen = .ok (false, seen')
def code1 : Array Nat := #[14, 10, 4, 1, 1, 22, 0, 31, 16, 127, 0, 13, 7, 22, 0, 31, 16, 127, 0, 1]
def code2 : Array Nat := #[14, 14, 4, 1, 1, 9, 4294966783, 0, 0, 2147483648, 0, 0, 0, 0, 0, 13, 11, 9, 4294966783, 0, 0, 2147483648, 0, 0, 0, 0, 0, 1]
theorem noSafe1 : NoSafe code1 := by
  intro c seen h1 h2
  refine ⟨((seen.add 22).add 16).add 0, ?_⟩
  show Sre.inSet code1 c 20 5 true seen = _
  rw [Sre.inSet]
  show (if decide (0 ≤ c) && decide (c ≤ 31) then _ else _) = _
  rw [if_neg (by simp; omega)]
  rw [Sre.inSet]
  show (if (c == 127) = true then _ else _) = _
  rw [if_neg (by simp; omega)]
  rw [Sre.inSet]
  rfl
theorem bit2 : ∀ c : Nat, c < 127 → 32 ≤ c → (code2.getD (5 + (1 + c / 32)) 0).testBit (c % 32) = false := by decide +kernel
theorem noSafe2 : NoSafe code2 := by
  intro c seen h1 h2
  refine ⟨(seen.add 9).add 0, ?_⟩
  show Sre.inSet code2 c 28 5 true seen = _
  rw [Sre.inSet]
  show (if (decide (c < 256) && (code2.getD (5 + (1 + c / 32)) 0).testBit (c % 32)) = true then _ else _) = _
  rw [bit2 c h2 h1, if_neg (by simp)]
  rw [Sre.inSet]
  rfl

theorem admitted_none {m : Sre.M} (hm : NoSafe m.code) (hs : ∀ i, i < m.lim → 32 ≤ m.text.getD i 0 ∧ m.text.getD i 0 < 127) : ∀ (fuel i : Nat) (seen : Sre.Seen), ∃ seen', Sre.M.admitted m fuel i seen = .ok (none, seen')
  | 0, i, seen => ⟨seen, rfl⟩
  | fuel + 1, i, seen => by
    rw [Sre.M.admitted]
    by_cases h : i ≥ m.lim
    · exact ⟨seen, if_pos h⟩
    · rw [if_neg h]
      obtain ⟨seen', e⟩ := hm (m.text.getD i 0) seen (hs i (by omega)).1 (hs i (by omega)).2
      rw [e]
      exact admitted_none hm hs fuel (i + 1) seen'

/-- a search that has found nothing -/
def Lost (m : Sre.M) : Prop := m.answer = some false ∧ m.frames = [] ∧ m.outcome = none
theorem lost_search {code : Array Nat} {text : Array Nat} (hc : NoSafe code) (h0 : code.getD 0 0 = 14) (h2 : code.getD 2 0 = 4) (h3 : code.getD 3 0 = 1) (hs : ∀ c ∈ text.toList, 32 ≤ c ∧ c < 127) :
    Lost (Sre.forSearch code text 0 0 text.size false) := by
  have hget : ∀ i, i < text.size → 32 ≤ text.getD i 0 ∧ text.getD i 0 < 127 := fun i hi => by
    rw [Array.getD_eq_getD_getElem?, Array.getElem?_eq_getElem hi]
    exact hs _ (by simp)
  unfold Sre.forSearch
  dsimp only
  split
  · exact ⟨rfl, rfl, rfl⟩
  · unfold Sre.M.attemptFrom
    have hf : ∀ m : Sre.M, m.code = code → m.hasFirstSet = true := fun m e => by
      unfold Sre.M.hasFirstSet
      rw [e, h0, h2]; rfl
    rw [hf _ rfl]
    simp only [Bool.not_true, Bool.false_eq_true, if_false]
    have key : ∀ {m : Sre.M} {f i : Nat} {seen : Sre.Seen} {r : Except String (Option Nat × Sre.Seen)}, m.code = code → m.text = text → m.lim = text.size → Sre.M.admitted m f i seen = r → ∃ seen', r = .ok (none, seen') := by
      intro m f i seen r e1 e2 e3 e
      obtain ⟨seen', e'⟩ := admitted_none (m := m) (by rw [e1]; exact hc) (by rw [e2, e3]; exact hget) f i seen
      exact ⟨seen', e.symm.trans e'⟩
    split
    · rename_i s' seen' e
      obtain ⟨_, e2⟩ := key rfl rfl rfl e
      cases e2
    · exact ⟨rfl, rfl, rfl⟩
    · rename_i why e
      obtain ⟨_, e2⟩ := key rfl rfl rfl e
      cases e2

section
variable {M : Model} {A : Around} {E : Value → Shared → Prop} {s : Shared}
theorem rules_loop {Q : PUnit → Shared → Prop} (f : Nat → Bool) (g : Nat → String) (h : Q ⟨⟩ s) : ∀ l : List Nat, wpAny M A (forIn l PUnit.unit fun i _ => if f i = true then (rule (g i) >>= fun _ => pure (ForInStep.yield PUnit.unit)) else pure (ForInStep.yield PUnit.unit)) Q E s
  | [] => wpAny_pure h
  | i :: r => by
    rw [List.forIn_cons]
    refine wpAny_bind ?_
    cases f i with
    | false => exact wpAny_pure (rules_loop f g h r)
    | true => exact wpAny_bind (wpAny_rule (wpAny_pure (rules_loop f g h r)))
theorem lost_runs {m : Sre.M} {Q : Option Sre.M → Shared → Prop} (hm : Lost m) (h : Q none s) : wpAny M A (reRunToEnd m) Q E s := by
  unfold reRunToEnd
  obtain ⟨h1, h2, h3⟩ := hm
  have hstep : (m.runFor reTurnSteps) = { m with outcome := some .failed } := by
    show Sre.M.runFor 4 m = _
    have e1 : m.step = { m with outcome := some .failed } := by
      unfold Sre.M.step
      rw [h3, h1, h2]; rfl
    rw [Sre.M.runFor, h3]
    show Sre.M.runFor 3 m.step = _
    rw [e1]; rfl
  have hd : reDrive (2 ^ 64) m = pure { m with outcome := some .failed } := by
    show reDrive ((2 ^ 64 - 1) + 1) m = _
    rw [reDrive, hstep]; rfl
  rw [hd]
  refine wpAny_bind (wpAny_pure ?_)
  refine wpAny_bind (rules_loop _ _ ?_ _)
  exact wpAny_pure h
end

section
variable {prog : Program} {w : World} {A : Around} {E : Value → Shared → Prop} {s : Shared} {h₀ : Heap} {L P cc : Addr} {m : Str → Option Value} {o oc : Obj} {vs its : Array Value} {n : Nat} {code : Array Nat} {x : Str} {t : Tok}
/-- a pattern object that searches with one set -/
structure PatAt (h : Heap) (P : Addr) (code : Array Nat) : Prop where
  ex : ∃ (o : Obj) (vs : Array Value) (cc : Addr) (oc : Obj) (its : Array Value) (n : Nat), h.get? P = some o ∧ o.cls = .type "re.Pattern" ∧ o.dict = none ∧ o.data = .fields vs ∧ vs[5]? = some (.ref cc) ∧ reRawNat (vs.getD 6 .none) = 0 ∧ reRawNat (vs.getD 2 .none) = 0 ∧
    h.get? cc = some oc ∧ oc.data = .seq its n ∧ (its.map reRawOf).map (·.toNat) = code

theorem searchK {Q : Value → Shared → Prop} (hP : PatAt s.heap P code) (hc : NoSafe code) (h0 : code.getD 0 0 = 14) (h2 : code.getD 2 0 = 4) (h3 : code.getD 3 0 = 1) (hx : Safe x) (hl : x.length ≤ 1000000) (h : Q .none s) :
    wpAny (model prog w) A (call (.builtin "re.Pattern.search") [.ref P, .str x t]) Q E s := by
  obtain ⟨o, vs, cc, oc, its, n, e1, e2, e3, e4, e5, e6, e7, e8, e9, e10⟩ := hP.ex
  have h5 : vs.getD 5 .none = .ref cc := by rw [Array.getD_eq_getD_getElem?, e5]; rfl
  refine wpAny_call_entry slot_pat_search ⟨o, e1, e2⟩ entry_pat_search ?_ (args_pat_search_2 _ _)
  show wpAny _ _ (reTarget "re.Pattern.search" "search" ⟨[.ref P, .str x t], []⟩ >>= _) _ _ _
  refine wpAny_bind ?_
  unfold reTarget
  dsimp only
  refine wpAny_bind (wpAny_of_eq (a := [some (.str x t), none, none]) (by unfold reNamed; rfl) ?_)
  dsimp only
  refine wpAny_bind (wpAny_of_eq (a := 0) rfl ?_)
  refine wpAny_bind (wpAny_of_eq (a := 2 ^ 63 - 1) rfl ?_)
  refine wpAny_bind (wpAny_fieldsOf e1 e4 ?_)
  refine wpAny_bind (wpAny_of_eq (a := (x.cps, 0)) rfl ?_)
  dsimp only
  rw [e6]
  refine wpAny_bind (wpAny_of_eq (a := ⟨⟩) rfl ?_)
  rw [h5]
  refine wpAny_bind ?_
  unfold reRawItems
  refine wpAny_bind (wpAny_seqItems e8 e9 ?_)
  refine wpAny_pure ?_
  dsimp only [Option.getD_some]
  refine wpAny_pure ?_
  dsimp only
  unfold reAnswer
  rw [e10, e7]
  have hmin : min (2 ^ 63 - 1 : Int).toNat x.cps.size = x.cps.size := by
    have : x.cps.size ≤ 1000000 := hl
    omega
  have hmin0 : min (0 : Int).toNat x.cps.size = 0 := by simp
  rw [hmin, hmin0]
  refine wpAny_bind (lost_runs (lost_search hc h0 h2 h3 hx) ?_)
  exact wpAny_pure ⟨_, rfl, h⟩

theorem patMethK {Q : Value × List Value → Shared → Prop} (hP : PatAt s.heap P code) (pl : Sem Bool) (h : Q (.builtin "re.Pattern.search", [.ref P]) s) : wpAny (model prog w) A (getMethod (.ref P) "search" pl) Q E s := by
  obtain ⟨o, vs, cc, oc, its, n, e1, e2, e3, e4, e5, e6, e7, e8, e9, e10⟩ := hP.ex
  exact getMethod_builtin ⟨o, e1, e2⟩ plainAttrs_pat slot_pat_search type_pat_search (fun a ha => by cases ha; exact ⟨o, e1, e3⟩) h
theorem PatAt.keep {h h' : Heap} {P : Addr} {code : Array Nat} (hP : PatAt h P code) (k : h.StaysIn h') : PatAt h' P code := by
  obtain ⟨o, vs, cc, oc, its, n, e1, e2, e3, e4, e5, e6, e7, e8, e9, e10⟩ := hP.ex
  exact ⟨o, vs, cc, oc, its, n, k _ _ e1, e2, e3, e4, e5, e6, e7, k _ _ e8, e9, e10⟩
end
end Mine

end
section
-- Tab
theorem Mine.fresh_Tab : True := by
  w_top off
  trivial
open PySem PySem.W PyProof.Rows PySem.Calls PySem.Builtin PySem.Builtin.Str
set_option maxRecDepth 100000
namespace Mine

abbrev tupObj (a b : Value) (n : Nat) : Obj := { cls := .type "tuple", data := .seq #[a, b] n }
/-- a row of a table: a pair of texts -/
def RowAt (h : Heap) (x : Value) (r : Str × Str) : Prop := ∃ T n t1 t2, x = .ref T ∧ h.get? T = some (tupObj (.str r.1 t1) (.str r.2 t2) n)
def RowsAt (h : Heap) (xs : List Value) (rs : List (Str × Str)) : Prop := xs.length = rs.length ∧ ∀ (i : Nat) x r, xs[i]? = some x → rs[i]? = some r → RowAt h x r
theorem RowAt.keep {h h' : Heap} {x : Value} {r : Str × Str} (R : RowAt h x r) (k : h.StaysIn h') : RowAt h' x r := by
  obtain ⟨T, n, t1, t2, e, g⟩ := R
  exact ⟨T, n, t1, t2, e, k _ _ g⟩
theorem RowsAt.keep {h h' : Heap} {xs : List Value} {rs : List (Str × Str)} (R : RowsAt h xs rs) (k : h.StaysIn h') : RowsAt h' xs rs := ⟨R.1, fun i x r a b => (R.2 i x r a b).keep k⟩
theorem RowsAt.nil {h : Heap} : RowsAt h [] [] := ⟨rfl, fun i x r a => by simp at a⟩
theorem RowsAt.snoc {h : Heap} {xs : List Value} {rs : List (Str × Str)} {x : Value} {r : Str × Str} (R : RowsAt h xs rs) (A : RowAt h x r) : RowsAt h (xs ++ [x]) (rs ++ [r]) := by
  refine ⟨by simp [R.1], fun i y q a b => ?_⟩
  by_cases hi : i < xs.length
  · rw [List.getElem?_append_left hi] at a
    rw [List.getElem?_append_left (by rw [← R.1]; exact hi)] at b
    exact R.2 i y q a b
  · rw [List.getElem?_append_right (by omega)] at a
    rw [List.getElem?_append_right (by rw [← R.1]; omega), ← R.1] at b
    have : i - xs.length = 0 := by
      rcases Nat.eq_zero_or_pos (i - xs.length) with h | h
      · exact h
      · rw [List.getElem?_eq_none (by simp; omega)] at a; cases a
    rw [this] at a b
    simp at a b
    subst a b; exact A
/-- the row at a place -/
theorem RowsAt.at {h : Heap} {xs : List Value} {rs : List (Str × Str)} {i : Nat} {x : Value} (R : RowsAt h xs rs) (a : xs[i]? = some x) : ∃ r, rs[i]? = some r ∧ RowAt h x r := by
  have hi : i < rs.length := by
    rw [← R.1]
    exact (List.getElem?_eq_some_iff.mp a).1
  exact ⟨rs[i], List.getElem?_eq_getElem hi, R.2 i x _ a (List.getElem?_eq_getElem hi)⟩
theorem RowsAt.refs {h : Heap} {xs : List Value} {rs : List (Str × Str)} (R : RowsAt h xs rs) : ∀ v ∈ xs, ∃ T, v = .ref T := fun v hv => by
  obtain ⟨i, hi⟩ := List.getElem?_of_mem hv
  obtain ⟨r, _, T, n, t1, t2, e, _⟩ := R.at hi
  exact ⟨T, e⟩
/-- what a heap lays out of the way takes no tuple with it -/
theorem RowsAt.hide {h : Heap} {xs : List Value} {rs : List (Str × Str)} {hid : List (Addr × Obj)} (R : RowsAt h xs rs) (hN : ∀ p ∈ hid, h.get? p.1 = some p.2) (hc : ∀ p ∈ hid, p.2.cls ≠ .type "tuple") : RowsAt (hideAll h (hid.map (·.1))) xs rs := by
  refine ⟨R.1, fun i x r a b => ?_⟩
  obtain ⟨T, n, t1, t2, e, g⟩ := R.2 i x r a b
  refine ⟨T, n, t1, t2, e, hideAll_get _ g fun hm => ?_⟩
  obtain ⟨p, hp, rfl⟩ := List.mem_map.mp hm
  have := hN p hp
  rw [g] at this
  exact hc p hp (by rw [← Option.some.inj this])

section
variable {prog : Program} {w : World} {A : Around} {s : Shared} {K : Frag} {B : Heap} {loose : List Str} {mean : ExcName → Option Value} {mg mb : Str → Option Value}
  {R : Result → Shared → Prop} {name qual : Str} {params : Arguments} {body : List Stmt} {scope : Scope} {dV kV doc pm cdv ct oc : Value} {an od : Option Addr} {osl : Array (Option Value)} {f : Addr} {args : List Value} {kw : List (Str × Value)} {binds : List (Str × Value)}
/-- a call's contract where a call is asked as a code -/
def DoesC (M : Model) (d u : Nat) (f : Value) (args : Args) (s : Shared) (Post : Value → Heap → Prop) : Prop :=
  ∀ (d0 u0 : Nat) (fr : Option (List Env)) (gs : Option (List Code)), d0 + d < recursionLimit → u0 + u < cLine →
    codeAny M ⟨none, d0, fr, gs, u0⟩ (.call f args) (fun r s' => ∃ v, r = .ok (.ret v) ∧ Done s Post v s') s

theorem enter_code (G : Gd K loose mean mg mb B) (hB : B.StaysIn s.heap) (hid : List (Addr × Obj)) (hN : ∀ p ∈ hid, s.heap.get? p.1 = some p.2 ∧ B.get? p.1 = none)
    (ho : K.lookup f = some ⟨oc, od, .func (fnOf name qual params body scope dV kV doc pm an cdv ct), osl⟩) (hcd : codeIn K cdv qual = true) (hroom : A.depth < recursionLimit)
    (hbind : BindsTo s (fnOf name qual params body scope dV kV doc pm an cdv ct) ⟨args, kw⟩ binds) (hloc : ∀ y ∈ binds, scope.names.lookup y.1 = some .local)
    (h : ∀ g L' h₁, g = hideAll s.heap (hid.map (·.1)) → Fr g L' h₁ (fun y => binds.reverse.lookup y) → News g L' h₁ hid → (∀ p ∈ hid, p.1 < L') → K.In g → Top topProg loose mean mg mb g →
      wpAny (model prog w) (A.deeper (envOf qual scope L' f cdv)) (execs body (envOf qual scope L' f cdv))
        (fun fl s' => R (.ok (.ret (match fl with | .ret v => v | _ => .none))) s')
        (fun _ _ => False)
        { s with heap := h₁, toks := s.toks + binds.length })
    (hco : scope.isCoroutine = false := by rfl) (hgen : scope.isGenerator = false := by rfl) (hk : scope.kind = .function := by rfl)
    (hcell : ∀ x ∈ scope.names, x.2 ≠ .cell := by decide) : codeAny (model prog w) A (.call (.ref f) ⟨args, kw⟩) R s := by
  have X := G.X.keeps hB
  refine codeAny_call_def (fd := fnOf name qual params body scope dV kV doc pm an cdv ct) (body := body) (binds := binds) hroom (X _ _ ho) rfl (G.T.nolimit.keeps hB) (codeRec_of X hcd) rfl hbind hcell hloc (fun h₁ hns hk₁ => ?_) hco hgen hk
  have st : B.StaysIn (hideAll s.heap (hid.map (·.1))) := hide_stays hB fun b hb => by
    obtain ⟨p, hp, rfl⟩ := List.mem_map.mp hb
    exact (hN p hp).2
  refine wpAny_mono (h _ s.heap.objs.size h₁ rfl ⟨hns, fun b o e => hk₁ b o (of_hideAll _ e), Nat.le_of_eq (hideAll_size _ _)⟩
    (fun p hp => ⟨hk₁ _ _ (hN p hp).1, Nat.ne_of_lt (Heap.lt_size (hN p hp).1), hideAll_none _ (List.mem_map_of_mem hp)⟩) (fun p hp => Heap.lt_size (hN p hp).1) (G.X.keeps st) (G.T.keeps st)) (fun _ _ x => x) fun _ _ x => x.elim
end
theorem DoesC.use {M : Model} {A : Around} {d u : Nat} {f : Value} {args : Args} {s : Shared} {Post : Value → Heap → Prop} {R : Result → Shared → Prop} (D : DoesC M d u f args s Post) (hh : A.handled = none) (hd : A.depth + d < recursionLimit) (hu : A.units + u < cLine)
    (h : ∀ v h' tk', Post v h' → R (.ok (.ret v)) { s with heap := h', toks := tk' }) : codeAny M A (.call f args) R s := by
  obtain ⟨h1, d0, fr, gs, u0⟩ := A
  cases hh
  exact codeAny_mono (D d0 u0 fr gs hd hu) fun r s' ⟨v, e, h', tk', e2, p⟩ => e ▸ e2 ▸ h v h' tk' p

section
variable {prog : Program} {w : World} {A : Around} {E : Value → Shared → Prop} {s : Shared} {h₀ : Heap} {L : Addr} {m : Str → Option Value} {news : List (Addr × Obj)}
/-- a pair of names takes a row -/
theorem assignRow {env : Env} {a b : Str} {pa pb tp : Pos} {kk : Nat} {T : Addr} {x y : Value} {n : Nat} {Q : Unit → Shared → Prop} (F : Fr h₀ env.locals s.heap m) (N : News h₀ env.locals s.heap news) (hh : A.handled = none) (ht : s.heap.get? T = some (tupObj x y n))
    (ha : env.kindOf a = some .local) (hb : env.kindOf b = some .local) (hp : (env.scope.kind == .class || (env.scope.kind == .module && env.locals != env.globals)) = false)
    (h : ∀ (h' : Heap) (tk : Nat), Fr h₀ env.locals h' (fun z => if z = b then some y else if z = a then some x else m z) → News h₀ env.locals h' news → Q () { s with heap := h', toks := tk }) :
    wpAny (model prog w) A (assign (.Tuple [.Name a pa, .Name b pb] kk tp) env (.ref T)) Q E s := by
  refine kcp_assign hh ⟨_, ht, rfl, _, rfl⟩ ha hb hp F.ns fun h' tk hn hk => h h' tk ⟨hn, fun c o e => hk c o (fun q => ?_) (F.keep c o e), F.above⟩ fun p hp => ⟨hk _ _ (N p hp).2.1 (N p hp).1, (N p hp).2⟩
  rw [q] at e
  have := F.above
  exact absurd (Heap.lt_size e) (Nat.not_lt.mpr this)
end
section
variable {prog : Program} {w : World} {A : Around} {E : Value → Shared → Prop} {s : Shared} {env : Env} {h₀ : Heap} {Q : Flow → Shared → Prop}
/-- what a for over any target wants of its iterator: a walk of values, an invariant over the frame's map and the ledger -/
def LoopTup (prog : Program) (w : World) (A : Around) (h₀ : Heap) (env : Env) (target : Expr) (body : List Stmt) (Q : Flow → Shared → Prop) (E : Value → Shared → Prop) (it : Value) (s₂ : Shared) : Prop :=
  ∃ (I : Addr) (fp : List Addr) (n : Nat) (P : Nat → Value → Prop) (St : Nat → Heap → Prop) (m : Str → Option Value) (news : List (Addr × Obj)) (J : Nat → (Str → Option Value) → List (Addr × Obj) → Prop),
    it = .ref I ∧ (∀ i v (s : Shared) (Q : Unit → Shared → Prop) (E : Value → Shared → Prop), P i v → St (i + 1) s.heap → Q () s → wpAny (model prog w) A (letOwnedTupleGo target it v) Q E s) ∧ Walks prog w A I fp [I] n P St ∧ env.locals ∉ fp ∧ h₀.get? I = none ∧ (∀ p ∈ news, p.1 ≠ I) ∧ St 0 s₂.heap ∧ Fr h₀ env.locals s₂.heap m ∧ News h₀ env.locals s₂.heap news ∧ J 0 m news ∧
    (∀ i v m₁ news₁ h tk own, i < n → P i v → J i m₁ news₁ → (∀ p ∈ news₁, p.1 ≠ I) → (∀ p ∈ own, p.1 ∈ fp) → Fr h₀ env.locals h m₁ → News h₀ env.locals h (news₁ ++ own) →
      wpAny (model prog w) A (assign target env v) (fun _ s₄ => wpAny (model prog w) A (execs body env) (OurTurn h₀ env.locals I own (J (i + 1)) s₂ Q) E s₄) E { s₂ with heap := h, toks := tk }) ∧
    (∀ m₁ news₁ h tk, J n m₁ news₁ → Fr h₀ env.locals h m₁ → News h₀ env.locals h news₁ → Q .next { s₂ with heap := h, toks := tk })

/-- a for, any target -/
theorem for_tup {target iter : Expr} {body : List Stmt} {pos : Pos} (h₀ : Heap)
    (h : wpAny (model prog w) A (eval iter env) (fun x s₁ => wpAny (model prog w) A (pyIter x) (fun it s₂ => LoopTup prog w A h₀ env target body Q E it s₂) E s₁) E s)
    (hs : ∀ x, foldedSetIterable iter env x = pure x := by intro _; rfl)
    (hE : PassesOwn (model prog w) A env E := by passes_own) :
    wpAny (model prog w) A (exec (.For target iter body [] pos) env) Q E s := by
  refine wpAny_For (wpAny_mono h (fun xv s₁ h₁ => wpAny_mono h₁ (fun it s₂ h₂ => ?_) fun _ _ e => e) fun _ _ e => e) hs
  obtain ⟨I, fp, n, P, St, m, news, J, rfl, ht, W, hLf, hI0, hnI, hst, F, N, hj, turn, done⟩ := h₂
  have hIf : I ∈ fp := W.sub I (List.mem_singleton.mpr rfl)
  refine codeAny_forLoop_any
    (fun k s' => ∃ h' tk m' nx i, s' = { s₂ with heap := h', toks := tk } ∧ St i h' ∧ Fr h₀ env.locals h' m' ∧ News h₀ env.locals h' nx ∧ (∀ p ∈ nx, p.1 ≠ I) ∧ J i m' nx ∧ i ≤ n ∧ k = n + 1 - i) ?_ (n + 1)
    ⟨s₂.heap, s₂.toks, m, news, 0, rfl, hst, F, N, hnI, hj, Nat.zero_le _, rfl⟩
  rintro k s' ⟨h', tk, m', nx, i, rfl, hst', F', N', hnx, hJ, hi, rfl⟩
  have next : ∀ h₁ : Heap, (∀ b o, b ∉ [I] → h'.get? b = some o → h₁.get? b = some o) → Fr h₀ env.locals h₁ m' ∧ News h₀ env.locals h₁ nx := fun h₁ hk₁ =>
    ⟨⟨F'.ns.at' fun o e => hk₁ _ o (fun q => hLf ((List.mem_singleton.mp q) ▸ hIf)) e, fun b o e => hk₁ b o (fun q => by rw [List.mem_singleton.mp q, hI0] at e; cases e) (F'.keep b o e), F'.above⟩,
      fun p hp => ⟨hk₁ _ _ (fun q => hnx p hp (List.mem_singleton.mp q)) (N' p hp).1, (N' p hp).2⟩⟩
  by_cases hlt : i < n
  · refine W.item i _ _ _ hlt hst' fun v h₁ tk₁ hP hst₁ hk₁ => ?_
    refine ht i v _ _ _ hP hst₁ ?_
    obtain ⟨F₁, N₁⟩ := next h₁ hk₁
    have Nown : News h₀ env.locals h₁ (ownOf h₀ fp h₁) := news_ownOf hLf
    have N₂ : News h₀ env.locals h₁ (nx ++ ownOf h₀ fp h₁) := fun p hp => (List.mem_append.mp hp).elim (N₁ p) (Nown p)
    have T := turn i v m' nx h₁ tk₁ (ownOf h₀ fp h₁) hlt hP hJ hnx ownOf_sub F₁ N₂
    have fin : ∀ s₅ : Shared, (∃ h'' tk m'' nx', s₅ = { s₂ with heap := h'', toks := tk } ∧ Fr h₀ env.locals h'' m'' ∧ News h₀ env.locals h'' (nx' ++ ownOf h₀ fp h₁) ∧ (∀ p ∈ nx', p.1 ≠ I) ∧ J (i + 1) m'' nx') →
        ∃ mm, mm < n + 1 - i ∧ ∃ h' tk m' nx i, s₅ = { s₂ with heap := h', toks := tk } ∧ St i h' ∧ Fr h₀ env.locals h' m' ∧ News h₀ env.locals h' nx ∧ (∀ p ∈ nx, p.1 ≠ I) ∧ J i m' nx ∧ i ≤ n ∧ mm = n + 1 - i := by
      rintro s₅ ⟨h₃, tk₃, m₂, nx₂, rfl, F₃, N₃, ha₃, hJ₃⟩
      refine ⟨n + 1 - (i + 1), by omega, h₃, tk₃, m₂, nx₂, i + 1, rfl, ?_, F₃, fun p hp => N₃ p (List.mem_append_left _ hp), ha₃, hJ₃, hlt, rfl⟩
      refine W.frame _ _ _ hst₁ fun b hb o e => ?_
      cases hn : h₀.get? b with
      | some o₀ =>
        have e0 : o₀ = o := by have := F₁.keep b o₀ hn; rw [e] at this; exact (Option.some.inj this).symm
        exact e0 ▸ F₃.keep b o₀ hn
      | none => exact (N₃ (b, o) (List.mem_append_right _ (mem_ownOf hb hn e))).1
    refine wpAny_mono (wpAny_passesOwn hE T) (fun _ s₄ T₄ => wpAny_mono (wpAny_passesOwn hE T₄) (fun f s₅ T₅ => ?_) fun _ _ e => e) fun _ _ e => e
    cases f with
    | ret v => exact T₅
    | brk => exact T₅
    | next =>
      obtain ⟨h₃, tk₃, m₂, nx₂, e, r⟩ := T₅
      exact fin s₅ ⟨h₃, tk₃, m₂, nx₂, e, r⟩
    | cont =>
      obtain ⟨h₃, tk₃, m₂, nx₂, e, r⟩ := T₅
      exact fin s₅ ⟨h₃, tk₃, m₂, nx₂, e, r⟩
  · have hin : i = n := by omega
    subst hin
    refine W.done _ _ _ hst' fun h₁ tk₁ hk₁ => wpAny_execs_nil ?_
    obtain ⟨F₁, N₁⟩ := next h₁ hk₁
    exact done m' nx h₁ tk₁ hJ F₁ N₁

/-- over a list, wherever it lies -/
theorem iter_rows {elts : List Expr} {kk : Nat} {tp : Pos} {body : List Stmt} {l : Addr} {vs : List Value} {m₀ : Str → Option Value} {news : List (Addr × Obj)} (J : Nat → (Str → Option Value) → List (Addr × Obj) → Prop)
    (href : ∀ v ∈ vs, ∃ T, v = .ref T) (hh : A.handled = none) (hl : s.heap.IsList l vs.toArray) (hlL : l ≠ env.locals) (F : Fr h₀ env.locals s.heap m₀) (N : News h₀ env.locals s.heap news) (hj : J 0 m₀ news)
    (turn : ∀ i v m₁ news₁ h tk I own, vs[i]? = some v → J i m₁ news₁ → (∀ p ∈ news₁, p.1 ≠ I) → l < I → (∀ p ∈ own, p.1 = I ∨ p.1 = l) → Fr h₀ env.locals h m₁ → News h₀ env.locals h (news₁ ++ own) →
      wpAny (model prog w) A (assign (.Tuple elts kk tp) env v) (fun _ s₄ => wpAny (model prog w) A (execs body env) (OurTurn h₀ env.locals I own (J (i + 1)) s Q) E s₄) E { s with heap := h, toks := tk })
    (done : ∀ m₁ news₁ h tk, J vs.length m₁ news₁ → Fr h₀ env.locals h m₁ → News h₀ env.locals h news₁ → Q .next { s with heap := h, toks := tk }) :
    wpAny (model prog w) A (pyIter (.ref l)) (fun it s₂ => LoopTup prog w A h₀ env (.Tuple elts kk tp) body Q E it s₂) E s := by
  obtain ⟨ol, hol, _⟩ := id hl
  have hlt := Heap.lt_size hol
  refine wpAny_pyIter_list hl ?_
  have W := Walks.list (prog := prog) (w := w) hh s.heap.objs.size l (Nat.ne_of_lt hlt) vs.toArray
  refine ⟨_, _, _, _, _, m₀, news, J, rfl, ?_, W, ?_, fresh_none F, fun p hp => Nat.ne_of_lt (Heap.lt_size (N p hp).1), ⟨⟨_, Heap.get?_push_size _ rfl, rfl, rfl⟩, hl.at fun o e => Heap.get?_push_of_some _ e⟩, F.push _, (fun p hp => ⟨Heap.get?_push_of_some _ (N p hp).1, (N p hp).2⟩), hj, ?_, ?_⟩
  · intro i v s Q E hP hst hQ
    obtain ⟨T, rfl⟩ := href v (by simpa using Array.mem_of_getElem? hP)
    exact wpAny_letOwnedTupleGo_listiter hst.1 hQ
  · intro hm
    rcases List.mem_cons.mp hm with e | hm
    · exact absurd F.ns.lt (e ▸ Nat.lt_irrefl _)
    · exact hlL (List.mem_singleton.mp hm).symm
  · intro i v m₁ news₁ h tk own hi hP hJ hnx hown F₁ N₁
    refine turn i v m₁ news₁ h tk _ own (by simpa using hP) hJ hnx hlt (fun p hp => ?_) F₁ N₁
    rcases List.mem_cons.mp (hown p hp) with e | hm
    · exact .inl e
    · exact .inr (List.mem_singleton.mp hm)
  · intro m₁ news₁ h tk hJ F₁ N₁
    exact done m₁ news₁ h tk (by simpa using hJ) F₁ N₁

end
theorem for_tupF {prog : Program} {w : World} {A : Around} {E : Value → Shared → Prop} {s : Shared} {env : Env} {h₀ : Heap} {L : Addr} {m : Str → Option Value} {Q : Flow → Shared → Prop} {target iter : Expr} {body : List Stmt} {pos : Pos} (_F : Fr h₀ L s.heap m)
    (h : wpAny (model prog w) A (eval iter env) (fun x s₁ => wpAny (model prog w) A (pyIter x) (fun it s₂ => LoopTup prog w A h₀ env target body Q E it s₂) E s₁) E s)
    (hs : ∀ x, foldedSetIterable iter env x = pure x := by intro _; rfl)
    (hE : PassesOwn (model prog w) A env E := by passes_own) :
    wpAny (model prog w) A (exec (.For target iter body [] pos) env) Q E s := for_tup h₀ h hs hE
/-- all but these objects stand as they stood -/
def Keep (Ds : List Addr) (h h' : Heap) : Prop := ∀ b o, b ∉ Ds → h.get? b = some o → h'.get? b = some o
theorem keep_but {s h : Heap} {L : Addr} {m : Str → Option Value} {news hid : List (Addr × Obj)} {Ds : List Addr} (F : Fr (hideAll s (hid.map (·.1))) L h m) (N : News (hideAll s (hid.map (·.1))) L h news) (hN : ∀ p ∈ hid, s.get? p.1 = some p.2)
    (hs : ∀ p ∈ hid, p.1 ∈ Ds ∨ p ∈ news) : Keep Ds s h := fun b o hb e => by
  by_cases hm : b ∈ hid.map (·.1)
  · obtain ⟨p, hp, rfl⟩ := List.mem_map.mp hm
    rcases hs p hp with h1 | h1
    · exact absurd h1 hb
    · rw [hN p hp] at e
      rw [← Option.some.inj e]
      exact (N p h1).1
  · exact F.keep b o (hideAll_get _ e hm)
theorem Keep.stays {h h' : Heap} (k : Keep [] h h') : h.StaysIn h' := fun b o e => k b o (by simp) e
theorem fresh_of {s h : Heap} {L : Addr} {m : Str → Option Value} {news hid : List (Addr × Obj)} {a : Nat} (F : Fr (hideAll s (hid.map (·.1))) L h m) (N : News (hideAll s (hid.map (·.1))) L h news) (hs : ∀ p ∈ hid, ∃ o, (p.1, o) ∈ news) (ha : @LE.le Nat _ h.objs.size a) : s.get? a = none := by
  cases e : s.get? a with
  | none => rfl
  | some o =>
    have key : ∃ o, h.get? a = some o := by
      by_cases hm : a ∈ hid.map (·.1)
      · obtain ⟨p, hp, rfl⟩ := List.mem_map.mp hm
        obtain ⟨o, ho⟩ := hs p hp
        exact ⟨o, (N _ ho).1⟩
      · exact ⟨o, F.keep a o (hideAll_get _ e hm)⟩
    obtain ⟨o, ho⟩ := key
    exact absurd (Heap.lt_size ho) (Nat.not_lt.mpr ha)
theorem fresh_hide {s : Heap} {hid : List (Addr × Obj)} {a : Addr} (e : (hideAll s (hid.map (·.1))).get? a = none) (hne : ∀ p ∈ hid, p.1 ≠ a) : s.get? a = none := by
  rcases hide_none e with h | h
  · obtain ⟨p, hp, rfl⟩ := List.mem_map.mp h
    exact absurd rfl (hne p hp)
  · exact h
/-- the entries of an own instance's dict that holds its rows' list -/
abbrev hdrE (w : World) (tok : Tok) (l : Addr) : List DictEntry := [{ hash := PyData.keyHash w.params (Str.ofString "_headers"), key := .str (Str.ofString "_headers") tok, val := .ref l }]
/-- a table: an own instance, its dict, its rows' list -/
structure TabAt (w : World) (C : Addr) (h : Heap) (x dx l : Addr) (tok : Tok) (refs : List Value) (n : Nat) : Prop where
  hx : h.get? x = some (instObj C dx)
  hd : h.get? dx = some (dictOf (hdrE w tok l) 1)
  hl : h.get? l = some (listOf refs.toArray n)
abbrev hidT (w : World) (C x dx l : Addr) (tok : Tok) (refs : List Value) (n : Nat) : List (Addr × Obj) := [(x, instObj C dx), (dx, dictOf (hdrE w tok l) 1), (l, listOf refs.toArray n)]
structure NmOk (x : Str) : Prop where
  safe : Safe x
  low : Safe (Txt.lower x)
  len : x.length ≤ 300
structure RowsOk (rows : List (Str × Str)) : Prop where
  safe : ∀ r ∈ rows, Safe r.1 ∧ Safe r.2 ∧ r.1.length ≤ 1000 ∧ r.2.length ≤ 1000
  size : rows.length ≤ 1000
section
variable {w : World} {C : Addr} {h B : Heap} {x dx l : Addr} {tok : Tok} {refs : List Value} {n : Nat} {rows : List (Str × Str)}
theorem TabAt.all (T : TabAt w C h x dx l tok refs n) : ∀ p ∈ hidT w C x dx l tok refs n, h.get? p.1 = some p.2 :=
  List.forall_mem_cons.mpr ⟨T.hx, List.forall_mem_cons.mpr ⟨T.hd, List.forall_mem_cons.mpr ⟨T.hl, List.forall_mem_nil _⟩⟩⟩
theorem TabAt.hid (T : TabAt w C h x dx l tok refs n) (nB : B.get? x = none ∧ B.get? dx = none ∧ B.get? l = none) : ∀ p ∈ hidT w C x dx l tok refs n, h.get? p.1 = some p.2 ∧ B.get? p.1 = none :=
  List.forall_mem_cons.mpr ⟨⟨T.hx, nB.1⟩, List.forall_mem_cons.mpr ⟨⟨T.hd, nB.2.1⟩, List.forall_mem_cons.mpr ⟨⟨T.hl, nB.2.2⟩, List.forall_mem_nil _⟩⟩⟩
theorem TabAt.rowsAt (T : TabAt w C h x dx l tok refs n) (R : RowsAt h refs rows) : RowsAt (hideAll h ((hidT w C x dx l tok refs n).map (·.1))) refs rows :=
  R.hide T.all (by intro p hp; simp at hp; rcases hp with rfl | rfl | rfl <;> simp)
theorem ne_at {a b : Addr} {o o' : Obj} (ha : h.get? a = some o) (hb : h.get? b = some o') (hne : o ≠ o') : @Ne Nat a b := fun e => hne (by
  have ha' : h.get? b = some o := e ▸ ha
  rw [hb] at ha'; exact (Option.some.inj ha').symm)
theorem TabAt.xd (T : TabAt w C h x dx l tok refs n) : @Ne Nat x dx := ne_at T.hx T.hd (by intro e; cases e)
theorem TabAt.xl (T : TabAt w C h x dx l tok refs n) : @Ne Nat x l := ne_at T.hx T.hl (by intro e; cases e)
theorem TabAt.dl (T : TabAt w C h x dx l tok refs n) : @Ne Nat dx l := ne_at T.hd T.hl (fun e => by have := congrArg Obj.cls e; simp at this)
end
theorem drop_at {α : Type} {l : List α} {i : Nat} {a : α} (h : l[i]? = some a) : l.drop i = a :: l.drop (i + 1) := by
  rw [List.drop_eq_getElem?_toList_append, h]; rfl
end Mine

end
section
-- Cnv02
local macro_rules | `(tactic| walk_at "no such key") => `(tactic| skip)
theorem Mine.fresh_Cnv02 : True := by
  w_top off
  trivial
open PySem PySem.W PyProof.Rows PySem.Calls PySem.Builtin.Str
set_option maxRecDepth 100000
set_option maxHeartbeats 1000000
set_option pp.deepTerms false
namespace Mine
local macro_rules | `(tactic| k_room) => `(tactic| ((try simp only [Around.deeper, recursionLimit] at *); omega))
local macro_rules | `(tactic| k_units) => `(tactic| ((try simp only [Around.deeper, Around.in1, cLine] at *); omega))


theorem pat1 {w : World} {h : Heap} (X : (Mine.hd02.heap_39 w.params).In h) : PatAt h 48 code1 :=
  ⟨_, _, 47, _, _, _, X _ _ rfl, rfl, rfl, rfl, rfl, rfl, rfl, X _ _ rfl, rfl, by kernel_rfl⟩
theorem pat2 {w : World} {h : Heap} (X : (Mine.hd02.heap_39 w.params).In h) : PatAt h 53 code2 :=
  ⟨_, _, 52, _, _, _, X _ _ rfl, rfl, rfl, rfl, rfl, rfl, rfl, X _ _ rfl, rfl, by kernel_rfl⟩
local macro_rules | `(tactic| walk_at "getMethod ref") => `(tactic| (k_here; k_dflt (refine' patMethK (code := _) ?k1 _ ?_; (case k1 => first | exact PatAt.keep (by with_reducible assumption) (Fr.keep (by with_reducible assumption))); k_whole)))
local macro_rules | `(tactic| walk_at "call builtin:re.Pattern.search") => `(tactic| (k_here; first
   | (refine' searchK (PatAt.keep (P := 48) (by with_reducible assumption) (Fr.keep (by with_reducible assumption))) noSafe1 rfl rfl rfl (by assumption) (by assumption) ?_)
   | (refine' searchK (PatAt.keep (P := 53) (by with_reducible assumption) (Fr.keep (by with_reducible assumption))) noSafe2 rfl rfl rfl (by assumption) (by assumption) ?_)))
theorem conv_spec {w : World} {s : Shared} {B : Heap} {loose mean mg mb} {self : Value} {x : Str} {t : Tok} {nm : Bool}
    (G : Gd (Mine.hd02.heap_39 w.params) loose mean mg mb B) (hB : B.StaysIn s.heap) (hx : Safe x) (hl : x.length ≤ 1000) :
    Does (model PySem.Challenge.rw_pg0310_02.row.prog w) 5 20 (call (.ref 83) [self, .str x t] [("name", .bool nm)]) s (fun v h' => v = .str x t ∧ s.heap.StaysIn h') := by
  intro d0 u0 fr gs hd hu
  revert G
  k_fill
  intro G
  refine' enter (binds := [("self", self), ("value", .str x t), ("name", .bool nm)]) G hB [] (List.forall_mem_nil _) ?k6 ?k7 ?k8 ?k9 ?kB ?_ ?c2 ?c3 ?c4 ?c5; (case k6 => k_is); (case k7 => k_is); (case k8 => k_room); (case k9 => exact BindsTo.of_eq rfl);  (case c5 => decide); (case kB => exact locs rfl); (case c2 => exact rfl); (case c3 => exact rfl); (case c4 => exact rfl)
  intro g' L' h' hg' F' N' hlow X' T'
  have st : s.heap.StaysIn g' := by rw [hg']; exact fun _ _ e => e
  clear hg'
  have p1 := pat1 X'
  have p2 := pat2 X'
  have hl2 : x.length ≤ 1000000 := by omega
  (try dsimp only)
  (try k_fold)
  k_steps
  all_goals (first | (k_unmd; k_unfold; try dsimp only) | (try dsimp only))
  all_goals (refine Done.mk ⟨rfl, fun b o e => Fr.keep (by with_reducible assumption) b o (st b o e)⟩)
end Mine

end
section
-- Ini02
theorem Mine.fresh_Ini02 : True := by
  w_top off
  trivial
open PySem PySem.W PyProof.Rows PySem.Calls PySem.Builtin.Str
set_option maxRecDepth 100000
set_option maxHeartbeats 1000000
set_option pp.deepTerms false
namespace Mine
local macro_rules | `(tactic| k_room) => `(tactic| ((try simp only [Around.deeper, recursionLimit] at *); omega))
local macro_rules | `(tactic| k_units) => `(tactic| ((try simp only [Around.deeper, Around.in1, cLine] at *); omega))
local macro_rules | `(tactic| k_all) => `(tactic| first | with_reducible assumption | exact allLt_ne (by with_reducible assumption) | exact Low.ne (by with_reducible assumption) (by omega) | (exact Low.ne (by assumption) (by omega)))

local macro_rules | `(tactic| walk_at "eval Name") => `(tactic| (k_here; k_dflt (refine' ld ?k1 ?k2 ?_; (case k1 => k_asm); (case k2 => first | exact rfl | assumption); k_whole)))
theorem init_spec {w : World} {s : Shared} {B : Heap} {loose mean mg mb} {x dx l : Addr} {refs : List Value} {rows : List (Str × Str)} {n : Nat}
    (G : Gd (Mine.hd02.heap_39 w.params) loose mean mg mb B) (hB : B.StaysIn s.heap)
    (hx : s.heap.get? x = some (instObj 182 dx) ∧ B.get? x = none) (hdx : s.heap.get? dx = some (dictOf [] 0) ∧ B.get? dx = none) (hl : s.heap.get? l = some (listOf refs.toArray n) ∧ B.get? l = none) (hxl : @Ne Nat x l) (hdl : @Ne Nat dx l) (hxd : @Ne Nat x dx)
    (hr : RowsAt s.heap refs rows) (hs : ∀ r ∈ rows, Safe r.1 ∧ Safe r.2 ∧ r.1.length ≤ 1000 ∧ r.2.length ≤ 1000) (hsz : rows.length ≤ 1000) :
    DoesC (model PySem.Challenge.rw_pg0310_02.row.prog w) 10 40 (.ref 76) ⟨[.ref x, .ref l], []⟩ s (fun v h' => v = .none ∧ ∃ tok, Keep [dx] s.heap h' ∧ h'.get? dx = some (dictOf (hdrE w tok l) 1)) := by
  intro d0 u0 fr gs hd hu
  revert G
  k_fill
  intro G
  refine' enter_code (binds := [("self", .ref x), ("headers", .ref l)]) G hB [(x, instObj 182 dx), (dx, dictOf [] 0), (l, listOf refs.toArray n)] ?kH ?k6 ?k7 ?k8 ?k9 ?kB ?_ ?c2 ?c3 ?c4 ?c5; (case k6 => k_is); (case k7 => k_is); (case k8 => k_room); (case k9 => exact binds_K (G.X.keeps hB) rfl (by k_is) rfl rfl rfl);  (case c5 => decide); (case kB => exact locs rfl); (case c2 => exact rfl); (case c3 => exact rfl); (case c4 => exact rfl)
  case kH => exact List.forall_mem_cons.mpr ⟨hx, List.forall_mem_cons.mpr ⟨hdx, List.forall_mem_cons.mpr ⟨hl, List.forall_mem_nil _⟩⟩⟩
  intro g' L' h' hg' F' N' hlow X' T'
  subst hg'
  have hidN : ∀ p ∈ [(x, instObj 182 dx), (dx, dictOf [] 0), (l, listOf refs.toArray n)], s.heap.get? p.1 = some p.2 := List.forall_mem_cons.mpr ⟨hx.1, List.forall_mem_cons.mpr ⟨hdx.1, List.forall_mem_cons.mpr ⟨hl.1, List.forall_mem_nil _⟩⟩⟩
  have hrg := hr.hide hidN (by intro p hp; simp at hp; rcases hp with rfl | rfl | rfl <;> simp)
  (try dsimp only)
  (try k_fold)
  k_steps
  rename Fr _ _ _ _ => F
  rename News _ _ _ _ => Nw
  refine for_tupF F ?_
  k_steps
  have z := Nw (l, listOf refs.toArray n) (by first | ((repeat (first | with_reducible exact List.mem_cons_self .. | with_reducible refine List.mem_cons_of_mem _ ?_)); done) | simp)
  refine iter_rows (vs := refs) (fun i m nx => nx = [(x, instObj 182 dx), (dx, dictOf (hdrE w _ l) 1), (l, listOf refs.toArray n)] ∧ m "self" = some (.ref x)) hr.refs rfl ⟨_, z.1, rfl, _, rfl⟩ z.2.1 F Nw ⟨rfl, rfl⟩ ?_ ?_
  · clear F Nw z
    rintro i v m₁ nx h tk I own hv ⟨rfl, m1⟩ hI hlI hown F Nw
    obtain ⟨r, hr1, T, nt, t1, t2, rfl, hT⟩ := RowsAt.at hrg hv
    obtain ⟨s1, s2, s3, s4⟩ := hs r (List.mem_of_getElem? hr1)
    refine assignRow F Nw rfl (F.keep _ _ hT) rfl rfl rfl ?_
    clear F Nw
    intro h' tk' F Nw
    (try k_fold)
    k_steps
    show wpAny _ _ (call (.ref 83) [.ref x, .str r.1 t1] [("name", .bool true)]) _ _ _
    refine Does.use (conv_spec ⟨X', T'⟩ F.keep s1 s3) rfl (by first | exact room1 hd (Nat.le_of_ble_eq_true rfl) | exact room3 hu (Nat.le_of_ble_eq_true rfl) | (simp only [Around.deeper]; omega)) (by first | exact room1 hd (Nat.le_of_ble_eq_true rfl) | exact room3 hu (Nat.le_of_ble_eq_true rfl) | (simp only [Around.deeper]; omega)) ?_
    rintro v h2 tk2 ⟨rfl, keep⟩
    have F2 := F.keeps keep
    have N2 := Nw.grown keep
    clear F Nw keep
    (try dsimp only)
    k_steps
    show wpAny _ _ (call (.ref 83) [.ref x, .str r.2 t2] [("name", .bool false)]) _ _ _
    refine Does.use (conv_spec ⟨X', T'⟩ F2.keep s2 s4) rfl (by first | exact room1 hd (Nat.le_of_ble_eq_true rfl) | exact room3 hu (Nat.le_of_ble_eq_true rfl) | (simp only [Around.deeper]; omega)) (by first | exact room1 hd (Nat.le_of_ble_eq_true rfl) | exact room3 hu (Nat.le_of_ble_eq_true rfl) | (simp only [Around.deeper]; omega)) ?_
    rintro v h3 tk3 ⟨rfl, keep⟩
    have F3 := F2.keeps keep
    have N3 := N2.grown keep
    clear F2 N2 keep
    (try dsimp only)
    k_steps
    exact OurTurn.next F3 N3 hI ⟨rfl, m1⟩
  · rintro m₁ nx h tk ⟨rfl, m1⟩ F Nw
    (try k_fold)
    k_steps
    (first | (k_unmd; k_unfold; try dsimp only) | (try dsimp only))
    exact Done.mk ⟨rfl, _, keep_but F Nw hidN (by intro p hp; simp at hp; rcases hp with rfl | rfl | rfl <;> simp), (Nw _ (List.mem_cons_of_mem _ (List.mem_cons_self ..))).1⟩
end Mine

end
section
-- Tups
theorem Mine.fresh_Tups : True := by
  w_top off
  trivial
open PySem PySem.W PyProof.Rows PySem.Calls PySem.Builtin PySem.Builtin.Str
set_option maxRecDepth 100000
namespace Mine
/-- rows as a ledger holds them -/
def refsOf (tups : List (Addr × Obj)) : List Value := tups.map fun p => .ref p.1
def TupIs (p : Addr × Obj) (r : Str × Str) : Prop := ∃ n t1 t2, p.2 = tupObj (.str r.1 t1) (.str r.2 t2) n
inductive TupsAre : List (Addr × Obj) → List (Str × Str) → Prop
  | nil : TupsAre [] []
  | cons {p r ps rs} (h : TupIs p r) (t : TupsAre ps rs) : TupsAre (p :: ps) (r :: rs)
theorem TupsAre.length {ps : List (Addr × Obj)} {rs : List (Str × Str)} (T : TupsAre ps rs) : ps.length = rs.length := by
  induction T with
  | nil => rfl
  | cons _ _ ih => simp [ih]
theorem refsOf_length (ps : List (Addr × Obj)) : (refsOf ps).length = ps.length := by simp [refsOf]
theorem refsOf_snoc (ps : List (Addr × Obj)) (p : Addr × Obj) : refsOf (ps ++ [p]) = refsOf ps ++ [.ref p.1] := by simp [refsOf]
theorem TupsAre.snoc {ps : List (Addr × Obj)} {rs : List (Str × Str)} {p : Addr × Obj} {r : Str × Str} (T : TupsAre ps rs) (h : TupIs p r) : TupsAre (ps ++ [p]) (rs ++ [r]) := by
  induction T with
  | nil => exact .cons h .nil
  | cons a _ ih => exact .cons a ih
theorem TupsAre.at {ps : List (Addr × Obj)} {rs : List (Str × Str)} (T : TupsAre ps rs) : ∀ (i : Nat) p, ps[i]? = some p → ∃ r, rs[i]? = some r ∧ TupIs p r := by
  induction T with
  | nil => intro i p h; simp at h
  | cons a _ ih =>
    intro i p h
    cases i with
    | zero => simp at h; subst h; exact ⟨_, rfl, a⟩
    | succ i => simpa using ih i p (by simpa using h)
theorem TupsAre.rowsAt {ps : List (Addr × Obj)} {rs : List (Str × Str)} {h : Heap} (T : TupsAre ps rs) (hk : ∀ p ∈ ps, h.get? p.1 = some p.2) : RowsAt h (refsOf ps) rs := by
  refine ⟨by rw [refsOf_length, T.length], fun i x r a b => ?_⟩
  unfold refsOf at a
  rw [List.getElem?_map] at a
  cases hp : ps[i]? with
  | none => rw [hp] at a; cases a
  | some p =>
    rw [hp] at a
    obtain ⟨r', hr, n, t1, t2, e⟩ := T.at i p hp
    rw [hr] at b
    cases b
    exact ⟨p.1, n, t1, t2, (Option.some.inj a).symm, by rw [hk p (List.mem_of_getElem? hp), e]⟩
theorem TupsAre.seq {ps : List (Addr × Obj)} {rs : List (Str × Str)} (T : TupsAre ps rs) : ∀ p ∈ ps, NotFld p.2 := fun p hp => by
  obtain ⟨i, hi⟩ := List.getElem?_of_mem hp
  obtain ⟨r, _, n, t1, t2, e⟩ := T.at i p hi
  rw [e]; exact fun _ z => by cases z

/-- what a method leaves that changes a table's rows -/
structure TabMut (w : World) (C x dx l : Addr) (tok : Tok) (tups : List (Addr × Obj)) (rows' : List (Str × Str)) (s h' : Heap) : Prop where
  ex : ∃ tups' n', TabAt w C h' x dx l tok (refsOf tups') n' ∧ TupsAre tups' rows' ∧ ∀ p ∈ tups', h'.get? p.1 = some p.2 ∧ (p ∈ tups ∨ s.get? p.1 = none)
  keep : Keep [l] s h'
/-- of a table within a call: its rows and itself, at a later heap of that call -/
theorem tups_keep {s h : Heap} {L : Addr} {m : Str → Option Value} {hid tups : List (Addr × Obj)} (F : Fr (hideAll s (hid.map (·.1))) L h m) (hN : ∀ p ∈ hid, s.get? p.1 = some p.2) (hc : ∀ p ∈ hid, p.2.cls ≠ .type "tuple") {rs : List (Str × Str)} (T : TupsAre tups rs)
    (hk : ∀ p ∈ tups, s.get? p.1 = some p.2) : ∀ p ∈ tups, h.get? p.1 = some p.2 := fun p hp => by
  refine F.keep _ _ (hideAll_get _ (hk p hp) fun hm => ?_)
  obtain ⟨q, hq, e⟩ := List.mem_map.mp hm
  have h1 := hN q hq
  rw [e, hk p hp] at h1
  obtain ⟨i, hi⟩ := List.getElem?_of_mem hp
  obtain ⟨r, _, n, t1, t2, e2⟩ := T.at i p hi
  refine hc q hq ?_
  rw [← Option.some.inj h1, e2]
section
variable {w : World} {C x dx l L : Addr} {g h : Heap} {tok : Tok} {refs : List Value} {n : Nat} {rest : List (Addr × Obj)}
theorem TabAt.news (N : News g L h ((x, instObj C dx) :: (dx, dictOf (hdrE w tok l) 1) :: (l, listOf refs.toArray n) :: rest)) : TabAt w C h x dx l tok refs n :=
  ⟨(N _ (List.mem_cons_self ..)).1, (N _ (List.mem_cons_of_mem _ (List.mem_cons_self ..))).1, (N _ (List.mem_cons_of_mem _ (List.mem_cons_of_mem _ (List.mem_cons_self ..)))).1⟩
theorem TabAt.none (N : News g L h ((x, instObj C dx) :: (dx, dictOf (hdrE w tok l) 1) :: (l, listOf refs.toArray n) :: rest)) : g.get? x = Option.none ∧ g.get? dx = Option.none ∧ g.get? l = Option.none :=
  ⟨(N _ (List.mem_cons_self ..)).2.2, (N _ (List.mem_cons_of_mem _ (List.mem_cons_self ..))).2.2, (N _ (List.mem_cons_of_mem _ (List.mem_cons_of_mem _ (List.mem_cons_self ..)))).2.2⟩
theorem hidT_cls : ∀ p ∈ hidT w C x dx l tok refs n, p.2.cls ≠ .type "tuple" := by intro p hp; simp at hp; rcases hp with rfl | rfl | rfl <;> simp
end
theorem fresh_tup {s h : Heap} {L D : Addr} {hid news : List (Addr × Obj)} {o : Obj} (N : News (hideAll s (hid.map (·.1))) L h news) (hm : (D, o) ∈ news) (ho : o.cls = .type "tuple") (hs : ∀ p ∈ hid, ∃ o', (p.1, o') ∈ news ∧ o'.cls ≠ .type "tuple") : s.get? D = none :=
  fresh_hide (N _ hm).2.2 fun p hp => by
    obtain ⟨o', h1, h2⟩ := hs p hp
    exact ne_at (N _ h1).1 (N _ hm).1 fun e => h2 ((congrArg Obj.cls e).trans ho)
theorem TabAt.ne_tup {w : World} {C x dx l D : Addr} {h : Heap} {tok : Tok} {refs refs0 : List Value} {n n0 : Nat} {o : Obj} (T : TabAt w C h x dx l tok refs n) (hD : h.get? D = some o) (ho : o.cls = .type "tuple") : ∀ p ∈ hidT w C x dx l tok refs0 n0, p.1 ≠ D := by
  intro p hp
  simp at hp
  rcases hp with rfl | rfl | rfl
  · exact ne_at T.hx hD fun e => by rw [← e] at ho; cases ho
  · exact ne_at T.hd hD fun e => by rw [← e] at ho; simp at ho
  · exact ne_at T.hl hD fun e => by rw [← e] at ho; simp at ho
theorem TabMut.push {w : World} {C x dx l D : Addr} {s h : Heap} {tok : Tok} {tups tups0 : List (Addr × Obj)} {rows : List (Str × Str)} {n k : Nat} {a b : Str} {ta tb : Tok} (T : TabAt w C h x dx l tok (refsOf tups ++ [.ref D]) n) (hT : TupsAre tups rows)
    (htk : ∀ p ∈ tups, h.get? p.1 = some p.2 ∧ (p ∈ tups0 ∨ s.get? p.1 = none)) (hD1 : h.get? D = some (tupObj (.str a ta) (.str b tb) k)) (hD : s.get? D = none) (keep : Keep [l] s h) : TabMut w C x dx l tok tups0 (rows ++ [(a, b)]) s h := by
  refine ⟨⟨tups ++ [(D, _)], n, by rw [refsOf_snoc]; exact T, hT.snoc ⟨k, ta, tb, rfl⟩, fun p hp => ?_⟩, keep⟩
  rcases List.mem_append.mp hp with hp | hp
  · exact htk p hp
  · rw [List.mem_singleton.mp hp]
    exact ⟨hD1, .inr hD⟩
section
variable {prog : Program} {w : World} {A : Around} {s : Shared} {h₀ : Heap} {L : Addr} {m : Str → Option Value} {env : Env}
theorem compEnd_mono {I C D : Addr} {oI oC oD : Obj} {S : List (Addr × Obj) → Prop} {r r' : Value → List (Addr × Obj) → Prop} {s₁ s₂ : Shared} {y : Value} (h : LCg.CompEnd h₀ L m s₁ I oI C oC D oD S r y s₂) (hr : ∀ n, r y n → r' y n) : LCg.CompEnd h₀ L m s₁ I oI C oC D oD S r' y s₂ := by
  obtain ⟨h', tk, n', e, F, N, o, hS, hy⟩ := h
  exact ⟨h', tk, n', e, F, N, o, hS, hr _ hy⟩
/-- a block with a test, over as many values as there are -/
theorem compT_ind {ct elt : Expr} {x : Str} {scope : Scope} {cl : List (Str × Addr)} {S : List (Addr × Obj) → Prop} {P : Nat → Value → Prop} {Fin : List Value → List (Addr × Obj) → Prop} (J : Nat → List Value → List (Addr × Obj) → Prop) {n : Nat}
    (step : ∀ i ys news, J i ys news → i < n → ∀ v I oI C oC D m₂ h tk (E' : Value → Shared → Prop), P i v → LCg.NsObj oC m₂ → m₂ x = some v → Fr h₀ L h m → News h₀ L h ((I, oI) :: (C, oC) :: (D, LCg.lst ys) :: news) → LCg.Off3 I C D news → ((@Ne Nat I C) ∧ (@Ne Nat I D) ∧ (@Ne Nat C D)) →
      wpAny (model prog w) A (isTrue ct (compEnvC scope cl C env) (eval ct (compEnvC scope cl C env))) (fun ok s' => if ok = true then
        wpAny (model prog w) A (eval elt (compEnvC scope cl C env)) (LCg.CompEnd h₀ L m { s with heap := h, toks := tk } I oI C oC D (LCg.lst ys) S (fun y news' => J (i + 1) (ys ++ [y]) news')) E' s'
        else LCg.CompEnd h₀ L m { s with heap := h, toks := tk } I oI C oC D (LCg.lst ys) S (fun _ news' => J (i + 1) ys news') Value.none s') E' { s with heap := h, toks := tk })
    (fin : ∀ ys news, J n ys news → Fin ys news) : ∀ k i ys news, i + k = n → J i ys news → LCt.CompRestT prog w A h₀ L m env ct elt x scope cl s S P Fin k i ys news
  | 0, i, ys, news, e, hJ => fin ys news (by rw [← e]; exact hJ)
  | k + 1, i, ys, news, e, hJ => by
    refine LCt.CompRestT.succ fun v I oI C oC D m₂ h tk E' hv a b c d e1 f => wpAny_mono (step i ys news hJ (by omega) v I oI C oC D m₂ h tk E' hv a b c d e1 f) (fun ok s' q => ?_) fun _ _ z => z
    cases ok with
    | true =>
      simp only [if_true] at q ⊢
      exact wpAny_mono q (fun y s₂ z => compEnd_mono z fun n' hn => compT_ind J step fin k (i + 1) _ _ (by omega) hn) fun _ _ z => z
    | false =>
      simp only [Bool.false_eq_true, if_false] at q ⊢
      exact compEnd_mono q fun n' hn => compT_ind J step fin k (i + 1) _ _ (by omega) hn
theorem compU_ind {elt : Expr} {x : Str} {scope : Scope} {cl : List (Str × Addr)} {S : List (Addr × Obj) → Prop} {P : Nat → Value → Prop} {Fin : List Value → List (Addr × Obj) → Prop} (J : Nat → List Value → List (Addr × Obj) → Prop) {n : Nat}
    (step : ∀ i ys news, J i ys news → i < n → ∀ v I oI C oC D m₂ h tk (E' : Value → Shared → Prop), P i v → LCg.NsObj oC m₂ → m₂ x = some v → Fr h₀ L h m → News h₀ L h ((I, oI) :: (C, oC) :: (D, LCg.lst ys) :: news) → LCg.Off3 I C D news → ((@Ne Nat I C) ∧ (@Ne Nat I D) ∧ (@Ne Nat C D)) →
      wpAny (model prog w) A (eval elt (compEnvC scope cl C env)) (LCg.CompEnd h₀ L m { s with heap := h, toks := tk } I oI C oC D (LCg.lst ys) S (fun y news' => J (i + 1) (ys ++ [y]) news')) E' { s with heap := h, toks := tk })
    (fin : ∀ ys news, J n ys news → Fin ys news) : ∀ k i ys news, i + k = n → J i ys news → LCg.CompRest prog w A h₀ L m env elt x scope cl s S P Fin k i ys news
  | 0, i, ys, news, e, hJ => fin ys news (by rw [← e]; exact hJ)
  | k + 1, i, ys, news, e, hJ => by
    refine LCg.CompRest.succ fun v I oI C oC D m₂ h tk E' hv a b c d e1 f => wpAny_mono (step i ys news hJ (by omega) v I oI C oC D m₂ h tk E' hv a b c d e1 f) (fun y s' q => ?_) fun _ _ z => z
    exact compEnd_mono q fun n' hn => compU_ind J step fin k (i + 1) _ _ (by omega) hn
end
theorem tups_hide {s : Heap} {hid tups : List (Addr × Obj)} (hN : ∀ p ∈ hid, s.get? p.1 = some p.2) (hc : ∀ p ∈ hid, p.2.cls ≠ .type "tuple") {rs : List (Str × Str)} (T : TupsAre tups rs)
    (hk : ∀ p ∈ tups, s.get? p.1 = some p.2) : ∀ p ∈ tups, (hideAll s (hid.map (·.1))).get? p.1 = some p.2 := fun p hp => by
  refine hideAll_get _ (hk p hp) fun hm => ?_
  obtain ⟨q, hq, e⟩ := List.mem_map.mp hm
  have h1 := hN q hq
  rw [e, hk p hp] at h1
  obtain ⟨i, hi⟩ := List.getElem?_of_mem hp
  obtain ⟨r, _, n, t1, t2, e2⟩ := T.at i p hi
  refine hc q hq ?_
  rw [← Option.some.inj h1, e2]
theorem refsOf_at {tups : List (Addr × Obj)} {i : Nat} {v : Value} (h : (refsOf tups).toArray[i]? = some v) : ∃ p, tups[i]? = some p ∧ v = .ref p.1 := by
  unfold refsOf at h
  rw [List.getElem?_toArray, List.getElem?_map] at h
  cases hp : tups[i]? with
  | none => rw [hp] at h; cases h
  | some p => rw [hp] at h; exact ⟨p, rfl, (Option.some.inj h).symm⟩
theorem take_at {α : Type} {l : List α} {i : Nat} {a : α} (h : l[i]? = some a) : l.take (i + 1) = l.take i ++ [a] := by
  rw [List.take_add_one, h]; rfl
theorem delItemOwn {M : Model} {A : Around} {E : Value → Shared → Prop} {s : Shared} {K : Frag} {x C L f : Addr} {h₀ : Heap} {m : Str → Option Value} {ox : Obj} {od : Option Obj} {i : Value} {Q : Unit → Shared → Prop} (F : Fr h₀ L s.heap m) (X₀ : K.In h₀) (I : InstAt s.heap x ox C od) (hq : noSeq K C = true) (hs : findIn K (.ref C) "__delitem__" = some (some (.ref f))) (hf : isFn K (.ref f) = true)
    (h : wpAny M A (call (.ref f) [.ref x, i]) (fun _ s' => Q () s') E s) : wpAny M A (delItem (.ref x) i) Q E s := by
  have X := X₀.keeps F.keep
  unfold delItem sequenceKey
  refine wpAny_holding (wpAny_bind (wpAny_bind (I.type.here ?_)))
  refine wpAny_bind ((anyM_none X hq).here ?_)
  rw [if_pos (show (!false) = true from rfl)]
  exact wpAny_pure (wpAny_bind (special_fn X I hs (beq_iff_eq.mp hf) (wpAny_mono h (fun _ _ z => wpAny_pure z) fun _ _ z => z)))
section
variable {w : World} {C x dx l L : Addr} {g h h' : Heap} {tok : Tok} {refs refs' : List Value} {n n' : Nat} {rest tups : List (Addr × Obj)} {m : Str → Option Value} {rows' : List (Str × Str)}
theorem tab_back (F : Fr g L h m) (N : News g L h ((x, instObj C dx) :: (dx, dictOf (hdrE w tok l) 1) :: (l, listOf refs.toArray n) :: rest)) (keep : Keep [l] h h') (T2 : TabAt w C h' x dx l tok refs' n') (hr : ∀ p ∈ rest, p.1 ≠ l) :
    Fr g L h' m ∧ News g L h' ((x, instObj C dx) :: (dx, dictOf (hdrE w tok l) 1) :: (l, listOf refs'.toArray n') :: rest) := by
  have zx := N _ (List.mem_cons_self ..)
  have zd := N _ (List.mem_cons_of_mem _ (List.mem_cons_self ..))
  have zl := N _ (List.mem_cons_of_mem _ (List.mem_cons_of_mem _ (List.mem_cons_self ..)))
  obtain ⟨oL, es, ep, hL, r⟩ := F.ns
  refine ⟨⟨⟨oL, es, ep, keep _ _ (by simpa using zl.2.1.symm) hL, r⟩, fun b o e => keep b o (by simp; rintro rfl; rw [zl.2.2] at e; cases e) (F.keep b o e), F.above⟩, List.forall_mem_cons.mpr ⟨⟨T2.hx, zx.2⟩, List.forall_mem_cons.mpr ⟨⟨T2.hd, zd.2⟩, List.forall_mem_cons.mpr ⟨⟨T2.hl, zl.2⟩, fun p hp => ?_⟩⟩⟩⟩
  have z := N p (List.mem_cons_of_mem _ (List.mem_cons_of_mem _ (List.mem_cons_of_mem _ hp)))
  exact ⟨keep _ _ (by simpa using hr p hp) z.1, z.2⟩
/-- the frame and the ledger behind a method that changes a table -/
theorem TabMut.back (M : TabMut w C x dx l tok tups rows' h h') (F : Fr g L h m) (N : News g L h ((x, instObj C dx) :: (dx, dictOf (hdrE w tok l) 1) :: (l, listOf refs.toArray n) :: (tups ++ rest))) (hr : ∀ p ∈ rest, p.1 ≠ l) :
    ∃ tups' n', TupsAre tups' rows' ∧ Fr g L h' m ∧ News g L h' ((x, instObj C dx) :: (dx, dictOf (hdrE w tok l) 1) :: (l, listOf (refsOf tups').toArray n') :: (tups' ++ rest)) := by
  obtain ⟨⟨tups', n', T2, hT, ht⟩, keep⟩ := M
  obtain ⟨F2, N2⟩ := tab_back F (fun p hp => N p (by
    simp only [List.mem_cons, List.mem_append] at hp ⊢
    rcases hp with h | h | h | h
    · exact .inl h
    · exact .inr (.inl h)
    · exact .inr (.inr (.inl h))
    · exact .inr (.inr (.inr (.inr h))))) keep T2 hr
  refine ⟨tups', n', hT, F2, fun p hp => ?_⟩
  simp only [List.mem_cons, List.mem_append] at hp
  rcases hp with h1 | h1 | h1 | h1 | h1
  · exact N2 p (by simp [h1])
  · exact N2 p (by simp [h1])
  · exact N2 p (by simp [h1])
  · obtain ⟨a, b⟩ := ht p h1
    refine ⟨a, ?_⟩
    rcases b with b | b
    · exact (N p (by simp [b])).2
    · refine ⟨fun e => ?_, ?_⟩
      · obtain ⟨oL, es, ep, hL, r⟩ := F.ns
        rw [e, hL] at b; cases b
      · cases q : g.get? p.1 with
        | none => rfl
        | some o => rw [F.keep _ _ q] at b; cases b
  · exact N2 p (by simp [h1])
end
end Mine

end
section
-- Gal02
theorem Mine.fresh_Gal02 : True := by
  w_top off
  trivial
open PySem PySem.W PyProof.Rows PySem.Calls PySem.Builtin.Str
set_option maxRecDepth 100000
set_option maxHeartbeats 1000000
set_option pp.deepTerms false
namespace Mine
local macro_rules | `(tactic| k_room) => `(tactic| ((try simp only [Around.deeper, recursionLimit] at *); omega))
local macro_rules | `(tactic| k_units) => `(tactic| ((try simp only [Around.deeper, Around.in1, cLine] at *); omega))
local macro_rules | `(tactic| k_all) => `(tactic| first | with_reducible assumption | exact allLt_ne (by with_reducible assumption) | exact Low.ne (by with_reducible assumption) (by omega) | (exact Low.ne (by assumption) (by omega)))

local macro_rules | `(tactic| walk_at "eval ListComp") => `(tactic| (k_here; k_dflt (refine LCt.ListComp_T (F₀ := by k_asm) (by with_unfolding_all rfl) (by decide) (by rfl) (by decide) (by rfl) ?_)))
local macro_rules | `(tactic| walk_at "subscriptTail") => `(tactic| (k_here; (with_reducible show wpAny _ _ (subscriptTail _ _ (Value.ref _) (Value.int _ _)) _ _ _); k_dflt (refine' item_tupleT ?t ?a ?b ?c ?d ?_; (case t => exact ⟨_, Fr.keep (by k_asm) _ _ (by with_reducible assumption), rfl, _, rfl⟩); (case a => decide); (case b => decide); (case c => rfl); (case d => rfl); k_whole)))
/-- all of a name -/
def allR (nm : Str) (rows : List (Str × Str)) : List Str := (rows.filter fun r => Txt.lower r.1 == Txt.lower nm).map (·.2)
theorem all_spec {w : World} {s : Shared} {B : Heap} {loose mean mg mb} {x dx l : Addr} {tok : Tok} {refs : List Value} {rows : List (Str × Str)} {n : Nat} {nm : Str} {tn : Tok}
    (G : Gd (Mine.hd02.heap_39 w.params) loose mean mg mb B) (hB : B.StaysIn s.heap)
    (T : TabAt w 182 s.heap x dx l tok refs n) (nB : B.get? x = none ∧ B.get? dx = none ∧ B.get? l = none) (hr : RowsAt s.heap refs rows) (ok : RowsOk rows) (hn : NmOk nm) :
    Does (model PySem.Challenge.rw_pg0310_02.row.prog w) 20 60 (call (.ref 121) [.ref x, .str nm tn]) s (fun v h' => Keep [] s.heap h' ∧ ∃ D k ps, v = .ref D ∧ h'.get? D = some (listOf (strValues ps).toArray k) ∧ s.heap.get? D = none ∧ ps.map (·.1) = allR nm rows) := by
  intro d0 u0 fr gs hd hu
  revert G
  k_fill
  intro G
  refine' enterC (binds := [("self", .ref x), ("name", .str nm tn)]) G hB (hidT w 182 x dx l tok refs n) (T.hid nB) ?k6 ?k7 ?k8 ?k9 ?kB ?kD ?_ ?c2 ?c3 ?c4; (case k6 => k_is); (case k7 => k_is); (case k8 => k_room); (case k9 => exact BindsTo.of_eq rfl);  (case kB => exact rfl); (case kD => decide +kernel); (case c2 => exact rfl); (case c3 => exact rfl); (case c4 => exact rfl)
  intro g' L' h' tk' cells' hg' F' N' Y' hlow X' T'
  k_cells Y'
  have hrsz := ok.size
  have hsz : refs.length ≤ 1000 := by rw [hr.1]; exact hrsz
  have hn1 := hn.len
  have e1 := T.xl
  have e2 := T.dl
  have e3 := T.xd
  have hrg := T.rowsAt hr
  subst hg'
  unfold hidT at F' N' hrg
  (try simp only [List.cons_append, List.nil_append] at N')
  (try dsimp only)
  (try k_fold)
  k_steps
  rename Fr _ _ _ _ => F
  rename News _ _ _ _ => Nw
  show wpAny _ _ (call (.ref 83) [.ref x, .str (Txt.lower nm) _] [("name", .bool true)]) _ _ _
  refine Does.use (conv_spec ⟨X', T'⟩ (by exact F.keep) hn.low (by first | with_reducible assumption | with_reducible exact lt_num (by with_reducible assumption) (Nat.le_of_ble_eq_true rfl) | with_reducible exact le_num (by with_reducible assumption) (Nat.le_of_ble_eq_true rfl) | with_reducible exact le_le (by with_reducible assumption) (Nat.le_of_ble_eq_true rfl) | omega)) rfl (by first | exact room1 hd (Nat.le_of_ble_eq_true rfl) | exact room3 hu (Nat.le_of_ble_eq_true rfl) | (simp only [Around.deeper]; omega)) (by first | exact room1 hd (Nat.le_of_ble_eq_true rfl) | exact room3 hu (Nat.le_of_ble_eq_true rfl) | (simp only [Around.deeper]; omega)) ?_
  rintro v h2 tk2 ⟨rfl, keep⟩
  have F2 := F.keeps keep
  have N2 := Nw.grown keep
  clear F Nw keep
  (try dsimp only)
  k_steps
  (try clear F2 N2)
  rename Fr _ _ _ _ => F
  rename News _ _ _ _ => Nw
  refine LCt.CompSrcT.ledger (its := refs.toArray) (k := n) rfl F Nw (by first | ((repeat (first | with_reducible exact List.mem_cons_self .. | with_reducible refine List.mem_cons_of_mem _ ?_)); done) | simp) (by rw [List.size_toArray, sizeLine_eq]; omega) (fun g => ?_)
  refine compT_ind (fun i ys nx => nx = _ ∧ ∃ ps, ys = strValues ps ∧ ps.map (·.1) = allR nm (rows.take i)) ?_ ?_ _ 0 [] _ (Nat.zero_add _) ⟨rfl, [], rfl, rfl⟩
  · clear F Nw
    rintro i ys nx ⟨rfl, ps, rfl, hps⟩ hi v I oI C oC D m₂ h tk E' hv hC hx F Nw off ne3
    obtain ⟨r, hr1, Tp, nt, t1, t2, rfl, hpg⟩ := RowsAt.at hrg (by simpa using hv)
    obtain ⟨s1, s2, s3, s4⟩ := ok.safe r (List.mem_of_getElem? hr1)
    (try dsimp only)
    k_steps
    · rename (_ == _) = true => hq
      refine LCg.CompEnd.intro F Nw _ (fun p hp => hp) off (.inr ⟨listOf refs.toArray n, by simp, rfl, _, rfl⟩) ⟨rfl, ps ++ [(r.2, t2)], by simp [strValues], ?_⟩
      rw [take_at hr1, allR, List.filter_append, List.filter_cons_of_pos (by exact hq), List.filter_nil, List.map_append, List.map_append, hps]
      rfl
    · rename (_ == _) = false => hq
      refine LCg.CompEnd.intro F Nw _ (fun p hp => hp) off (.inr ⟨listOf refs.toArray n, by simp, rfl, _, rfl⟩) ⟨rfl, ps, rfl, ?_⟩
      rw [take_at hr1, allR, List.filter_append, List.filter_cons_of_neg (by rw [hq]; decide), List.filter_nil, List.append_nil]
      exact hps
  · clear F Nw
    rintro ys nx ⟨rfl, ps, rfl, hps⟩
    rw [List.take_of_length_le (by rw [List.size_toArray, hr.1]; exact Nat.le_refl _)] at hps
    intro D h tk F Nw o1
    (try dsimp only)
    k_steps
    (first | (k_unmd; k_unfold; try dsimp only) | (try dsimp only))
    have zl := Nw (l, listOf refs.toArray n) (by first | ((repeat (first | with_reducible exact List.mem_cons_self .. | with_reducible refine List.mem_cons_of_mem _ ?_)); done) | simp)
    have zD := Nw (D, LCg.lst (strValues ps)) (by first | ((repeat (first | with_reducible exact List.mem_cons_self .. | with_reducible refine List.mem_cons_of_mem _ ?_)); done) | simp)
    have zx := Nw (x, instObj 182 dx) (by first | ((repeat (first | with_reducible exact List.mem_cons_self .. | with_reducible refine List.mem_cons_of_mem _ ?_)); done) | simp)
    have zd := Nw (dx, dictOf (hdrE w tok l) 1) (by first | ((repeat (first | with_reducible exact List.mem_cons_self .. | with_reducible refine List.mem_cons_of_mem _ ?_)); done) | simp)
    simp only [LCg.Off1] at o1
    refine Done.mk ⟨keep_but (hid := hidT w 182 x dx l tok refs n) F Nw T.all (fun p hp => .inr (List.mem_cons_of_mem _ (List.mem_cons_of_mem _ hp))), D, _, ps, rfl, zD.1, ?_, hps⟩
    exact fresh_hide (hid := hidT w 182 x dx l tok refs n) zD.2.2 (by
      intro p hp; simp at hp
      rcases hp with rfl | rfl | rfl
      · exact o1.2.1
      · exact o1.2.2.1
      · exact o1.2.2.2.1)
end Mine

end
section
-- Whl
theorem Mine.fresh_Whl : True := by
  w_top off
  trivial
open PySem PySem.W PyProof.Rows PySem.Calls PySem.Builtin
set_option maxRecDepth 100000
namespace Mine
section
variable {prog : Program} {w : World} {A : Around} {E : Value → Shared → Prop} {s : Shared} {env : Env} {h₀ : Heap} {Q : Flow → Shared → Prop} {L : Addr}
/-- what a turn of a while leaves -/
def WTurn (h₀ : Heap) (L : Addr) (J : Nat → (Str → Option Value) → List (Addr × Obj) → Prop) (k : Nat) (s : Shared) (Q : Flow → Shared → Prop) (f : Flow) (s₂ : Shared) : Prop :=
  match f with
  | .ret v => Q (.ret v) s₂
  | .brk => Q .next s₂
  | _ => ∃ k' h' tk m' nx, k' < k ∧ s₂ = { s with heap := h', toks := tk } ∧ Fr h₀ L h' m' ∧ News h₀ L h' nx ∧ J k' m' nx
theorem WTurn.next {J : Nat → (Str → Option Value) → List (Addr × Obj) → Prop} {k k' : Nat} {nx : List (Addr × Obj)} {h' : Heap} {tk : Nat} {m' : Str → Option Value} (hk : k' < k) (F : Fr h₀ L h' m') (N : News h₀ L h' nx) (hj : J k' m' nx) : WTurn h₀ L J k s Q .next { s with heap := h', toks := tk } := ⟨k', h', tk, m', nx, hk, rfl, F, N, hj⟩
/-- a while -/
theorem while_any {test : Expr} {body : List Stmt} {pos : Pos} {m : Str → Option Value} {news : List (Addr × Obj)} (J : Nat → (Str → Option Value) → List (Addr × Obj) → Prop) (n : Nat) (F : Fr h₀ L s.heap m) (N : News h₀ L s.heap news) (hj : J n m news)
    (turn : ∀ k m₁ news₁ h tk, J k m₁ news₁ → Fr h₀ L h m₁ → News h₀ L h news₁ → wpAny (model prog w) A (isTrue test env (eval test env)) (fun b s₂ => if b = true then wpAny (model prog w) A (execs body env) (WTurn h₀ L J k s Q) E s₂ else Q .next s₂) E { s with heap := h, toks := tk })
    (hE : PassesOwn (model prog w) A env E := by passes_own) :
    wpAny (model prog w) A (exec (.While test body [] pos) env) Q E s := by
  refine wpAny_While ?_
  refine codeAny_whileLoop (fun k s' => ∃ h' tk m' nx, s' = { s with heap := h', toks := tk } ∧ Fr h₀ L h' m' ∧ News h₀ L h' nx ∧ J k m' nx) ?_ n ⟨s.heap, s.toks, m, news, rfl, F, N, hj⟩
  rintro k s' ⟨h', tk, m', nx, rfl, F', N', hJ⟩
  have T := turn k m' nx h' tk hJ F' N'
  refine wpAny_mono (wpAny_passesOwn hE T) (fun b s₂ T₂ => ?_) fun _ _ e => e
  cases b with
  | false =>
    simp only [Bool.false_eq_true, if_false] at T₂ ⊢
    exact wpAny_execs_nil T₂
  | true =>
    simp only [if_true] at T₂ ⊢
    refine wpAny_mono (wpAny_passesOwn hE T₂) (fun f s₃ T₃ => ?_) fun _ _ e => e
    cases f with
    | ret v => exact T₃
    | brk => exact T₃
    | next =>
      obtain ⟨k', h', tk, m', nx, hk, e, r⟩ := T₃
      exact ⟨k', hk, h', tk, m', nx, e, r⟩
    | cont =>
      obtain ⟨k', h', tk, m', nx, hk, e, r⟩ := T₃
      exact ⟨k', hk, h', tk, m', nx, e, r⟩

/-- what a for over any target wants of its iterator: a walk of values, an invariant over the frame's map and the ledger -/
def LoopOwn (prog : Program) (w : World) (A : Around) (h₀ : Heap) (env : Env) (target : Expr) (body : List Stmt) (Q : Flow → Shared → Prop) (E : Value → Shared → Prop) (it : Value) (s₂ : Shared) : Prop :=
  ∃ (I : Addr) (fp : List Addr) (n : Nat) (P : Nat → Value → Prop) (St : Nat → Heap → Prop) (m : Str → Option Value) (news : List (Addr × Obj)) (J : Nat → (Str → Option Value) → List (Addr × Obj) → Prop),
    it = .ref I ∧ (∀ v, letOwnedTupleGo target it v = pure ()) ∧ Walks prog w A I fp [I] n P St ∧ env.locals ∉ fp ∧ h₀.get? I = none ∧ (∀ p ∈ news, p.1 ≠ I) ∧ St 0 s₂.heap ∧ Fr h₀ env.locals s₂.heap m ∧ News h₀ env.locals s₂.heap news ∧ J 0 m news ∧
    (∀ i v m₁ news₁ h tk own, i < n → P i v → J i m₁ news₁ → (∀ p ∈ news₁, p.1 ≠ I) → (∀ p ∈ own, p.1 ∈ fp) → own = ownOf h₀ fp h → St (i + 1) h → Fr h₀ env.locals h m₁ → News h₀ env.locals h (news₁ ++ own) →
      wpAny (model prog w) A (assign target env v) (fun _ s₄ => wpAny (model prog w) A (execs body env) (OurTurn h₀ env.locals I own (J (i + 1)) s₂ Q) E s₄) E { s₂ with heap := h, toks := tk }) ∧
    (∀ m₁ news₁ h tk, J n m₁ news₁ → Fr h₀ env.locals h m₁ → News h₀ env.locals h news₁ → Q .next { s₂ with heap := h, toks := tk })

/-- a for, any target -/
theorem for_own {target iter : Expr} {body : List Stmt} {pos : Pos} (h₀ : Heap)
    (h : wpAny (model prog w) A (eval iter env) (fun x s₁ => wpAny (model prog w) A (pyIter x) (fun it s₂ => LoopOwn prog w A h₀ env target body Q E it s₂) E s₁) E s)
    (hs : ∀ x, foldedSetIterable iter env x = pure x := by intro _; rfl)
    (hE : PassesOwn (model prog w) A env E := by passes_own) :
    wpAny (model prog w) A (exec (.For target iter body [] pos) env) Q E s := by
  refine wpAny_For (wpAny_mono h (fun xv s₁ h₁ => wpAny_mono h₁ (fun it s₂ h₂ => ?_) fun _ _ e => e) fun _ _ e => e) hs
  obtain ⟨I, fp, n, P, St, m, news, J, rfl, ht, W, hLf, hI0, hnI, hst, F, N, hj, turn, done⟩ := h₂
  have hIf : I ∈ fp := W.sub I (List.mem_singleton.mpr rfl)
  refine codeAny_forLoop
    (fun k s' => ∃ h' tk m' nx i, s' = { s₂ with heap := h', toks := tk } ∧ St i h' ∧ Fr h₀ env.locals h' m' ∧ News h₀ env.locals h' nx ∧ (∀ p ∈ nx, p.1 ≠ I) ∧ J i m' nx ∧ i ≤ n ∧ k = n + 1 - i) ?_ (n + 1)
    ⟨s₂.heap, s₂.toks, m, news, 0, rfl, hst, F, N, hnI, hj, Nat.zero_le _, rfl⟩ ht
  rintro k s' ⟨h', tk, m', nx, i, rfl, hst', F', N', hnx, hJ, hi, rfl⟩
  have next : ∀ h₁ : Heap, (∀ b o, b ∉ [I] → h'.get? b = some o → h₁.get? b = some o) → Fr h₀ env.locals h₁ m' ∧ News h₀ env.locals h₁ nx := fun h₁ hk₁ =>
    ⟨⟨F'.ns.at' fun o e => hk₁ _ o (fun q => hLf ((List.mem_singleton.mp q) ▸ hIf)) e, fun b o e => hk₁ b o (fun q => by rw [List.mem_singleton.mp q, hI0] at e; cases e) (F'.keep b o e), F'.above⟩,
      fun p hp => ⟨hk₁ _ _ (fun q => hnx p hp (List.mem_singleton.mp q)) (N' p hp).1, (N' p hp).2⟩⟩
  by_cases hlt : i < n
  · refine W.item i _ _ _ hlt hst' fun v h₁ tk₁ hP hst₁ hk₁ => ?_
    obtain ⟨F₁, N₁⟩ := next h₁ hk₁
    have Nown : News h₀ env.locals h₁ (ownOf h₀ fp h₁) := news_ownOf hLf
    have N₂ : News h₀ env.locals h₁ (nx ++ ownOf h₀ fp h₁) := fun p hp => (List.mem_append.mp hp).elim (N₁ p) (Nown p)
    have T := turn i v m' nx h₁ tk₁ (ownOf h₀ fp h₁) hlt hP hJ hnx ownOf_sub rfl hst₁ F₁ N₂
    have fin : ∀ s₅ : Shared, (∃ h'' tk m'' nx', s₅ = { s₂ with heap := h'', toks := tk } ∧ Fr h₀ env.locals h'' m'' ∧ News h₀ env.locals h'' (nx' ++ ownOf h₀ fp h₁) ∧ (∀ p ∈ nx', p.1 ≠ I) ∧ J (i + 1) m'' nx') →
        ∃ mm, mm < n + 1 - i ∧ ∃ h' tk m' nx i, s₅ = { s₂ with heap := h', toks := tk } ∧ St i h' ∧ Fr h₀ env.locals h' m' ∧ News h₀ env.locals h' nx ∧ (∀ p ∈ nx, p.1 ≠ I) ∧ J i m' nx ∧ i ≤ n ∧ mm = n + 1 - i := by
      rintro s₅ ⟨h₃, tk₃, m₂, nx₂, rfl, F₃, N₃, ha₃, hJ₃⟩
      refine ⟨n + 1 - (i + 1), by omega, h₃, tk₃, m₂, nx₂, i + 1, rfl, ?_, F₃, fun p hp => N₃ p (List.mem_append_left _ hp), ha₃, hJ₃, hlt, rfl⟩
      refine W.frame _ _ _ hst₁ fun b hb o e => ?_
      cases hn : h₀.get? b with
      | some o₀ =>
        have e0 : o₀ = o := by have := F₁.keep b o₀ hn; rw [e] at this; exact (Option.some.inj this).symm
        exact e0 ▸ F₃.keep b o₀ hn
      | none => exact (N₃ (b, o) (List.mem_append_right _ (mem_ownOf hb hn e))).1
    refine wpAny_mono (wpAny_passesOwn hE T) (fun _ s₄ T₄ => wpAny_mono (wpAny_passesOwn hE T₄) (fun f s₅ T₅ => ?_) fun _ _ e => e) fun _ _ e => e
    cases f with
    | ret v => exact T₅
    | brk => exact T₅
    | next =>
      obtain ⟨h₃, tk₃, m₂, nx₂, e, r⟩ := T₅
      exact fin s₅ ⟨h₃, tk₃, m₂, nx₂, e, r⟩
    | cont =>
      obtain ⟨h₃, tk₃, m₂, nx₂, e, r⟩ := T₅
      exact fin s₅ ⟨h₃, tk₃, m₂, nx₂, e, r⟩
  · have hin : i = n := by omega
    subst hin
    refine W.done _ _ _ hst' fun h₁ tk₁ hk₁ => wpAny_execs_nil ?_
    obtain ⟨F₁, N₁⟩ := next h₁ hk₁
    exact done m' nx h₁ tk₁ hJ F₁ N₁

theorem for_ownF {m : Str → Option Value} {target iter : Expr} {body : List Stmt} {pos : Pos} (_F : Fr h₀ L s.heap m)
    (h : wpAny (model prog w) A (eval iter env) (fun x s₁ => wpAny (model prog w) A (pyIter x) (fun it s₂ => LoopOwn prog w A h₀ env target body Q E it s₂) E s₁) E s)
    (hs : ∀ x, foldedSetIterable iter env x = pure x := by intro _; rfl)
    (hE : PassesOwn (model prog w) A env E := by passes_own) :
    wpAny (model prog w) A (exec (.For target iter body [] pos) env) Q E s := for_own h₀ h hs hE

open LCg in
/-- over a range -/
theorem iter_range {target : Expr} {body : List Stmt} {r : Addr} {a b : Int} {t u v : Tok} {n : Nat} {m₀ : Str → Option Value} {news : List (Addr × Obj)} (J : Nat → (Str → Option Value) → List (Addr × Obj) → Prop)
    (hh : A.handled = none) (hr : IsRange s.heap r a b 1 t u v) (hsm : Builtin.Range.small a b 1 = true) (hn : Builtin.Range.rangeSize a b 1 = ((n : Nat) : Int)) (F : Fr h₀ env.locals s.heap m₀) (N : News h₀ env.locals s.heap news) (hj : J 0 m₀ news)
    (turn : ∀ (i : Nat) (t : Tok) m₁ news₁ h tk I own, i < n → J i m₁ news₁ → (∀ p ∈ news₁, p.1 ≠ I) → (∀ p ∈ own, p.1 = I) → (∃ o, (I, o) ∈ own ∧ o.cls = .type "range_iterator") → Fr h₀ env.locals h m₁ → News h₀ env.locals h (news₁ ++ own) →
      wpAny (model prog w) A (assign target env (.int (a + (i : Int)) t)) (fun _ s₄ => wpAny (model prog w) A (execs body env) (OurTurn h₀ env.locals I own (J (i + 1)) s Q) E s₄) E { s with heap := h, toks := tk })
    (done : ∀ m₁ news₁ h tk, J n m₁ news₁ → Fr h₀ env.locals h m₁ → News h₀ env.locals h news₁ → Q .next { s with heap := h, toks := tk })
    (ht : ∀ a v, letOwnedTupleGo target a v = pure () := by intro _ _; rfl) :
    wpAny (model prog w) A (pyIter (.ref r)) (fun it s₂ => LoopOwn prog w A h₀ env target body Q E it s₂) E s := by
  refine wpAny_pyIter_range hr hsm ?_
  refine ⟨_, _, _, _, _, m₀, news, J, rfl, ht _, range_walks hh a n, ?_, fresh_none F, fun p hp => Nat.ne_of_lt (Heap.lt_size (N p hp).1), (by show IsRangeIter _ _ _ _ _; rw [hn]; simpa using Heap.get?_push_size _ rfl), F.push _, (fun p hp => ⟨Heap.get?_push_of_some _ (N p hp).1, (N p hp).2⟩), hj, ?_, ?_⟩
  · intro hm
    exact absurd F.ns.lt (List.mem_singleton.mp hm ▸ Nat.lt_irrefl _)
  · intro i v m₁ news₁ h tk own hi hP hJ hnx hown hoe hst F₁ N₁
    obtain ⟨t', rfl⟩ := hP
    exact turn i t' m₁ news₁ h tk _ own hi hJ hnx (fun p hp => List.mem_singleton.mp (hown p hp)) ⟨_, by rw [hoe]; exact mem_ownOf (List.mem_singleton.mpr rfl) (fresh_none F) hst, rfl⟩ F₁ N₁
  · intro m₁ news₁ h tk hJ F₁ N₁
    exact done m₁ news₁ h tk hJ F₁ N₁
end
/-- a place where the walk is to stand still -/
def Halt (P : Prop) : Prop := P
theorem Halt.mk {P : Prop} (h : Halt P) : P := h
theorem Halt.go {P : Prop} (h : P) : Halt P := h
theorem loadX {M : Model} {A : Around} {E : Value → Shared → Prop} {s : Shared} {h₀ : Heap} {L a : Addr} {m : Str → Option Value} {cn : Str} {cs : Scope} {ccd : Value} {cl : List (Str × Addr)} {x : Str} {v : Value} {Q : Value → Shared → Prop} (F : Fr h₀ L s.heap m) (hv : m x = some v) (h : Q v s)
    (hk : cs.kind = .function := by rfl) (hx : (envX cn cs L a ccd cl).kindOf x = some .local := by rfl) : wpAny M A (loadName (envX cn cs L a ccd cl) x) Q E s := wpAny_loadName_local hk hx F.ns hv h
theorem TabPost.back2 {S T : TabSpec} {tl n : List (Addr × Obj)} {h₀ h h' : Heap} {L : Addr} {m : Str → Option Value} (P : TabPost S T tl h h') (hS : TabS S T tl) (F : Fr h₀ L h m) (N : News h₀ L h n) (hsuf : ∀ tl', ∃ n', Suf tl tl' n n') :
    ∃ tl', TabS S T tl' ∧ Fr h₀ L h' m ∧ (∀ n', Suf tl tl' n n' → News h₀ L h' n') ∧ (∀ a ∈ tl.map (·.1), a ∈ tl'.map (·.1)) ∧ (∀ b o, b ∉ tl.map (·.1) → h.get? b = some o → h'.get? b = some o) ∧ (∀ p ∈ tl', p.1 ∈ tl.map (·.1) ∨ h.get? p.1 = none) := by
  obtain ⟨tl', hS', keep, hnew, hsub⟩ := P
  obtain ⟨n0, U0⟩ := hsuf tl'
  have tlN : ∀ a ∈ tl.map (·.1), a ≠ L ∧ h₀.get? a = none := fun a ha => by
    obtain ⟨p, hp, rfl⟩ := List.mem_map.mp ha
    exact (N p (U0.mem p hp)).2
  obtain ⟨oL, es, ep, hL, r⟩ := F.ns
  refine ⟨tl', hS', ⟨⟨oL, es, ep, keep _ _ (fun q => (tlN _ q).1 rfl) hL, r⟩, fun b o e => keep b o (fun q => by rw [(tlN _ q).2] at e; cases e) (F.keep b o e), F.above⟩, fun n' U => ?_, hsub, keep, fun p hp => (hnew p hp).2⟩
  refine U.news N hS.fld keep fun p hp => ?_
  obtain ⟨h1, h2⟩ := hnew p hp
  refine ⟨h1, ?_⟩
  rcases h2 with h2 | h2
  · exact tlN _ h2
  · refine ⟨fun e => ?_, ?_⟩
    · rw [e, hL] at h2; cases h2
    · cases q : h₀.get? p.1 with
      | none => rfl
      | some o => rw [F.keep _ _ q] at h2; cases h2

end Mine

end
section
-- Wrd
theorem Mine.fresh_Wrd : True := by
  w_top off
  trivial
open PySem PySem.W PyProof.Rows PySem.Calls PySem.Builtin PySem.Builtin.Str
set_option maxRecDepth 100000
namespace Mine
def tx (l : List Nat) : Str := ⟨l.toArray⟩
theorem tx_len (l : List Nat) : (tx l).length = l.length := by simp [tx, Str.length]
theorem tx_list (l : List Nat) : (tx l).cps.toList = l := by simp [tx]
theorem tx_append (a b : List Nat) : tx a ++ tx b = tx (a ++ b) := by
  apply Str.ext'
  simp [tx, Str.cps_append]
/-- places, texts, a text's digits -/
def plN (b : Nat) : Nat := [0, 5, 3, 2].getD b 0
def cntN (b : Nat) : Nat := 2 ^ (b * plN b)
def dgN (b t p : Nat) : Nat := t / 2 ^ (p * b) % 2 ^ b
def cdsN (b t p : Nat) : List Nat := (List.range p).map fun i => 97 + dgN b t i
def txN (b t p : Nat) : Str := tx (cdsN b t p)
/-- so many of the word's first letters are struck out of a text's first places -/
def grN (wd : List Nat) (b t : Nat) : Nat → Nat
  | 0 => 0
  | p + 1 => if wd[grN wd b t p]? = some (dgN b t p) then grN wd b t p + 1 else grN wd b t p
theorem cdsN_len (b t p : Nat) : (cdsN b t p).length = p := by simp [cdsN]
theorem txN_len (b t p : Nat) : (txN b t p).length = p := by rw [txN, tx_len, cdsN_len]
theorem cdsN_succ (b t p : Nat) : cdsN b t (p + 1) = cdsN b t p ++ [97 + dgN b t p] := by
  unfold cdsN; rw [List.range_succ, List.map_append]; rfl
theorem txN_succ (b t p : Nat) : txN b t (p + 1) = txN b t p ++ tx [97 + dgN b t p] := by
  unfold txN; rw [cdsN_succ, tx_append]
theorem txN_zero (b t : Nat) : txN b t 0 = Str.ofString "" := by kernel_rfl
theorem dgN_lt (b t p : Nat) : dgN b t p < 2 ^ b := Nat.mod_lt _ (Nat.two_pow_pos b)
theorem grN_le (wd : List Nat) (b t : Nat) : ∀ p, grN wd b t p ≤ p
  | 0 => Nat.le_refl _
  | p + 1 => by
    have := grN_le wd b t p
    rw [grN]; split <;> omega
theorem grN_len (wd : List Nat) (b t : Nat) : ∀ p, grN wd b t p ≤ wd.length
  | 0 => Nat.zero_le _
  | p + 1 => by
    have := grN_len wd b t p
    rw [grN]; split
    · rename_i h
      obtain ⟨h1, _⟩ := List.getElem?_eq_some_iff.mp h
      omega
    · exact this
theorem item_ah (i : Nat) (h : i < 8) : Txt.item (Str.ofString "abcdefgh") (i : Int) = tx [97 + i] := by
  rcases i with _ | _ | _ | _ | _ | _ | _ | _ | i
  case succ.succ.succ.succ.succ.succ.succ.succ => omega
  all_goals kernel_rfl
theorem bit_cases {b : Nat} (h1 : 1 ≤ b) (h3 : b ≤ 3) : b = 1 ∨ b = 2 ∨ b = 3 := by omega
theorem pl_le {b : Nat} (h1 : 1 ≤ b) (h3 : b ≤ 3) : 2 ≤ plN b ∧ plN b ≤ 5 ∧ cntN b ≤ 64 ∧ 32 ≤ cntN b ∧ b * plN b ≤ 6 ∧ 2 ^ b ≤ 8 := by
  rcases bit_cases h1 h3 with rfl | rfl | rfl <;> decide
theorem dg_eq (b t p : Nat) : ((t : Int).fdiv (2 ^ (((p : Int) * (b : Int)).toNat))).fmod (((1 : Int) * 2 ^ ((b : Int).toNat))) = ((dgN b t p : Nat) : Int) := by
  rw [show ((p : Int) * (b : Int)).toNat = p * b by rw [← Int.natCast_mul, Int.toNat_natCast], Int.toNat_natCast, Int.one_mul, two_pow_cast, two_pow_cast, fdiv_nat, fmod_nat]
  rfl
theorem range_n (n : Nat) (h : n < 65) : Builtin.Range.small 0 (n : Int) 1 = true ∧ Builtin.Range.rangeSize 0 (n : Int) 1 = ((n : Nat) : Int) := by
  have : ∀ n : Fin 65, Builtin.Range.small 0 ((n : Nat) : Int) 1 = true ∧ Builtin.Range.rangeSize 0 ((n : Nat) : Int) 1 = ((n : Nat) : Int) := by decide
  exact this ⟨n, h⟩
/-- a pair: a number, a text -/
def PairIs (p : Addr × Obj) (r : Nat × Str) : Prop := ∃ n t1 t2, p.2 = tupObj (.int (r.1 : Int) t1) (.str r.2 t2) n
inductive PairsAre : List (Addr × Obj) → List (Nat × Str) → Prop
  | nil : PairsAre [] []
  | cons {p r ps rs} (h : PairIs p r) (t : PairsAre ps rs) : PairsAre (p :: ps) (r :: rs)
theorem PairsAre.length {ps : List (Addr × Obj)} {rs : List (Nat × Str)} (T : PairsAre ps rs) : ps.length = rs.length := by
  induction T with
  | nil => rfl
  | cons _ _ ih => simp [ih]
theorem PairsAre.snoc {ps : List (Addr × Obj)} {rs : List (Nat × Str)} {p : Addr × Obj} {r : Nat × Str} (T : PairsAre ps rs) (h : PairIs p r) : PairsAre (ps ++ [p]) (rs ++ [r]) := by
  induction T with
  | nil => exact .cons h .nil
  | cons a _ ih => exact .cons a ih
theorem PairsAre.at {ps : List (Addr × Obj)} {rs : List (Nat × Str)} (T : PairsAre ps rs) : ∀ (i : Nat) p, ps[i]? = some p → ∃ r, rs[i]? = some r ∧ PairIs p r := by
  induction T with
  | nil => intro i p h; simp at h
  | cons a _ ih =>
    intro i p h
    cases i with
    | zero => simp at h; subst h; exact ⟨_, rfl, a⟩
    | succ i => simpa using ih i p (by simpa using h)
theorem PairsAre.ne {ps : List (Addr × Obj)} {rs : List (Nat × Str)} (T : PairsAre ps rs) {h : Heap} {D : Addr} {o : Obj} (hk : ∀ p ∈ ps, h.get? p.1 = some p.2) (hD : h.get? D = some o) (ho : o.cls ≠ .type "tuple") : ∀ p ∈ ps, p.1 ≠ D := by
  intro p hp e
  obtain ⟨i, hi⟩ := List.getElem?_of_mem hp
  obtain ⟨r, _, n, t1, t2, e2⟩ := T.at i p hi
  have h1 := hk p hp
  rw [e, hD] at h1
  refine ho ?_
  rw [Option.some.inj h1, e2]
/-- what _law_held tells of the first n texts -/
def heldN (wd : List Nat) (b n : Nat) : List (Nat × Str) := (List.range n).map fun t => (grN wd b t (plN b), txN b t (plN b))
theorem heldN_succ (wd : List Nat) (b n : Nat) : heldN wd b (n + 1) = heldN wd b n ++ [(grN wd b n (plN b), txN b n (plN b))] := by
  unfold heldN; rw [List.range_succ, List.map_append]; rfl
theorem heldN_len (wd : List Nat) (b n : Nat) : (heldN wd b n).length = n := by simp [heldN]
end Mine

end
section
-- EntK
theorem Mine.fresh_EntK : True := by
  w_top off
  trivial
open PySem PySem.W PyProof.Rows PySem.Calls PySem.Builtin PySem.Builtin.Str
set_option maxRecDepth 100000
namespace Mine
section
variable {prog : Program} {w : World} {A : Around} {s : Shared} {K : Frag} {B : Heap} {loose : List Str} {mean : ExcName → Option Value} {mg mb : Str → Option Value}
  {Q : Value → Shared → Prop} {name qual : Str} {params : Arguments} {body : List Stmt} {scope : Scope} {dV kV doc pm cdv ct oc : Value} {an od : Option Addr} {osl : Array (Option Value)} {f : Addr} {args : List Value}
/-- a def with **more, called without any: its dict stands first in the ledger -/
theorem enterK {binds : Addr → List (Str × Value)} {nb : Nat} (G : Gd K loose mean mg mb B) (hB : B.StaysIn s.heap) (hid : List (Addr × Obj)) (hN : ∀ p ∈ hid, s.heap.get? p.1 = some p.2 ∧ B.get? p.1 = none)
    (ho : K.lookup f = some ⟨oc, od, .func (fnOf name qual params body scope dV kV doc pm an cdv ct), osl⟩) (hcd : codeIn K cdv qual = true) (hroom : A.depth < recursionLimit)
    (hbind : bindArgs (fnOf name qual params body scope dV kV doc pm an cdv ct) ⟨args, []⟩ = (alloc (dictOf [] 0) >>= fun d => pure (binds d))) (hloc : ∀ D, ∀ y ∈ binds D, scope.names.lookup y.1 = some .local) (hnb : ∀ D, (binds D).length = nb)
    (h : ∀ g L' h₁ D, g = hideAll s.heap (hid.map (·.1)) → Fr g L' h₁ (fun y => (binds D).reverse.lookup y) → News g L' h₁ ((D, dictOf [] 0) :: hid) → (∀ p ∈ hid, p.1 < D) → (∀ p ∈ hid, p.1 < L') → D < L' → (D == sysModules) = false → K.In g → Top topProg loose mean mg mb g →
      wpAny (model prog w) (A.deeper (envOf qual scope L' f cdv)) (execs body (envOf qual scope L' f cdv))
        (fun fl s' => Q (match fl with | .ret v => v | _ => .none) s')
        (fun _ _ => False)
        { s with heap := h₁, toks := s.toks + nb })
    (hco : scope.isCoroutine = false := by rfl) (hgen : scope.isGenerator = false := by rfl) (hk : scope.kind = .function := by rfl)
    (hcell : ∀ x ∈ scope.names, x.2 ≠ .cell := by decide) : wpAny (model prog w) A (call (.ref f) args) Q (fun _ _ => False) s := by
  have X := G.X.keeps hB
  have st : B.StaysIn (hideAll s.heap (hid.map (·.1))) := hide_stays hB fun b hb => by
    obtain ⟨p, hp, rfl⟩ := List.mem_map.mp hb
    exact (hN p hp).2
  refine wpAny_call (codeAny_call_function (fd := fnOf name qual params body scope dV kV doc pm an cdv ct) (body := body) hroom (X _ _ ho) rfl hco hgen rfl (codeRec_of X hcd) ?_)
  rw [hbind]
  refine wpAny_bind (wpAny_alloc (wpAny_pure ?_))
  refine wpAny_newFunctionEnv hcell (hloc _) (fun h₁ hns hsb => ⟨((G.T.nolimit.keeps hB).keeps fun b o e => Heap.get?_push_of_some _ e).fresh _ hsb, codeAny_func ?_⟩) hk
  have hk₁ : ∀ b o, (s.heap.push (dictOf [] 0)).get? b = some o → h₁.get? b = some o := fun b o e => hsb.extBut b o (Nat.ne_of_lt (Heap.lt_size e)) (Heap.get?_push_of_some _ e)
  have hk₂ : ∀ b o, s.heap.get? b = some o → h₁.get? b = some o := fun b o e => hk₁ b o (Heap.get?_push_of_some _ e)
  have hsz : s.heap.objs.size < (s.heap.push (dictOf [] 0)).objs.size := by simp [Heap.push]
  have hh := h _ (s.heap.push (dictOf [] 0)).objs.size h₁ s.heap.objs.size rfl ⟨hns, fun b o e => hk₂ b o (of_hideAll _ e), by rw [hideAll_size]; omega⟩
    (fun p hp => ?_) (fun p hp => Heap.lt_size (hN p hp).1) (fun p hp => Nat.lt_trans (Heap.lt_size (hN p hp).1) hsz) hsz (beq_eq_false_iff_ne.mpr (Nat.ne_of_gt (modules_low (G.T.nolimit.keeps hB)))) (G.X.keeps st) (G.T.keeps st)
  · rw [hnb]
    exact wpAny_mono hh (fun _ _ x => x) fun _ _ x => x.elim
  · rcases List.mem_cons.mp hp with rfl | hp
    · refine ⟨hk₁ _ _ (Heap.get?_push_size _ rfl), Nat.ne_of_lt hsz, ?_⟩
      cases q : (hideAll s.heap (hid.map (·.1))).get? s.heap.objs.size with
      | none => rfl
      | some o => exact absurd (Heap.lt_size (of_hideAll _ q)) (Nat.lt_irrefl _)
    · exact ⟨hk₂ _ _ (hN p hp).1, Nat.ne_of_lt (Nat.lt_trans (Heap.lt_size (hN p hp).1) hsz), hideAll_none _ (List.mem_map_of_mem hp)⟩
end
end Mine

end
section
-- ComS
theorem Mine.fresh_ComS : True := by
  w_top off
  trivial
open PySem PySem.W PyProof.Rows PySem.Calls PySem.Builtin PySem.Builtin.Str
set_option maxRecDepth 100000
namespace Mine
theorem joinOk_small {texts : List Str} {k : Nat} (h : ∀ x ∈ texts, x.length ≤ k) (hk : k ≤ 1000) (hl : texts.length ≤ 1000) : JoinOk (Str.ofString "") texts = true := by
  unfold JoinOk
  rw [StrLaws.joinTotal, show (Str.ofString "").length = 0 from rfl, Nat.mul_zero, Nat.add_zero]
  have key : ∀ l : List Str, (∀ x ∈ l, x.length ≤ k) → (l.map (·.length)).sum ≤ l.length * k := by
    intro l
    induction l with
    | nil => intro _; simp
    | cons a r ih =>
      intro h
      have h1 := h a (List.mem_cons_self ..)
      have h2 := ih fun x hx => h x (List.mem_cons_of_mem _ hx)
      simp only [List.map_cons, List.sum_cons, List.length_cons, Nat.succ_mul]
      omega
  have h1 := key texts h
  have h2 : texts.length * k ≤ 1000 * 1000 := Nat.mul_le_mul hl hk
  have h3 : (texts.map (·.length)).sum ≤ sizeLine := by rw [sizeLine_eq]; omega
  unfold tooLong
  simp only [Bool.not_eq_true', decide_eq_false_iff_not]
  omega
end Mine

end
section
-- Mk02
theorem Mine.fresh_Mk02 : True := by
  w_top off
  trivial
open PySem PySem.W PyProof.Rows PySem.Calls PySem.Builtin.Str
set_option maxRecDepth 100000
set_option maxHeartbeats 1000000
set_option pp.deepTerms false
namespace Mine
theorem make_spec {w : World} {A : Around} {E : Value → Shared → Prop} {s : Shared} {h₀ : Heap} {loose mean mg mb} {L l : Addr} {m : Str → Option Value} {news : List (Addr × Obj)} {tups : List (Addr × Obj)} {rows : List (Str × Str)} {n : Nat} {Q : Value → Shared → Prop}
    (G : Gd (Mine.hd02.heap_39 w.params) loose mean mg mb h₀) (F : Fr h₀ L s.heap m) (N : News h₀ L s.heap news) (hm : (l, listOf (refsOf tups).toArray n) ∈ news) (hT : TupsAre tups rows) (ht : ∀ p ∈ tups, p ∈ news) (ok : RowsOk rows) (hh : A.handled = none) (hd : A.depth + 20 < recursionLimit) (hu : A.units + 60 < cLine)
    (h : ∀ x dx tok h' tk, Fr h₀ L h' m → News h₀ L h' ((x, instObj 182 dx) :: (dx, dictOf (hdrE w tok l) 1) :: news) → (∀ p ∈ news, p.1 < dx) → dx < x → Q (.ref x) { s with heap := h', toks := tk }) :
    wpAny (model PySem.Challenge.rw_pg0310_02.row.prog w) A (call (.ref 182) [.ref l]) Q E s := by
  revert G
  k_fill
  intro G
  refine call_cls F G.X N (by k_is) (by k_is) (by k_is) ?_
  intro x dx h1 F1 N1 l1 l2
  have zx := N1 _ (List.mem_cons_self ..)
  have zd := N1 _ (List.mem_cons_of_mem _ (List.mem_cons_self ..))
  have zl := N1 (l, listOf (refsOf tups).toArray n) (List.mem_cons_of_mem _ (List.mem_cons_of_mem _ hm))
  have hr1 : RowsAt h1 (refsOf tups) rows := hT.rowsAt fun p hp => (N1 p (List.mem_cons_of_mem _ (List.mem_cons_of_mem _ (ht p hp)))).1
  have dl : @LT.lt Nat _ l dx := l1 _ hm
  have dd : @LT.lt Nat _ dx x := l2
  have hw : (Code.builtin "type.__call__" ⟨.ref 182 :: [.ref l], []⟩).weight ≤ 2 := by first | exact Nat.le_refl 2 | exact (show (1 : Nat) ≤ 2 by decide) | exact (show (0 : Nat) ≤ 2 by decide)
  have hc : (Code.builtin "type.__call__" ⟨.ref 182 :: [.ref l], []⟩).cUnits ≤ 2 := by first | exact Nat.le_refl 2 | exact (show (1 : Nat) ≤ 2 by decide) | exact (show (0 : Nat) ≤ 2 by decide)
  refine DoesC.use (init_spec (x := x) (dx := dx) (l := l) (refs := refsOf tups) (n := n) (rows := rows) G (by exact F1.keep) ⟨by exact zx.1, zx.2.2⟩ ⟨by exact zd.1, zd.2.2⟩ ⟨by exact zl.1, zl.2.2⟩ (Nat.ne_of_gt (Nat.lt_trans dl dd)) (Nat.ne_of_gt dl) (Nat.ne_of_gt dd) (by exact hr1) ok.safe ok.size) hh (by simp only [Around.under]; omega) (by simp only [Around.under]; omega) ?_
  rintro v h2 tk2 ⟨rfl, tok, keep, hd2⟩
  refine ⟨rfl, ?_⟩
  obtain ⟨oL, es, ep, hL, r⟩ := F1.ns
  refine h x dx tok h2 tk2 ⟨⟨oL, es, ep, keep _ _ (by simpa using zd.2.1.symm) hL, r⟩, fun b o e => keep b o (by simp; rintro rfl; rw [zd.2.2] at e; cases e) (F1.keep b o e), F1.above⟩ (List.forall_mem_cons.mpr ⟨⟨keep _ _ (by simpa using Nat.ne_of_gt dd) zx.1, zx.2⟩, List.forall_mem_cons.mpr ⟨⟨hd2, zd.2⟩, fun p hp => ?_⟩⟩) l1 l2
  have z := N1 p (List.mem_cons_of_mem _ (List.mem_cons_of_mem _ hp))
  exact ⟨keep _ _ (by simpa using Nat.ne_of_lt (l1 p hp)) z.1, z.2⟩
end Mine

end
section
-- Add02
theorem Mine.fresh_Add02 : True := by
  w_top off
  trivial
open PySem PySem.W PyProof.Rows PySem.Calls PySem.Builtin.Str PyProof.V
set_option maxRecDepth 100000
set_option maxHeartbeats 1000000
set_option pp.deepTerms false
namespace Mine
local macro_rules | `(tactic| k_room) => `(tactic| ((try simp only [Around.deeper, recursionLimit] at *); omega))
local macro_rules | `(tactic| k_units) => `(tactic| ((try simp only [Around.deeper, Around.in1, cLine] at *); omega))
local macro_rules | `(tactic| k_all) => `(tactic| first | with_reducible assumption | exact allLt_ne (by with_reducible assumption) | exact Low.ne (by with_reducible assumption) (by omega) | (exact Low.ne (by assumption) (by omega)))
local macro_rules | `(tactic| walk_at "eval Name") => `(tactic| (k_here; k_dflt (refine' ld ?k1 ?k2 ?_; (case k1 => k_asm); (case k2 => first | exact rfl | assumption); k_whole)))
theorem add_spec {w : World} {s : Shared} {B : Heap} {loose mean mg mb} {x dx l : Addr} {tok : Tok} {tups : List (Addr × Obj)} {rows : List (Str × Str)} {n : Nat} {nm val : Str} {tn tv : Tok}
    (G : Gd (Mine.hd02.heap_39 w.params) loose mean mg mb B) (hB : B.StaysIn s.heap)
    (T : TabAt w 182 s.heap x dx l tok (refsOf tups) n) (nB : B.get? x = none ∧ B.get? dx = none ∧ B.get? l = none) (hT : TupsAre tups rows) (ht : ∀ p ∈ tups, s.heap.get? p.1 = some p.2) (ok : RowsOk rows) (hn : NmOk nm) (hv : Safe val) (hvl : val.length ≤ 1000) :
    Does (model PySem.Challenge.rw_pg0310_02.row.prog w) 40 100 (call (.ref 179) [.ref x, .str nm tn, .str val tv]) s (fun v h' => v = .none ∧ TabMut w 182 x dx l tok tups (rows ++ [(nm, val)]) s.heap h') := by
  intro d0 u0 fr gs hd hu
  revert G
  k_fill
  intro G
  refine' enterK (binds := fun D => [("self", .ref x), ("_name", .str nm tn), ("_value", .str val tv), ("_params", .ref D)]) (nb := 4) G hB (hidT w 182 x dx l tok (refsOf tups) n) (T.hid nB) ?k6 ?k7 ?k8 ?k9 ?kB ?kN ?_ ?c2 ?c3 ?c4 ?c5; (case k6 => k_is); (case k7 => k_is); (case k8 => k_room); (case k9 => rfl);  (case c5 => decide); (case kN => exact fun _ => rfl); (case kB => exact fun D => locs rfl); (case c2 => exact rfl); (case c3 => exact rfl); (case c4 => exact rfl)
  intro g' L' h' D hg' F' N' hD hlow hDL hDm X' T'
  have hrsz := ok.size
  have hsz : (refsOf tups).length ≤ 1000 := by rw [refsOf_length, hT.length]; exact hrsz
  have e1 := T.xl
  have e2 := T.dl
  have e3 := T.xd
  have e4 : D ≠ l := Nat.ne_of_gt (hD (l, listOf (refsOf tups).toArray n) (by unfold hidT; simp))
  subst hg'
  unfold hidT at F' N'
  (try dsimp only)
  (try k_fold)
  k_steps
  show wpAny _ _ (call (.ref 83) [.ref x, .str val _] [("name", .bool false)]) _ _ _
  rename Fr _ _ _ _ => F
  rename News _ _ _ _ => Nw
  refine Does.use (conv_spec ⟨X', T'⟩ (by exact F.keep) hv hvl) rfl (by first | exact room1 hd (Nat.le_of_ble_eq_true rfl) | exact room3 hu (Nat.le_of_ble_eq_true rfl) | (simp only [Around.deeper]; omega)) (by first | exact room1 hd (Nat.le_of_ble_eq_true rfl) | exact room3 hu (Nat.le_of_ble_eq_true rfl) | (simp only [Around.deeper]; omega)) ?_
  rintro v h4 tk4 ⟨rfl, keep⟩
  have F4 := F.keeps keep
  have N4 := Nw.grown keep
  clear F Nw keep
  have dk : (dictOf [] 0).IsDictOf (PySem.strKind PySem.Challenge.rw_pg0310_02.row.prog w) [] := kp_isDict (ex := []) 0 0 List.nodup_nil
  have dp : PyProof.V.FlatPairs PyData.str ([] : List (Str × Value)) [] := .nil
  (try dsimp only)
  k_steps
  show wpAny _ _ (call (.ref 83) [.ref x, .str nm _] [("name", .bool true)]) _ _ _
  rename Fr _ _ _ _ => F
  rename News _ _ _ _ => Nw
  refine Does.use (conv_spec ⟨X', T'⟩ (by exact F.keep) hn.safe (by have := hn.len; omega)) rfl (by first | exact room1 hd (Nat.le_of_ble_eq_true rfl) | exact room3 hu (Nat.le_of_ble_eq_true rfl) | (simp only [Around.deeper]; omega)) (by first | exact room1 hd (Nat.le_of_ble_eq_true rfl) | exact room3 hu (Nat.le_of_ble_eq_true rfl) | (simp only [Around.deeper]; omega)) ?_
  rintro v h3 tk3 ⟨rfl, keep⟩
  have F3 := F.keeps keep
  have N3 := Nw.grown keep
  clear F Nw keep dk dp
  (try dsimp only)
  k_steps
  rename Fr _ _ _ _ => F
  rename News _ _ _ _ => Nw
  (first | (k_unmd; k_unfold; try dsimp only) | (try dsimp only))
  have ej : Txt.join (Str.ofString "; ") [val] = val := rfl
  rw [ej] at Nw
  have htk := tups_keep (hid := hidT w 182 x dx l tok (refsOf tups) n) F T.all hidT_cls hT ht
  simp only [List.push_toArray] at Nw
  have hD1 := (Nw _ (List.mem_cons_self ..)).1
  have N5 := fun p hp => Nw p (List.mem_cons_of_mem _ (List.mem_cons_of_mem _ (List.mem_cons_of_mem _ hp)))
  have T5 := TabAt.news N5
  have hD := fresh_hide (hid := hidT w 182 x dx l tok (refsOf tups) n) (Nw _ (List.mem_cons_self ..)).2.2 (T5.ne_tup hD1 rfl)
  exact Done.mk ⟨rfl, TabMut.push T5 hT (fun p hp => ⟨htk p hp, .inl hp⟩) hD1 hD (keep_but (hid := hidT w 182 x dx l tok (refsOf tups) n) F N5 T.all (by intro p hp; simp at hp; rcases hp with rfl | rfl | rfl <;> simp))⟩
end Mine

end
section
-- Plc02
theorem Mine.fresh_Plc02 : True := by
  w_top off
  trivial
open PySem PySem.W PyProof.Rows PySem.Calls PySem.Builtin.Str
set_option maxRecDepth 100000
set_option maxHeartbeats 1000000
set_option pp.deepTerms false
namespace Mine
local macro_rules | `(tactic| k_room) => `(tactic| ((try simp only [Around.deeper, recursionLimit] at *); omega))
local macro_rules | `(tactic| k_units) => `(tactic| ((try simp only [Around.deeper, Around.in1, cLine] at *); omega))
local macro_rules | `(tactic| k_all) => `(tactic| first | with_reducible assumption | exact allLt_ne (by with_reducible assumption) | exact Low.ne (by with_reducible assumption) (by omega) | (exact Low.ne (by assumption) (by omega)))
theorem places_one {w : World} {s : Shared} {B : Heap} {loose mean mg mb} (b : Nat) {t : Tok} (h1 : 1 ≤ b) (h3 : b ≤ 3)
    (G : Gd (Mine.hd02.heap_39 w.params) loose mean mg mb B) (hB : B.StaysIn s.heap) :
    Does (model PySem.Challenge.rw_pg0310_02.row.prog w) 5 20 (call (.ref 242) [.int (b : Int) t]) s (fun v h' => Keep [] s.heap h' ∧ ∃ tk, v = .int (plN b : Int) tk) := by
  rcases bit_cases h1 h3 with e | e | e
  all_goals
    intro d0 u0 fr gs hd hu
    revert G
    k_fill
    intro G
    refine' enter (binds := [("bits", .int (b : Int) t)]) G hB [] (fun _ h => nomatch h) ?k6 ?k7 ?k8 ?k9 ?kB ?_ ?c2 ?c3 ?c4 ?c5; (case k6 => k_is); (case k7 => k_is); (case k8 => k_room); (case k9 => exact BindsTo.of_eq rfl);  (case c5 => decide); (case kB => exact locs rfl); (case c2 => exact rfl); (case c3 => exact rfl); (case c4 => exact rfl)
    intro g' L' h' hg' F' N' _ X' T'
    subst hg' e
    (try dsimp only)
    (try k_fold)
    k_steps
    (first | (k_unmd; k_unfold; try dsimp only) | (try dsimp only))
    rename Fr _ _ _ _ => F
    refine Done.mk ⟨fun b o _ e => F.keep b o (by exact e), _, rfl⟩
end Mine

end
section
-- Hld02
theorem Mine.fresh_Hld02 : True := by
  w_top off
  trivial
open PySem PySem.W PyProof.Rows PySem.Calls PySem.Builtin.Str
set_option maxRecDepth 100000
set_option maxHeartbeats 1000000
set_option pp.deepTerms false
namespace Mine
local macro_rules | `(tactic| k_room) => `(tactic| ((try simp only [Around.deeper, recursionLimit] at *); omega))
local macro_rules | `(tactic| k_units) => `(tactic| ((try simp only [Around.deeper, Around.in1, cLine] at *); omega))
local macro_rules | `(tactic| k_all) => `(tactic| first | with_reducible assumption | exact allLt_ne (by with_reducible assumption) | exact Low.ne (by with_reducible assumption) (by omega) | (exact Low.ne (by assumption) (by omega)))
theorem gr_hit {wd : List Nat} {b t p kk : Nat} {x : Int} (hk : kk = grN wd b t p) (h : kk < wd.length) (e : (castL wd).getD ((kk : Nat) : Int).toNat 0 = x) (hx : x = ((dgN b t p : Nat) : Int)) : grN wd b t (p + 1) = kk + 1 := by
  subst hk
  rw [hx, Int.toNat_natCast, castL_getD, List.getD_eq_getElem?_getD, List.getElem?_eq_getElem h] at e
  have e : wd[grN wd b t p] = dgN b t p := Int.ofNat.inj (by simpa using e)
  rw [grN, List.getElem?_eq_getElem h, e, if_pos rfl]
theorem gr_miss {wd : List Nat} {b t p kk : Nat} {x : Int} (hk : kk = grN wd b t p) (h : kk < wd.length) (e : (castL wd).getD ((kk : Nat) : Int).toNat 0 ≠ x) (hx : x = ((dgN b t p : Nat) : Int)) : grN wd b t (p + 1) = kk := by
  subst hk
  rw [hx, Int.toNat_natCast, castL_getD, List.getD_eq_getElem?_getD, List.getElem?_eq_getElem h] at e
  have e : wd[grN wd b t p] ≠ dgN b t p := fun q => e (by rw [← q]; simp)
  rw [grN, List.getElem?_eq_getElem h, if_neg (fun q => e (Option.some.inj q))]
theorem gr_end {wd : List Nat} {b t p kk : Nat} (hk : kk = grN wd b t p) (h : ¬ kk < wd.length) : grN wd b t (p + 1) = kk := by
  subst hk
  rw [grN, List.getElem?_eq_none (by first | with_reducible assumption | with_reducible exact lt_num (by with_reducible assumption) (Nat.le_of_ble_eq_true rfl) | with_reducible exact le_num (by with_reducible assumption) (Nat.le_of_ble_eq_true rfl) | with_reducible exact le_le (by with_reducible assumption) (Nat.le_of_ble_eq_true rfl) | omega), if_neg (by first | ((repeat (first | with_reducible exact List.mem_cons_self .. | with_reducible refine List.mem_cons_of_mem _ ?_)); done) | simp)]
local macro_rules | `(tactic| walk_at "eval Name") => `(tactic| (k_here; k_dflt (refine' ld ?k1 ?k2 ?_; (case k1 => k_asm); (case k2 => first | exact rfl | assumption); k_whole)))
local macro_rules | `(tactic| walk_at "loadName") => `(tactic| (k_here; k_dflt (refine' ldn ?k1 ?k2 ?_; (case k1 => k_asm); (case k2 => first | exact rfl | assumption); k_whole)))
local macro_rules | `(tactic| walk_at "exec For Name Call cons nil") => `(tactic| (k_here; k_dflt (refine' for_ownF ?k1 ?_ ?k2 ?k3; (case k1 => k_asm); (case k2 => (intro _; rfl)); (case k3 => passes_own))))
local macro_rules | `(tactic| walk_at "pyIter ref") => `(tactic| (k_here; refine Halt.mk ?_))
local macro_rules | `(tactic| walk_at "call ref") => `(tactic| (k_here; refine Halt.mk ?_))
local macro_rules | `(tactic| walk_at "binaryOp LShift int int") => `(tactic| (refine' lshiftG ?k1 ?k2 ?_; (case k1 => with_reducible assumption); (case k2 => with_reducible assumption); intro _ _ _ _))
local macro_rules | `(tactic| walk_at "binaryOp RShift int int") => `(tactic| (refine' rshiftG ?k1 ?_; (case k1 => with_reducible assumption); intro _ _ _ _))
local macro_rules | `(tactic| walk_at "storeName") => `(tactic| (k_here; (with_reducible show wpAny _ _ (storeName _ _ (Value.int (Int.fmod _ _) _)) _ _ _); refine Halt.mk ?_))
local macro_rules | `(tactic| walk_at "subscriptTail Name Name ref int") => `(tactic| (k_here; (with_reducible show wpAny _ _ (subscriptTail _ _ (Value.ref _) (Value.int _ _)) _ _ _); k_dflt (refine' item_anyK ?k1 ?k2 ?k3 ?k4 ?k5 ?_ ?k7; (case k1 => exact stays_list (Fr.keep (by k_asm)) (by with_reducible assumption)); (case k2 => with_reducible assumption); (case k3 => omega); (case k4 => omega); (case k5 => omega); (case k7 => with_unfolding_all rfl)); intro _))
local macro_rules | `(tactic| walk_at "call builtin:len") => `(tactic| (k_here; (with_reducible show wpAny _ _ (call (Value.builtin "len") [Value.ref _]) _ _ _); k_dflt (refine' lenB ?k1 ?k2 ?k3 ?_; (case k1 => k_asm); (case k2 => with_reducible assumption); (case k3 => assumption); k_whole); intro _ _))
inductive HldJ (wd : List Nat) (b : Nat) (t : Tok) (W D0 : Addr) (i : Nat) (m : Str → Option Value) (nx : List (Addr × Obj)) : Prop
  | mk (tups : List (Addr × Obj)) (n : Nat) (q1 : nx = (D0, listOf (refsOf tups).toArray n) :: tups) (q2 : PairsAre tups (heldN wd b i)) (q3 : m "bits" = some (.int (b : Int) t)) (q4 : m "word" = some (.ref W)) (q5 : m "held" = some (.ref D0)) : HldJ wd b t W D0 i m nx
theorem held_spec {w : World} {s : Shared} {B : Heap} {loose mean mg mb} {b : Nat} {t : Tok} {W : Addr} {wv : List Value} {wd : List Nat}
    (G : Gd (Mine.hd02.heap_39 w.params) loose mean mg mb B) (hB : B.StaysIn s.heap) (h1 : 1 ≤ b) (h3 : b ≤ 3) (hW : s.heap.IsList W wv.toArray) (hI : IntsAre wv (castL wd)) (hl : wd.length ≤ 4) :
    Does (model PySem.Challenge.rw_pg0310_02.row.prog w) 20 60 (call (.ref 254) [.int (b : Int) t, .ref W]) s (fun v h' => Keep [] s.heap h' ∧ ∃ D n tups, v = .ref D ∧ PairsAre tups (heldN wd b (cntN b)) ∧ ∀ p ∈ (D, listOf (refsOf tups).toArray n) :: tups, h'.get? p.1 = some p.2 ∧ s.heap.get? p.1 = none) := by
  intro d0 u0 fr gs hd hu
  revert G
  k_fill
  intro G
  refine' enter (binds := [("bits", .int (b : Int) t), ("word", .ref W)]) G hB [] (fun _ h => nomatch h) ?k6 ?k7 ?k8 ?k9 ?kB ?_ ?c2 ?c3 ?c4 ?c5; (case k6 => k_is); (case k7 => k_is); (case k8 => k_room); (case k9 => exact BindsTo.of_eq rfl);  (case c5 => decide); (case kB => exact locs rfl); (case c2 => exact rfl); (case c3 => exact rfl); (case c4 => exact rfl)
  intro g' L' h' hg' F' N' _ X' T'
  have hg' : g' = s.heap := hg'
  subst hg'
  obtain ⟨p1, p2, p3, p4, p5, p6⟩ := pl_le h1 h3
  have hwl : wv.length = wd.length := by rw [hI.length, castL_length]
  have hwl2 : wv.length ≤ 1000000 := by omega
  (try dsimp only)
  (try k_fold)
  k_steps

  rename Fr _ _ _ _ => F
  rename News _ _ _ _ => Nw
  refine Halt.go (Does.use (places_one b h1 h3 ⟨X', T'⟩ (by exact F.keep)) rfl (by first | exact room1 hd (Nat.le_of_ble_eq_true rfl) | exact room3 hu (Nat.le_of_ble_eq_true rfl) | (simp only [Around.deeper]; omega)) (by first | exact room1 hd (Nat.le_of_ble_eq_true rfl) | exact room3 hu (Nat.le_of_ble_eq_true rfl) | (simp only [Around.deeper]; omega)) ?_)
  rintro v h4 tk4 ⟨keep, tkp, rfl⟩
  have F4 := F.keeps keep.stays
  have N4 := Nw.grown keep.stays
  clear F Nw keep
  have hbp : (b : Int) * (plN b : Int) = ((b * plN b : Nat) : Int) := (Int.natCast_mul ..).symm
  have ek : (1 : Int) * 2 ^ ((b : Int) * (plN b : Int)).toNat = ((cntN b : Nat) : Int) := by rw [hbp, Int.toNat_natCast, Int.one_mul, two_pow_cast]; rfl
  have hk0 : 0 ≤ (b : Int) * (plN b : Int) := by rw [hbp]; exact Int.natCast_nonneg _
  have hks : ((Builtin.Int.intBits 1 : Nat) : Int) + (b : Int) * (plN b : Int) ≤ 2 ^ 27 := by rw [hbp, show Builtin.Int.intBits 1 = 1 by decide]; omega
  (try dsimp only)
  k_steps
  rename _ = (1 : Int) * 2 ^ _ => hM
  rw [ek] at hM
  subst hM
  rename Fr _ _ _ _ => F
  rename News _ _ _ _ => Nw
  rename IsRange _ _ _ _ _ _ _ _ => hr
  obtain ⟨D0, hD0⟩ : ∃ D0 : Addr, D0 = _ ∧ True := ⟨_, rfl, trivial⟩
  refine Halt.go (iter_range (m₀ := _) (n := cntN b) (HldJ wd b t W D0)
    rfl hr (range_n _ (by first | with_reducible assumption | with_reducible exact lt_num (by with_reducible assumption) (Nat.le_of_ble_eq_true rfl) | with_reducible exact le_num (by with_reducible assumption) (Nat.le_of_ble_eq_true rfl) | with_reducible exact le_le (by with_reducible assumption) (Nat.le_of_ble_eq_true rfl) | omega)).1 (range_n _ (by first | with_reducible assumption | with_reducible exact lt_num (by with_reducible assumption) (Nat.le_of_ble_eq_true rfl) | with_reducible exact le_num (by with_reducible assumption) (Nat.le_of_ble_eq_true rfl) | with_reducible exact le_le (by with_reducible assumption) (Nat.le_of_ble_eq_true rfl) | omega)).2 F Nw ⟨[], 0, by rw [hD0.1]; rfl, .nil, rfl, rfl, by rw [hD0.1]; rfl⟩ ?_ ?_)
  · clear F Nw hr
    rintro i t0 m₁ nx h tk I own hi ⟨tups, n, rfl, hP, m1, m2, m3⟩ hI hown ⟨oI, hoI, hoc2⟩ F Nw
    rw [Int.zero_add]
    k_steps
    clear F Nw
    rename Fr _ _ _ _ => F
    rename News _ _ _ _ => Nw
    refine Halt.go (Does.use (places_one b h1 h3 ⟨X', T'⟩ (by exact F.keep)) rfl (by first | exact room1 hd (Nat.le_of_ble_eq_true rfl) | exact room3 hu (Nat.le_of_ble_eq_true rfl) | (simp only [Around.deeper]; omega)) (by first | exact room1 hd (Nat.le_of_ble_eq_true rfl) | exact room3 hu (Nat.le_of_ble_eq_true rfl) | (simp only [Around.deeper]; omega)) ?_)
    rintro v h5 tk5 ⟨keep, tkp2, rfl⟩
    have F5 := F.keeps keep.stays
    have N5 := Nw.grown keep.stays
    clear F Nw keep
    (try dsimp only)
    k_steps
    rename Fr _ _ _ _ => F
    rename News _ _ _ _ => Nw
    rename IsRange _ _ _ _ _ _ _ _ => hr
    refine Halt.go (iter_range (m₀ := _) (n := plN b) (fun p m nx => nx = (D0, listOf (refsOf tups).toArray n) :: (tups ++ own) ∧ (∃ tt, m "text" = some (.str (txN b i p) tt)) ∧ (∃ tt, m "k" = some (.int (grN wd b i p : Nat) tt)) ∧ m "t" = some (.int (i : Int) t0) ∧ m "bits" = some (.int (b : Int) t) ∧ m "word" = some (.ref W) ∧ m "held" = some (.ref D0))
      rfl hr (range_n _ (by first | with_reducible assumption | with_reducible exact lt_num (by with_reducible assumption) (Nat.le_of_ble_eq_true rfl) | with_reducible exact le_num (by with_reducible assumption) (Nat.le_of_ble_eq_true rfl) | with_reducible exact le_le (by with_reducible assumption) (Nat.le_of_ble_eq_true rfl) | omega)).1 (range_n _ (by first | with_reducible assumption | with_reducible exact lt_num (by with_reducible assumption) (Nat.le_of_ble_eq_true rfl) | with_reducible exact le_num (by with_reducible assumption) (Nat.le_of_ble_eq_true rfl) | with_reducible exact le_le (by with_reducible assumption) (Nat.le_of_ble_eq_true rfl) | omega)).2 F Nw ⟨rfl, ⟨_, by rw [txN_zero]; rfl⟩, ⟨_, rfl⟩, rfl, m1, m2, m3⟩ ?_ ?_)
    · clear F Nw hr
      rintro p tp m₂ nx h6 tk6 I2 own2 hp ⟨rfl, ⟨tx1, q1⟩, ⟨tx2, q2⟩, q3, q4, q5, q6⟩ hI2 hown2 ⟨oI2, hoI2, hoc3⟩ F Nw
      have hpb : (p : Int) * (b : Int) = ((p * b : Nat) : Int) := (Int.natCast_mul ..).symm
      have hk1 : 0 ≤ (p : Int) * (b : Int) := by rw [hpb]; exact Int.natCast_nonneg _
      have hk2 : (0 : Int) ≤ (b : Int) := Int.natCast_nonneg _
      have hks2 : ((Builtin.Int.intBits 1 : Nat) : Int) + (b : Int) ≤ 2 ^ 27 := by rw [show Builtin.Int.intBits 1 = 1 by decide]; omega
      have hne : (1 : Int) * 2 ^ ((b : Int)).toNat ≠ 0 := by
        rw [Int.one_mul, two_pow_cast]
        have := Nat.two_pow_pos ((b : Int)).toNat
        omega
      have hpos : (0 : Int) < 1 * 2 ^ ((b : Int)).toNat := by
        rw [Int.one_mul, two_pow_cast]
        have := Nat.two_pow_pos ((b : Int)).toNat
        omega
      rw [Int.zero_add]
      k_steps
      rename _ = Int.fdiv _ _ => hd1
      rename _ = (1 : Int) * _ => hd2
      have hdig := dg_eq b i p
      rw [← hd1, ← hd2] at hdig
      refine Halt.go ?_
      rw [hdig]
      have hdl : dgN b i p < 8 := Nat.lt_of_lt_of_le (dgN_lt b i p) p6
      obtain ⟨dg, hdg⟩ : ∃ dg, dg = dgN b i p ∧ True := ⟨_, rfl, trivial⟩
      rw [← hdg.1] at hdig hdl ⊢
      clear hdig hd1 hd2
      have hsz : (txN b i p).length + (Txt.item (Str.ofString "abcdefgh") (dg : Int)).length ≤ sizeLine := by
        rw [txN_len, item_ah dg hdl, tx_len, sizeLine_eq]
        show p + 1 ≤ _
        omega
      have ht : txN b i (p + 1) = txN b i p ++ Txt.item (Str.ofString "abcdefgh") (dg : Int) := by rw [txN_succ, ← hdg.1, ← item_ah dg hdl]
      obtain ⟨kk, hkk⟩ : ∃ kk, kk = grN wd b i p ∧ True := ⟨_, rfl, trivial⟩
      have hkl : kk ≤ 4 := by
        have := grN_len wd b i p
        rw [hkk.1]; omega
      rw [← hkk.1] at q2
      k_steps
      · rename Fr _ _ _ _ => F
        rename News _ _ _ _ => Nw
        rename _ = (dg : Int) => eq
        have hg := gr_hit hkk.1 (by first | with_reducible assumption | with_reducible exact lt_num (by with_reducible assumption) (Nat.le_of_ble_eq_true rfl) | with_reducible exact le_num (by with_reducible assumption) (Nat.le_of_ble_eq_true rfl) | with_reducible exact le_le (by with_reducible assumption) (Nat.le_of_ble_eq_true rfl) | omega) eq (by rw [hdg.1])
        refine OurTurn.next (nx := (D0, listOf (refsOf tups).toArray n) :: (tups ++ own)) F Nw hI2 ?_
        dsimp only
        rw [ht, hg]
        exact ⟨rfl, ⟨_, rfl⟩, ⟨_, rfl⟩, q3, q4, q5, q6⟩
      · rename Fr _ _ _ _ => F
        rename News _ _ _ _ => Nw
        rename _ ≠ (dg : Int) => eq
        have hg := gr_miss hkk.1 (by first | with_reducible assumption | with_reducible exact lt_num (by with_reducible assumption) (Nat.le_of_ble_eq_true rfl) | with_reducible exact le_num (by with_reducible assumption) (Nat.le_of_ble_eq_true rfl) | with_reducible exact le_le (by with_reducible assumption) (Nat.le_of_ble_eq_true rfl) | omega) eq (by rw [hdg.1])
        refine OurTurn.next (nx := (D0, listOf (refsOf tups).toArray n) :: (tups ++ own)) F Nw hI2 ?_
        dsimp only
        rw [ht, hg]
        exact ⟨rfl, ⟨_, rfl⟩, ⟨_, q2⟩, q3, q4, q5, q6⟩
      · rename Fr _ _ _ _ => F
        rename News _ _ _ _ => Nw
        have hg := gr_end hkk.1 (by first | with_reducible assumption | with_reducible exact lt_num (by with_reducible assumption) (Nat.le_of_ble_eq_true rfl) | with_reducible exact le_num (by with_reducible assumption) (Nat.le_of_ble_eq_true rfl) | with_reducible exact le_le (by with_reducible assumption) (Nat.le_of_ble_eq_true rfl) | omega)
        refine OurTurn.next (nx := (D0, listOf (refsOf tups).toArray n) :: (tups ++ own)) F Nw hI2 ?_
        dsimp only
        rw [ht, hg]
        exact ⟨rfl, ⟨_, rfl⟩, ⟨_, q2⟩, q3, q4, q5, q6⟩
    · clear F Nw hr
      rintro m₂ nx h6 tk6 ⟨rfl, ⟨tx1, q1⟩, ⟨tx2, q2⟩, q3, q4, q5, q6⟩ F Nw
      have hne2 : ∀ p ∈ tups ++ own, p.1 ≠ D0 := by
        intro p hp
        rcases List.mem_append.mp hp with hp | hp
        · exact hP.ne (fun p hp => (Nw p (by first | ((repeat with_reducible refine List.mem_cons_of_mem _ ?_); first | exact hp | exact List.mem_append_left _ hp | exact List.mem_append_right _ hp | exact List.mem_append_right _ (List.mem_append_left _ hp) | exact List.mem_append_right _ (List.mem_append_right _ hp) | exact List.mem_append_left _ (List.mem_append_right _ hp) | exact List.mem_append_right _ (List.mem_append_right _ (List.mem_append_left _ hp))) | simp [hp])).1) (Nw _ (List.mem_cons_self ..)).1 (by first | ((repeat (first | with_reducible exact List.mem_cons_self .. | with_reducible refine List.mem_cons_of_mem _ ?_)); done) | simp) p hp
        · rw [hown p hp]; exact (hI _ (List.mem_cons_self ..)).symm
      have hsz : (refsOf tups).length ≤ 1000 := by rw [refsOf_length, hP.length, heldN_len]; omega
      (try dsimp only)
      k_steps
      rename Fr _ _ _ _ => F
      rename News _ _ _ _ => Nw
      obtain ⟨D2, hl1, F, Nw⟩ : ∃ D2, (@LT.lt Nat _ D0 D2 ∧ AllLt D2 (tups ++ own)) ∧ Fr _ _ _ _ ∧ News _ _ _ ((D2, tupObj (.int (grN wd b i (plN b) : Nat) tx2) (.str (txN b i (plN b)) tx1) 0) :: (D0, listOf ((refsOf tups).toArray.push (.ref D2)) (n + 1)) :: (tups ++ own)) := ⟨_, by assumption, F, Nw⟩
      refine OurTurn.next (nx := (D0, listOf (refsOf (tups ++ [(D2, tupObj (.int (grN wd b i (plN b) : Nat) tx2) (.str (txN b i (plN b)) tx1) 0)])).toArray (n + 1)) :: (tups ++ [(D2, tupObj (.int (grN wd b i (plN b) : Nat) tx2) (.str (txN b i (plN b)) tx1) 0)])) F (fun p hp => Nw p ?_) ?_ ⟨_, _, rfl, ?_, q4, q5, q6⟩
      · rw [refsOf_snoc] at hp
        simp only [List.push_toArray, List.mem_cons, List.mem_append, List.not_mem_nil, or_false, List.cons_append] at hp ⊢
        rcases hp with h | (h | h) | h
        · exact .inr (.inl h)
        · exact .inr (.inr (.inl h))
        · exact .inl h
        · exact .inr (.inr (.inr h))
      · intro p hp
        simp only [List.mem_cons, List.mem_append, List.not_mem_nil, or_false] at hp
        rcases hp with h | h | h
        · rw [h]; exact hI (D0, listOf (refsOf tups).toArray n) (List.mem_cons_self ..)
        · exact hI p (by first | ((repeat with_reducible refine List.mem_cons_of_mem _ ?_); first | exact h | exact List.mem_append_left _ h | exact List.mem_append_right _ h | exact List.mem_append_right _ (List.mem_append_left _ h) | exact List.mem_append_right _ (List.mem_append_right _ h) | exact List.mem_append_left _ (List.mem_append_right _ h) | exact List.mem_append_right _ (List.mem_append_right _ (List.mem_append_left _ h))) | simp [h])
        · rw [h]
          exact Ne.symm (allLt_ne hl1.2 (I, oI) (List.mem_append_right _ hoI))
      · rw [heldN_succ]
        exact hP.snoc ⟨_, _, _, rfl⟩
  · clear F Nw hr
    rintro m₂ nx h6 tk6 ⟨tups, n, rfl, hP, m1, m2, m3⟩ F Nw
    (try dsimp only)
    k_steps
    (first | (k_unmd; k_unfold; try dsimp only) | (try dsimp only))
    exact Done.mk ⟨keep_but (hid := []) F Nw (List.forall_mem_nil _) (List.forall_mem_nil _), D0, n, tups, rfl, hP, fun p hp => ⟨(Nw p hp).1, (Nw p hp).2.2⟩⟩
end Mine

end
section
-- PurW
theorem Mine.fresh_PurW : True := by
  w_top off
  trivial
open PySem PySem.W PyProof.Rows PySem.Calls PySem.Builtin.Str
set_option maxRecDepth 100000
namespace Mine
theorem cons_sub {a b : Nat} {l1 l2 : List Nat} : (a :: l1).Sublist (b :: l2) ↔ (a :: l1).Sublist l2 ∨ a = b ∧ l1.Sublist l2 := by
  constructor
  · intro h
    cases h with
    | cons _ h => exact .inl h
    | cons_cons _ h => exact .inr ⟨rfl, h⟩
  · rintro (h | ⟨rfl, h⟩)
    · exact h.trans (List.sublist_cons_self ..)
    · exact .cons_cons _ h
theorem at_one (l : List Nat) (c i hi : Nat) (hh : hi ≤ l.length) : StrLaws.At (tx l) (tx [c]) hi i ↔ i < hi ∧ l[i]? = some c := by
  have h := StrLaws.subAt_one (tx l) c i
  rw [tx_list, tx_len] at h
  unfold StrLaws.At
  constructor
  · rintro ⟨h1, h2⟩
    have h1' : i + 1 ≤ hi := h1
    exact ⟨h1', h.mp ⟨by show i + 1 ≤ _; omega, h2⟩⟩
  · rintro ⟨h1, h2⟩
    exact ⟨h1, (h.mpr h2).2⟩
theorem at_nil (x : Str) (hi i : Nat) (h : i ≤ hi) : StrLaws.At x (tx []) hi i := by
  refine ⟨h, ?_⟩
  rw [StrLaws.subAt_eq]
  show (List.take 0 _ == []) = true
  rw [List.take_zero]; rfl
theorem occ_head_to (x y : Str) (lo hi limit : Nat) (hl : 1 ≤ limit) :
    (occurrences x y lo hi limit = [] ∧ ∀ i, lo ≤ i → ¬ StrLaws.At x y hi i) ∨
    ∃ i r, occurrences x y lo hi limit = i :: r ∧ lo ≤ i ∧ StrLaws.At x y hi i ∧ ∀ k, lo ≤ k → k < i → ¬ StrLaws.At x y hi k := by
  rw [StrLaws.occ_eq]
  rcases StrLaws.occ_first x y hi limit hl (List.range' lo (hi + 1 - lo)) lo (fun i h => (List.mem_range'_1.mp h).1) with ⟨h0, hn⟩ | ⟨pre, a, post, e, h0, ha, hn⟩
  · refine .inl ⟨by rw [h0], fun i hlo h => ?_⟩
    exact hn i (by have := h.1; rw [List.mem_range'_1]; omega) h
  · have hs := StrLaws.range'_split_from e
    refine .inr ⟨a, ((forIn (List.range' lo (hi + 1 - lo)) ((#[] : Array Nat), lo) (StrLaws.occBody x y hi limit)).run.fst.toList).tail, ?_, hs.1, ha, fun k hk0 hk => hn k (hs.2 k hk0 hk)⟩
    generalize (forIn (List.range' lo (hi + 1 - lo)) ((#[] : Array Nat), lo) (StrLaws.occBody x y hi limit)).run.fst = arr at h0
    have h1 : arr.toList[0]? = some a := by simpa using h0
    cases hL : arr.toList with
    | nil => rw [hL] at h1; cases h1
    | cons b t => rw [hL] at h1; simp at h1; rw [h1]; rfl
theorem fromIndex_nat (n a : Nat) : fromIndex n ((a : Nat) : Int) = a := by
  unfold fromIndex
  rw [if_neg (by omega)]
  omega
theorem find4_spec (x y : Str) (p e : Nat) (he : e ≤ x.length) :
    (find4 x y (p : Int) (e : Int) = -1 ∧ ∀ i, p ≤ i → ¬ StrLaws.At x y e i) ∨ ∃ i : Nat, find4 x y (p : Int) (e : Int) = (i : Int) ∧ p ≤ i ∧ StrLaws.At x y e i ∧ ∀ k, p ≤ k → k < i → ¬ StrLaws.At x y e k := by
  unfold find4
  rw [fromIndex_nat, fromIndex_nat, Nat.min_eq_left he]
  rcases occ_head_to x y p e 1 (Nat.le_refl _) with ⟨h0, hn⟩ | ⟨i, r, h0, h1, h2, h3⟩
  · rw [h0]; exact .inl ⟨rfl, hn⟩
  · rw [h0]; exact .inr ⟨i, rfl, h1, h2, h3⟩
theorem find4_one {l : List Nat} {c p e : Nat} (he : e ≤ l.length) :
    (find4 (tx l) (tx [c]) (p : Int) (e : Int) = -1 ∧ ∀ i, p ≤ i → i < e → l[i]? ≠ some c) ∨ ∃ i : Nat, find4 (tx l) (tx [c]) (p : Int) (e : Int) = (i : Int) ∧ p ≤ i ∧ i < e ∧ l[i]? = some c ∧ ∀ k, p ≤ k → k < i → l[k]? ≠ some c := by
  rcases find4_spec (tx l) (tx [c]) p e (by rw [tx_len]; exact he) with ⟨h0, hn⟩ | ⟨i, h0, h1, h2, h3⟩
  · exact .inl ⟨h0, fun i h1 h2 h3 => hn i h1 ((at_one l c i e he).mpr ⟨h2, h3⟩)⟩
  · have h4 := (at_one l c i e he).mp h2
    exact .inr ⟨i, h0, h1, h4.1, h4.2, fun k k1 k2 k3 => h3 k k1 k2 ((at_one l c k e he).mpr ⟨by omega, k3⟩)⟩
theorem find4_nil {x : Str} {p e : Nat} (he : e ≤ x.length) (hp : p ≤ e) : find4 x (tx []) (p : Int) (e : Int) = (p : Int) := by
  rcases find4_spec x (tx []) p e he with ⟨_, hn⟩ | ⟨i, h0, h1, h2, h3⟩
  · exact absurd (at_nil x e p hp) (hn p (Nat.le_refl _))
  · rcases Nat.lt_or_ge p i with h | h
    · exact absurd (at_nil x e p hp) (h3 p (Nat.le_refl _) h)
    · rw [h0]; congr 1; omega
theorem ellGo_sub (g : List Nat) : ∀ (cs : List Nat) (p : Nat), p ≤ g.length → (ellGo (tx g) (g.length : Int) (cs.map (fun c => tx [c]) ++ [tx []]) (p : Int) = true ↔ cs.Sublist (g.drop p))
  | [], p, hp => by
    show ellGo (tx g) _ [tx []] _ = true ↔ _
    unfold ellGo
    rw [find4_nil (by rw [tx_len]; exact Nat.le_refl _) hp, if_neg (by omega)]
    exact ⟨fun _ => List.nil_sublist _, fun _ => rfl⟩
  | c :: cs, p, hp => by
    show ellGo (tx g) _ (tx [c] :: (cs.map (fun c => tx [c]) ++ [tx []])) _ = true ↔ _
    unfold ellGo
    have e1 : ∀ q : Nat, ((q : Nat) : Int) + (((tx [c]).length : Nat) : Int) = ((q + 1 : Nat) : Int) := fun q => by show ((q : Nat) : Int) + ((1 : Nat) : Int) = _; omega
    rcases find4_one (l := g) (c := c) (p := p) (e := g.length) (Nat.le_refl _) with ⟨h0, hn⟩ | ⟨i, h0, h1, h3, h4, h5⟩
    · rw [h0, if_pos (by decide)]
      refine ⟨fun h => (by cases h), fun h => ?_⟩
      have hm : c ∈ g.drop p := h.subset (List.mem_cons_self ..)
      obtain ⟨k, hk⟩ := List.getElem?_of_mem hm
      rw [List.getElem?_drop] at hk
      obtain ⟨hk2, _⟩ := List.getElem?_eq_some_iff.mp hk
      exact absurd hk (hn (p + k) (by omega) hk2)
    · rw [h0, if_neg (by omega), e1, ellGo_sub g cs (i + 1) (by omega)]
      obtain ⟨_, hg⟩ := List.getElem?_eq_some_iff.mp h4
      have hd : g.drop i = c :: g.drop (i + 1) := by rw [List.drop_eq_getElem_cons h3, hg]
      have hs : g.drop p = (g.drop p).take (i - p) ++ c :: g.drop (i + 1) := by
        rw [← hd]
        conv => lhs; rw [← List.take_append_drop (i - p) (g.drop p)]
        rw [List.drop_drop, show p + (i - p) = i by omega]
      have hno : c ∉ (g.drop p).take (i - p) := by
        intro hm
        obtain ⟨k, hk⟩ := List.getElem?_of_mem hm
        rw [List.getElem?_take] at hk
        split at hk
        · rw [List.getElem?_drop] at hk
          exact h5 (p + k) (by omega) (by omega) hk
        · cases hk
      rw [hs]
      constructor
      · intro h
        exact (List.Sublist.cons_cons c h).trans (List.sublist_append_right ..)
      · intro h
        generalize (g.drop p).take (i - p) = pre at hno h
        clear hs
        induction pre with
        | nil =>
          rcases cons_sub.mp h with h | ⟨_, h⟩
          · exact (List.sublist_cons_self ..).trans h
          · exact h
        | cons a pre ih =>
          simp only [List.mem_cons, not_or] at hno
          rcases cons_sub.mp h with h | ⟨h, _⟩
          · exact ih hno.2 h
          · exact absurd h hno.1
theorem ell_sub (g cs : List Nat) : ell1 (tx g) (tx []) (cs.map fun c => tx [c]) (tx []) = true ↔ cs.Sublist g := by
  unfold ell1
  rw [if_neg (by exact (by decide : ¬ ((((0 : Nat) : Int) != 0) = true)))]
  unfold ell2
  rw [if_neg (by exact (by decide : ¬ ((((0 : Nat) : Int) != 0) = true)))]
  unfold ell3
  rw [tx_len, if_neg (by omega)]
  show ellGo (tx g) _ (tx [] :: (cs.map (fun c => tx [c]) ++ [tx []])) ((0 : Nat) : Int) = true ↔ _
  unfold ellGo
  have e0 : ((0 : Nat) : Int) + (((tx []).length : Nat) : Int) = ((0 : Nat) : Int) := rfl
  rw [find4_nil (p := 0) (by rw [tx_len]; omega) (by omega), if_neg (by omega), e0, ellGo_sub g cs 0 (Nat.zero_le _)]
  rfl
/-- a pattern's signs -/
def wantC (cs : List Nat) : List Nat := [46, 46, 46] ++ cs.flatMap fun c => [c, 46, 46, 46]
theorem gr_sub (wd : List Nat) (b t : Nat) : ∀ (p j : Nat), j ≤ wd.length → (((wd.take j).map (97 + ·)).Sublist (cdsN b t p) ↔ j ≤ grN wd b t p)
  | 0, j, hj => by
    show List.Sublist _ [] ↔ j ≤ 0
    rw [List.sublist_nil, List.map_eq_nil_iff, List.take_eq_nil_iff]
    constructor
    · rintro (h | h)
      · omega
      · rw [h] at hj; exact hj
    · intro h; left; omega
  | p + 1, 0, hj => by simp
  | p + 1, j + 1, hj => by
    have hlt : j < wd.length := by omega
    have i1 := gr_sub wd b t p (j + 1) hj
    have i2 := gr_sub wd b t p j (by omega)
    have ht : wd.take (j + 1) = wd.take j ++ [wd[j]] := by rw [List.take_add_one, List.getElem?_eq_getElem hlt]; rfl
    rw [cdsN_succ]
    have e : ((wd.take (j + 1)).map (97 + ·)).Sublist (cdsN b t p ++ [97 + dgN b t p]) ↔ ((wd.take (j + 1)).map (97 + ·)).Sublist (cdsN b t p) ∨ (wd[j] = dgN b t p ∧ ((wd.take j).map (97 + ·)).Sublist (cdsN b t p)) := by
      rw [ht, List.map_append]
      rw [← List.reverse_sublist, ← List.reverse_sublist (l₁ := (wd.take j).map _), ← List.reverse_sublist (l₁ := _ ++ _)]
      simp only [List.reverse_append, List.map_cons, List.map_nil, List.reverse_cons, List.reverse_nil, List.nil_append, List.cons_append]
      rw [cons_sub]
      have : 97 + wd[j] = 97 + dgN b t p ↔ wd[j] = dgN b t p := by omega
      rw [this]
    rw [e, i1, i2]
    have hg : wd[j]? = some wd[j] := List.getElem?_eq_getElem hlt
    rw [grN]
    constructor
    · rintro (h | ⟨h1, h2⟩)
      · split <;> omega
      · rcases Nat.lt_or_ge j (grN wd b t p) with h | h
        · split <;> omega
        · have : grN wd b t p = j := by omega
          rw [this, hg, h1, if_pos rfl]; exact Nat.le_refl _
    · intro h
      split at h
      · rename_i hq
        rcases Nat.lt_or_ge j (grN wd b t p) with h2 | h2
        · exact .inl h2
        · have : grN wd b t p = j := by omega
          rw [this, hg] at hq
          exact .inr ⟨Option.some.inj hq, by omega⟩
      · exact .inl h
end Mine

end
section
-- PurX
theorem Mine.fresh_PurX : True := by
  w_top off
  trivial
open PySem PySem.W PyProof.Rows PySem.Calls PySem.Builtin.Str
set_option maxRecDepth 100000
namespace Mine
theorem sub3 (L : List Nat) (i : Nat) : subAt (tx L) (tx [46, 46, 46]) i = ((L.drop i).take 3 == [46, 46, 46]) := by
  rw [StrLaws.subAt_eq, tx_list, tx_list]; rfl
theorem dots_tx : dots = tx [46, 46, 46] := by kernel_rfl
theorem occs (cs : List Nat) (h : ∀ c ∈ cs, c ≠ 46) (hl : cs.length ≤ 4) : occurrences (tx (wantC cs)) dots 0 (tx (wantC cs)).length ((tx (wantC cs)).length + 1) = (List.range (cs.length + 1)).map (4 * ·) := by
  rw [dots_tx, StrLaws.occ_eq, tx_len]
  match cs, h, hl with
  | [], h, _ => simp [List.range', StrLaws.occBody, sub3, wantC, tx_len]
  | [a], h, _ =>
    have ha : a ≠ 46 := h a (by simp)
    simp [List.range', StrLaws.occBody, sub3, wantC, tx_len, ha, List.range_succ]
  | [a, b], h, _ =>
    have ha : a ≠ 46 := h a (by simp)
    have hb : b ≠ 46 := h b (by simp)
    simp [List.range', StrLaws.occBody, sub3, wantC, tx_len, ha, hb, List.range_succ]
  | [a, b, c], h, _ =>
    have ha : a ≠ 46 := h a (by simp)
    have hb : b ≠ 46 := h b (by simp)
    have hc : c ≠ 46 := h c (by simp)
    simp [List.range', StrLaws.occBody, sub3, wantC, tx_len, ha, hb, hc, List.range_succ]
  | [a, b, c, d], h, _ =>
    have ha : a ≠ 46 := h a (by simp)
    have hb : b ≠ 46 := h b (by simp)
    have hc : c ≠ 46 := h c (by simp)
    have hd : d ≠ 46 := h d (by simp)
    simp [List.range', StrLaws.occBody, sub3, wantC, tx_len, ha, hb, hc, hd, List.range_succ]
  | _ :: _ :: _ :: _ :: _ :: _, _, hl => simp only [List.length_cons] at hl; omega
theorem kind_dots (x : Str) : ¬ (Builtin.Str.strKind x < Builtin.Str.strKind dots) := by
  rw [show Builtin.Str.strKind dots = 1 from by decide +kernel]
  unfold Builtin.Str.strKind
  split
  · omega
  · split <;> omega
theorem split_want (cs : List Nat) (h : ∀ c ∈ cs, c ≠ 46) (hl : cs.length ≤ 4) : Txt.split (tx (wantC cs)) dots = tx [] :: (cs.map (fun c => tx [c]) ++ [tx []]) := by
  have ho := occs cs h hl
  unfold Txt.split
  rw [if_neg (by
    rw [decide_eq_false (kind_dots _), decide_eq_false (by rw [dots_tx, tx_len, tx_len]; unfold wantC; simp)]
    decide), ho, if_neg (by rw [List.range_succ]; simp), StrLaws.partsBetween_eq]
  match cs, hl with
  | [], _ => rfl
  | [a], _ => rfl
  | [a, b], _ => rfl
  | [a, b, c], _ => rfl
  | [a, b, c, d], _ => rfl
  | _ :: _ :: _ :: _ :: _ :: _, hl => simp only [List.length_cons] at hl; omega
theorem occ_want (cs : List Nat) : (occurrences (tx (wantC cs)) dots 0 (tx (wantC cs)).length 1).isEmpty = false := by
  have h := StrLaws.found_iff (tx (wantC cs)) dots
  cases hq : (occurrences (tx (wantC cs)) dots 0 (tx (wantC cs)).length 1).isEmpty with
  | false => rfl
  | true =>
    rw [hq] at h
    exfalso
    have h2 := h.mpr ⟨0, by rw [dots_tx, tx_len, tx_len]; simp [wantC], by rw [dots_tx, sub3]; simp [wantC]⟩
    cases h2
theorem ellip_want (cs g : List Nat) (h : ∀ c ∈ cs, c ≠ 46) (hl : cs.length ≤ 4) : ellip (tx (wantC cs)) (tx g) = decide (cs.Sublist g) := by
  unfold ellip
  rw [occ_want, split_want cs h hl]
  simp only [Bool.false_eq_true, if_false]
  rw [List.dropLast_concat, List.getLastD_concat]
  rw [Bool.eq_iff_iff, ell_sub, decide_eq_true_iff]
/-- the pattern of a word's first j letters -/
def wantN (wd : List Nat) (j : Nat) : Str := tx (wantC ((wd.take j).map (97 + ·)))
theorem wantN_ell (wd : List Nat) (b t p j : Nat) (hj : j ≤ wd.length) (hl : wd.length ≤ 4) : ellip (wantN wd j) (txN b t p) = decide (j ≤ grN wd b t p) := by
  unfold wantN txN
  rw [ellip_want _ _ (by intro c hc; obtain ⟨d, _, rfl⟩ := List.mem_map.mp hc; show 97 + d ≠ 46; omega) (by rw [List.length_map, List.length_take]; omega), decide_eq_decide]
  exact gr_sub wd b t p j hj
end Mine

end
section
-- LowP
theorem Mine.fresh_LowP : True := by
  w_top off
  trivial
open PySem PySem.W PyProof.Rows PySem.Calls PySem.Builtin.Str
set_option maxRecDepth 100000
namespace Mine
theorem flat_ones {l : List Nat} {g : Nat → Nat} {a : Array (Array Nat)} (h : a = (l.map fun c => #[g c]).toArray) : a.flatten = (l.map g).toArray := by
  subst h
  apply Array.toList_inj.mp
  simp only [Array.toList_flatten, List.map_map]
  induction l with
  | nil => rfl
  | cons x r ih => simp_all
theorem lower_g {l : List Nat} {g : Nat → Nat} (h : ∀ c ∈ l, c ≠ 0x3A3 ∧ Unicode.lowerOf c = [g c]) : Txt.lower (tx l) = tx (l.map g) := by
  apply Str.ext'
  show Array.flatten _ = _
  refine flat_ones ?_
  apply Array.ext
  · simp [tx]
  · intro i h1 h2
    have hi : i < l.length := by simpa using h2
    obtain ⟨a, b⟩ := h _ (List.getElem_mem hi)
    have e : Unicode.lowerAt (tx l).cps i = [g l[i]] := by
      have e1 : (tx l).cps[i]? = some l[i] := by simp [tx, hi]
      unfold Unicode.lowerAt
      rw [e1]
      show (if (l[i] == 0x3A3 && Unicode.endsWord (tx l).cps i) = true then _ else _) = _
      have e2 : (l[i] == 0x3A3) = false := by simpa using a
      rw [e2, b]; rfl
    rw [Array.getElem_mapIdx]
    show (Unicode.lowerAt (tx l).cps i).toArray = _
    rw [e]
    simp
theorem upper_g {l : List Nat} {g : Nat → Nat} (h : ∀ c ∈ l, Unicode.upperOf c = [g c]) : Txt.upper (tx l) = tx (l.map g) := by
  apply Str.ext'
  show Array.flatten _ = _
  refine flat_ones ?_
  apply Array.ext
  · simp [tx]
  · intro i h1 h2
    have hi : i < l.length := by simpa using h2
    have b := h _ (List.getElem_mem hi)
    simp only [Array.getElem_mapIdx, List.getElem_toArray, List.getElem_map, tx]
    rw [b]
def upg (c : Nat) : Nat := if c = 46 then 46 else c - 32
def log (c : Nat) : Nat := if c = 46 then 46 else if c < 97 then c + 32 else c
theorem case_fin : (∀ c : Fin 8, Unicode.lowerOf (97 + c) = [97 + c.val] ∧ Unicode.upperOf (97 + c) = [65 + c.val] ∧ Unicode.lowerOf (65 + c) = [97 + c.val]) ∧ Unicode.lowerOf 46 = [46] ∧ Unicode.upperOf 46 = [46] := by decide +kernel
theorem case_of {c : Nat} (h : c = 46 ∨ (97 ≤ c ∧ c < 105)) : Unicode.lowerOf c = [c] ∧ Unicode.upperOf c = [upg c] ∧ Unicode.lowerOf (upg c) = [c] ∧ c ≠ 0x3A3 ∧ upg c ≠ 0x3A3 := by
  obtain ⟨h1, h2, h3⟩ := case_fin
  rcases h with rfl | ⟨a, b⟩
  · exact ⟨h2, h3, h2, by decide, by decide⟩
  · obtain ⟨d, rfl⟩ : ∃ d, c = 97 + d := ⟨c - 97, by omega⟩
    obtain ⟨k1, k2, k3⟩ := h1 ⟨d, by omega⟩
    have e : upg (97 + d) = 65 + d := by unfold upg; rw [if_neg (by omega)]; omega
    rw [e]
    exact ⟨k1, k2, k3, by omega, by omega⟩
theorem lower_tx {l : List Nat} (h : ∀ c ∈ l, c = 46 ∨ (97 ≤ c ∧ c < 105)) : Txt.lower (tx l) = tx l := by
  have := lower_g (l := l) (g := id) fun c hc => ⟨(case_of (h c hc)).2.2.2.1, (case_of (h c hc)).1⟩
  rw [List.map_id] at this; exact this
theorem upper_tx {l : List Nat} (h : ∀ c ∈ l, c = 46 ∨ (97 ≤ c ∧ c < 105)) : Txt.upper (tx l) = tx (l.map upg) := upper_g fun c hc => (case_of (h c hc)).2.1
theorem lower_up {l : List Nat} (h : ∀ c ∈ l, c = 46 ∨ (97 ≤ c ∧ c < 105)) : Txt.lower (Txt.upper (tx l)) = tx l := by
  rw [upper_tx h, lower_g (g := log) (l := l.map upg)]
  · rw [List.map_map]
    congr 1
    conv => rhs; rw [← List.map_id l]
    refine List.map_congr_left fun c hc => ?_
    show log (upg c) = c
    unfold log upg
    rcases h c hc with rfl | ⟨a, b⟩
    · rfl
    · rw [if_neg (show c ≠ 46 by omega), if_neg (by omega), if_pos (by omega)]; omega
  · intro c hc
    obtain ⟨d, hd, rfl⟩ := List.mem_map.mp hc
    obtain ⟨_, _, k3, _, k5⟩ := case_of (h d hd)
    refine ⟨k5, ?_⟩
    rw [k3]
    congr 1
    unfold log upg
    rcases h d hd with rfl | ⟨a, b⟩
    · rfl
    · rw [if_neg (show d ≠ 46 by omega), if_neg (by omega), if_pos (by omega)]; omega
end Mine

end
section
-- FilP
theorem Mine.fresh_FilP : True := by
  w_top off
  trivial
open PySem PySem.W PyProof.Rows PySem.Calls PySem.Builtin.Str
set_option maxRecDepth 100000
namespace Mine
theorem digs_file {b t : Nat} (h1 : 1 ≤ b) (h3 : b ≤ 3) (ht : t < cntN b) : digs (2 ^ b) (ndig b (cntN b + t)) (cntN b + t) = (List.range (plN b)).map (fun p => ((dgN b t p : Nat) : Int)) ++ [1] := by
  have k1 : ∀ t : Fin 32, digs (2 ^ 1) (ndig 1 (cntN 1 + t)) (cntN 1 + t) = (List.range (plN 1)).map (fun p => ((dgN 1 t p : Nat) : Int)) ++ [1] := by decide +kernel
  have k2 : ∀ t : Fin 64, digs (2 ^ 2) (ndig 2 (cntN 2 + t)) (cntN 2 + t) = (List.range (plN 2)).map (fun p => ((dgN 2 t p : Nat) : Int)) ++ [1] := by decide +kernel
  have k3 : ∀ t : Fin 64, digs (2 ^ 3) (ndig 3 (cntN 3 + t)) (cntN 3 + t) = (List.range (plN 3)).map (fun p => ((dgN 3 t p : Nat) : Int)) ++ [1] := by decide +kernel
  rcases bit_cases h1 h3 with rfl | rfl | rfl
  · exact k1 ⟨t, ht⟩
  · exact k2 ⟨t, ht⟩
  · exact k3 ⟨t, ht⟩
theorem join_ones (l : List Nat) : Txt.join (Str.ofString "") (l.map fun c => tx [c]) = tx l := by
  show PySem.Builtin.Str.glued _ _ = _
  rw [StrLaws.glued_eq_join]
  induction l with
  | nil => rfl
  | cons a r ih =>
    cases r with
    | nil => rfl
    | cons b r =>
      show tx [a] ++ Str.ofString "" ++ Str.join _ ((b :: r).map fun c => tx [c]) = _
      rw [ih]
      apply Str.ext'
      rw [Str.cps_append, Str.cps_append]
      simp [tx, show (Str.ofString "").cps = #[] from rfl]
/-- the rows of a file of the first n texts -/
def rowN (wd : List Nat) (b t : Nat) : Str × Str := (wantN wd (grN wd b t (plN b)), txN b t (plN b))
def fileN (wd : List Nat) (b : Nat) : Nat → List (Str × Str)
  | 0 => []
  | n + 1 => fileN wd b n ++ [rowN wd b n] ++ [rowN wd b n]
theorem fileN_len (wd : List Nat) (b : Nat) : ∀ n, (fileN wd b n).length = 2 * n
  | 0 => rfl
  | n + 1 => by rw [fileN, List.length_append, List.length_append, fileN_len wd b n]; simp; omega
theorem safe_tx {l : List Nat} (h : ∀ c ∈ l, 32 ≤ c ∧ c < 127) : Safe (tx l) := by
  unfold Safe; rw [tx_list]; exact h
theorem wantC_mem {cs : List Nat} {c : Nat} (h : c ∈ wantC cs) : c = 46 ∨ c ∈ cs := by
  unfold wantC at h
  simp only [List.mem_append, List.mem_cons, List.not_mem_nil, or_false, List.mem_flatMap] at h
  rcases h with (h | h | h) | ⟨a, ha, h | h | h | h⟩
  · exact .inl h
  · exact .inl h
  · exact .inl h
  · exact .inr (h ▸ ha)
  · exact .inl h
  · exact .inl h
  · exact .inl h
theorem wantC_len (cs : List Nat) : (wantC cs).length = 3 + 4 * cs.length := by
  unfold wantC
  rw [List.length_append]
  have : ∀ l : List Nat, (l.flatMap fun c => [c, 46, 46, 46]).length = 4 * l.length := by
    intro l
    induction l with
    | nil => rfl
    | cons a l ih => rw [List.flatMap_cons, List.length_append, ih, List.length_cons]; simp; omega
  rw [this]; rfl
theorem wantN_len {wd : List Nat} {j : Nat} (hl : wd.length ≤ 4) : (wantN wd j).length ≤ 19 := by
  unfold wantN
  rw [tx_len, wantC_len, List.length_map, List.length_take]; omega
theorem wantN_mem {wd : List Nat} {j : Nat} (hd : ∀ d ∈ wd, d < 8) : ∀ c ∈ wantC ((wd.take j).map (97 + ·)), c = 46 ∨ (97 ≤ c ∧ c < 105) := by
  intro c hc
  rcases wantC_mem hc with h | h
  · exact .inl h
  · obtain ⟨d, hd2, rfl⟩ := List.mem_map.mp h
    have := hd d (List.mem_of_mem_take hd2)
    show _ ∨ (97 ≤ 97 + d ∧ 97 + d < 105)
    omega
theorem wantN_ok {wd : List Nat} {j : Nat} (hd : ∀ d ∈ wd, d < 8) (hl : wd.length ≤ 4) : NmOk (wantN wd j) := by
  have hm := wantN_mem (j := j) hd
  have hs : Safe (wantN wd j) := safe_tx fun c hc => by rcases hm c hc with h | h <;> omega
  refine ⟨hs, ?_, by have := wantN_len (j := j) hl; omega⟩
  unfold wantN at hs ⊢
  rw [lower_tx hm]; exact hs
theorem txN_safe {b t p : Nat} (hb : b ≤ 3) : Safe (txN b t p) := safe_tx fun c hc => by
  unfold cdsN at hc
  obtain ⟨i, _, rfl⟩ := List.mem_map.mp hc
  have h1 := dgN_lt b t i
  have h2 : 2 ^ b ≤ 2 ^ 3 := Nat.pow_le_pow_right (by decide) hb
  have h3 : (2 : Nat) ^ 3 = 8 := rfl
  omega
theorem rowN_ok {wd : List Nat} {b : Nat} (hd : ∀ d ∈ wd, d < 8) (hl : wd.length ≤ 4) (hb : b ≤ 3) (hp : plN b ≤ 5) : ∀ n, n ≤ 64 → RowsOk (fileN wd b n) := fun n hn => by
  refine ⟨?_, by rw [fileN_len]; omega⟩
  have one : ∀ t, Safe (rowN wd b t).1 ∧ Safe (rowN wd b t).2 ∧ (rowN wd b t).1.length ≤ 1000 ∧ (rowN wd b t).2.length ≤ 1000 := fun t =>
    ⟨(wantN_ok hd hl).safe, txN_safe hb, by have := wantN_len (wd := wd) (j := grN wd b t (plN b)) hl; show (wantN _ _).length ≤ _; omega, by show (txN b t (plN b)).length ≤ _; rw [txN_len]; omega⟩
  clear hn
  induction n with
  | zero => intro r hr; cases hr
  | succ n ih =>
    intro r hr
    rw [fileN] at hr
    rcases List.mem_append.mp hr with hr | hr
    · rcases List.mem_append.mp hr with hr | hr
      · exact ih r hr
      · rw [List.mem_singleton.mp hr]; exact one n
    · rw [List.mem_singleton.mp hr]; exact one n
end Mine

end
section
-- Fil02
theorem Mine.fresh_Fil02 : True := by
  w_top off
  trivial
open PySem PySem.W PyProof.Rows PySem.Calls PySem.Builtin.Str
set_option maxRecDepth 100000
set_option maxHeartbeats 1000000
set_option pp.deepTerms false
namespace Mine
theorem notFld_plain {c : Value} {d : Option Addr} {sl : Array (Option Value)} : NotFld ⟨c, d, .plain, sl⟩ := fun _ e => by cases e
theorem notFld_dict {es : List DictEntry} {n : Nat} : NotFld (dictOf es n) := fun _ e => by cases e
theorem IntsAre.dropLast {x : Int} : ∀ {ds : List Int} {vs : List Value}, IntsAre vs (ds ++ [x]) → IntsAre vs.dropLast ds
  | [], _, h => by
    cases h with
    | cons _ _ t => cases t; exact .nil
  | d :: ds, _, h => by
    cases h with
    | @cons _ _ vs _ t =>
      have h2 := IntsAre.dropLast t
      have h3 := t.length
      cases vs with
      | nil => simp at h3
      | cons v vs => exact .cons _ _ h2
theorem pick_init (vs : List Value) : (slicePick vs.toArray none (some (-1)) none).toList = vs.dropLast := by
  have e : sliceBounds none (some (-1)) none vs.toArray.size = (((0 : Nat) : Int), ((vs.length - 1 : Nat) : Int), 1) := by
    unfold sliceBounds
    simp only [List.size_toArray, Option.getD_none, show ((1 : Int) > 0) = True by decide, show ((-1 : Int) < 0) = True by decide, if_true]
    refine Prod.ext rfl (Prod.ext ?_ rfl)
    show max 0 (min (-1 + (vs.length : Int)) (vs.length : Int)) = ((vs.length - 1 : Nat) : Int)
    omega
  rw [kmk_pick_nat _ e, List.drop_zero, Nat.sub_zero, List.toList_toArray, List.dropLast_eq_take]
theorem item_w {prog : Program} {w : World} {A : Around} {E : Value → Shared → Prop} {s : Shared} {h₀ : Heap} {L W : Addr} {m : Str → Option Value} {value slice : Expr} {ws : List (Str × Tok)} {wd : List Nat} {k : Int} {u : Tok} {Q : Value → Shared → Prop} (j : Nat) (F : Fr h₀ L s.heap m) (hl : h₀.IsList W (strValues ws).toArray)
    (hws : ws.map (·.1) = (List.range (wd.length + 1)).map (wantN wd)) (hk : k = (j : Int)) (hj : j ≤ wd.length) (hd : wd.length ≤ 4) (h : ∀ t', Q (.str (wantN wd j) t') s)
    (hs : subscripted slice false (.ref W) (.int k u) = operate [.ref W, .int k u] (getItem (.ref W) (.int k u)) := by with_unfolding_all rfl) :
    wpAny (model prog w) A (subscriptTail value slice (.ref W) (.int k u)) Q E s := by
  have hlen : ws.length = wd.length + 1 := by have := congrArg List.length hws; simpa using this
  refine item_strsT (stays_list F.keep hl) (by first | with_reducible assumption | with_reducible exact lt_num (by with_reducible assumption) (Nat.le_of_ble_eq_true rfl) | with_reducible exact le_num (by with_reducible assumption) (Nat.le_of_ble_eq_true rfl) | with_reducible exact le_le (by with_reducible assumption) (Nat.le_of_ble_eq_true rfl) | omega) (by first | with_reducible assumption | with_reducible exact lt_num (by with_reducible assumption) (Nat.le_of_ble_eq_true rfl) | with_reducible exact le_num (by with_reducible assumption) (Nat.le_of_ble_eq_true rfl) | with_reducible exact le_le (by with_reducible assumption) (Nat.le_of_ble_eq_true rfl) | omega) (by first | with_reducible assumption | with_reducible exact lt_num (by with_reducible assumption) (Nat.le_of_ble_eq_true rfl) | with_reducible exact le_num (by with_reducible assumption) (Nat.le_of_ble_eq_true rfl) | with_reducible exact le_le (by with_reducible assumption) (Nat.le_of_ble_eq_true rfl) | omega) (fun y t' hy => ?_) hs
  rw [hws, hk, Int.toNat_natCast, List.getElem?_map, List.getElem?_range (by first | with_reducible assumption | with_reducible exact lt_num (by with_reducible assumption) (Nat.le_of_ble_eq_true rfl) | with_reducible exact le_num (by with_reducible assumption) (Nat.le_of_ble_eq_true rfl) | with_reducible exact le_le (by with_reducible assumption) (Nat.le_of_ble_eq_true rfl) | omega)] at hy
  rw [← Option.some.inj hy]
  exact h t'
local macro_rules | `(tactic| k_room) => `(tactic| ((try simp only [Around.deeper, recursionLimit] at *); omega))
local macro_rules | `(tactic| k_units) => `(tactic| ((try simp only [Around.deeper, Around.in1, cLine] at *); omega))
local macro_rules | `(tactic| k_all) => `(tactic| first | with_reducible assumption | exact allLt_ne (by with_reducible assumption) | exact Low.ne (by with_reducible assumption) (by omega) | (exact Low.ne (by assumption) (by omega)))
local macro_rules | `(tactic| walk_at "eval Name") => `(tactic| (k_here; k_dflt (refine' ld ?k1 ?k2 ?_; (case k1 => k_asm); (case k2 => first | exact rfl | assumption); k_whole)))
local macro_rules | `(tactic| walk_at "loadName") => `(tactic| (k_here; k_dflt (refine' ldn ?k1 ?k2 ?_; (case k1 => k_asm); (case k2 => first | exact rfl | assumption); k_whole)))
local macro_rules | `(tactic| walk_at "exec For Name Call cons nil") => `(tactic| (k_here; k_dflt (refine' for_ownF ?k1 ?_ ?k2 ?k3; (case k1 => k_asm); (case k2 => (intro _; rfl)); (case k3 => passes_own))))
local macro_rules | `(tactic| walk_at "pyIter ref") => `(tactic| (k_here; refine Halt.mk ?_))
local macro_rules | `(tactic| walk_at "call ref") => `(tactic| (k_here; refine Halt.mk ?_))
local macro_rules | `(tactic| walk_at "exec While") => `(tactic| (k_here; refine Halt.mk ?_))
local macro_rules | `(tactic| walk_at "exec While BoolOp") => `(tactic| (k_here; refine Halt.mk ?_))
local macro_rules | `(tactic| walk_at "binaryOp LShift int int") => `(tactic| (refine' lshiftG ?k1 ?k2 ?_; (case k1 => with_reducible assumption); (case k2 => with_reducible assumption); intro _ _ _ _))
local macro_rules | `(tactic| walk_at "subscriptTail Name Slice ref ref") => `(tactic| (k_here; (with_reducible show wpAny _ _ (subscriptTail _ (PySem.Expr.Slice _ _ none _) (Value.ref _) (Value.ref _)) _ _ _); k_dflt (refine' kmk_slice_lit ?F ?N ?l ?p ?q ?e ?_ ?s ?t ?z; (case F => k_asm); (case N => k_asm); (case l => kmk_list); (case p => kmk_part); (case q => kmk_part); (case e => with_reducible assumption); (case s => with_unfolding_all rfl); (case t => kmk_pure); (case z => with_reducible assumption)); intro D' h' F' N' l1; (try k_lt l1); (try k_sweep)))
local macro_rules | `(tactic| walk_at "eval ListComp") => `(tactic| (k_here; refine Halt.mk ?_))
local macro_rules | `(tactic| walk_at "CompSrc") => `(tactic| (refine Halt.mk ?_))
local macro_rules | `(tactic| walk_at "call builtin:len") => `(tactic| (k_here; (with_reducible show wpAny _ _ (call (Value.builtin "len") [Value.ref _]) _ _ _); k_dflt (refine' lenB ?k1 ?k2 ?k3 ?_; (case k1 => k_asm); (case k2 => with_reducible assumption); (case k3 => assumption); k_whole); intro _ _))
local macro_rules | `(tactic| walk_at "subscriptTail Name BinOp ref int") => `(tactic| (k_here; refine Halt.mk ?_))
local macro_rules | `(tactic| walk_at "subscriptTail Name Name ref int") => `(tactic| (k_here; refine Halt.mk ?_))
inductive FilJ (w : World) (wd : List Nat) (b : Nat) (t : Tok) (W x dx l : Addr) (tok : Tok) (tl : List (Addr × Obj)) (i : Nat) (m : Str → Option Value) (nx : List (Addr × Obj)) : Prop
  | mk (tups : List (Addr × Obj)) (n : Nat) (tl' : List (Addr × Obj)) (q1 : TupsAre tups (fileN wd b i)) (q2 : TabS S1 S2 tl') (q3 : (∀ a ∈ tl.map (·.1), a ∈ tl'.map (·.1))) (q4 : nx = (x, instObj 182 dx) :: (dx, dictOf (hdrE w tok l) 1) :: (l, listOf (refsOf tups).toArray n) :: (tl' ++ tups)) (q5 : m "bits" = some (.int (b : Int) t)) (q6 : m "wants" = some (.ref W)) (q7 : m "table" = some (.ref x)) (q8 : ∃ tc, m "count" = some (.int (cntN b : Nat) tc)) : FilJ w wd b t W x dx l tok tl i m nx
inductive FilP2 (s : Shared) (w : World) (wd : List Nat) (b : Nat) (t : Tok) (W x dx l L' : Addr) (tok : Tok) (tl own tups : List (Addr × Obj)) (n i : Nat) (I : Addr) (s' : Shared) : Prop
  | mk (h : Heap) (tk : Nat) (m : Str → Option Value) (tl2 : List (Addr × Obj)) (q1 : s' = { s with heap := h, toks := tk }) (q2 : Fr (hideAll s.heap (tl.map (·.1))) L' h m) (q3 : News (hideAll s.heap (tl.map (·.1))) L' h ((x, instObj 182 dx) :: (dx, dictOf (hdrE w tok l) 1) :: (l, listOf (refsOf tups).toArray n) :: (tl2 ++ (tups ++ own)))) (q4 : TabS S1 S2 tl2) (q5 : (∀ a ∈ tl.map (·.1), a ∈ tl2.map (·.1))) (q6 : (∀ p ∈ tl2, p.1 ≠ I)) (q7 : (∃ t, m "k" = some (.int (grN wd b i (plN b) : Nat) t))) (q8 : (∃ t, m "text" = some (.str (txN b i (plN b)) t))) (q9 : m "bits" = some (.int (b : Int) t)) (q10 : m "wants" = some (.ref W)) (q11 : m "table" = some (.ref x)) (q12 : ∃ tc, m "count" = some (.int (cntN b : Nat) tc)) : FilP2 s w wd b t W x dx l L' tok tl own tups n i I s'
inductive FilW (w : World) (wd : List Nat) (b : Nat) (t : Tok) (W x dx l : Addr) (tok : Tok) (tups rest2 : List (Addr × Obj)) (n i : Nat) (kk : Nat) (m : Str → Option Value) (nx : List (Addr × Obj)) : Prop
  | mk (k : Nat) (q1 : kk = wd.length - k) (q2 : k ≤ grN wd b i (plN b)) (q3 : nx = (x, instObj 182 dx) :: (dx, dictOf (hdrE w tok l) 1) :: (l, listOf (refsOf tups).toArray n) :: rest2) (q4 : (∃ t, m "k" = some (.int (k : Nat) t))) (q5 : (∃ t, m "text" = some (.str (txN b i (plN b)) t))) (q6 : m "bits" = some (.int (b : Int) t)) (q7 : m "wants" = some (.ref W)) (q8 : m "table" = some (.ref x)) (q9 : ∃ tc, m "count" = some (.int (cntN b : Nat) tc)) : FilW w wd b t W x dx l tok tups rest2 n i kk m nx
theorem file_spec {w : World} {s : Shared} {B : Heap} {loose mean mg mb} {b : Nat} {t : Tok} {W : Addr} {ws : List (Str × Tok)} {wd : List Nat} {tl : List (Addr × Obj)}
    (G : Gd (Mine.hd02.heap_39 w.params) loose mean mg mb B) (hB : B.StaysIn s.heap) (hS : TabS S1 S2 tl) (htl : ∀ p ∈ tl, s.heap.get? p.1 = some p.2 ∧ B.get? p.1 = none) (h1 : 1 ≤ b) (h3 : b ≤ 3) {nW : Nat}
    (hW : s.heap.get? W = some (listOf (strValues ws).toArray nW)) (hws : ws.map (·.1) = (List.range (wd.length + 1)).map (wantN wd)) (hl : wd.length ≤ 4) (hwd : ∀ d ∈ wd, d < 8) :
    Does (model PySem.Challenge.rw_pg0310_02.row.prog w) 250 1200 (call (.ref 247) [.int (b : Int) t, .ref W]) s (fun v h' => TabPost S1 S2 tl s.heap h' ∧ ∃ x dx l tok tups n, v = .ref x ∧ TupsAre tups (fileN wd b (cntN b)) ∧
      ∀ p ∈ (x, instObj 182 dx) :: (dx, dictOf (hdrE w tok l) 1) :: (l, listOf (refsOf tups).toArray n) :: tups, h'.get? p.1 = some p.2 ∧ s.heap.get? p.1 = none) := by
  intro d0 u0 fr gs hd hu
  revert G
  k_fill
  intro G
  refine' enter (binds := [("bits", .int (b : Int) t), ("wants", .ref W)]) G hB tl htl ?k6 ?k7 ?k8 ?k9 ?kB ?_ ?c2 ?c3 ?c4 ?c5; (case k6 => k_is); (case k7 => k_is); (case k8 => k_room); (case k9 => exact BindsTo.of_eq rfl);  (case c5 => decide); (case kB => exact locs rfl); (case c2 => exact rfl); (case c3 => exact rfl); (case c4 => exact rfl)
  intro g' L' h' hg' F' N' hlow X' T'
  have hg' : g' = hideAll s.heap (tl.map (·.1)) := hg'
  subst hg'
  have hlow : Low L' tl := hlow
  obtain ⟨p1, p2, p3, p4, p5, p6⟩ := pl_le h1 h3
  have hW0 : W ∉ tl.map (·.1) := fun q => by
    obtain ⟨p, hp, rfl⟩ := List.mem_map.mp q
    have h1 := (htl p hp).1
    rw [hW] at h1
    obtain ⟨fs, hf⟩ := hS.fld p hp
    rw [← Option.some.inj h1] at hf
    cases hf
  have hW1 : (hideAll s.heap (tl.map (·.1))).IsList W (strValues ws).toArray := ⟨_, hideAll_get _ hW hW0, rfl, _, rfl⟩
  have hwl : (strValues ws).length = wd.length + 1 := by
    have := congrArg List.length hws
    simpa [strValues] using this
  have hwl2 : (strValues ws).length ≤ 1000000 := by omega
  (try dsimp only)
  (try k_fold)
  k_steps
  rename Fr _ _ _ _ => F
  rename News _ _ _ _ => Nw
  rename Addr => l
  refine Halt.go (make_spec (tups := []) (rows := []) (n := 0) ⟨X', T'⟩ (by exact F) (by exact Nw) (by exact List.mem_cons_self ..) .nil (List.forall_mem_nil _) ⟨List.forall_mem_nil _, by decide⟩ rfl (by first | exact room1 hd (Nat.le_of_ble_eq_true rfl) | exact room3 hu (Nat.le_of_ble_eq_true rfl) | (simp only [Around.deeper]; omega)) (by first | exact room1 hd (Nat.le_of_ble_eq_true rfl) | exact room3 hu (Nat.le_of_ble_eq_true rfl) | (simp only [Around.deeper]; omega)) ?_)
  intro x dx tok hh1 tk1 F1 N1 l1 l2
  clear F Nw
  (try dsimp only)
  k_steps
  rename Fr _ _ _ _ => F
  rename News _ _ _ _ => Nw
  refine Halt.go (Does.use (places_one b h1 h3 ⟨X', T'⟩ (by exact F.keep)) rfl (by first | exact room1 hd (Nat.le_of_ble_eq_true rfl) | exact room3 hu (Nat.le_of_ble_eq_true rfl) | (simp only [Around.deeper]; omega)) (by first | exact room1 hd (Nat.le_of_ble_eq_true rfl) | exact room3 hu (Nat.le_of_ble_eq_true rfl) | (simp only [Around.deeper]; omega)) ?_)
  rintro v h4 tk4 ⟨keep, tkp, rfl⟩
  have F4 := F.keeps keep.stays
  have N4 := Nw.grown keep.stays
  clear F Nw keep
  have hbp : (b : Int) * (plN b : Int) = ((b * plN b : Nat) : Int) := (Int.natCast_mul ..).symm
  have ek : (1 : Int) * 2 ^ ((b : Int) * (plN b : Int)).toNat = ((cntN b : Nat) : Int) := by rw [hbp, Int.toNat_natCast, Int.one_mul, two_pow_cast]; rfl
  have hk0 : 0 ≤ (b : Int) * (plN b : Int) := by rw [hbp]; exact Int.natCast_nonneg _
  have hks : ((Builtin.Int.intBits 1 : Nat) : Int) + (b : Int) * (plN b : Int) ≤ 2 ^ 27 := by rw [hbp, show Builtin.Int.intBits 1 = 1 by decide]; omega
  (try dsimp only)
  k_steps
  rename _ = (1 : Int) * 2 ^ _ => hM
  rw [ek] at hM
  subst hM
  rename Fr _ _ _ _ => F
  rename News _ _ _ _ => Nw
  rename IsRange _ _ _ _ _ _ _ _ => hr
  refine Halt.go (iter_range (m₀ := _) (n := cntN b) (FilJ w wd b t W x dx l tok tl)
    rfl hr (range_n _ (by first | with_reducible assumption | with_reducible exact lt_num (by with_reducible assumption) (Nat.le_of_ble_eq_true rfl) | with_reducible exact le_num (by with_reducible assumption) (Nat.le_of_ble_eq_true rfl) | with_reducible exact le_le (by with_reducible assumption) (Nat.le_of_ble_eq_true rfl) | omega)).1 (range_n _ (by first | with_reducible assumption | with_reducible exact lt_num (by with_reducible assumption) (Nat.le_of_ble_eq_true rfl) | with_reducible exact le_num (by with_reducible assumption) (Nat.le_of_ble_eq_true rfl) | with_reducible exact le_le (by with_reducible assumption) (Nat.le_of_ble_eq_true rfl) | omega)).2 F (by exact Nw) ⟨[], 0, tl, .nil, hS, fun a h => h, by simp [refsOf], rfl, rfl, rfl, ⟨_, rfl⟩⟩ ?_ ?_)
  · clear F Nw hr
    rintro i t0 m₁ nx h tk I own hi ⟨tups, n, tl', hT, hS', hsub, rfl, m1, m2, m3, ⟨tc, m4⟩⟩ hI hown ⟨oI, hoI, hoc2⟩ F Nw
    rw [Int.zero_add]
    obtain ⟨rest, hrest⟩ : ∃ r, r = tl' ++ (tups ++ own) := ⟨_, rfl⟩
    have Nw : News (hideAll s.heap (tl.map (·.1))) L' h ((x, instObj 182 dx) :: (dx, dictOf (hdrE w tok l) 1) :: (l, listOf (refsOf tups).toArray n) :: rest) := by
      rw [hrest]; exact fun p hp => Nw p (by simpa only [List.cons_append, List.append_assoc] using hp)
    walk1
    walk1
    clear F Nw
    rename Fr _ _ _ _ => F
    rename News _ _ _ _ => Nw
    refine cutN 3 (FilP2 s w wd b t W x dx l L' tok tl own tups n i I) ?_ ?_
    rotate_left
    · clear F Nw
      rintro _ ⟨h2, tk2, m2, tl2, rfl, F, Nw, hS2, hsub2, hI2, ⟨t1, q1⟩, ⟨t2, q2⟩, q3, q4, q5, ⟨t3, q6⟩⟩
      dsimp only [List.drop]
      obtain ⟨rest2, hrest2⟩ : ∃ r, r = tl2 ++ (tups ++ own) := ⟨_, rfl⟩
      rw [← hrest2] at Nw
      (try k_fold)
      have hgl := grN_len wd b i (plN b)
      have hap : ∀ p ∈ tl2 ++ own, p.1 ≠ l := by
        intro p hp
        rcases List.mem_append.mp hp with hp | hp
        · exact tail_ne (d := l) (o := listOf (refsOf tups).toArray n) Nw hS2 (fun p hp => by rw [hrest2]; first | ((repeat with_reducible refine List.mem_cons_of_mem _ ?_); first | exact hp | exact List.mem_append_left _ hp | exact List.mem_append_right _ hp | exact List.mem_append_right _ (List.mem_append_left _ hp) | exact List.mem_append_right _ (List.mem_append_right _ hp) | exact List.mem_append_left _ (List.mem_append_right _ hp) | exact List.mem_append_right _ (List.mem_append_right _ (List.mem_append_left _ hp))) | simp [hp]) (by first | ((repeat (first | with_reducible exact List.mem_cons_self .. | with_reducible refine List.mem_cons_of_mem _ ?_)); done) | simp) notFld_list p hp
        · rw [hown p hp]; exact (hI (l, listOf (refsOf tups).toArray n) (by first | ((repeat (first | with_reducible exact List.mem_cons_self .. | with_reducible refine List.mem_cons_of_mem _ ?_)); done) | simp)).symm
      have okA := rowN_ok hwd hl h3 p2 i (by first | with_reducible assumption | with_reducible exact lt_num (by with_reducible assumption) (Nat.le_of_ble_eq_true rfl) | with_reducible exact le_num (by with_reducible assumption) (Nat.le_of_ble_eq_true rfl) | with_reducible exact le_le (by with_reducible assumption) (Nat.le_of_ble_eq_true rfl) | omega)
      have okB : RowsOk (fileN wd b i ++ [rowN wd b i]) := by
        have := rowN_ok hwd hl h3 p2 (i + 1) (by first | with_reducible assumption | with_reducible exact lt_num (by with_reducible assumption) (Nat.le_of_ble_eq_true rfl) | with_reducible exact le_num (by with_reducible assumption) (Nat.le_of_ble_eq_true rfl) | with_reducible exact le_le (by with_reducible assumption) (Nat.le_of_ble_eq_true rfl) | omega)
        rw [fileN] at this
        exact ⟨fun r hr => this.safe r (List.mem_append_left _ hr), by have := this.size; rw [List.length_append] at this; omega⟩
      have okn := wantN_ok (wd := wd) (j := grN wd b i (plN b)) hwd hl
      have okt : Safe (txN b i (plN b)) := txN_safe h3
      have oktl : (txN b i (plN b)).length ≤ 1000 := by rw [txN_len]; omega
      k_steps
      refine Halt.go (item_w _ (by assumption) hW1 hws rfl hgl hl fun t' => ?_)
      k_steps
      rename Fr _ _ _ _ => F
      rename News _ _ _ _ => Nw
      have N6 : News (hideAll s.heap (tl.map (·.1))) L' _ ((x, instObj 182 dx) :: (dx, dictOf (hdrE w tok l) 1) :: (l, listOf (refsOf tups).toArray n) :: (tups ++ (tl2 ++ own))) := fun q hq => Nw q (by
        rw [hrest2]
        simp only [List.mem_cons, List.mem_append] at hq ⊢
        rcases hq with h | h | h | h | h | h <;> (first | exact Or.inl h | exact Or.inr (Or.inl h) | exact Or.inr (Or.inr (Or.inl h)) | exact Or.inr (Or.inr (Or.inr (Or.inl h))) | exact Or.inr (Or.inr (Or.inr (Or.inr (Or.inl h)))) | exact Or.inr (Or.inr (Or.inr (Or.inr (Or.inr (Or.inl h))))) | exact Or.inr h | exact Or.inr (Or.inr h) | exact Or.inr (Or.inr (Or.inr h)) | exact Or.inr (Or.inr (Or.inr (Or.inr h))) | exact Or.inr (Or.inr (Or.inr (Or.inr (Or.inr h)))) | exact Or.inr (Or.inr (Or.inr (Or.inr (Or.inr (Or.inr h))))) | simp [h]))
      refine Halt.go (Does.use (add_spec ⟨X', T'⟩ (by exact F.keep) (TabAt.news (by exact N6)) (TabAt.none (by exact N6)) hT (by exact fun q hq => (N6 q (by first | ((repeat with_reducible refine List.mem_cons_of_mem _ ?_); first | exact hq | exact List.mem_append_left _ hq | exact List.mem_append_right _ hq | exact List.mem_append_right _ (List.mem_append_left _ hq) | exact List.mem_append_right _ (List.mem_append_right _ hq) | exact List.mem_append_left _ (List.mem_append_right _ hq) | exact List.mem_append_right _ (List.mem_append_right _ (List.mem_append_left _ hq))) | simp [hq])).1) okA okn okt oktl) rfl (by first | exact room1 hd (Nat.le_of_ble_eq_true rfl) | exact room3 hu (Nat.le_of_ble_eq_true rfl) | (simp only [Around.deeper]; omega)) (by first | exact room1 hd (Nat.le_of_ble_eq_true rfl) | exact room3 hu (Nat.le_of_ble_eq_true rfl) | (simp only [Around.deeper]; omega)) ?_)
      rintro v h5 tk5 ⟨rfl, M⟩
      obtain ⟨tups3, n3, hT3, F7, N7⟩ := M.back F N6 hap
      clear F Nw N6 M
      obtain ⟨rest4, hrest4⟩ : ∃ r, r = tups3 ++ (tl2 ++ own) := ⟨_, rfl⟩
      rw [← hrest4] at N7
      (try dsimp only)
      k_steps
      refine Halt.go (item_w _ (by assumption) hW1 hws rfl hgl hl fun t' => ?_)
      k_steps
      rename Fr _ _ _ _ => F
      rename News _ _ _ _ => Nw
      rw [hrest4] at Nw
      refine Halt.go (Does.use (add_spec ⟨X', T'⟩ (by exact F.keep) (TabAt.news (by exact Nw)) (TabAt.none (by exact Nw)) hT3 (by exact fun q hq => (Nw q (by first | ((repeat with_reducible refine List.mem_cons_of_mem _ ?_); first | exact hq | exact List.mem_append_left _ hq | exact List.mem_append_right _ hq | exact List.mem_append_right _ (List.mem_append_left _ hq) | exact List.mem_append_right _ (List.mem_append_right _ hq) | exact List.mem_append_left _ (List.mem_append_right _ hq) | exact List.mem_append_right _ (List.mem_append_right _ (List.mem_append_left _ hq))) | simp [hq])).1) okB okn okt oktl) rfl (by first | exact room1 hd (Nat.le_of_ble_eq_true rfl) | exact room3 hu (Nat.le_of_ble_eq_true rfl) | (simp only [Around.deeper]; omega)) (by first | exact room1 hd (Nat.le_of_ble_eq_true rfl) | exact room3 hu (Nat.le_of_ble_eq_true rfl) | (simp only [Around.deeper]; omega)) ?_)
      rintro v h6 tk6 ⟨rfl, M⟩
      obtain ⟨tups5, n5, hT5, F8, N8⟩ := M.back F Nw hap
      clear F Nw M
      obtain ⟨rest6, hrest6⟩ : ∃ r, r = tups5 ++ (tl2 ++ own) := ⟨_, rfl⟩
      rw [← hrest6] at N8
      (try dsimp only)
      k_steps
      rename Fr _ _ _ _ => F
      rename News _ _ _ _ => Nw
      rw [hrest6] at Nw
      refine OurTurn.next (nx := (x, instObj 182 dx) :: (dx, dictOf (hdrE w tok l) 1) :: (l, listOf (refsOf tups5).toArray n5) :: (tl2 ++ tups5)) F (fun q hq => Nw q ?_) ?_ ⟨tups5, n5, tl2, hT5, hS2, hsub2, rfl, q3, q4, q5, ⟨_, q6⟩⟩
      · simp only [List.cons_append, List.append_assoc, List.mem_cons, List.mem_append] at hq ⊢
        rcases hq with h | h | h | h | h | h <;> (first | exact Or.inl h | exact Or.inr (Or.inl h) | exact Or.inr (Or.inr (Or.inl h)) | exact Or.inr (Or.inr (Or.inr (Or.inl h))) | exact Or.inr (Or.inr (Or.inr (Or.inr (Or.inl h)))) | exact Or.inr (Or.inr (Or.inr (Or.inr (Or.inr (Or.inl h))))) | exact Or.inr h | exact Or.inr (Or.inr h) | exact Or.inr (Or.inr (Or.inr h)) | exact Or.inr (Or.inr (Or.inr (Or.inr h))) | exact Or.inr (Or.inr (Or.inr (Or.inr (Or.inr h)))) | exact Or.inr (Or.inr (Or.inr (Or.inr (Or.inr (Or.inr h))))) | simp [h])
      · have hIz := (Nw (I, oI) (by simp [hoI])).1
        intro q hq
        simp only [List.mem_cons, List.mem_append] at hq
        rcases hq with h | h | h | h | h
        · rw [h]; exact hI (x, instObj 182 dx) (by first | ((repeat (first | with_reducible exact List.mem_cons_self .. | with_reducible refine List.mem_cons_of_mem _ ?_)); done) | simp)
        · rw [h]; exact hI (dx, dictOf (hdrE w tok l) 1) (by first | ((repeat (first | with_reducible exact List.mem_cons_self .. | with_reducible refine List.mem_cons_of_mem _ ?_)); done) | simp)
        · rw [h]; exact hI (l, listOf (refsOf tups).toArray n) (by first | ((repeat (first | with_reducible exact List.mem_cons_self .. | with_reducible refine List.mem_cons_of_mem _ ?_)); done) | simp)
        · exact hI2 q h
        · obtain ⟨j, hj⟩ := List.getElem?_of_mem h
          obtain ⟨r, _, kk, t1, t2, e2⟩ := hT5.at j q hj
          exact ne_at (Nw q (by first | ((repeat with_reducible refine List.mem_cons_of_mem _ ?_); first | exact h | exact List.mem_append_left _ h | exact List.mem_append_right _ h | exact List.mem_append_right _ (List.mem_append_left _ h) | exact List.mem_append_right _ (List.mem_append_right _ h) | exact List.mem_append_left _ (List.mem_append_right _ h) | exact List.mem_append_right _ (List.mem_append_right _ (List.mem_append_left _ h))) | simp [h])).1 hIz (fun e => by rw [e2] at e; dsimp only at e; rw [← e] at hoc2; simp at hoc2)
    dsimp only [List.take]
    (try k_fold)
    k_steps
    refine Halt.go ?_
    k_dflt (refine LCg.ListComp_U (F₀ := by k_asm) (by with_unfolding_all rfl) (by decide) (by rfl) (by decide) (by rfl) ?_)
    k_steps
    rename Fr _ _ _ _ => F
    rename News _ _ _ _ => Nw
    refine Halt.go (Does.use (i2d_spec (X := cntN b + i) (N := b) ⟨X', T'⟩ (by exact F.keep) hS' (tabs_at (by exact Nw) (by intro p hp; rw [hrest]; first | ((repeat with_reducible refine List.mem_cons_of_mem _ ?_); first | exact hp | exact List.mem_append_left _ hp | exact List.mem_append_right _ hp | exact List.mem_append_right _ (List.mem_append_left _ hp) | exact List.mem_append_right _ (List.mem_append_right _ hp) | exact List.mem_append_left _ (List.mem_append_right _ hp) | exact List.mem_append_right _ (List.mem_append_right _ (List.mem_append_left _ hp))) | simp [hp])) (Int.natCast_add _ _).symm (Nat.lt_of_lt_of_le (show cntN b + i < 2 ^ 7 by omega) (Nat.pow_le_pow_right (by decide) (by decide))) rfl h1 (by first | with_reducible assumption | with_reducible exact lt_num (by with_reducible assumption) (Nat.le_of_ble_eq_true rfl) | with_reducible exact le_num (by with_reducible assumption) (Nat.le_of_ble_eq_true rfl) | with_reducible exact le_le (by with_reducible assumption) (Nat.le_of_ble_eq_true rfl) | omega)) rfl (by first | exact room1 hd (Nat.le_of_ble_eq_true rfl) | exact room3 hu (Nat.le_of_ble_eq_true rfl) | (simp only [Around.deeper]; omega)) (by first | exact room1 hd (Nat.le_of_ble_eq_true rfl) | exact room3 hu (Nat.le_of_ble_eq_true rfl) | (simp only [Around.deeper]; omega)) ?_)
    rintro v h5 tk5 ⟨hP, D, vs, nn, rfl, hD, hD0, hvs⟩
    rw [digs_file h1 h3 hi] at hvs
    rw [hrest] at Nw
    have hap : ∀ p ∈ tups ++ own, ∀ q ∈ tl', p.1 ≠ q.1 := by
      intro p hp q hq
      rcases List.mem_append.mp hp with hp | hp
      · intro e
        have h1 := (Nw p (by first | ((repeat with_reducible refine List.mem_cons_of_mem _ ?_); first | exact hp | exact List.mem_append_left _ hp | exact List.mem_append_right _ hp | exact List.mem_append_right _ (List.mem_append_left _ hp) | exact List.mem_append_right _ (List.mem_append_right _ hp) | exact List.mem_append_left _ (List.mem_append_right _ hp) | exact List.mem_append_right _ (List.mem_append_right _ (List.mem_append_left _ hp))) | simp [hp])).1
        have h2 := (Nw q (by first | ((repeat with_reducible refine List.mem_cons_of_mem _ ?_); first | exact hq | exact List.mem_append_left _ hq | exact List.mem_append_right _ hq | exact List.mem_append_right _ (List.mem_append_left _ hq) | exact List.mem_append_right _ (List.mem_append_right _ hq) | exact List.mem_append_left _ (List.mem_append_right _ hq) | exact List.mem_append_right _ (List.mem_append_right _ (List.mem_append_left _ hq))) | simp [hq])).1
        rw [e, h2] at h1
        obtain ⟨vs, hv⟩ := hS'.fld q hq
        rw [Option.some.inj h1] at hv
        exact hT.seq p hp vs hv
      · rw [hown p hp]; exact (hI q (by first | ((repeat with_reducible refine List.mem_cons_of_mem _ ?_); first | exact hq | exact List.mem_append_left _ hq | exact List.mem_append_right _ hq | exact List.mem_append_right _ (List.mem_append_left _ hq) | exact List.mem_append_right _ (List.mem_append_right _ hq) | exact List.mem_append_left _ (List.mem_append_right _ hq) | exact List.mem_append_right _ (List.mem_append_right _ (List.mem_append_left _ hq))) | simp [hq])).symm
    obtain ⟨tl2, hS2, F3, N3, hsub2, _, hfr2⟩ := hP.back2 hS' F Nw fun tl2 => ⟨_, .cons notFld_plain (.cons notFld_dict (.cons notFld_list (.here hap)))⟩
    have N4 := N3 _ (.cons notFld_plain (.cons notFld_dict (.cons notFld_list (.here hap))))
    have N5 := news_new F hD0 hD N4
    have hI2 : ∀ p ∈ tl2, p.1 ≠ I := by
      intro p hp e
      rcases hfr2 p hp with h1 | h1
      · obtain ⟨q, hq, e2⟩ := List.mem_map.mp h1
        exact hI q (by first | ((repeat with_reducible refine List.mem_cons_of_mem _ ?_); first | exact hq | exact List.mem_append_left _ hq | exact List.mem_append_right _ hq | exact List.mem_append_right _ (List.mem_append_left _ hq) | exact List.mem_append_right _ (List.mem_append_right _ hq) | exact List.mem_append_left _ (List.mem_append_right _ hq) | exact List.mem_append_right _ (List.mem_append_right _ (List.mem_append_left _ hq))) | simp [hq]) (e2.trans e)
      · rw [e, (Nw (I, oI) (by simp [hoI])).1] at h1; cases h1
    clear F Nw N3 N4 hP
    obtain ⟨rest2, hrest2⟩ : ∃ r, r = tl2 ++ (tups ++ own) := ⟨_, rfl⟩
    rw [← hrest2] at N5
    have hvl : vs.length = plN b + 1 := by rw [hvs.length]; simp
    have hvz : vs.toArray.size ≤ sizeLine := by rw [List.size_toArray, sizeLine_eq]; omega
    obtain ⟨zs, hzs⟩ : ∃ zs, (slicePick vs.toArray none (some (-1)) none).toList = zs := ⟨_, rfl⟩
    have hzi : IntsAre zs ((List.range (plN b)).map (fun p => ((dgN b i p : Nat) : Int))) := by
      rw [← hzs, pick_init]; exact IntsAre.dropLast hvs
    (try dsimp only)
    k_steps
    rename Fr _ _ _ _ => F
    rename News _ _ _ _ => Nw
    have hzl : zs.length = plN b := by rw [hzi.length]; simp
    refine Halt.go (LCg.CompSrc.ledger (its := zs.toArray) (k := 0) rfl F Nw (List.mem_cons_self ..) (by rw [List.size_toArray, sizeLine_eq]; omega) fun g => ?_)
    refine compU_ind (fun j ys nx => nx = _ ∧ ∃ ps, ys = strValues ps ∧ ps.map (·.1) = (cdsN b i j).map fun c => tx [c]) ?_ ?_ _ 0 [] _ (Nat.zero_add _) ⟨rfl, [], rfl, rfl⟩
    · clear F Nw
      rintro j ys nx ⟨rfl, ps, rfl, hps⟩ hj v I2 oI2 C oC D3 m₃ h6 tk6 E' hv hC hx F Nw off ne3
      rw [List.size_toArray] at hj
      obtain ⟨n0, t0', rfl, hn0⟩ := hzi.at j v (by simpa using hv)
      rw [List.getElem?_map, List.getElem?_range (by first | with_reducible assumption | with_reducible exact lt_num (by with_reducible assumption) (Nat.le_of_ble_eq_true rfl) | with_reducible exact le_num (by with_reducible assumption) (Nat.le_of_ble_eq_true rfl) | with_reducible exact le_le (by with_reducible assumption) (Nat.le_of_ble_eq_true rfl) | omega)] at hn0
      have hn0 : ((dgN b i j : Nat) : Int) = n0 := Option.some.inj hn0
      subst hn0
      have hdl : dgN b i j < 8 := Nat.lt_of_lt_of_le (dgN_lt b i j) p6
      obtain ⟨dg, hdg⟩ : ∃ dg, dg = dgN b i j ∧ True := ⟨_, rfl, trivial⟩
      rw [← hdg.1] at hdl hx
      (try dsimp only)
      k_steps
      rename Fr _ _ _ _ => F
      rename News _ _ _ _ => Nw
      refine LCg.CompEnd.intro F Nw _ (fun p hp => hp) off (.inr ⟨listOf zs.toArray 0, by simp, rfl, _, rfl⟩) ⟨rfl, ps ++ [(_, _)], (strValues_snoc _ _ _).symm, ?_⟩
      rw [cdsN_succ, List.map_append, List.map_append, hps, ← hdg.1]
      show _ ++ [Txt.item (Str.ofString "abcdefgh") (dg : Int)] = _
      rw [item_ah dg hdl]
      rfl
    · clear F Nw
      rintro ys nx ⟨rfl, ps, rfl, hps⟩
      rw [List.size_toArray, hzl] at hps
      intro D4 h6 tk6 F Nw o1
      (try dsimp only)
      k_steps
      refine SC.join (x := Str.ofString "") (texts := (cdsN b i (plN b)).map fun c => tx [c]) ⟨_, (Nw _ (List.mem_cons_self ..)).1, rfl, _, rfl⟩ hps (joinOk_small (k := 1) (fun x hx => by obtain ⟨c, _, rfl⟩ := List.mem_map.mp hx; exact Nat.le_refl 1) (by decide) (by rw [List.length_map, cdsN_len]; omega)) ?_
      intro tw kw
      rw [join_ones, show tx (cdsN b i (plN b)) = txN b i (plN b) from rfl]
      have Nw : News (hideAll s.heap (tl.map (·.1))) L' h6 ((x, instObj 182 dx) :: (dx, dictOf (hdrE w tok l) 1) :: (l, listOf (refsOf tups).toArray n) :: rest2) := fun q hq => Nw q (List.mem_cons_of_mem _ (List.mem_cons_of_mem _ (List.mem_cons_of_mem _ hq)))
      (try dsimp only)
      k_steps
      rename Fr _ _ _ _ => F
      rename News _ _ _ _ => Nw
      refine Halt.go ?_
      refine while_any (FilW w wd b t W x dx l tok tups rest2 n i) (wd.length - 0) F Nw ⟨0, rfl, Nat.zero_le _, rfl, ⟨_, rfl⟩, ⟨_, rfl⟩, m1, m2, m3, ⟨_, m4⟩⟩ ?_
      have hgl := grN_len wd b i (plN b)
      clear F Nw
      rintro kk m₂ nx h7 tk7 ⟨k, rfl, hk, rfl, ⟨t1, q1⟩, ⟨t2, q2⟩, q3, q4, q5, ⟨t3, q6⟩⟩ F Nw
      (try dsimp only)
      k_steps
      · refine Halt.go (item_w (k + 1) (by assumption) hW1 hws (Int.natCast_succ k).symm (by first | with_reducible assumption | with_reducible exact lt_num (by with_reducible assumption) (Nat.le_of_ble_eq_true rfl) | with_reducible exact le_num (by with_reducible assumption) (Nat.le_of_ble_eq_true rfl) | with_reducible exact le_le (by with_reducible assumption) (Nat.le_of_ble_eq_true rfl) | omega) hl fun t' => ?_)
        k_steps
        rename Fr _ _ _ _ => F
        rename News _ _ _ _ => Nw
        refine Halt.go (Does.use (ell_spec ⟨X', T'⟩ (by exact F.keep) (by have := wantN_len (wd := wd) (j := k + 1) hl; omega) (by rw [txN_len]; omega)) rfl (by first | exact room1 hd (Nat.le_of_ble_eq_true rfl) | exact room3 hu (Nat.le_of_ble_eq_true rfl) | (simp only [Around.deeper]; omega)) (by first | exact room1 hd (Nat.le_of_ble_eq_true rfl) | exact room3 hu (Nat.le_of_ble_eq_true rfl) | (simp only [Around.deeper]; omega)) ?_)
        rintro v h9 tk9 ⟨rfl, keep⟩
        rw [wantN_ell wd b i (plN b) (k + 1) (by first | with_reducible assumption | with_reducible exact lt_num (by with_reducible assumption) (Nat.le_of_ble_eq_true rfl) | with_reducible exact le_num (by with_reducible assumption) (Nat.le_of_ble_eq_true rfl) | with_reducible exact le_le (by with_reducible assumption) (Nat.le_of_ble_eq_true rfl) | omega) hl]
        have F9 := F.keeps keep
        have N9 := Nw.grown keep
        clear F Nw keep
        (try dsimp only)
        by_cases hkk : k + 1 ≤ grN wd b i (plN b)
        · rw [decide_eq_true hkk]
          k_steps
          rename Fr _ _ _ _ => F
          rename News _ _ _ _ => Nw
          exact WTurn.next (k' := wd.length - (k + 1)) (by first | with_reducible assumption | with_reducible exact lt_num (by with_reducible assumption) (Nat.le_of_ble_eq_true rfl) | with_reducible exact le_num (by with_reducible assumption) (Nat.le_of_ble_eq_true rfl) | with_reducible exact le_le (by with_reducible assumption) (Nat.le_of_ble_eq_true rfl) | omega) F Nw ⟨k + 1, rfl, hkk, rfl, ⟨_, rfl⟩, ⟨_, q2⟩, q3, q4, q5, ⟨_, q6⟩⟩
        · rw [decide_eq_false hkk]
          have hke : k = grN wd b i (plN b) := by omega
          k_steps
          rw [hrest2] at N9
          exact ⟨_, _, _, tl2, rfl, F9, N9, hS2, fun a ha => hsub2 a (hsub a ha), hI2, ⟨_, by rw [← hke]; exact q1⟩, ⟨_, q2⟩, q3, q4, q5, ⟨_, q6⟩⟩
      · have hke : k = grN wd b i (plN b) := by omega
        rename Fr _ _ _ _ => F
        rename News _ _ _ _ => Nw
        rw [hrest2] at Nw
        exact ⟨_, _, _, tl2, rfl, F, Nw, hS2, fun a ha => hsub2 a (hsub a ha), hI2, ⟨_, by rw [← hke]; exact q1⟩, ⟨_, q2⟩, q3, q4, q5, ⟨_, q6⟩⟩
  · clear F Nw hr
    rintro m₁ nx h tk ⟨tups, n, tl', hT, hS', hsub, rfl, m1, m2, m3, ⟨tc, m4⟩⟩ F Nw
    (try dsimp only)
    k_steps
    (first | (k_unmd; k_unfold; try dsimp only) | (try dsimp only))
    rename Fr _ _ _ _ => F
    rename News _ _ _ _ => Nw
    refine Done.mk ⟨TabPost.of hS' F Nw (fun p hp => by first | ((repeat with_reducible refine List.mem_cons_of_mem _ ?_); first | exact hp | exact List.mem_append_left _ hp | exact List.mem_append_right _ hp | exact List.mem_append_right _ (List.mem_append_left _ hp) | exact List.mem_append_right _ (List.mem_append_right _ hp) | exact List.mem_append_left _ (List.mem_append_right _ hp) | exact List.mem_append_right _ (List.mem_append_right _ (List.mem_append_left _ hp))) | simp [hp]) hsub, x, dx, l, tok, tups, n, rfl, hT, fun p hp => ⟨(Nw p ?_).1, ?_⟩⟩
    · simp only [List.mem_cons, List.mem_append] at hp ⊢
      rcases hp with h | h | h | h <;> (first | exact Or.inl h | exact Or.inr (Or.inl h) | exact Or.inr (Or.inr (Or.inl h)) | exact Or.inr (Or.inr (Or.inr (Or.inl h))) | exact Or.inr h | exact Or.inr (Or.inr h) | exact Or.inr (Or.inr (Or.inr h)) | exact Or.inr (Or.inr (Or.inr (Or.inr h))) | simp [h])
    · have hm : p ∈ (x, instObj 182 dx) :: (dx, dictOf (hdrE w tok l) 1) :: (l, listOf (refsOf tups).toArray n) :: (tl' ++ tups) := by
        simp only [List.mem_cons, List.mem_append] at hp ⊢
        rcases hp with h | h | h | h <;> (first | exact Or.inl h | exact Or.inr (Or.inl h) | exact Or.inr (Or.inr (Or.inl h)) | exact Or.inr (Or.inr (Or.inr (Or.inl h))) | exact Or.inr h | exact Or.inr (Or.inr h) | exact Or.inr (Or.inr (Or.inr h)) | exact Or.inr (Or.inr (Or.inr (Or.inr h))) | simp [h])
      refine new_none (o := p.2) hS' Nw (fun q hq => by first | ((repeat with_reducible refine List.mem_cons_of_mem _ ?_); first | exact hq | exact List.mem_append_left _ hq | exact List.mem_append_right _ hq | exact List.mem_append_right _ (List.mem_append_left _ hq) | exact List.mem_append_right _ (List.mem_append_right _ hq) | exact List.mem_append_left _ (List.mem_append_right _ hq) | exact List.mem_append_right _ (List.mem_append_right _ (List.mem_append_left _ hq))) | simp [hq]) hsub hm ?_
      simp only [List.mem_cons] at hp
      rcases hp with h | h | h | h
      · rw [h]; exact notFld_plain
      · rw [h]; exact notFld_dict
      · rw [h]; exact notFld_list
      · exact hT.seq p h
end Mine

end
section
-- Cmp2
theorem Mine.fresh_Cmp2 : True := by
  w_top off
  trivial
open PySem PySem.W PyProof.Rows PySem.Calls PySem.Builtin PySem.Builtin.Str
set_option maxRecDepth 100000
set_option maxHeartbeats 1000000
namespace Mine
section
variable {prog : Program} {w : World} {A : Around} {E : Value → Shared → Prop} {s : Shared} {h₀ : Heap} {L : Addr} {m : Str → Option Value} {env : Env} {R : Result → Shared → Prop}
theorem turn_out (elt target iter t2 iter2 ct : Expr) (scope : Scope) (pos : Pos) (it acc : Value) (env : Env) :
    compTurn (.ListComp elt [⟨target, iter, [ct], 0⟩, ⟨t2, iter2, [], 0⟩] scope pos) 0 it acc env = (do
      standAt iter.pos
      match ← pyNext it with
      | none => pure (.done .next)
      | some v =>
        letOwnedTupleGo target it v
        assign target env v
        let mut ok := true
        for c in [ct] do
          if ok then ok ← isTrue c env (eval c env)
        if ok then
          let x ← eval iter2 env
          standAt iter2.pos
          let x ← foldedSetIterable iter2 env x
          let _ ← runOwn (.compStart (.ListComp elt [⟨target, iter, [ct], 0⟩, ⟨t2, iter2, [], 0⟩] scope pos) 1 (← holding [x] (pyIter x)) acc env) env
        again (.compLoop (.ListComp elt [⟨target, iter, [ct], 0⟩, ⟨t2, iter2, [], 0⟩] scope pos) 0 it acc env)) := by rfl
theorem turn_in (elt t2 iter2 : Expr) (g : Comprehension) (scope : Scope) (pos : Pos) (it acc : Value) (env : Env) :
    compTurn (.ListComp elt [g, ⟨t2, iter2, [], 0⟩] scope pos) 1 it acc env = (do
      standAt iter2.pos
      match ← pyNext it with
      | none => pure (.done .next)
      | some v =>
        letOwnedTupleGo t2 it v
        assign t2 env v
        let mut ok := true
        for c in ([] : List Expr) do
          if ok then ok ← isTrue c env (eval c env)
        if ok then
          (do let _ ← call (.builtin "list.append") [acc, ← eval elt env])
        again (.compLoop (.ListComp elt [g, ⟨t2, iter2, [], 0⟩] scope pos) 1 it acc env)) := by rfl
/-- the first clause's turns -/
theorem loop_out {elt target iter t2 iter2 ct : Expr} {scope : Scope} {pos : Pos} {it acc : Value} (I : Nat → Shared → Prop) (hs2 : ∀ x, foldedSetIterable iter2 env x = pure x)
    (turn : ∀ n s, I n s → wpAny (model prog w) A (pyNext it) (fun r s₁ => match r with
      | none => R (.ok .next) s₁
      | some v => wpAny (model prog w) A (letOwnedTupleGo target it v) (fun _ s₁' => wpAny (model prog w) A (assign target env v) (fun _ s₂ =>
          wpAny (model prog w) A (isTrue ct env (eval ct env)) (fun ok s₃ => if ok = true then wpAny (model prog w) A (eval iter2 env) (fun x s₄ => wpAny (model prog w) A (pyIter x) (fun it2 s₅ =>
              codeAny (model prog w) A (.compStart (.ListComp elt [⟨target, iter, [ct], 0⟩, ⟨t2, iter2, [], 0⟩] scope pos) 1 it2 acc env) (fun r s₆ => match r with | .ok _ => ∃ m, m < n ∧ I m s₆ | .error _ => False) s₅)
              (notedBy (model prog w) A env fun e s' => R (.error e) s') s₄) (notedBy (model prog w) A env fun e s' => R (.error e) s') s₃
            else ∃ m, m < n ∧ I m s₃) (notedBy (model prog w) A env fun e s' => R (.error e) s') s₂)
          (notedBy (model prog w) A env fun e s' => R (.error e) s') s₁') (notedBy (model prog w) A env fun e s' => R (.error e) s') s₁) (notedBy (model prog w) A env fun e s' => R (.error e) s') s)
    (n : Nat) (h : I n s) : codeAny (model prog w) A (.compLoop (.ListComp elt [⟨target, iter, [ct], 0⟩, ⟨t2, iter2, [], 0⟩] scope pos) 0 it acc env) R s := by
  refine codeAny_loop rfl I (fun n s hI => ?_) n h
  show wpAny _ A ((compTurn (.ListComp elt [⟨target, iter, [ct], 0⟩, ⟨t2, iter2, [], 0⟩] scope pos) 0 it acc env).onRaise (fun x => do noteFrame x env; theTreesLotGoes x)) _ _ s
  refine wpAny_noted ?_
  rw [turn_out]
  refine wpAny_bind (wpAny_standAt (wpAny_bind (wpAny_mono (turn n s hI) (fun r s₁ h₁ => ?_) fun _ _ h' => h')))
  cases r with
  | none => exact wpAny_pure h₁
  | some v =>
    refine wpAny_bind (wpAny_mono h₁ (fun _ s₁' h₁' => ?_) fun _ _ h' => h')
    refine wpAny_bind (wpAny_mono h₁' (fun _ s₂ h₂ => wpAny_bind (wpAny_tests_one (wpAny_mono h₂ (fun ok s₃ h₃ => ?_) fun _ _ h' => h'))) fun _ _ h' => h')
    cases ok with
    | false => exact wpAny_pure ⟨rfl, h₃⟩
    | true =>
      refine wpAny_bind (wpAny_mono h₃ (fun x s₄ h₄ => ?_) fun _ _ h' => h')
      refine wpAny_bind (wpAny_standAt (wpAny_bind (wpAny_of_eq (hs2 x) ?_)))
      refine wpAny_bind (wpAny_holding (wpAny_mono h₄ (fun it2 s₅ h₅ => ?_) fun _ _ h' => h'))
      refine wpAny_bind (wpAny_runOwn (codeAny_mono h₅ fun r s₆ h₆ => ?_))
      cases r with
      | ok f => exact wpAny_pure ⟨rfl, h₆⟩
      | error e => exact h₆.elim
/-- the second clause's turns -/
theorem loop_in {elt t2 iter2 : Expr} {g : Comprehension} {scope : Scope} {pos : Pos} {it acc : Value} (I : Nat → Shared → Prop)
    (turn : ∀ n s, I n s → wpAny (model prog w) A (pyNext it) (fun r s₁ => match r with
      | none => R (.ok .next) s₁
      | some v => wpAny (model prog w) A (assign t2 env v) (fun _ s₂ => wpAny (model prog w) A (eval elt env) (fun x s₃ =>
          wpAny (model prog w) A (call (.builtin "list.append") [acc, x]) (fun _ s₄ => ∃ m, m < n ∧ I m s₄) (notedBy (model prog w) A env fun e s' => R (.error e) s') s₃)
          (notedBy (model prog w) A env fun e s' => R (.error e) s') s₂) (notedBy (model prog w) A env fun e s' => R (.error e) s') s₁) (notedBy (model prog w) A env fun e s' => R (.error e) s') s)
    (n : Nat) (h : I n s) (ht : ∀ v, letOwnedTupleGo t2 it v = pure ()) :
    codeAny (model prog w) A (.compLoop (.ListComp elt [g, ⟨t2, iter2, [], 0⟩] scope pos) 1 it acc env) R s := by
  refine codeAny_loop rfl I (fun n s hI => ?_) n h
  show wpAny _ A ((compTurn (.ListComp elt [g, ⟨t2, iter2, [], 0⟩] scope pos) 1 it acc env).onRaise (fun x => do noteFrame x env; theTreesLotGoes x)) _ _ s
  refine wpAny_noted ?_
  rw [turn_in]
  refine wpAny_bind (wpAny_standAt (wpAny_bind (wpAny_mono (turn n s hI) (fun r s₁ h₁ => ?_) fun _ _ h' => h')))
  cases r with
  | none => exact wpAny_pure h₁
  | some v =>
    refine wpAny_bind (wpAny_of_eq (ht v) ?_)
    refine wpAny_bind (wpAny_mono h₁ (fun _ s₂ h₂ => wpAny_bind (wpAny_mono (wpAny_tests_nil (Q := fun ok s₃ => ok = true ∧ s₃ = s₂) ⟨rfl, rfl⟩) (fun ok s₃ h₃ => ?_) fun _ _ h' => h')) fun _ _ h' => h')
    obtain ⟨rfl, rfl⟩ := h₃
    exact wpAny_bind (wpAny_bind (wpAny_mono h₂ (fun x s₄ h₄ => wpAny_bind (wpAny_mono h₄ (fun _ s₅ h₅ => wpAny_pure (wpAny_pure ⟨rfl, h₅⟩)) fun _ _ h' => h')) fun _ _ h' => h'))
theorem start_in {elt t2 iter2 : Expr} {g : Comprehension} {scope : Scope} {pos : Pos} {it acc : Value}
    (h0 : codeAny (model prog w) A (.compLoop (.ListComp elt [g, ⟨t2, iter2, [], 0⟩] scope pos) 1 it acc env) R s)
    (h : wpAny (model prog w) A (pyIter it) (fun it' s' => codeAny (model prog w) A (.compLoop (.ListComp elt [g, ⟨t2, iter2, [], 0⟩] scope pos) 1 it' acc env) R s')
      (notedBy (model prog w) A env fun x s' => R (.error x) s') s) :
    codeAny (model prog w) A (.compStart (.ListComp elt [g, ⟨t2, iter2, [], 0⟩] scope pos) 1 it acc env) R s := by
  refine codeAny_of_tree ?_
  show wpAny _ _ ((compStart (.ListComp elt [g, ⟨t2, iter2, [], 0⟩] scope pos) 1 it acc env).onRaise (fun x => do noteFrame x env; standAt theWindowsPlace)) _ _ s
  refine wpAny_notedAt ?_
  unfold compStart
  show wpAny _ _ (ask >>= _) _ _ s
  refine wpAny_bind (wpAny_askSetting (wpAny_ite ?_))
  split
  · exact wpAny_pure (And.intro rfl h0)
  · refine wpAny_bind (wpAny_rule ?_)
    show wpAny _ _ (standAt iter2.pos >>= _) _ _ s
    exact wpAny_bind (wpAny_standAt (wpAny_bind (wpAny_mono h (fun it' s' h' => wpAny_pure (And.intro rfl h')) fun _ _ x => x)))
theorem start_out {elt target iter ct : Expr} {rest : List Comprehension} {scope : Scope} {pos : Pos} {it acc : Value}
    (h0 : codeAny (model prog w) A (.compLoop (.ListComp elt (⟨target, iter, [ct], 0⟩ :: rest) scope pos) 0 it acc env) R s)
    (h : wpAny (model prog w) A (pyIter it) (fun it' s' => codeAny (model prog w) A (.compLoop (.ListComp elt (⟨target, iter, [ct], 0⟩ :: rest) scope pos) 0 it' acc env) R s')
      (notedBy (model prog w) A env fun x s' => R (.error x) s') s) :
    codeAny (model prog w) A (.compStart (.ListComp elt (⟨target, iter, [ct], 0⟩ :: rest) scope pos) 0 it acc env) R s := codeAny_compStart_list h0 h
end
end Mine

end
section
-- Cmp3
theorem Mine.fresh_Cmp3 : True := by
  w_top off
  trivial
open PySem PySem.W PyProof.Rows PySem.Calls PySem.Builtin PySem.Builtin.Str
set_option maxRecDepth 100000
set_option maxHeartbeats 2000000
namespace Mine
/-- each row that passes, twice -/
def twice (test : Nat → Bool) (rows : List (Nat × Str)) : List Str := rows.flatMap fun r => if test r.1 then [r.2, r.2] else []
theorem twice_snoc {test : Nat → Bool} {rows : List (Nat × Str)} {i : Nat} {r : Nat × Str} (h : rows[i]? = some r) : twice test (rows.take (i + 1)) = twice test (rows.take i) ++ (if test r.1 then [r.2, r.2] else []) := by
  unfold twice
  rw [take_at h, List.flatMap_append]
  simp
section
variable {prog : Program} {w : World} {A : Around} {E : Value → Shared → Prop} {s : Shared} {h₀ : Heap} {L : Addr} {m : Str → Option Value} {env : Env}
open LCg in
theorem two_in {x₂ y : Str} {iter2 : Expr} {pe py : Pos} {g : Comprehension} {scope : Scope} {cl : List (Str × Addr)} {pos : Pos} {I C D r2 : Addr} {oI oC : Obj} {t u v : Tok} {m₂ : Str → Option Value} {ts : List (Str × Tok)} {z : Str} {tz : Tok} {news : List (Addr × Obj)} {P : Shared → Prop}
    (hkind : scope.kind = .function) (hx₂ : scope.names.lookup x₂ = some .local) (hy : scope.names.lookup y = some .local) (hyx : x₂ ≠ y) (hd : (x₂ == ("__debug__" : Str)) = false) (hh : A.handled = none)
    (F : Fr h₀ L s.heap m) (N : News h₀ L s.heap ((I, oI) :: (C, oC) :: (D, lst (strValues ts)) :: news)) (hC : NsObj oC m₂) (hm : m₂ x₂ = some (.str z tz)) (off : Off3 I C D news) (ne : I ≠ C ∧ I ≠ D ∧ C ≠ D) (hts : ts.length ≤ 10000)
    (hr : IsRange s.heap r2 0 2 1 t u v)
    (h : ∀ h' tk oC' m', Fr h₀ L h' m → NsObj oC' m' → News h₀ L h' ((I, oI) :: (C, oC') :: (D, lst (strValues (ts ++ [(z, tz), (z, tz)]))) :: news) → P { s with heap := h', toks := tk }) :
    wpAny (model prog w) A (pyIter (.ref r2)) (fun it2 s₅ => codeAny (model prog w) A (.compStart (.ListComp (.Name x₂ pe) [g, ⟨.Name y py, iter2, [], 0⟩] scope pos) 1 it2 (.ref D) (compEnvC scope cl C env)) (fun r s₆ => match r with | .ok _ => P s₆ | .error _ => False) s₅) E s := by
  refine wpAny_pyIter_range hr (by decide) ?_
  obtain ⟨J, hJ⟩ : ∃ J : Addr, J = s.heap.objs.size := ⟨_, rfl⟩
  have lt : ∀ p ∈ (I, oI) :: (C, oC) :: (D, lst (strValues ts)) :: news, p.1 ≠ J := fun p hp => by rw [hJ]; exact Nat.ne_of_lt (Heap.lt_size (N p hp).1)
  have hLJ : L ≠ J := by rw [hJ]; exact Nat.ne_of_lt F.ns.lt
  have hJ0 : h₀.get? J = none := by rw [hJ]; exact next_is_new F
  have hJI : I ≠ J := lt _ (List.mem_cons_self ..)
  have hJC : C ≠ J := lt _ (List.mem_cons_of_mem _ (List.mem_cons_self ..))
  have hJD : D ≠ J := lt _ (List.mem_cons_of_mem _ (List.mem_cons_of_mem _ (List.mem_cons_self ..)))
  have hC1 := (N _ (List.mem_cons_of_mem _ (List.mem_cons_self ..))).2
  have hD1 := (N _ (List.mem_cons_of_mem _ (List.mem_cons_of_mem _ (List.mem_cons_self ..)))).2
  have off3 := off.mem
  have W := range_walks (prog := prog) (w := w) (A := A) (I := J) hh 0 2
  have hsz : Builtin.Range.rangeSize 0 2 1 = 2 := by decide
  rw [← hJ]
  have st0 : IsRangeIter (s.heap.push { cls := .type "range_iterator", data := .fields #[rawInt 0, rawInt (Builtin.Range.rangeSize 0 2 1), rawInt 1] }) J (0 + ((0 : Nat) : Int) * 1) (((2 : Nat) : Int) - ((0 : Nat) : Int)) 1 := by
    rw [hsz, hJ]; exact Heap.get?_push_size _ rfl
  have loop : codeAny (model prog w) A (.compLoop (.ListComp (.Name x₂ pe) [g, ⟨.Name y py, iter2, [], 0⟩] scope pos) 1 (.ref J) (.ref D) (compEnvC scope cl C env)) (fun r s₆ => match r with | .ok _ => P s₆ | .error _ => False)
      { s with heap := s.heap.push { cls := .type "range_iterator", data := .fields #[rawInt 0, rawInt (Builtin.Range.rangeSize 0 2 1), rawInt 1] } } := by
    refine loop_in (fun k s' => ∃ h' tk j oC' m', s' = { s with heap := h', toks := tk } ∧ j ≤ 2 ∧ k = 3 - j ∧ IsRangeIter h' J (0 + ((j : Nat) : Int) * 1) (((2 : Nat) : Int) - ((j : Nat) : Int)) 1 ∧ Fr h₀ L h' m ∧ NsObj oC' m' ∧ m' x₂ = some (.str z tz) ∧
      News h₀ L h' ((I, oI) :: (C, oC') :: (D, lst (strValues (ts ++ List.replicate j (z, tz)))) :: news)) ?_ 3
      ⟨_, _, 0, oC, m₂, rfl, Nat.zero_le _, rfl, st0, F.push _, hC, hm, fun p hp => ⟨Heap.get?_push_of_some _ (N p (by simpa using hp)).1, (N p (by simpa using hp)).2⟩⟩ (fun _ => rfl)
    rintro k s' ⟨h', tk, j, oC', m', rfl, hj, rfl, hst, F', hC', hm', N'⟩
    have ns' := hC'.ns (N' _ (List.mem_cons_of_mem _ (List.mem_cons_self ..))).1
    have lt' : ∀ p ∈ (I, oI) :: (C, oC') :: (D, lst (strValues (ts ++ List.replicate j (z, tz)))) :: news, p.1 ≠ J := fun p hp => by
      simp only [List.mem_cons] at hp
      rcases hp with rfl | rfl | rfl | hp
      · exact hJI
      · exact hJC
      · exact hJD
      · exact lt p (List.mem_cons_of_mem _ (List.mem_cons_of_mem _ (List.mem_cons_of_mem _ hp)))
    by_cases hlt : j < 2
    · refine W.item j _ _ _ hlt hst fun v h₂ tk₂ hv hst₂ hk₂ => ?_
      have F₂ : Fr h₀ L h₂ m := fr_but F' hk₂ hLJ hJ0
      have N₂ := news_but N' hk₂ lt'
      have ns₂ := ns'.at' fun o e => hk₂ _ o (by simpa using hJC) e
      refine wpAny_assign_Name (wpAny_storeName_local (lookup_relabel_local hy) ns₂ (fun h₃ hn₃ hs₃ => ?_) (by simp [compEnvC, relabel, hkind]))
      have F₃ : Fr h₀ L h₃ m := F₂.change hs₃ hC1.1 hC1.2
      refine wpAny_Name (wpAny_loadName_local hkind (lookup_relabel_local hx₂) hn₃ (v := .str z tz) (by rw [if_neg hyx]; exact hm') ?_) hd
      obtain ⟨oC3, heC, hoC⟩ := ns_obj hn₃
      have zD := hs₃.extBut D _ (Ne.symm ne.2.2) (N₂ _ (List.mem_cons_of_mem _ (List.mem_cons_of_mem _ (List.mem_cons_self ..)))).1
      refine append_at (hsz := by simp only [strValues, List.size_toArray, List.length_map, List.length_append, List.length_replicate, sizeLine_eq]; omega) zD fun h₅ hs₅ hD₅ => ?_
      refine ⟨3 - (j + 1), by omega, h₅, _, j + 1, oC3, _, rfl, hlt, rfl, W.frame _ _ _ hst₂ fun b hb o e => hs₅.extBut b o (fun q => ?_) (hs₃.extBut b o (fun q => ?_) e), F₃.change hs₅ hD1.1 hD1.2, hoC, by rw [if_neg hyx]; exact hm', fun p hp => ?_⟩
      · rw [List.mem_singleton.mp hb] at q; exact hJD q.symm
      · rw [List.mem_singleton.mp hb] at q; exact hJC q.symm
      · simp only [List.mem_cons] at hp
        rcases hp with rfl | rfl | rfl | hp
        · have zz := N₂ _ (List.mem_cons_self ..)
          exact ⟨hs₅.extBut _ _ ne.2.1 (hs₃.extBut _ _ ne.1 zz.1), zz.2⟩
        · exact ⟨hs₅.extBut _ _ ne.2.2 heC, hC1⟩
        · refine ⟨?_, hD1⟩
          refine hD₅.trans (congrArg some ?_)
          rw [lst_snoc, ← strValues_snoc, List.append_assoc, ← List.replicate_succ']
        · have zz := N₂ p (List.mem_cons_of_mem _ (List.mem_cons_of_mem _ (List.mem_cons_of_mem _ hp)))
          exact ⟨hs₅.extBut _ _ (off3 p hp).2.2 (hs₃.extBut _ _ (off3 p hp).2.1 zz.1), zz.2⟩
    · obtain rfl : j = 2 := by omega
      refine W.done _ _ _ hst fun h₂ tk₂ hk₂ => ?_
      exact h h₂ tk₂ oC' m' (fr_but F' hk₂ hLJ hJ0) hC' (news_but N' hk₂ lt')
  refine start_in loop ?_
  exact W.self 0 _ _ _ st0 loop
open LCg in
/-- what the walk is to show of a comprehension with two clauses -/
def TwoTest (prog : Program) (w : World) (A : Around) (h₀ : Heap) (L : Addr) (m : Str → Option Value) (env : Env) (ct : Expr) (x : Str) (scope : Scope) (cl : List (Str × Addr)) (s : Shared) (news : List (Addr × Obj)) (rows : List (Nat × Str)) (test : Nat → Bool) : Prop :=
  ∀ (k : Nat) t1 I oI C oC D ys m₂ h tk (E' : Value → Shared → Prop), (∃ r ∈ rows, r.1 = k) → NsObj oC m₂ → m₂ x = some (.int (k : Int) t1) → Fr h₀ L h m → News h₀ L h ((I, oI) :: (C, oC) :: (D, lst ys) :: news) → Off3 I C D news → ((@Ne Nat I C) ∧ (@Ne Nat I D) ∧ (@Ne Nat C D)) →
    wpAny (model prog w) A (isTrue ct (compEnvC scope cl C env) (eval ct (compEnvC scope cl C env))) (fun ok s' => ok = test k ∧ ∃ h' tk', s' = { s with heap := h', toks := tk' } ∧ Fr h₀ L h' m ∧ News h₀ L h' ((I, oI) :: (C, oC) :: (D, lst ys) :: news)) E' { s with heap := h, toks := tk }
open LCg in
def TwoRange (prog : Program) (w : World) (A : Around) (h₀ : Heap) (L : Addr) (m : Str → Option Value) (env : Env) (iter2 : Expr) (scope : Scope) (cl : List (Str × Addr)) (s : Shared) (news : List (Addr × Obj)) : Prop :=
  ∀ I oI C oC D ys m₂ h tk (E' : Value → Shared → Prop), NsObj oC m₂ → Fr h₀ L h m → News h₀ L h ((I, oI) :: (C, oC) :: (D, lst ys) :: news) → Off3 I C D news → ((@Ne Nat I C) ∧ (@Ne Nat I D) ∧ (@Ne Nat C D)) →
    wpAny (model prog w) A (eval iter2 (compEnvC scope cl C env)) (fun xv s' => ∃ r t u v h' tk', xv = .ref r ∧ s' = { s with heap := h', toks := tk' } ∧ IsRange h' r 0 2 1 t u v ∧ Fr h₀ L h' m ∧ News h₀ L h' ((I, oI) :: (C, oC) :: (D, lst ys) :: news)) E' { s with heap := h, toks := tk }
open LCg in
theorem two_out {x x₂ y : Str} {ct iter iter2 : Expr} {px px₂ pe py tp : Pos} {tkc} {scope : Scope} {cl : List (Str × Addr)} {pos : Pos} {ax : Addr} {k : Nat} {ps : List (Addr × Obj)} {rows : List (Nat × Str)} {news : List (Addr × Obj)} {test : Nat → Bool} {RR : Value → Addr → Result → Shared → Prop}
    (hcell : ∀ y ∈ scope.names, y.2 ≠ .cell) (hkind : scope.kind = .function) (hx : scope.names.lookup x = some .local) (hx₂ : scope.names.lookup x₂ = some .local) (hy : scope.names.lookup y = some .local) (hxx : x ≠ x₂) (hyx : x₂ ≠ y) (hd : (x₂ == ("__debug__" : Str)) = false) (hh : A.handled = none)
    (hs2 : ∀ e x, foldedSetIterable iter2 e x = pure x)
    (F : Fr h₀ L s.heap m) (N : News h₀ L s.heap news) (hm : (ax, listOf (refsOf ps).toArray k) ∈ news) (hP : PairsAre ps rows) (hps : ∀ p ∈ ps, p ∈ news) (hsz : ps.length ≤ 1000)
    (htest : TwoTest prog w A h₀ L m env ct x scope cl s news rows test) (hrange : TwoRange prog w A h₀ L m env iter2 scope cl s news)
    (hRR : ∀ D C h tk m' ts, ts.map (·.1) = twice test rows → Fr h₀ L h m → News h₀ L h ((D, lst (strValues ts)) :: news) → Off1 D news → h.Ns C m' → h₀.get? C = none → C ≠ L → C ≠ D → (∀ p ∈ news, p.1 ≠ C) → RR (.ref D) C (.ok .next) { s with heap := h, toks := tk }) :
    wpAny (model prog w) A (pyIter (.ref ax)) (fun it s₂ => wpAny (model prog w) A (newList []) (fun acc s₃ => wpAny (model prog w) A (newFunctionEnv scope env.globals cl [] env.qual none .none (some env)) (fun cenv s₄ =>
      codeAny (model prog w) A (.compStart (.ListComp (.Name x₂ pe) [⟨.Tuple [.Name x px, .Name x₂ px₂] tkc tp, iter, [ct], 0⟩, ⟨.Name y py, iter2, [], 0⟩] scope pos) 0 it acc { cenv with scope := relabel scope env }) (RR acc cenv.locals) s₄) E s₃) E s₂) E s := by
  have hl : s.heap.IsList ax (refsOf ps).toArray := ⟨_, (N _ hm).1, rfl, _, rfl⟩
  have hlt : ax < s.heap.objs.size := Heap.lt_size (N _ hm).1
  have hrl : ps.length = rows.length := hP.length
  refine wpAny_pyIter_list hl ?_
  obtain ⟨I, hI⟩ : ∃ I : Nat, I = s.heap.objs.size := ⟨_, rfl⟩
  obtain ⟨g1, hg1⟩ : ∃ g, g = s.heap.push { cls := .type "list_iterator", data := .fields #[.ref ax, .int 0 0] } := ⟨_, rfl⟩
  have up : ∀ b o, s.heap.get? b = some o → g1.get? b = some o := fun b o e => by rw [hg1]; exact Heap.get?_push_of_some _ e
  have hg1s : g1.objs.size = I + 1 := by rw [hg1, Heap.size_push, hI]
  have st0 : g1.IsListIter I ax 0 ∧ g1.IsList ax (refsOf ps).toArray := ⟨⟨_, by rw [hg1, hI]; exact Heap.get?_push_size _ rfl, rfl, rfl⟩, hl.at fun o e => up _ o e⟩
  rw [← hg1, ← hI]
  have W := Walks.list (prog := prog) (w := w) hh I ax (by rw [hI]; exact Nat.ne_of_lt hlt) (refsOf ps).toArray
  refine wpAny_newObj_type (wpAny_newFunctionEnv hcell (by intro y hy; simp at hy) (fun h₁ hns₁ hsb₁ => ?_) hkind)
  dsimp only at hns₁ hsb₁ ⊢
  obtain ⟨D, hD⟩ : ∃ D : Nat, D = g1.objs.size := ⟨_, rfl⟩
  obtain ⟨g2, hg2⟩ : ∃ g, g = g1.push { cls := .type "list", dict := none, data := .seq ([] : List Value).toArray } := ⟨_, rfl⟩
  rw [← hg2] at hns₁ hsb₁ ⊢
  rw [← hD]
  obtain ⟨C, hC⟩ : ∃ C : Nat, C = g2.objs.size := ⟨_, rfl⟩
  rw [← hC] at hns₁ hsb₁ ⊢
  have eD : D = I + 1 := by rw [hD, hg1s]
  have eC : C = I + 2 := by rw [hC, hg2, Heap.size_push, hg1s]
  have hLI : @LT.lt Nat _ L I := by rw [hI]; exact F.ns.lt
  have hax : @LT.lt Nat _ ax I := by rw [hI]; exact hlt
  have newsI : ∀ p ∈ news, @LT.lt Nat _ p.1 I := fun p hp => by rw [hI]; exact Heap.lt_size (N p hp).1
  have none₀ : ∀ a : Nat, @LT.lt Nat _ L a → h₀.get? a = none := fun a ha => Heap.get?_none_of_le (Nat.le_of_lt (Nat.lt_of_le_of_lt F.above ha))
  have hI0 : h₀.get? I = none := none₀ _ hLI
  have hD0 : h₀.get? D = none := none₀ _ (by first | with_reducible assumption | with_reducible exact lt_num (by with_reducible assumption) (Nat.le_of_ble_eq_true rfl) | with_reducible exact le_num (by with_reducible assumption) (Nat.le_of_ble_eq_true rfl) | with_reducible exact le_le (by with_reducible assumption) (Nat.le_of_ble_eq_true rfl) | omega)
  have hC0 : h₀.get? C = none := none₀ _ (by first | with_reducible assumption | with_reducible exact lt_num (by with_reducible assumption) (Nat.le_of_ble_eq_true rfl) | with_reducible exact le_num (by with_reducible assumption) (Nat.le_of_ble_eq_true rfl) | with_reducible exact le_le (by with_reducible assumption) (Nat.le_of_ble_eq_true rfl) | omega)
  have nIC : (@Ne Nat I C) := by omega
  have nID : (@Ne Nat I D) := by omega
  have nCD : (@Ne Nat C D) := by omega
  have nLI : L ≠ I := Nat.ne_of_lt hLI
  have nCL : (@Ne Nat C L) := by omega
  have nDL : (@Ne Nat D L) := by omega
  have nCax : (@Ne Nat ax C) := by omega
  have nDax : (@Ne Nat ax D) := by omega
  have off0 : Off3 I C D news := Off3.of fun p hp => by have h1 := newsI p hp; exact ⟨Nat.ne_of_lt h1, Nat.ne_of_lt (by rw [eC]; exact Nat.lt_succ_of_lt (Nat.lt_succ_of_lt h1)), Nat.ne_of_lt (by rw [eD]; exact Nat.lt_succ_of_lt h1)⟩
  have off3 := off0.mem
  have old : ∀ (b : Nat) o, b < I + 1 → g1.get? b = some o → h₁.get? b = some o := fun b o hb e => hsb₁.extBut b o (by rw [eC]; exact Nat.ne_of_lt (Nat.lt_succ_of_lt hb)) (Heap.get?_push_of_some _ (by rw [hg2]; exact Heap.get?_push_of_some _ e))
  have hacc : h₁.get? D = some (lst []) := hsb₁.extBut _ _ (Ne.symm nCD) (Heap.get?_push_of_some _ (by rw [hg2, hD]; exact Heap.get?_push_size _ rfl))
  have F1 : Fr h₀ L h₁ m := F.keeps fun b o e => old b o (Nat.lt_succ_of_lt (by rw [hI]; exact Heap.lt_size e)) (up b o e)
  have st1 : h₁.IsListIter I ax 0 ∧ h₁.IsList ax (refsOf ps).toArray := ⟨st0.1.at fun o e => old _ o (Nat.lt_succ_self _) e, st0.2.at fun o e => old _ o (Nat.lt_succ_of_lt hax) e⟩
  have N1 : News h₀ L h₁ ((D, lst (strValues [])) :: news) := fun p hp => by
    rcases List.mem_cons.mp hp with rfl | hp
    · exact ⟨hacc, nDL, hD0⟩
    · exact ⟨old _ _ (Nat.lt_succ_of_lt (newsI p hp)) (up _ _ (N p hp).1), (N p hp).2⟩
  have loop : codeAny (model prog w) A (.compLoop (.ListComp (.Name x₂ pe) [⟨.Tuple [.Name x px, .Name x₂ px₂] tkc tp, iter, [ct], 0⟩, ⟨.Name y py, iter2, [], 0⟩] scope pos) 0 (.ref I) (.ref D) (compEnvC scope cl C env)) (RR (.ref D) C)
      { s with heap := h₁, toks := s.toks + ([] : List (Str × Value)).length } := by
    refine loop_out (fun k s' => ∃ h' tk i ts m', s' = { s with heap := h', toks := tk } ∧ i ≤ ps.length ∧ k = ps.length + 1 - i ∧ ts.map (·.1) = twice test (rows.take i) ∧ (h'.IsListIter I ax i ∧ h'.IsList ax (refsOf ps).toArray) ∧ Fr h₀ L h' m ∧ h'.Ns C m' ∧ News h₀ L h' ((D, lst (strValues ts)) :: news)) (fun x => hs2 _ x) ?_ (ps.length + 1)
      ⟨h₁, _, 0, [], _, rfl, Nat.zero_le _, rfl, rfl, st1, F1, hns₁, N1⟩
    rintro n s' ⟨h', tk, i, ts, m', rfl, hi, rfl, hts, hst, F', hn', N'⟩
    have lt' : ∀ p ∈ (D, lst (strValues ts)) :: news, p.1 ≠ I := fun p hp => by
      rcases List.mem_cons.mp hp with rfl | hp
      · exact Ne.symm nID
      · exact (off3 p hp).1
    have htl : ts.length ≤ 2000 := by
      have h1 : ts.length = (twice test (rows.take i)).length := by rw [← hts, List.length_map]
      have h2 : ∀ l : List (Nat × Str), (twice test l).length ≤ 2 * l.length := by
        intro l
        induction l with
        | nil => exact Nat.le_refl _
        | cons a l ih =>
          show (List.flatMap _ (a :: l)).length ≤ _
          rw [List.flatMap_cons, List.length_append, List.length_cons]
          have : (if test a.1 then [a.2, a.2] else []).length ≤ 2 := by split <;> simp
          have ih : (List.flatMap _ l).length ≤ _ := ih
          omega
      have h3 := h2 (rows.take i)
      rw [List.length_take] at h3
      omega
    by_cases hlt : i < ps.length
    · refine W.item i _ _ _ (by rw [List.size_toArray, refsOf_length]; exact hlt) hst fun v h₂ tk₂ hv hst₂ hk₂ => ?_
      obtain ⟨p, hp, rfl⟩ := refsOf_at hv
      obtain ⟨r, hr, nt, t1, t2, hpo⟩ := hP.at i p hp
      have hpm := hps p (List.mem_of_getElem? hp)
      have F₂ : Fr h₀ L h₂ m := fr_but F' hk₂ nLI hI0
      have N₂ := news_but N' hk₂ lt'
      have ht : IsTup h₂ p.1 #[.int (r.1 : Int) t1, .str r.2 t2] := ⟨p.2, (N₂ p (List.mem_cons_of_mem _ hpm)).1, by rw [hpo], nt, by rw [hpo]⟩
      refine wpAny_letOwnedTupleGo_listiter hst₂.1 ?_
      refine assign_Tuple_tuple hh ht rfl rfl fun h₅ he => ?_
      have he' : ∀ b o, h₂.get? b = some o → h₅.get? b = some o := fun b o e => he b o (Nat.ne_of_lt (Heap.lt_size e)) e
      have ns₂ := (hn'.at' fun o e => hk₂ _ o (by simpa using Ne.symm nIC) e).at' fun o e => he' _ o e
      refine assignInOrder_cons (wpAny_assign_Name (wpAny_storeName_local (lookup_relabel_local hx) ns₂ (fun h₆ hn₆ hs₆ => ?_) (by simp [compEnvC, relabel, hkind])))
      refine assignInOrder_cons (wpAny_assign_Name (wpAny_storeName_local (lookup_relabel_local hx₂) hn₆ (fun h₃ hn₃ hs₃ => ?_) (by simp [compEnvC, relabel, hkind])))
      refine assignInOrder_nil ?_
      have old3 : ∀ b o, b ≠ C → h₂.get? b = some o → h₃.get? b = some o := fun b o hb e => hs₃.extBut b o hb (hs₆.extBut b o hb (he' b o e))
      obtain ⟨oI, heI, _⟩ := id hst₂.1
      have heI3 := old3 _ _ nIC heI
      obtain ⟨oC, heC, hoC⟩ := ns_obj hn₃
      have F₃ : Fr h₀ L h₃ m := ((F₂.keeps he').change hs₆ nCL hC0).change hs₃ nCL hC0
      have N₃ : News h₀ L h₃ ((I, oI) :: (C, oC) :: (D, lst (strValues ts)) :: news) := fun q hq => by
        rcases List.mem_cons.mp hq with rfl | hq
        · exact ⟨heI3, Ne.symm nLI, hI0⟩
        · rcases List.mem_cons.mp hq with rfl | hq
          · exact ⟨heC, nCL, hC0⟩
          · have z := N₂ q hq
            refine ⟨old3 _ _ ?_ z.1, z.2⟩
            rcases List.mem_cons.mp hq with rfl | hq
            · exact Ne.symm nCD
            · exact (off3 q hq).2.1
      have hrm : r ∈ rows := List.mem_of_getElem? hr
      have stay : ∀ h₄, News h₀ L h₄ ((I, oI) :: (C, oC) :: (D, lst (strValues ts)) :: news) → (h₄.IsListIter I ax (i + 1) ∧ h₄.IsList ax (refsOf ps).toArray) := fun h₄ N₄ => by
        obtain ⟨o, a1, a2⟩ := hst₂.1
        rw [heI] at a1
        exact ⟨⟨oI, (N₄ _ (List.mem_cons_self ..)).1, by rw [Option.some.inj a1]; exact a2⟩, ⟨_, (N₄ _ (List.mem_cons_of_mem _ (List.mem_cons_of_mem _ (List.mem_cons_of_mem _ hm)))).1, rfl, _, rfl⟩⟩
      refine wpAny_mono (htest r.1 t1 I oI C oC D _ _ h₃ _ _ ⟨r, hrm, rfl⟩ hoC (by simp [hxx]) F₃ N₃ off0 ⟨nIC, nID, nCD⟩) (fun ok s₄ h₄ => ?_) fun _ _ e => e
      obtain ⟨rfl, h4, tk4, rfl, F4, N4⟩ := h₄
      cases hok : test r.1 with
      | false =>
        simp only [Bool.false_eq_true, if_false]
        refine ⟨ps.length + 1 - (i + 1), by omega, h4, tk4, i + 1, ts, _, rfl, hlt, rfl, ?_, stay h4 N4, F4, hoC.ns (N4 _ (List.mem_cons_of_mem _ (List.mem_cons_self ..))).1, fun q hq => N4 q (List.mem_cons_of_mem _ (List.mem_cons_of_mem _ hq))⟩
        rw [twice_snoc hr, hok, hts]; simp
      | true =>
        simp only [if_true]
        refine wpAny_mono (hrange I oI C oC D _ _ h4 _ _ hoC F4 N4 off0 ⟨nIC, nID, nCD⟩) (fun xv s₅ h₅ => ?_) fun _ _ e => e
        obtain ⟨r2, t, u, v, h5, tk5, rfl, rfl, hr2, F5, N5⟩ := h₅
        refine two_in hkind hx₂ hy hyx hd hh F5 N5 hoC (z := r.2) (tz := t2) (by first | ((repeat (first | with_reducible exact List.mem_cons_self .. | with_reducible refine List.mem_cons_of_mem _ ?_)); done) | simp) off0 ⟨nIC, nID, nCD⟩ (by first | with_reducible assumption | with_reducible exact lt_num (by with_reducible assumption) (Nat.le_of_ble_eq_true rfl) | with_reducible exact le_num (by with_reducible assumption) (Nat.le_of_ble_eq_true rfl) | with_reducible exact le_le (by with_reducible assumption) (Nat.le_of_ble_eq_true rfl) | omega) hr2 fun h6 tk6 oC' m6 F6 hC6 N6 => ?_
        have st6 : h6.IsListIter I ax (i + 1) ∧ h6.IsList ax (refsOf ps).toArray := by
          obtain ⟨o, a1, a2⟩ := hst₂.1
          rw [heI] at a1
          exact ⟨⟨oI, (N6 _ (List.mem_cons_self ..)).1, by rw [Option.some.inj a1]; exact a2⟩, ⟨_, (N6 _ (List.mem_cons_of_mem _ (List.mem_cons_of_mem _ (List.mem_cons_of_mem _ hm)))).1, rfl, _, rfl⟩⟩
        refine ⟨ps.length + 1 - (i + 1), by omega, h6, tk6, i + 1, _, _, rfl, hlt, rfl, ?_, st6, F6, hC6.ns (N6 _ (List.mem_cons_of_mem _ (List.mem_cons_self ..))).1, fun q hq => N6 q (List.mem_cons_of_mem _ (List.mem_cons_of_mem _ hq))⟩
        rw [twice_snoc hr, hok, ← hts]; simp
    · obtain rfl : i = ps.length := by omega
      refine W.done _ _ _ (by rw [List.size_toArray, refsOf_length]; exact hst) fun h₂ tk₂ hk₂ => ?_
      refine hRR D C h₂ tk₂ m' ts ?_ (fr_but F' hk₂ nLI hI0) (news_but N' hk₂ lt') off0.one (hn'.at' fun o e => hk₂ _ o (by simpa using Ne.symm nIC) e) hC0 nCL nCD fun p hp => (off3 p hp).2.1
      rw [hts, List.take_of_length_le (by first | with_reducible assumption | with_reducible exact lt_num (by with_reducible assumption) (Nat.le_of_ble_eq_true rfl) | with_reducible exact le_num (by with_reducible assumption) (Nat.le_of_ble_eq_true rfl) | with_reducible exact le_le (by with_reducible assumption) (Nat.le_of_ble_eq_true rfl) | omega)]
  exact start_out loop (W.self 0 _ _ _ st1 loop)
end
end Mine

end
section
-- CntP
theorem Mine.fresh_CntP : True := by
  w_top off
  trivial
open PySem PySem.W PyProof.Rows PySem.Calls PySem.Builtin.Str
set_option maxRecDepth 100000
namespace Mine
def cntF (f : Nat → Bool) : Nat → Nat
  | 0 => 0
  | n + 1 => cntF f n + (if f n then 1 else 0)
def sumF (f : Nat → Nat) : Nat → Nat
  | 0 => 0
  | n + 1 => sumF f n + f n
theorem cntF_add (f : Nat → Bool) (m : Nat) : ∀ n, cntF f (m + n) = cntF f m + cntF (fun i => f (m + i)) n
  | 0 => rfl
  | n + 1 => by rw [← Nat.add_assoc, cntF, cntF_add f m n, cntF, Nat.add_assoc]
theorem cntF_congr {f g : Nat → Bool} : ∀ n, (∀ i, i < n → f i = g i) → cntF f n = cntF g n
  | 0, _ => rfl
  | n + 1, h => by rw [cntF, cntF, cntF_congr n fun i hi => h i (Nat.lt_succ_of_lt hi), h n (Nat.lt_succ_self n)]
theorem sumF_congr {f g : Nat → Nat} : ∀ n, (∀ i, i < n → f i = g i) → sumF f n = sumF g n
  | 0, _ => rfl
  | n + 1, h => by rw [sumF, sumF, sumF_congr n fun i hi => h i (Nat.lt_succ_of_lt hi), h n (Nat.lt_succ_self n)]
theorem cntF_or {f g : Nat → Bool} : ∀ n, (∀ i, i < n → ¬ (f i = true ∧ g i = true)) → cntF (fun i => f i || g i) n = cntF f n + cntF g n
  | 0, _ => rfl
  | n + 1, h => by
    have h1 := h n (Nat.lt_succ_self n)
    rw [cntF, cntF, cntF, cntF_or n fun i hi => h i (Nat.lt_succ_of_lt hi)]
    cases hf : f n <;> cases hg : g n
    · rfl
    · show _ + 1 = _ + 0 + (_ + 1); omega
    · show _ + 1 = _ + 1 + (_ + 0); omega
    · exact absurd ⟨hf, hg⟩ h1
theorem cntF_false : ∀ n, cntF (fun _ => false) n = 0
  | 0 => rfl
  | n + 1 => by rw [cntF, cntF_false n]; rfl
theorem cntF_mul (f : Nat → Bool) (M : Nat) : ∀ a, cntF f (a * M) = sumF (fun d => cntF (fun lo => f (d * M + lo)) M) a
  | 0 => by rw [Nat.zero_mul]; rfl
  | a + 1 => by rw [Nat.succ_mul, cntF_add, cntF_mul f M a, sumF]
theorem sumF_add (f g : Nat → Nat) : ∀ n, sumF (fun d => f d + g d) n = sumF f n + sumF g n
  | 0 => rfl
  | n + 1 => by rw [sumF, sumF, sumF, sumF_add f g n]; omega
theorem sumF_const (c : Nat) : ∀ n, sumF (fun _ => c) n = n * c
  | 0 => by rw [Nat.zero_mul]; rfl
  | n + 1 => by rw [sumF, sumF_const c n, Nat.succ_mul]
theorem sumF_one (c e : Nat) : ∀ a, sumF (fun d => if e = d then c else 0) a = if e < a then c else 0
  | 0 => rfl
  | a + 1 => by
    rw [sumF, sumF_one c e a]
    rcases Nat.lt_trichotomy e a with h | h | h
    · rw [if_pos h, if_neg (by omega), if_pos (by omega)]; rfl
    · rw [if_neg (by omega), if_pos h, if_pos (by omega), Nat.zero_add]
    · rw [if_neg (by omega), if_neg (by omega), if_neg (by omega)]
theorem sumF_but (c e : Nat) (a : Nat) (h : e < a) : sumF (fun d => if e = d then 0 else c) a = (a - 1) * c := by
  have h1 : sumF (fun d => (if e = d then c else 0) + (if e = d then 0 else c)) a = a * c := by
    rw [← sumF_const c a]
    refine sumF_congr a fun i _ => ?_
    split <;> simp
  rw [sumF_add, sumF_one, if_pos h] at h1
  obtain ⟨a, rfl⟩ : ∃ a', a = a' + 1 := ⟨a - 1, by omega⟩
  rw [Nat.succ_mul] at h1
  rw [Nat.add_sub_cancel]
  omega
theorem dg_high {b p d lo : Nat} (hd : d < 2 ^ b) (hlo : lo < 2 ^ (p * b)) : dgN b (d * 2 ^ (p * b) + lo) p = d := by
  unfold dgN
  rw [Nat.mul_comm d, Nat.mul_add_div (Nat.two_pow_pos _), Nat.div_eq_of_lt hlo, Nat.add_zero, Nat.mod_eq_of_lt hd]
theorem dg_low {b p d lo q : Nat} (hq : q < p) : dgN b (d * 2 ^ (p * b) + lo) q = dgN b lo q := by
  unfold dgN
  obtain ⟨r, rfl⟩ : ∃ r, p = q + 1 + r := ⟨p - q - 1, by omega⟩
  rw [show d * 2 ^ ((q + 1 + r) * b) = 2 ^ (q * b) * (2 ^ b * (d * 2 ^ (r * b))) by
    rw [Nat.add_mul, Nat.add_mul, Nat.one_mul, Nat.pow_add, Nat.pow_add]
    simp only [Nat.mul_comm, Nat.mul_left_comm, Nat.mul_assoc]]
  rw [Nat.mul_add_div (Nat.two_pow_pos _), Nat.mul_add_mod]
theorem gr_low {wd : List Nat} {b p d lo : Nat} : ∀ q, q ≤ p → grN wd b (d * 2 ^ (p * b) + lo) q = grN wd b lo q
  | 0, _ => rfl
  | q + 1, h => by rw [grN, grN, gr_low q (by omega), dg_low (by omega)]
def NN (wd : List Nat) (b p k : Nat) : Nat := cntF (fun t => grN wd b t p == k) (2 ^ (p * b))
theorem one_digit {wd : List Nat} {b p k d : Nat} (hd : d < 2 ^ b) : cntF (fun lo => grN wd b (d * 2 ^ (p * b) + lo) (p + 1) == k) (2 ^ (p * b)) = (if wd[k]? = some d then 0 else NN wd b p k) + (if 1 ≤ k ∧ wd[k - 1]? = some d then NN wd b p (k - 1) else 0) := by
  have e : cntF (fun lo => grN wd b (d * 2 ^ (p * b) + lo) (p + 1) == k) (2 ^ (p * b)) = cntF (fun lo => (decide (¬ wd[k]? = some d) && grN wd b lo p == k) || (decide (1 ≤ k ∧ wd[k - 1]? = some d) && grN wd b lo p == k - 1)) (2 ^ (p * b)) := by
    refine cntF_congr _ fun lo hlo => ?_
    rw [grN, gr_low p (Nat.le_refl _), dg_high hd hlo]
    generalize grN wd b lo p = g
    rw [Bool.eq_iff_iff]
    simp only [beq_iff_eq, Bool.or_eq_true, Bool.and_eq_true, decide_eq_true_eq]
    by_cases hg : wd[g]? = some d
    · rw [if_pos hg]
      constructor
      · rintro rfl
        exact .inr ⟨⟨by omega, by simpa using hg⟩, by omega⟩
      · rintro (⟨h1, rfl⟩ | ⟨⟨h1, h2⟩, h3⟩)
        · exact absurd hg h1
        · omega
    · rw [if_neg hg]
      constructor
      · rintro rfl
        exact .inl ⟨hg, rfl⟩
      · rintro (⟨h1, h2⟩ | ⟨⟨h1, h2⟩, h3⟩)
        · exact h2
        · rw [h3] at hg; exact absurd h2 hg
  rw [e, cntF_or]
  · unfold NN
    congr 1
    · by_cases h : wd[k]? = some d
      · rw [if_pos h]
        rw [show (fun lo => decide (¬ wd[k]? = some d) && grN wd b lo p == k) = fun _ => false from funext fun lo => by simp [h]]
        exact cntF_false _
      · rw [if_neg h]
        refine cntF_congr _ fun lo _ => by simp [h]
    · by_cases h : 1 ≤ k ∧ wd[k - 1]? = some d
      · rw [if_pos h]
        refine cntF_congr _ fun lo _ => by simp [h]
      · rw [if_neg h]
        rw [show (fun lo => decide (1 ≤ k ∧ wd[k - 1]? = some d) && grN wd b lo p == k - 1) = fun _ => false from funext fun lo => by rw [decide_eq_false h]; rfl]
        exact cntF_false _
  · intro lo _ h
    simp only [Bool.and_eq_true, decide_eq_true_eq, beq_iff_eq] at h
    omega
def cN (b n : Nat) : Nat → Nat → Nat
  | 0, k => if k = 0 then 1 else 0
  | p + 1, k => (if k < n then 2 ^ b - 1 else 2 ^ b) * cN b n p k + (if 1 ≤ k ∧ k ≤ n then cN b n p (k - 1) else 0)
theorem NN_eq {wd : List Nat} {b : Nat} (hwd : ∀ d ∈ wd, d < 2 ^ b) : ∀ p k, NN wd b p k = cN b wd.length p k
  | 0, k => by
    unfold NN
    rw [Nat.zero_mul]
    show (0 + if (0 == k) = true then 1 else 0) = if k = 0 then 1 else 0
    by_cases h : k = 0
    · subst h; rfl
    · rw [if_neg h, if_neg (by simpa using fun q => h (Eq.symm q))]
  | p + 1, k => by
    have e : NN wd b (p + 1) k = sumF (fun d => (if wd[k]? = some d then 0 else NN wd b p k) + (if 1 ≤ k ∧ wd[k - 1]? = some d then NN wd b p (k - 1) else 0)) (2 ^ b) := by
      show cntF _ (2 ^ ((p + 1) * b)) = _
      rw [show 2 ^ ((p + 1) * b) = 2 ^ b * 2 ^ (p * b) by rw [Nat.succ_mul, Nat.pow_add, Nat.mul_comm], cntF_mul]
      exact sumF_congr _ fun d hd => one_digit hd
    rw [e, sumF_add, cN, ← NN_eq hwd p k, ← NN_eq hwd p (k - 1)]
    congr 1
    · by_cases h : k < wd.length
      · rw [if_pos h, List.getElem?_eq_getElem h]
        rw [show (fun d => if some wd[k] = some d then 0 else NN wd b p k) = fun d => if wd[k] = d then 0 else NN wd b p k from funext fun d => by simp]
        exact sumF_but _ _ _ (hwd _ (List.getElem_mem h))
      · rw [if_neg h, List.getElem?_eq_none (by omega)]
        rw [show (fun d => if (none : Option Nat) = some d then 0 else NN wd b p k) = fun _ => NN wd b p k from funext fun d => by simp]
        exact sumF_const _ _
    · by_cases h : 1 ≤ k ∧ k ≤ wd.length
      · have h2 : k - 1 < wd.length := by omega
        rw [if_pos h, List.getElem?_eq_getElem h2]
        rw [show (fun d => if 1 ≤ k ∧ some wd[k - 1] = some d then NN wd b p (k - 1) else 0) = fun d => if wd[k - 1] = d then NN wd b p (k - 1) else 0 from funext fun d => by simp [h.1]]
        rw [sumF_one, if_pos (hwd _ (List.getElem_mem h2))]
      · rw [if_neg h]
        rw [show (fun d => if 1 ≤ k ∧ wd[k - 1]? = some d then NN wd b p (k - 1) else 0) = fun _ => 0 from funext fun d => by
          rw [if_neg]
          rintro ⟨h1, h2⟩
          obtain ⟨h3, _⟩ := List.getElem?_eq_some_iff.mp h2
          exact h ⟨h1, by omega⟩]
        rw [sumF_const, Nat.mul_zero]
theorem twice_len (wd : List Nat) (b i : Nat) : ∀ n, (twice (· == i) (heldN wd b n)).length = 2 * cntF (fun t => grN wd b t (plN b) == i) n
  | 0 => rfl
  | n + 1 => by
    have ih := twice_len wd b i n
    unfold twice at ih ⊢
    rw [heldN_succ, List.flatMap_append, List.length_append, ih, cntF, Nat.mul_add]
    congr 1
    simp only [List.flatMap_cons, List.flatMap_nil, List.append_nil]
    split <;> simp
theorem want_inj {wd : List Nat} {i j : Nat} (hi : i ≤ wd.length) (hj : j ≤ wd.length) : (wantN wd j == wantN wd i) = (j == i) := by
  rw [Bool.eq_iff_iff, beq_iff_eq, beq_iff_eq]
  constructor
  · intro h
    have h1 := congrArg Str.length h
    unfold wantN at h1
    rw [tx_len, tx_len, wantC_len, wantC_len, List.length_map, List.length_map, List.length_take, List.length_take] at h1
    omega
  · rintro rfl; rfl
theorem all_twice {wd : List Nat} {b i : Nat} (hd : ∀ d ∈ wd, d < 8) (hi : i ≤ wd.length) : ∀ n, allR (Txt.upper (wantN wd i)) (fileN wd b n) = twice (· == i) (heldN wd b n)
  | 0 => rfl
  | n + 1 => by
    have ih := all_twice (b := b) hd hi n
    have e1 : Txt.lower (Txt.upper (wantN wd i)) = wantN wd i := lower_up (wantN_mem hd)
    have e2 : ∀ j, Txt.lower (wantN wd j) = wantN wd j := fun j => lower_tx (wantN_mem hd)
    unfold allR twice at ih ⊢
    rw [fileN, heldN_succ, List.filter_append, List.filter_append, List.map_append, List.map_append, ih, List.flatMap_append, List.append_assoc]
    congr 1
    have e3 : (Txt.lower (rowN wd b n).1 == Txt.lower (Txt.upper (wantN wd i))) = (grN wd b n (plN b) == i) := by
      rw [e1]
      show (Txt.lower (wantN wd _) == _) = _
      rw [e2, want_inj hi (grN_len ..)]
    rw [List.filter_cons, List.filter_nil, e3]
    show _ = (if (grN wd b n (plN b) == i) = true then [txN b n (plN b), txN b n (plN b)] else []) ++ []
    cases (grN wd b n (plN b) == i) <;> rfl
end Mine

end
section
-- CntQ
theorem Mine.fresh_CntQ : True := by
  w_top off
  trivial
open PySem PySem.W PyProof.Rows PySem.Calls PySem.Builtin.Str
set_option maxRecDepth 100000
namespace Mine
/-- the quotient, the rest, and what their digits tell -/
def ovN (b n : Nat) : Nat := (65535 + 2 ^ b) ^ plN b / 65536 ^ n
def rsN (b n : Nat) : Nat := (65535 + 2 ^ b) ^ plN b % 65536 ^ n
def lowN (b n : Nat) : List Int := digs (2 ^ 16) (ndig 16 (rsN b n)) (rsN b n)
def highN (b n : Nat) : List Int := digs (2 ^ 16) (ndig 16 (ovN b n)) (ovN b n)
def cntsN (b n : Nat) : List Int := lowN b n ++ List.replicate (n - (lowN b n).length) 0 ++ [(highN b n).sum]
theorem big_nat (b p n : Nat) : (65535 + ((2 ^ b : Nat) : Int)) ^ (p : Int).toNat = (((65535 + 2 ^ b) ^ p : Nat) : Int) ∧ (65536 : Int) ^ (n : Int).toNat = ((65536 ^ n : Nat) : Int) := by
  rw [Int.toNat_natCast, Int.toNat_natCast, Int.natCast_pow, Int.natCast_pow, Int.natCast_add]
  exact ⟨rfl, rfl⟩
theorem rs_lt (b n : Nat) (h1 : 1 ≤ b) (h3 : b ≤ 3) : rsN b n < 2 ^ 150 ∧ ovN b n < 2 ^ 150 := by
  have h : (65535 + 2 ^ b) ^ plN b < 2 ^ 150 := by rcases bit_cases h1 h3 with rfl | rfl | rfl <;> decide
  exact ⟨Nat.lt_of_le_of_lt (Nat.mod_le _ _) h, Nat.lt_of_le_of_lt (Nat.div_le_self _ _) h⟩
theorem low_len {b n : Nat} (h1 : 1 ≤ b) (h3 : b ≤ 3) (hn : 1 ≤ n) (h4 : n ≤ 4) : (lowN b n).length ≤ n ∧ (highN b n).length ≤ 10 := by
  obtain ⟨m, rfl⟩ : ∃ m, n = m + 1 := ⟨n - 1, by omega⟩
  have : ∀ b : Fin 3, ∀ n : Fin 4, (lowN (b + 1) (n + 1)).length ≤ n + 1 ∧ (highN (b + 1) (n + 1)).length ≤ 10 := by decide +kernel
  obtain ⟨c, rfl⟩ : ∃ c, b = c + 1 := ⟨b - 1, by omega⟩
  exact this ⟨c, by omega⟩ ⟨m, by omega⟩
theorem cnts_len {b n : Nat} (h1 : 1 ≤ b) (h3 : b ≤ 3) (hn : 1 ≤ n) (h4 : n ≤ 4) : (cntsN b n).length = n + 1 := by
  have := (low_len h1 h3 hn h4).1
  unfold cntsN
  rw [List.length_append, List.length_append, List.length_replicate]
  simp only [List.length_cons, List.length_nil]
  omega
theorem cnts_eq : ∀ b : Fin 3, ∀ n : Fin 4, cntsN (b + 1) (n + 1) = (List.range (n + 2)).map fun k => ((cN (b + 1) (n + 1) (plN (b + 1)) k : Nat) : Int) := by decide +kernel
theorem cnts_at {b n k : Nat} (h1 : 1 ≤ b) (h3 : b ≤ 3) (hn : 1 ≤ n) (h4 : n ≤ 4) (hk : k < n + 1) : (cntsN b n)[k]? = some ((cN b n (plN b) k : Nat) : Int) := by
  obtain ⟨m, rfl⟩ : ∃ m, n = m + 1 := ⟨n - 1, by omega⟩
  obtain ⟨c, rfl⟩ : ∃ c, b = c + 1 := ⟨b - 1, by omega⟩
  have := cnts_eq ⟨c, by omega⟩ ⟨m, by omega⟩
  rw [show cntsN (c + 1) (m + 1) = _ from this, List.getElem?_map, List.getElem?_range (by show k < m + 2; omega)]
  rfl
theorem told_len {wd : List Nat} {b i : Nat} (h1 : 1 ≤ b) (h3 : b ≤ 3) (hl : 1 ≤ wd.length) (h4 : wd.length ≤ 4) (hwd : ∀ d ∈ wd, d < 2 ^ b) (hi : i < wd.length + 1) :
    (cntsN b wd.length)[i]? = some (((cntF (fun t => grN wd b t (plN b) == i) (cntN b) : Nat)) : Int) := by
  rw [cnts_at h1 h3 hl h4 hi, ← NN_eq hwd]
  unfold NN cntN
  rw [Nat.mul_comm]
end Mine

end
section
-- Cmp4
theorem Mine.fresh_Cmp4 : True := by
  w_top off
  trivial
open PySem PySem.W PyProof.Rows PySem.Calls PySem.Builtin PySem.Builtin.Str
set_option maxRecDepth 100000
set_option maxHeartbeats 2000000
namespace Mine
section
variable {prog : Program} {w : World} {A : Around} {E : Value → Shared → Prop} {s : Shared} {h₀ : Heap} {L : Addr} {m : Str → Option Value} {env : Env}
open LCg in
/-- what a comprehension with two clauses wants of its first source -/
def TwoSrc (prog : Program) (w : World) (A : Around) (h₀ : Heap) (L : Addr) (m : Str → Option Value) (env : Env) (ct iter2 : Expr) (x : Str) (scope : Scope) (cl : List (Str × Addr)) (Q : Value → Shared → Prop) (xv : Value) (s₁ : Shared) : Prop :=
  ∃ ax k ps rows news test, xv = .ref ax ∧ A.handled = none ∧ Fr h₀ L s₁.heap m ∧ News h₀ L s₁.heap news ∧ (ax, listOf (refsOf ps).toArray k) ∈ news ∧ PairsAre ps rows ∧ (∀ p ∈ ps, p ∈ news) ∧ ps.length ≤ 1000 ∧
    TwoTest prog w A h₀ L m env ct x scope cl s₁ news rows test ∧ TwoRange prog w A h₀ L m env iter2 scope cl s₁ news ∧
    ∀ D h tk ts, ts.map (·.1) = twice test rows → Fr h₀ L h m → News h₀ L h ((D, lst (strValues ts)) :: news) → Off1 D news → Q (.ref D) { s₁ with heap := h, toks := tk }
theorem ListComp_2 {x x₂ y : Str} {ct iter iter2 : Expr} {px px₂ pe py tp : Pos} {tkc} {scope : Scope} {cl : List (Str × Addr)} {pos : Pos} {Q : Value → Shared → Prop} (_F : Fr h₀ L s.heap m)
    (hclos : closureFor scope env = pure cl) (hcell : ∀ y ∈ scope.names, y.2 ≠ .cell) (hkind : scope.kind = .function)
    (hnames : ∀ y ∈ scope.names, y.2 = .local → scope.names.lookup y.1 = some .local) (hx : scope.names.lookup x = some .local) (hx₂ : scope.names.lookup x₂ = some .local) (hy : scope.names.lookup y = some .local) (hxx : x ≠ x₂) (hyx : x₂ ≠ y)
    (hd : (x₂ == ("__debug__" : Str)) = false)
    (h : wpAny (model prog w) A (eval iter env) (TwoSrc prog w A h₀ L m env ct iter2 x scope cl Q) E s)
    (hs2 : ∀ e x, foldedSetIterable iter2 e x = pure x := by intro _ _; rfl) (hs : ∀ x, foldedSetIterable iter env x = pure x := by intro _; rfl) :
    wpAny (model prog w) A (eval (.ListComp (.Name x₂ pe) [⟨.Tuple [.Name x px, .Name x₂ px₂] tkc tp, iter, [ct], 0⟩, ⟨.Name y py, iter2, [], 0⟩] scope pos) env) Q E s := by
  rw [eval_ListComp]
  refine wpAny_comprehension_free (use := none) rfl hs hclos hkind hnames (wpAny_mono h (fun xv s₁ h₁ => ?_) fun _ _ e => e)
  obtain ⟨ax, k, ps, rows, news, test, rfl, hh, F, N, hm, hP, hps, hsz, htest, hrange, fin⟩ := h₁
  refine two_out hcell hkind hx hx₂ hy hxx hyx hd hh hs2 F N hm hP hps hsz htest hrange fun D C h tk m' ts hts F' N' o1 hn hC₀ hCL hCD offC => ?_
  refine ⟨m', hn, fun h'' hs'' => fin D h'' tk ts hts (F'.change hs'' hCL hC₀) (fun p hp => ?_) o1⟩
  refine ⟨hs''.extBut _ _ ?_ (N' p hp).1, (N' p hp).2⟩
  rcases List.mem_cons.mp hp with rfl | hp
  · exact Ne.symm hCD
  · exact offC p hp
end
end Mine

end
section
-- EqS
theorem Mine.fresh_EqS : True := by
  w_top off
  trivial
open PySem PySem.W PyProof.Rows PySem.Calls PySem.Spec PyProof.V
set_option maxRecDepth 100000
namespace Mine
theorem es_can : ∀ ns : List Str, (∀ x ∈ ns, PyData.strOk x = true) → PyData.canLayAll0 (ns.map PyData.str) = true
  | [], _ => rfl
  | a :: r, h => by simp [PyData.canLayAll0, PyData.canLay0, es_can r fun x hx => h x (List.mem_cons_of_mem _ hx), h a (List.mem_cons_self ..)]
theorem es_depth : ∀ ns : List Str, PyData.depthAll (ns.map PyData.str) = 0
  | [] => rfl
  | _ :: r => by simp [PyData.depthAll, PyData.depth, es_depth r]
theorem es_shaped (ns : List Str) (h : ∀ x ∈ ns, PyData.strOk x = true) : SeqAt.shaped (.list (ns.map PyData.str)) = true := by
  simp [SeqAt.shaped, PyData.canLay0, PyData.depth, es_can ns h, es_depth]
theorem es_sameAll : ∀ ns : List Str, PySem.Spec.sameAll (ns.map PyData.str) (ns.map PyData.str) = true
  | [] => by simp [PySem.Spec.sameAll]
  | a :: r => by simp only [List.map_cons, PySem.Spec.sameAll, PySem.Spec.same, es_sameAll r]; simp
theorem es_carried : ∀ l : List (Str × Tok), CarriedAll (strValues l) ((l.map (·.1)).map PyData.str)
  | [] => .nil
  | (x, t) :: r => .cons (.str x t) (es_carried r)
theorem es_ne {prog : Program} {w : World} {A : Around} {E : Value → Shared → Prop} {s : Shared} {a b : Addr} {xs ys : List (Str × Tok)} {Q : Value → Shared → Prop} (ha : s.heap.IsList a (strValues xs).toArray) (hb : s.heap.IsList b (strValues ys).toArray) (he : xs.map (·.1) = ys.map (·.1)) (hok : ∀ y ∈ ys.map (·.1), PyData.strOk y = true) (hu : A.units + 64 < cLine) (h : Q (.bool false) s) :
    wpAny (model prog w) A (compareOp .NotEq (.ref a) (.ref b)) Q E s := by
  have c1 := es_carried xs
  rw [he] at c1
  refine ne_dataH_same (reads_newData ha c1) (reads_newData hb (es_carried ys)) (es_shaped _ hok) (es_shaped _ hok) hu (SeqAt.noMix_of_shape (.list .str) rfl _ _ (list_map_has fun _ => rfl) (list_map_has fun _ => rfl)) ?_
  rw [show PySem.Spec.same (.list ((ys.map (·.1)).map PyData.str)) (.list ((ys.map (·.1)).map PyData.str)) = true by simp only [PySem.Spec.same]; exact es_sameAll _]
  exact h
end Mine

end
section
-- Law02
theorem Mine.fresh_Law02 : True := by
  w_top off
  trivial
open PySem PySem.W PyProof.Rows PySem.Calls PySem.Builtin.Str
set_option maxRecDepth 100000
set_option maxHeartbeats 20000000
set_option pp.deepTerms false
namespace Mine
theorem news_all {g h h' : Heap} {L : Addr} {m : Str → Option Value} {n new : List (Addr × Obj)} (F : Fr g L h m) (hn : ∀ p ∈ new, h'.get? p.1 = some p.2 ∧ h.get? p.1 = none) (N : News g L h' n) : News g L h' (new ++ n) := fun p hp => by
  rcases List.mem_append.mp hp with hp | hp
  · exact news_new F (hn p hp).2 (hn p hp).1 (show News g L h' [] from fun q hq => nomatch hq) p (List.mem_cons_self ..)
  · exact N p hp
theorem PairsAre.seq {ps : List (Addr × Obj)} {rs : List (Nat × Str)} (T : PairsAre ps rs) : ∀ p ∈ ps, NotFld p.2 := fun p hp => by
  obtain ⟨i, hi⟩ := List.getElem?_of_mem hp
  obtain ⟨r, _, n, t1, t2, e⟩ := T.at i p hi
  rw [e]; exact fun _ z => by cases z
theorem lenN {prog : Program} {w : World} {A : Around} {E : Value → Shared → Prop} {s : Shared} {h₀ : Heap} {L D : Addr} {news : List (Addr × Obj)} {n : Nat} {vs : List Value} {Q : Value → Shared → Prop} (N : News h₀ L s.heap news) (hm : (D, listOf vs.toArray n) ∈ news) (hsz : vs.length ≤ 1000000) (h : ∀ tk k, Q (.int (vs.length : Nat) tk) { s with toks := k }) :
    wpAny (model prog w) A (call (.builtin "len") [.ref D]) Q E s :=
  len_list ⟨_, (N _ hm).1, rfl, _, rfl⟩ (by rw [List.size_toArray]; omega) (h _ _)
theorem pow_lt {x : Int} {p : Nat} (h0 : 0 ≤ x) (h : x ≤ 65543) (hp : p ≤ 5) : (x ^ p).natAbs < 2 ^ 149 := by
  rw [Int.natAbs_pow]
  have h1 : x.natAbs ≤ 2 ^ 17 := by omega
  refine Nat.lt_of_le_of_lt (Nat.pow_le_pow_left h1 p) ?_
  rw [← Nat.pow_mul]
  exact Nat.pow_lt_pow_right (by decide) (by first | with_reducible assumption | with_reducible exact lt_num (by with_reducible assumption) (Nat.le_of_ble_eq_true rfl) | with_reducible exact le_num (by with_reducible assumption) (Nat.le_of_ble_eq_true rfl) | with_reducible exact le_le (by with_reducible assumption) (Nat.le_of_ble_eq_true rfl) | omega)
theorem pow_lt2 {p : Nat} (hp : p ≤ 4) : ((65536 : Int) ^ p).natAbs < 2 ^ 100 ∧ (65536 : Int) ^ p ≠ 0 := by
  refine ⟨?_, Int.pow_ne_zero (by decide)⟩
  rw [Int.natAbs_pow, show (65536 : Int).natAbs = 2 ^ 16 from rfl, ← Nat.pow_mul]
  exact Nat.pow_lt_pow_right (by decide) (by first | with_reducible assumption | with_reducible exact lt_num (by with_reducible assumption) (Nat.le_of_ble_eq_true rfl) | with_reducible exact le_num (by with_reducible assumption) (Nat.le_of_ble_eq_true rfl) | with_reducible exact le_le (by with_reducible assumption) (Nat.le_of_ble_eq_true rfl) | omega)
theorem cell_ne {h : Heap} {a c : Addr} {o oc : Obj} {z : Option Value} (ha : h.get? a = some o) (hc : h.get? c = some oc) (hoc : oc.data = .cell z) (ho : ∀ z, o.data ≠ .cell z) : a ≠ c :=
  ne_at ha hc fun e => ho z (by rw [e]; exact hoc)
theorem big_nc {w : World} {tok : Tok} {x dx l D nT nD : Nat} {tups ptups : List (Addr × Obj)} {rs : List (Str × Str)} {ps : List (Nat × Str)} (hT : TupsAre tups rs) (hP : PairsAre ptups ps) :
    ∀ p ∈ (x, instObj 182 dx) :: (dx, dictOf (hdrE w tok l) 1) :: (l, listOf (refsOf tups).toArray nT) :: (D, listOf (refsOf ptups).toArray nD) :: (tups ++ ptups), ∀ z, p.2.data ≠ .cell z := by
  intro p hp z
  simp only [List.mem_cons, List.mem_append] at hp
  rcases hp with rfl | rfl | rfl | rfl | h | h
  · exact fun e => nomatch e
  · exact fun e => nomatch e
  · exact fun e => nomatch e
  · exact fun e => nomatch e
  · obtain ⟨i, hi⟩ := List.getElem?_of_mem h
    obtain ⟨r, _, n, t1, t2, e⟩ := hT.at i p hi
    rw [e]; exact fun e => nomatch e
  · obtain ⟨i, hi⟩ := List.getElem?_of_mem h
    obtain ⟨r, _, n, t1, t2, e⟩ := hP.at i p hi
    rw [e]; exact fun e => nomatch e
theorem item_wN {prog : Program} {w : World} {A : Around} {E : Value → Shared → Prop} {s : Shared} {h₀ : Heap} {L W : Addr} {news : List (Addr × Obj)} {n : Nat} {value slice : Expr} {ws : List (Str × Tok)} {wd : List Nat} {u : Tok} {Q : Value → Shared → Prop} (j : Nat) (N : News h₀ L s.heap news) (hm : (W, listOf (strValues ws).toArray n) ∈ news)
    (hws : ws.map (·.1) = (List.range (wd.length + 1)).map (wantN wd)) (hj : j < wd.length + 1) (hd : wd.length ≤ 4) (h : ∀ t', Q (.str (wantN wd j) t') s)
    (hs : subscripted slice false (.ref W) (.int (j : Int) u) = operate [.ref W, .int (j : Int) u] (getItem (.ref W) (.int (j : Int) u)) := by with_unfolding_all rfl) :
    wpAny (model prog w) A (subscriptTail value slice (.ref W) (.int (j : Int) u)) Q E s := by
  have hlen : ws.length = wd.length + 1 := by have := congrArg List.length hws; simpa using this
  refine item_strsT ⟨_, (N _ hm).1, rfl, _, rfl⟩ (by first | with_reducible assumption | with_reducible exact lt_num (by with_reducible assumption) (Nat.le_of_ble_eq_true rfl) | with_reducible exact le_num (by with_reducible assumption) (Nat.le_of_ble_eq_true rfl) | with_reducible exact le_le (by with_reducible assumption) (Nat.le_of_ble_eq_true rfl) | omega) (by first | with_reducible assumption | with_reducible exact lt_num (by with_reducible assumption) (Nat.le_of_ble_eq_true rfl) | with_reducible exact le_num (by with_reducible assumption) (Nat.le_of_ble_eq_true rfl) | with_reducible exact le_le (by with_reducible assumption) (Nat.le_of_ble_eq_true rfl) | omega) (by first | with_reducible assumption | with_reducible exact lt_num (by with_reducible assumption) (Nat.le_of_ble_eq_true rfl) | with_reducible exact le_num (by with_reducible assumption) (Nat.le_of_ble_eq_true rfl) | with_reducible exact le_le (by with_reducible assumption) (Nat.le_of_ble_eq_true rfl) | omega) (fun y t' hy => ?_) hs
  rw [hws, Int.toNat_natCast, List.getElem?_map, List.getElem?_range (by first | with_reducible assumption | with_reducible exact lt_num (by with_reducible assumption) (Nat.le_of_ble_eq_true rfl) | with_reducible exact le_num (by with_reducible assumption) (Nat.le_of_ble_eq_true rfl) | with_reducible exact le_le (by with_reducible assumption) (Nat.le_of_ble_eq_true rfl) | omega)] at hy
  rw [← Option.some.inj hy]
  exact h t'
theorem upN_ok {wd : List Nat} {j : Nat} (hd : ∀ d ∈ wd, d < 8) (hl : wd.length ≤ 4) : NmOk (Txt.upper (wantN wd j)) := by
  have hm := wantN_mem (j := j) hd
  refine ⟨?_, ?_, ?_⟩
  · unfold wantN
    rw [upper_tx hm]
    refine safe_tx fun c hc => ?_
    obtain ⟨d, hd2, rfl⟩ := List.mem_map.mp hc
    unfold upg
    rcases hm d hd2 with h | h
    · rw [if_pos h]; omega
    · rw [if_neg (by first | with_reducible assumption | with_reducible exact lt_num (by with_reducible assumption) (Nat.le_of_ble_eq_true rfl) | with_reducible exact le_num (by with_reducible assumption) (Nat.le_of_ble_eq_true rfl) | with_reducible exact le_le (by with_reducible assumption) (Nat.le_of_ble_eq_true rfl) | omega)]; omega
  · unfold wantN
    rw [lower_up hm]
    exact safe_tx fun c hc => by rcases hm c hc with h | h <;> omega
  · have h1 := len_upper (wantN wd j)
    have h2 := wantN_len (wd := wd) (j := j) hl
    omega
theorem ok_twice {wd : List Nat} {b : Nat} (test : Nat → Bool) (hb : b ≤ 3) (n : Nat) : ∀ y ∈ twice test (heldN wd b n), PyData.strOk y = true := by
  intro y hy
  unfold twice heldN at hy
  obtain ⟨r, hr, hy⟩ := List.mem_flatMap.mp hy
  obtain ⟨t, _, rfl⟩ := List.mem_map.mp hr
  have hs : y = txN b t (plN b) := by
    split at hy
    · simpa using hy
    · cases hy
  rw [hs]
  unfold PyData.strOk
  rw [Array.all_eq_true']
  intro c hc
  have h1 := txN_safe (t := t) (p := plN b) hb c (Array.mem_toList_iff.mpr hc)
  simp only [decide_eq_true_eq]
  omega
theorem join_txs (l : List (List Nat)) : Txt.join (Str.ofString "") (l.map tx) = tx l.flatten := by
  show PySem.Builtin.Str.glued _ _ = _
  rw [StrLaws.glued_eq_join]
  induction l with
  | nil => rfl
  | cons a r ih =>
    cases r with
    | nil => show tx a = tx (a ++ []); rw [List.append_nil]
    | cons b r =>
      show tx a ++ Str.ofString "" ++ Str.join _ ((b :: r).map tx) = _
      rw [ih]
      apply Str.ext'
      rw [Str.cps_append, Str.cps_append]
      simp [tx, show (Str.ofString "").cps = #[] from rfl]
theorem want_glue (wd : List Nat) (j : Nat) : Str.ofString "..." ++ Txt.join (Str.ofString "") ((wd.take j).map fun d => tx [97 + d, 46, 46, 46]) = wantN wd j := by
  rw [show (wd.take j).map (fun d => tx [97 + d, 46, 46, 46]) = ((wd.take j).map fun d => [97 + d, 46, 46, 46]).map tx by rw [List.map_map]; rfl, join_txs]
  rw [show Str.ofString "..." = tx [46, 46, 46] from by kernel_rfl, tx_append]
  unfold wantN wantC
  congr 2
  rw [List.flatMap_map, List.flatMap_def]
theorem piece_eq {d : Nat} (h : d < 8) : Txt.item (Str.ofString "abcdefgh") (d : Int) ++ Str.ofString "..." = tx [97 + d, 46, 46, 46] := by
  rw [item_ah d h, show Str.ofString "..." = tx [46, 46, 46] from by kernel_rfl, tx_append]
  rfl
/-- a cut behind the n-th statement, with the frame and the ledger told -/
theorem cutG {M : Model} {A : Around} {E : Value → Shared → Prop} {env : Env} {body : List Stmt} {Q : Flow → Shared → Prop} {s : Shared} {g : Heap} {L : Addr} {m : Str → Option Value} {news : List (Addr × Obj)} (n : Nat) (P : Heap → Addr → (Str → Option Value) → List (Addr × Obj) → Prop)
    (_F : Fr g L s.heap m) (_N : News g L s.heap news)
    (h1 : ∀ K : Flow → Shared → Prop, (∀ h tk m' nx, Fr g L h m' → News g L h nx → P g L m' nx → K .next { s with heap := h, toks := tk }) → wpAny M A (execs (body.take n) env) K E s)
    (h2 : ∀ h tk m' nx, Fr g L h m' → News g L h nx → P g L m' nx → wpAny M A (execs (body.drop n) env) Q E { s with heap := h, toks := tk }) : wpAny M A (execs body env) Q E s :=
  cutN n (fun s' => ∃ h tk m' nx, s' = { s with heap := h, toks := tk } ∧ Fr g L h m' ∧ News g L h nx ∧ P g L m' nx) (h1 _ fun h tk m' nx F N hP => ⟨h, tk, m', nx, rfl, F, N, hP⟩) fun s' h => by
    obtain ⟨h, tk, m', nx, rfl, F, N, hP⟩ := h
    exact h2 h tk m' nx F N hP
/-- the same as iter_range: what comes behind a turn is out of sight -/
theorem iter_rangeJ {prog : Program} {w : World} {A : Around} {E : Value → Shared → Prop} {s : Shared} {env : Env} {h₀ : Heap} {Q : Flow → Shared → Prop} {target : Expr} {body : List Stmt} {r : Addr} {a b : Int} {t u v : Tok} {n : Nat} {m₀ : Str → Option Value} {news : List (Addr × Obj)} (J : Nat → (Str → Option Value) → List (Addr × Obj) → Prop)
    (hh : A.handled = none) (hr : IsRange s.heap r a b 1 t u v) (hsm : Builtin.Range.small a b 1 = true) (hn : Builtin.Range.rangeSize a b 1 = ((n : Nat) : Int)) (F : Fr h₀ env.locals s.heap m₀) (N : News h₀ env.locals s.heap news) (hj : J 0 m₀ news)
    (turn : ∀ (J' : (Str → Option Value) → List (Addr × Obj) → Prop) (Q : Flow → Shared → Prop) (i : Nat) (t : Tok) m₁ news₁ h tk I own, (∀ m nx, J (i + 1) m nx → J' m nx) → i < n → J i m₁ news₁ → (∀ p ∈ news₁, p.1 ≠ I) → (∀ p ∈ own, p.1 = I) → (∃ o, (I, o) ∈ own ∧ o.cls = .type "range_iterator") → Fr h₀ env.locals h m₁ → News h₀ env.locals h (news₁ ++ own) →
      wpAny (model prog w) A (assign target env (.int (a + (i : Int)) t)) (fun _ s₄ => wpAny (model prog w) A (execs body env) (OurTurn h₀ env.locals I own J' s Q) E s₄) E { s with heap := h, toks := tk })
    (done : ∀ m₁ news₁ h tk, J n m₁ news₁ → Fr h₀ env.locals h m₁ → News h₀ env.locals h news₁ → Q .next { s with heap := h, toks := tk })
    (ht : ∀ a v, letOwnedTupleGo target a v = pure () := by intro _ _; rfl) :
    wpAny (model prog w) A (pyIter (.ref r)) (fun it s₂ => LoopOwn prog w A h₀ env target body Q E it s₂) E s :=
  iter_range J hh hr hsm hn F N hj (fun i t m₁ news₁ h tk I own => turn (J (i + 1)) Q i t m₁ news₁ h tk I own fun _ _ h => h) done ht
inductive P1 (g : Heap) (L : Addr) (m : Str → Option Value) (nx : List (Addr × Obj)) : Prop
  | mk (b : Nat) (wd : List Nat) (wv : List Value) (ws : List (Str × Tok)) (W WN nW nWs : Nat) (oA oB oC : Obj) (tl : List (Addr × Obj)) (tb tA : Tok) (h1 : 1 ≤ b) (h2 : b ≤ 3) (h3 : 1 ≤ wd.length) (h4 : wd.length ≤ 4) (h5 : (∀ d ∈ wd, d < 2 ^ b)) (h6 : IntsAre wv (castL wd)) (h7 : ws.map (·.1) = (List.range (wd.length + 1)).map (wantN wd)) (h8 : TabS S1 S2 tl) (h9 : nx = (WN, listOf (strValues ws).toArray nWs) :: (W, listOf wv.toArray nW) :: (L + 1 + 1 + 1, oC) :: (L + 1 + 1, oB) :: (L + 1, oA) :: tl) (h10 : oA.data = .cell (some (.int ((2 ^ b : Nat) : Int) tA))) (h11 : oB.data = .cell (some (.ref W))) (h12 : (∃ z, oC.data = .cell z)) (h13 : m "bits" = some (.int (b : Int) tb)) (h14 : m "wants" = some (.ref WN)) : P1 g L m nx
inductive PA (g : Heap) (L : Addr) (m : Str → Option Value) (nx : List (Addr × Obj)) : Prop
  | mk (b : Nat) (tb tA : Tok) (oA oB oC : Obj) (l : Addr) (sv : List Value) (sc : List Int) (h1 : 1 ≤ b) (h2 : b ≤ 3) (h3 : nx = (L + 1 + 1 + 1, oC) :: (L + 1 + 1, oB) :: (L + 1, oA) :: [(202, tabObj #[]), (209, tabObj #[])]) (h4 : oA.data = .cell (some (.int ((2 ^ b : Nat) : Int) tA))) (h5 : (∃ z, oB.data = .cell z)) (h6 : (∃ z, oC.data = .cell z)) (h7 : m "bits" = some (.int (b : Int) tb)) (h8 : m "script" = some (.ref l)) (h9 : g.IsList l sv.toArray) (h10 : IntsAre sv sc) (h11 : sc.length ≤ 63) : PA g L m nx
inductive PB (g : Heap) (L : Addr) (m : Str → Option Value) (nx : List (Addr × Obj)) : Prop
  | mk (b : Nat) (wd : List Nat) (wv : List Value) (W nW : Nat) (oA oB oC : Obj) (tb tA : Tok) (h1 : 1 ≤ b) (h2 : b ≤ 3) (h3 : 1 ≤ wd.length) (h4 : wd.length ≤ 4) (h5 : (∀ d ∈ wd, d < 2 ^ b)) (h6 : IntsAre wv (castL wd)) (h7 : nx = (W, listOf wv.toArray nW) :: (L + 1 + 1 + 1, oC) :: (L + 1 + 1, oB) :: (L + 1, oA) :: [(202, tabObj #[]), (209, tabObj #[])]) (h8 : oA.data = .cell (some (.int ((2 ^ b : Nat) : Int) tA))) (h9 : oB.data = .cell (some (.ref W))) (h10 : (∃ z, oC.data = .cell z)) (h11 : m "bits" = some (.int (b : Int) tb)) : PB g L m nx
inductive P2 (w : World) (g : Heap) (L : Addr) (m : Str → Option Value) (nx : List (Addr × Obj)) : Prop
  | mk (b : Nat) (wd : List Nat) (wv : List Value) (ws : List (Str × Tok)) (W WN nW nWs : Nat) (oA oB oC : Obj) (tl big : List (Addr × Obj)) (tb tA tok : Tok) (x dx l nT D nD : Nat) (tups ptups : List (Addr × Obj)) (h1 : 1 ≤ b) (h2 : b ≤ 3) (h3 : 1 ≤ wd.length) (h4 : wd.length ≤ 4) (h5 : (∀ d ∈ wd, d < 2 ^ b)) (h6 : IntsAre wv (castL wd)) (h7 : ws.map (·.1) = (List.range (wd.length + 1)).map (wantN wd)) (h8 : TabS S1 S2 tl) (h9 : nx = (WN, listOf (strValues ws).toArray nWs) :: (W, listOf wv.toArray nW) :: (L + 1 + 1 + 1, oC) :: (L + 1 + 1, oB) :: (L + 1, oA) :: (tl ++ big)) (h10 : oA.data = .cell (some (.int ((2 ^ b : Nat) : Int) tA))) (h11 : oB.data = .cell (some (.ref W))) (h12 : (∃ z, oC.data = .cell z)) (h13 : m "bits" = some (.int (b : Int) tb)) (h14 : m "wants" = some (.ref WN)) (h15 : m "table" = some (.ref x)) (h16 : m "held" = some (.ref D)) (h17 : TupsAre tups (fileN wd b (cntN b))) (h18 : PairsAre ptups (heldN wd b (cntN b))) (h19 : (∀ p ∈ big, NotFld p.2)) (h20 : big = (x, instObj 182 dx) :: (dx, dictOf (hdrE w tok l) 1) :: (l, listOf (refsOf tups).toArray nT) :: (D, listOf (refsOf ptups).toArray nD) :: (tups ++ ptups)) : P2 w g L m nx
inductive P3 (w : World) (g : Heap) (L : Addr) (m : Str → Option Value) (nx : List (Addr × Obj)) : Prop
  | mk (b : Nat) (wd : List Nat) (wv cv : List Value) (ws : List (Str × Tok)) (W WN CN nW nWs nC : Nat) (oA oB oC : Obj) (tl big : List (Addr × Obj)) (tA tok : Tok) (x dx l nT D nD : Nat) (tups ptups : List (Addr × Obj)) (h1 : 1 ≤ b) (h2 : b ≤ 3) (h3 : 1 ≤ wd.length) (h4 : wd.length ≤ 4) (h5 : (∀ d ∈ wd, d < 2 ^ b)) (h6 : IntsAre wv (castL wd)) (h7 : ws.map (·.1) = (List.range (wd.length + 1)).map (wantN wd)) (h8 : IntsAre cv (cntsN b wd.length)) (h9 : TabS S1 S2 tl) (h10 : nx = (CN, listOf cv.toArray nC) :: (WN, listOf (strValues ws).toArray nWs) :: (W, listOf wv.toArray nW) :: (L + 1 + 1 + 1, oC) :: (L + 1 + 1, oB) :: (L + 1, oA) :: (tl ++ big)) (h11 : oA.data = .cell (some (.int ((2 ^ b : Nat) : Int) tA))) (h12 : oB.data = .cell (some (.ref W))) (h13 : (∃ z, oC.data = .cell z)) (h14 : m "wants" = some (.ref WN)) (h15 : m "counts" = some (.ref CN)) (h16 : m "table" = some (.ref x)) (h17 : m "held" = some (.ref D)) (h18 : TupsAre tups (fileN wd b (cntN b))) (h19 : PairsAre ptups (heldN wd b (cntN b))) (h20 : (∀ p ∈ big, NotFld p.2)) (h21 : big = (x, instObj 182 dx) :: (dx, dictOf (hdrE w tok l) 1) :: (l, listOf (refsOf tups).toArray nT) :: (D, listOf (refsOf ptups).toArray nD) :: (tups ++ ptups)) : P3 w g L m nx
theorem rep_zero {n k : Nat} (h : k ≤ n) : (List.replicate ((n : Int) - (k : Int)).toNat [(0 : Int)]).flatten = List.replicate (n - k) 0 := by
  rw [show ((n : Int) - (k : Int)).toNat = n - k by omega]
  generalize n - k = m
  induction m with
  | zero => rfl
  | succ m ih => rw [List.replicate_succ, List.flatten_cons, ih]; rfl
local macro_rules | `(tactic| k_room) => `(tactic| ((try simp only [Around.deeper, recursionLimit] at *); omega))
local macro_rules | `(tactic| k_units) => `(tactic| ((try simp only [Around.deeper, Around.in1, cLine] at *); omega))
local macro_rules | `(tactic| k_all) => `(tactic| first | with_reducible assumption | exact allLt_ne (by with_reducible assumption) | exact Low.ne (by with_reducible assumption) (by omega) | (exact Low.ne (by assumption) (by omega)))
local macro_rules | `(tactic| walk_at "eval Name") => `(tactic| (k_here; k_dflt (refine' nameX_L ?F ?v ?_ ?a ?b; (case F => k_asm); (case a => rfl); (case b => rfl); (case v => first | exact rfl | assumption); k_whole)))
local macro_rules | `(tactic| walk_at "loadName") => `(tactic| (k_here; k_dflt (refine' loadX ?F ?v ?_ ?a ?b; (case F => k_asm); (case a => rfl); (case b => rfl); (case v => first | exact rfl | assumption); k_whole)))
local macro_rules | `(tactic| walk_at "exec For Name Call cons nil") => `(tactic| (k_here; k_dflt (refine' for_ownF ?k1 ?_ ?k2 ?k3; (case k1 => k_asm); (case k2 => (intro _; rfl)); (case k3 => passes_own))))
local macro_rules | `(tactic| walk_at "pyIter ref") => `(tactic| (k_here; refine Halt.mk ?_))
local macro_rules | `(tactic| walk_at "call ref") => `(tactic| (k_here; refine Halt.mk ?_))
local macro_rules | `(tactic| walk_at "eval ListComp") => `(tactic| (k_here; refine Halt.mk ?_))
local macro_rules | `(tactic| walk_at "CompSrc") => `(tactic| (refine Halt.mk ?_))
local macro_rules | `(tactic| walk_at "GrownAll") => `(tactic| assumption)
local macro_rules | `(tactic| walk_at "binaryOp Pow int int") => `(tactic| (k_here; refine Halt.mk ?_))
local macro_rules | `(tactic| walk_at "call builtin:len") => `(tactic| (k_here; refine Halt.mk ?_))
local macro_rules | `(tactic| walk_at "compareOp NotEq int int") => `(tactic| (k_here; refine Halt.mk ?_))
local macro_rules | `(tactic| walk_at "subscriptTail Name Name ref int") => `(tactic| (k_here; refine Halt.mk ?_))
local macro_rules | `(tactic| walk_at "compareOp NotEq ref ref") => `(tactic| (k_here; refine Halt.mk ?_))
theorem law_02 : PySem.Challenge.rw_pg0310_02.Holds := hd02 (by
  k_go0
  (all_goals try k_fold)
  (try dsimp only)
  rename Fr _ _ _ _ => F
  rename News _ _ _ _ => Nw
  rename World => w
  rename Shared => s1
  refine cutG 4 P1 F Nw ?_ ?_
  · intro K hK0
    dsimp only [List.take]
    refine cutG 2 PA F Nw ?_ ?_
    · intro K hK
      dsimp only [List.take]
      k_steps
      rename Fr _ _ _ _ => F
      rename News _ _ _ _ => Nw
      rename (0 : Int) ≤ Int.fmod _ 3 => hlo
      rename Int.fmod _ 3 < 3 => hhi
      rename _ = Data.cell (some (Value.int (1 * 2 ^ _) _)) => hA
      generalize Int.fmod _ 3 = X at hlo hhi hA F
      obtain ⟨b, hb⟩ : ∃ b : Nat, 1 + X = (b : Int) := ⟨(1 + X).toNat, by omega⟩
      rw [hb] at hA F
      rw [Int.one_mul, Int.toNat_natCast, two_pow_cast] at hA
      rename IntsAre _ _ => hI0
      obtain ⟨oC, oB, oA, tA, Nw, ⟨z1, hoC⟩, ⟨z2, hoB⟩, hA⟩ : ∃ oC oB oA tA, News (ghostOf s1.heap [(213, 209), (206, 202)]) s1.heap.objs.size _ [_, _, _, (s1.heap.objs.size + 1 + 1 + 1, oC), (s1.heap.objs.size + 1 + 1, oB), (s1.heap.objs.size + 1, oA), (209, tabObj #[]), (202, tabObj #[])] ∧ (∃ z, oC.data = .cell z) ∧ (∃ z, oB.data = .cell z) ∧ oA.data = .cell (some (.int ((2 ^ b : Nat) : Int) tA)) := ⟨_, _, _, _, Nw, ⟨_, by assumption⟩, ⟨_, by assumption⟩, hA⟩
      refine hK _ _ _ _ F (fun p hp => Nw p ?_) ⟨b, _, tA, oA, oB, oC, _, _, _, by omega, by omega, rfl, hA, ⟨z2, hoB⟩, ⟨z1, hoC⟩, rfl, rfl, by assumption, by assumption, by omega⟩
      simp only [List.mem_cons, List.not_mem_nil, or_false] at hp ⊢
      rcases hp with h | h | h | h | h <;> (first | exact Or.inl h | exact Or.inr (Or.inl h) | exact Or.inr (Or.inr (Or.inl h)) | exact Or.inr (Or.inr (Or.inr (Or.inl h))) | exact Or.inr (Or.inr (Or.inr (Or.inr (Or.inl h)))) | exact Or.inr h | exact Or.inr (Or.inr h) | exact Or.inr (Or.inr (Or.inr h)) | exact Or.inr (Or.inr (Or.inr (Or.inr h))) | exact Or.inr (Or.inr (Or.inr (Or.inr (Or.inr h)))) | simp [h])
    · clear F Nw
      rintro h tk m nx F Nw ⟨b, tb, tA, oA, oB, oC, l, sv, sc, hb1, hb3, rfl, hoA, ⟨z2, hoB⟩, ⟨z1, hoC⟩, m1, m2, hsl, hsv, hscl⟩
      dsimp only [List.drop]
      refine cutG 1 PB F Nw ?_ ?_
      · intro K hK
        dsimp only [List.take]
        have hb8 : (1 : Int) ≤ ((2 ^ b : Nat) : Int) := by
          have := Nat.two_pow_pos b
          omega
        obtain ⟨mm, hmm⟩ : ∃ mm : Int, mm = ((2 ^ b : Nat) : Int) ∧ True := ⟨_, rfl, trivial⟩
        rw [← hmm.1] at hoA hb8
        k_steps
        refine Halt.go ?_
        k_dflt (refine LCg.ListComp_U (F₀ := by k_asm) (by with_unfolding_all rfl) (by decide) (by rfl) (by decide) (by rfl) ?_)
        k_steps
        rename Fr _ _ _ _ => F
        rename News _ _ _ _ => Nw
        rename IntsAre _ (List.take _ (List.drop 1 sc)) => hzi
        rename List.length (List.take _ (List.drop 1 sc)) = _ => hzl
        generalize List.take _ (List.drop 1 sc) = zs at hzi hzl
        have hwsl := hzi.length
        refine Halt.go (LCg.CompSrc.ledger (k := 0) rfl F Nw (List.mem_cons_self ..) (by rw [List.size_toArray, sizeLine_eq]; omega) fun g => ?_)
        refine compU_ind (fun j ys nx => nx = _ ∧ IntsAre ys ((zs.take j).map fun x => x.fmod mm)) ?_ ?_ _ 0 [] _ (Nat.zero_add _) ⟨rfl, .nil⟩
        · clear F Nw
          rintro j ys nx ⟨rfl, hys⟩ hj v I2 oI2 C oC2 D3 m₃ h6 tk6 E' hv hC hx F Nw off ne3
          obtain ⟨n0, t0, rfl, hn0⟩ := hzi.at j v (by simpa using hv)
          (try dsimp only)
          k_steps
          rename Fr _ _ _ _ => F
          rename News _ _ _ _ => Nw
          refine LCg.CompEnd.intro F Nw _ (fun p hp => hp) off (.inr ⟨_, List.mem_cons_self .., rfl, _, rfl⟩) ⟨rfl, ?_⟩
          rw [take_at hn0, List.map_append]
          exact hys.append (.cons _ _ .nil)
        · clear F Nw
          rintro ys nx ⟨rfl, hys⟩
          rw [List.take_of_length_le (by rw [List.size_toArray]; omega)] at hys
          intro D4 h6 tk6 F Nw o1
          have hyl : ys.length = zs.length := by rw [hys.length, List.length_map]
          have hD4 : D4 ≠ s1.heap.objs.size + 1 + 1 := cell_ne (Nw _ (List.mem_cons_self ..)).1 (Nw (s1.heap.objs.size + 1 + 1, oB) (by first | ((repeat (first | with_reducible exact List.mem_cons_self .. | with_reducible refine List.mem_cons_of_mem _ ?_)); done) | simp)).1 hoB (fun _ e => nomatch e)
          have hD1 := cell_ne (Nw _ (List.mem_cons_of_mem _ (List.mem_cons_self ..))).1 (Nw (s1.heap.objs.size + 1 + 1, oB) (by first | ((repeat (first | with_reducible exact List.mem_cons_self .. | with_reducible refine List.mem_cons_of_mem _ ?_)); done) | simp)).1 hoB (fun _ e => nomatch e)
          dsimp only at hD1
          have hpow := Nat.two_pow_pos b
          have h2b : 2 ≤ 2 ^ b := Nat.pow_le_pow_right (n := 2) (by decide) hb1
          have hfm : ∀ x : Int, 0 ≤ x.fmod mm ∧ x.fmod mm < mm := fun x => ⟨Int.fmod_nonneg_of_pos x (by first | with_reducible assumption | with_reducible exact lt_num (by with_reducible assumption) (Nat.le_of_ble_eq_true rfl) | with_reducible exact le_num (by with_reducible assumption) (Nat.le_of_ble_eq_true rfl) | with_reducible exact le_le (by with_reducible assumption) (Nat.le_of_ble_eq_true rfl) | omega), Int.fmod_lt_of_pos x (by first | with_reducible assumption | with_reducible exact lt_num (by with_reducible assumption) (Nat.le_of_ble_eq_true rfl) | with_reducible exact le_num (by with_reducible assumption) (Nat.le_of_ble_eq_true rfl) | with_reducible exact le_le (by with_reducible assumption) (Nat.le_of_ble_eq_true rfl) | omega)⟩
          have hcast : castL (zs.map fun x => (x.fmod mm).toNat) = zs.map fun x => x.fmod mm := by
            unfold castL
            rw [List.map_map]
            exact List.map_congr_left fun x _ => Int.toNat_of_nonneg (hfm x).1
          rw [← hcast] at hys
          (try dsimp only)
          k_steps
          · rename Fr _ _ _ _ => F
            rename News _ _ _ _ => Nw
            rename _ = Data.cell (some (Value.ref _)) => hB
            refine hK _ _ _ _ F (fun p hp => Nw p ?_) ⟨b, [1, 0], [.int 1 (tk6 + 1 + 1), .int 0 (tk6 + 1 + 1 + 1)], _, 0, oA, _, oC, tb, tA, hb1, hb3, by decide, by decide, ?_, .cons _ _ (.cons _ _ .nil), rfl, by rw [← hmm.1]; exact hoA, hB, ⟨z1, hoC⟩, m1⟩
            · simp only [List.mem_cons, List.not_mem_nil, or_false] at hp ⊢
              rcases hp with h | h | h | h | h | h <;> (first | exact Or.inl h | exact Or.inr (Or.inl h) | exact Or.inr (Or.inr (Or.inl h)) | exact Or.inr (Or.inr (Or.inr (Or.inl h))) | exact Or.inr (Or.inr (Or.inr (Or.inr (Or.inl h)))) | exact Or.inr (Or.inr (Or.inr (Or.inr (Or.inr (Or.inl h))))) | exact Or.inr h | exact Or.inr (Or.inr h) | exact Or.inr (Or.inr (Or.inr h)) | exact Or.inr (Or.inr (Or.inr (Or.inr h))) | exact Or.inr (Or.inr (Or.inr (Or.inr (Or.inr h)))) | exact Or.inr (Or.inr (Or.inr (Or.inr (Or.inr (Or.inr h))))) | simp [h])
            · intro d hd
              simp only [List.mem_cons, List.not_mem_nil, or_false] at hd
              rcases hd with h | h <;> omega
          · rename Fr _ _ _ _ => F
            rename News _ _ _ _ => Nw
            rename _ = Data.cell (some (Value.ref D4)) => hB
            rename List.isEmpty _ = false => hemp
            have hpos : 0 < zs.length := by
              rw [← hyl]
              cases ys with
              | nil => cases hemp
              | cons _ _ => simp
            refine hK _ _ _ _ F (fun p hp => Nw p ?_) ⟨b, zs.map fun x => (x.fmod mm).toNat, ys, D4, ys.length, oA, _, oC, tb, tA, hb1, hb3, by rw [List.length_map]; exact hpos, by rw [List.length_map]; omega, ?_, hys, rfl, by rw [← hmm.1]; exact hoA, hB, ⟨z1, hoC⟩, m1⟩
            · simp only [List.mem_cons, List.not_mem_nil, or_false] at hp ⊢
              rcases hp with h | h | h | h | h | h <;> (first | exact Or.inl h | exact Or.inr (Or.inl h) | exact Or.inr (Or.inr (Or.inl h)) | exact Or.inr (Or.inr (Or.inr (Or.inl h))) | exact Or.inr (Or.inr (Or.inr (Or.inr (Or.inl h)))) | exact Or.inr (Or.inr (Or.inr (Or.inr (Or.inr (Or.inl h))))) | exact Or.inr h | exact Or.inr (Or.inr h) | exact Or.inr (Or.inr (Or.inr h)) | exact Or.inr (Or.inr (Or.inr (Or.inr h))) | exact Or.inr (Or.inr (Or.inr (Or.inr (Or.inr h)))) | exact Or.inr (Or.inr (Or.inr (Or.inr (Or.inr (Or.inr h))))) | simp [h])
            · intro d hd
              obtain ⟨y, _, rfl⟩ := List.mem_map.mp hd
              have := hfm y
              rw [hmm.1] at this ⊢
              omega
      · clear F Nw
        rintro h tk m nx F Nw ⟨b, wd, wv, W, nW, oA, oB, oC, tb, tA, hb1, hb3, hl1, hl4, hwd, hwv, rfl, hoA, hoB, ⟨z, hoC⟩, m1⟩
        dsimp only [List.drop]
        have hwl : wv.length = wd.length := by rw [hwv.length, castL_length]
        (try k_fold)
        k_steps
        refine Halt.go (lenN (vs := wv) (n := nW) (by assumption) (by first | ((repeat (first | with_reducible exact List.mem_cons_self .. | with_reducible refine List.mem_cons_of_mem _ ?_)); done) | simp) (by first | with_reducible assumption | with_reducible exact lt_num (by with_reducible assumption) (Nat.le_of_ble_eq_true rfl) | with_reducible exact le_num (by with_reducible assumption) (Nat.le_of_ble_eq_true rfl) | with_reducible exact le_le (by with_reducible assumption) (Nat.le_of_ble_eq_true rfl) | omega) fun tkl kl => ?_)
        rw [hwl]
        k_steps
        (try clear F Nw)
        rename Fr _ _ _ _ => F
        rename News _ _ _ _ => Nw
        rename IsRange _ _ _ _ _ _ _ _ => hr
        refine Halt.go (LCg.CompSrc.range (n := wd.length + 1) rfl F Nw hr (by exact (range_n (wd.length + 1) (by first | with_reducible assumption | with_reducible exact lt_num (by with_reducible assumption) (Nat.le_of_ble_eq_true rfl) | with_reducible exact le_num (by with_reducible assumption) (Nat.le_of_ble_eq_true rfl) | with_reducible exact le_le (by with_reducible assumption) (Nat.le_of_ble_eq_true rfl) | omega)).1) (by exact (range_n (wd.length + 1) (by first | with_reducible assumption | with_reducible exact lt_num (by with_reducible assumption) (Nat.le_of_ble_eq_true rfl) | with_reducible exact le_num (by with_reducible assumption) (Nat.le_of_ble_eq_true rfl) | with_reducible exact le_le (by with_reducible assumption) (Nat.le_of_ble_eq_true rfl) | omega)).2) (by rw [sizeLine_eq]; omega) fun g => ?_)
        refine compU_ind (fun j ys nx => nx = _ ∧ ∃ ps, ys = strValues ps ∧ ps.map (·.1) = (List.range j).map (wantN wd)) ?_ ?_ _ 0 [] _ (Nat.zero_add _) ⟨rfl, [], rfl, rfl⟩
        · clear F Nw hr
          rintro j ys nx ⟨rfl, ps, rfl, hps⟩ hj v I2 oI2 C oC2 D3 m₃ h6 tk6 E' ⟨tv, rfl⟩ hC hx F Nw off ne3
          rw [Int.zero_add] at hx
          (try dsimp only)
          k_steps
          refine Halt.go ?_
          k_dflt (refine LCg.ListComp_U (F₀ := by k_asm) (by with_unfolding_all rfl) (by decide) (by rfl) (by decide) (by rfl) ?_)
          k_steps
          rename Fr _ _ _ _ => F
          rename News _ _ _ _ => Nw
          rename IntsAre _ (List.take _ (castL wd)) => hzi
          have ez : List.take (j : Int).toNat (castL wd) = castL (wd.take j) := by
            rw [Int.toNat_natCast]
            unfold castL
            rw [List.map_take]
          rw [ez] at hzi
          have hwsl := hzi.length
          rw [castL_length, List.length_take] at hwsl
          refine Halt.go (LCg.CompSrc.ledger (k := 0) rfl F Nw (List.mem_cons_self ..) (by rw [List.size_toArray, sizeLine_eq]; omega) fun g => ?_)
          refine compU_ind (fun q ys nx => nx = _ ∧ ∃ ps2, ys = strValues ps2 ∧ ps2.map (·.1) = ((wd.take j).take q).map fun d => tx [97 + d, 46, 46, 46]) ?_ ?_ _ 0 [] _ (Nat.zero_add _) ⟨rfl, [], rfl, rfl⟩
          · clear F Nw
            rintro q ys nx ⟨rfl, ps2, rfl, hps2⟩ hq v I4 oI4 C4 oC4 D4 m₄ h7 tk7 E2 hv hC4 hx4 F Nw off4 ne4
            rw [List.size_toArray] at hq
            obtain ⟨n0, t0, rfl, hn0⟩ := hzi.at q v (by simpa using hv)
            obtain ⟨d, hd1, rfl⟩ : ∃ d, (wd.take j)[q]? = some d ∧ n0 = ((d : Nat) : Int) := by
              unfold castL at hn0
              rw [List.getElem?_map] at hn0
              cases hd : (wd.take j)[q]? with
              | none => rw [hd] at hn0; cases hn0
              | some d => rw [hd] at hn0; exact ⟨d, rfl, (Option.some.inj hn0).symm⟩
            have hdl : d < 8 := Nat.lt_of_lt_of_le (hwd d (List.mem_of_mem_take (List.mem_of_getElem? hd1))) (pl_le hb1 hb3).2.2.2.2.2
            have hsz : (Txt.item (Str.ofString "abcdefgh") (d : Int)).length + (Str.ofString "...").length ≤ sizeLine := by
              rw [item_ah d hdl, tx_len, sizeLine_eq, show (Str.ofString "...").length = 3 from by decide +kernel]
              show 1 + 3 ≤ _
              omega
            (try dsimp only)
            k_steps
            rename Fr _ _ _ _ => F
            rename News _ _ _ _ => Nw
            refine LCg.CompEnd.intro F Nw _ (fun p hp => hp) off4 (.inr ⟨_, List.mem_cons_self .., rfl, _, rfl⟩) ⟨rfl, ps2 ++ [(_, _)], (strValues_snoc _ _ _).symm, ?_⟩
            rw [take_at hd1, List.map_append, List.map_append, hps2]
            show _ ++ [Txt.item (Str.ofString "abcdefgh") (d : Int) ++ Str.ofString "..."] = _
            rw [piece_eq hdl]
            rfl
          · clear F Nw
            rintro ys nx ⟨rfl, ps2, rfl, hps2⟩
            rw [List.take_of_length_le (by rw [List.size_toArray, List.length_take]; omega)] at hps2
            intro D4 h7 tk7 F Nw o4
            (try dsimp only)
            k_steps
            refine SC.join (x := Str.ofString "") (texts := (wd.take j).map fun d => tx [97 + d, 46, 46, 46]) ⟨_, (Nw _ (List.mem_cons_self ..)).1, rfl, _, rfl⟩ hps2 (joinOk_small (k := 4) (fun x hx => by obtain ⟨c, _, rfl⟩ := List.mem_map.mp hx; exact Nat.le_refl 4) (by decide) (by rw [List.length_map, List.length_take]; omega)) ?_
            intro tw kw
            have hg := want_glue wd j
            have hgl := congrArg Str.length hg
            rw [Str.length_append] at hgl
            have hwn := wantN_len (wd := wd) (j := j) hl4
            obtain ⟨tj, htj⟩ : ∃ tj, tj = Txt.join (Str.ofString "") ((wd.take j).map fun d => tx [97 + d, 46, 46, 46]) := ⟨_, rfl⟩
            rw [← htj] at hg hgl ⊢
            have hsz : (Str.ofString "...").length + tj.length ≤ sizeLine := by rw [sizeLine_eq]; omega
            clear htj hgl
            have hg : True ∧ Str.ofString "..." ++ tj = wantN wd j := ⟨trivial, hg⟩
            (try dsimp only)
            k_steps
            rename Fr _ _ _ _ => F
            rename News _ _ _ _ => Nw
            refine LCg.CompEnd.intro F Nw _ (fun p hp => List.mem_cons_of_mem _ (List.mem_cons_of_mem _ hp)) off trivial ⟨rfl, ps ++ [(_, _)], (strValues_snoc _ _ _).symm, ?_⟩
            rw [List.range_succ, List.map_append, List.map_append, hps]
            show _ ++ [Str.ofString "..." ++ tj] = _
            rw [hg.2]
            rfl
        · clear F Nw hr
          rintro ys nx ⟨rfl, ps, rfl, hps⟩
          intro D4 h6 tk6 F Nw o1
          (try dsimp only)
          k_steps
          refine hK0 _ _ _ _ F (fun p hp => Nw p ?_) ⟨b, wd, wv, ps, W, D4, nW, (strValues ps).length, oA, oB, oC, [(202, tabObj #[]), (209, tabObj #[])], tb, tA, hb1, hb3, hl1, hl4, hwd, hwv, hps, ⟨[(202, tabObj #[])], [(209, tabObj #[])], rfl, .inl rfl, .inl rfl⟩, rfl, hoA, hoB, ⟨z, hoC⟩, m1, rfl⟩
          exact hp
  · clear F Nw
    rintro h tk m nx F Nw ⟨b, wd, wv, ws, W, WN, nW, nWs, oA, oB, oC, tl, tb, tA, hb1, hb3, hl1, hl4, hwd, hwv, hws, hS, rfl, hoA, hoB, ⟨z, hoC⟩, m1, m2⟩
    dsimp only [List.drop]
    refine cutG 2 (P2 w) F Nw ?_ ?_
    rotate_left
    · clear F Nw m1 m2 hoA hoB hoC hS hws hwv hwd hl4 hl1 hb3 hb1
      rintro h tk m nx F Nw ⟨b, wd, wv, ws, W, WN, nW, nWs, oA, oB, oC, tl, big, tb, tA, tok, x, dx, l, nT, D, nD, tups, ptups, hb1, hb3, hl1, hl4, hwd, hwv, hws, hS, rfl, hoA, hoB, ⟨z, hoC⟩, m1, m2, m3, m4, hT, hPt, hbig, hbig2⟩
      dsimp only [List.drop]
      refine cutG 3 (P3 w) F Nw ?_ ?_
      rotate_left
      · clear F Nw m1 m2 m3 m4 hoA hoB hoC hS hws hwv hwd hl4 hl1 hb3 hb1 hT hPt hbig hbig2
        rintro h tk m nx F Nw ⟨b, wd, wv, cv, ws, W, WN, CN, nW, nWs, nC, oA, oB, oC, tl, big, tA, tok, x, dx, l, nT, D, nD, tups, ptups, hb1, hb3, hl1, hl4, hwd, hwv, hws, hcv, hS, rfl, hoA, hoB, ⟨z, hoC⟩, m2, m5, m3, m4, hT, hPt, hbig, hbig2⟩
        dsimp only [List.drop]
        (try k_fold)
        k_steps
        have hcl : cv.length = wd.length + 1 := by rw [hcv.length, cnts_len hb1 hb3 hl1 hl4]
        have hwl : (strValues ws).length = wd.length + 1 := by
          have := congrArg List.length hws
          simpa [strValues] using this
        obtain ⟨p1, p2, p3, p4, p5, p6⟩ := pl_le hb1 hb3
        refine Halt.go (lenN (vs := cv) (n := nC) (by assumption) (by first | ((repeat (first | with_reducible exact List.mem_cons_self .. | with_reducible refine List.mem_cons_of_mem _ ?_)); done) | simp) (by first | with_reducible assumption | with_reducible exact lt_num (by with_reducible assumption) (Nat.le_of_ble_eq_true rfl) | with_reducible exact le_num (by with_reducible assumption) (Nat.le_of_ble_eq_true rfl) | with_reducible exact le_le (by with_reducible assumption) (Nat.le_of_ble_eq_true rfl) | omega) fun tkl kl => ?_)
        rw [hcl]
        k_steps
        refine Halt.go (lenN (vs := strValues ws) (n := nWs) (by assumption) (by first | ((repeat (first | with_reducible exact List.mem_cons_self .. | with_reducible refine List.mem_cons_of_mem _ ?_)); done) | simp) (by first | with_reducible assumption | with_reducible exact lt_num (by with_reducible assumption) (Nat.le_of_ble_eq_true rfl) | with_reducible exact le_num (by with_reducible assumption) (Nat.le_of_ble_eq_true rfl) | with_reducible exact le_le (by with_reducible assumption) (Nat.le_of_ble_eq_true rfl) | omega) fun tkl kl => ?_)
        rw [hwl]
        k_steps
        refine Halt.go (ne_int ?_)
        rw [bne_self_eq_false]
        k_steps
        refine Halt.go (lenN (vs := strValues ws) (n := nWs) (by assumption) (by first | ((repeat (first | with_reducible exact List.mem_cons_self .. | with_reducible refine List.mem_cons_of_mem _ ?_)); done) | simp) (by first | with_reducible assumption | with_reducible exact lt_num (by with_reducible assumption) (Nat.le_of_ble_eq_true rfl) | with_reducible exact le_num (by with_reducible assumption) (Nat.le_of_ble_eq_true rfl) | with_reducible exact le_le (by with_reducible assumption) (Nat.le_of_ble_eq_true rfl) | omega) fun tkl kl => ?_)
        rw [hwl]
        k_steps
        (try clear F Nw)
        rename Fr _ _ _ _ => F
        rename News _ _ _ _ => Nw
        rename IsRange _ _ _ _ _ _ _ _ => hr
        refine Halt.go (iter_rangeJ (m₀ := _) (n := wd.length + 1) (fun i m nx => ∃ oC' z, oC'.data = .cell z ∧ nx = (CN, listOf cv.toArray nC) :: (WN, listOf (strValues ws).toArray nWs) :: (W, listOf wv.toArray nW) :: (s1.heap.objs.size + 1 + 1 + 1, oC') :: (s1.heap.objs.size + 1 + 1, oB) :: (s1.heap.objs.size + 1, oA) :: (tl ++ big) ∧ m "wants" = some (.ref WN) ∧ m "counts" = some (.ref CN) ∧ m "table" = some (.ref x) ∧ m "held" = some (.ref D))
          rfl hr (range_n _ (by first | with_reducible assumption | with_reducible exact lt_num (by with_reducible assumption) (Nat.le_of_ble_eq_true rfl) | with_reducible exact le_num (by with_reducible assumption) (Nat.le_of_ble_eq_true rfl) | with_reducible exact le_le (by with_reducible assumption) (Nat.le_of_ble_eq_true rfl) | omega)).1 (range_n _ (by first | with_reducible assumption | with_reducible exact lt_num (by with_reducible assumption) (Nat.le_of_ble_eq_true rfl) | with_reducible exact le_num (by with_reducible assumption) (Nat.le_of_ble_eq_true rfl) | with_reducible exact le_le (by with_reducible assumption) (Nat.le_of_ble_eq_true rfl) | omega)).2 F Nw ⟨oC, z, hoC, rfl, m2, m5, m3, m4⟩ ?_ ?_)
        · clear F Nw hr m2 m5 m3 m4 hoC
          rintro J' Q' i t0 m₁ nx h tk I own hJ' hi ⟨oC, z, hoC, rfl, m2, m5, m3, m4⟩ hI hown ⟨oI, hoI, hoc2⟩ F Nw
          rw [Int.zero_add]
          have hbc := big_nc (w := w) (tok := tok) (x := x) (dx := dx) (l := l) (D := D) (nT := nT) (nD := nD) hT hPt
          rw [hbig2] at Nw hI
          obtain ⟨rest, hrest⟩ : ∃ r, r = tl ++ (tups ++ (ptups ++ own)) := ⟨_, rfl⟩
          have Nw : News (ghostOf s1.heap [(213, 209), (206, 202)]) s1.heap.objs.size h ((x, instObj 182 dx) :: (dx, dictOf (hdrE w tok l) 1) :: (l, listOf (refsOf tups).toArray nT) :: (D, listOf (refsOf ptups).toArray nD) :: (CN, listOf cv.toArray nC) :: (WN, listOf (strValues ws).toArray nWs) :: (W, listOf wv.toArray nW) :: (s1.heap.objs.size + 1 + 1 + 1, oC) :: (s1.heap.objs.size + 1 + 1, oB) :: (s1.heap.objs.size + 1, oA) :: rest) := by
            rw [hrest]
            exact fun p hp => Nw p (by
              simp only [List.mem_cons, List.mem_append] at hp ⊢
              rcases hp with h | h | h | h | h | h | h | h | h | h | h | h | h | h <;> (first | exact Or.inl h | exact Or.inr (Or.inl h) | exact Or.inr (Or.inr (Or.inl h)) | exact Or.inr (Or.inr (Or.inr (Or.inl h))) | exact Or.inr (Or.inr (Or.inr (Or.inr (Or.inl h)))) | exact Or.inr (Or.inr (Or.inr (Or.inr (Or.inr (Or.inl h))))) | exact Or.inr (Or.inr (Or.inr (Or.inr (Or.inr (Or.inr (Or.inl h)))))) | exact Or.inr (Or.inr (Or.inr (Or.inr (Or.inr (Or.inr (Or.inr (Or.inl h))))))) | exact Or.inr (Or.inr (Or.inr (Or.inr (Or.inr (Or.inr (Or.inr (Or.inr (Or.inl h)))))))) | exact Or.inr (Or.inr (Or.inr (Or.inr (Or.inr (Or.inr (Or.inr (Or.inr (Or.inr (Or.inl h))))))))) | exact Or.inr (Or.inr (Or.inr (Or.inr (Or.inr (Or.inr (Or.inr (Or.inr (Or.inr (Or.inr (Or.inl h)))))))))) | exact Or.inr (Or.inr (Or.inr (Or.inr (Or.inr (Or.inr (Or.inr (Or.inr (Or.inr (Or.inr (Or.inr (Or.inl h))))))))))) | exact Or.inr (Or.inr (Or.inr (Or.inr (Or.inr (Or.inr (Or.inr (Or.inr (Or.inr (Or.inr (Or.inr (Or.inr (Or.inl h)))))))))))) | exact Or.inr (Or.inr (Or.inr (Or.inr (Or.inr (Or.inr (Or.inr (Or.inr (Or.inr (Or.inr (Or.inr (Or.inr (Or.inr (Or.inl h))))))))))))) | exact Or.inr h | exact Or.inr (Or.inr h) | exact Or.inr (Or.inr (Or.inr h)) | exact Or.inr (Or.inr (Or.inr (Or.inr h))) | exact Or.inr (Or.inr (Or.inr (Or.inr (Or.inr h)))) | exact Or.inr (Or.inr (Or.inr (Or.inr (Or.inr (Or.inr h))))) | exact Or.inr (Or.inr (Or.inr (Or.inr (Or.inr (Or.inr (Or.inr h)))))) | exact Or.inr (Or.inr (Or.inr (Or.inr (Or.inr (Or.inr (Or.inr (Or.inr h))))))) | exact Or.inr (Or.inr (Or.inr (Or.inr (Or.inr (Or.inr (Or.inr (Or.inr (Or.inr h)))))))) | exact Or.inr (Or.inr (Or.inr (Or.inr (Or.inr (Or.inr (Or.inr (Or.inr (Or.inr (Or.inr h))))))))) | exact Or.inr (Or.inr (Or.inr (Or.inr (Or.inr (Or.inr (Or.inr (Or.inr (Or.inr (Or.inr (Or.inr h)))))))))) | exact Or.inr (Or.inr (Or.inr (Or.inr (Or.inr (Or.inr (Or.inr (Or.inr (Or.inr (Or.inr (Or.inr (Or.inr h))))))))))) | exact Or.inr (Or.inr (Or.inr (Or.inr (Or.inr (Or.inr (Or.inr (Or.inr (Or.inr (Or.inr (Or.inr (Or.inr (Or.inr h)))))))))))) | exact Or.inr (Or.inr (Or.inr (Or.inr (Or.inr (Or.inr (Or.inr (Or.inr (Or.inr (Or.inr (Or.inr (Or.inr (Or.inr (Or.inr h))))))))))))) | simp [h]))
          have hCz := (Nw (s1.heap.objs.size + 1 + 1 + 1, oC) (by first | ((repeat (first | with_reducible exact List.mem_cons_self .. | with_reducible refine List.mem_cons_of_mem _ ?_)); done) | simp)).1
          have hne1 : CN ≠ s1.heap.objs.size + 1 + 1 + 1 := cell_ne (Nw (CN, listOf cv.toArray nC) (by first | ((repeat (first | with_reducible exact List.mem_cons_self .. | with_reducible refine List.mem_cons_of_mem _ ?_)); done) | simp)).1 hCz hoC fun _ e => nomatch e
          have hne2 : WN ≠ s1.heap.objs.size + 1 + 1 + 1 := cell_ne (Nw (WN, listOf (strValues ws).toArray nWs) (by first | ((repeat (first | with_reducible exact List.mem_cons_self .. | with_reducible refine List.mem_cons_of_mem _ ?_)); done) | simp)).1 hCz hoC fun _ e => nomatch e
          have hne3 : W ≠ s1.heap.objs.size + 1 + 1 + 1 := cell_ne (Nw (W, listOf wv.toArray nW) (by first | ((repeat (first | with_reducible exact List.mem_cons_self .. | with_reducible refine List.mem_cons_of_mem _ ?_)); done) | simp)).1 hCz hoC fun _ e => nomatch e
          have hne5 : x ≠ s1.heap.objs.size + 1 + 1 + 1 := cell_ne (Nw (x, instObj 182 dx) (by first | ((repeat (first | with_reducible exact List.mem_cons_self .. | with_reducible refine List.mem_cons_of_mem _ ?_)); done) | simp)).1 hCz hoC (hbc (x, instObj 182 dx) (by first | ((repeat (first | with_reducible exact List.mem_cons_self .. | with_reducible refine List.mem_cons_of_mem _ ?_)); done) | simp))
          have hne6 : dx ≠ s1.heap.objs.size + 1 + 1 + 1 := cell_ne (Nw (dx, dictOf (hdrE w tok l) 1) (by first | ((repeat (first | with_reducible exact List.mem_cons_self .. | with_reducible refine List.mem_cons_of_mem _ ?_)); done) | simp)).1 hCz hoC (hbc (dx, dictOf (hdrE w tok l) 1) (by first | ((repeat (first | with_reducible exact List.mem_cons_self .. | with_reducible refine List.mem_cons_of_mem _ ?_)); done) | simp))
          have hne7 : l ≠ s1.heap.objs.size + 1 + 1 + 1 := cell_ne (Nw (l, listOf (refsOf tups).toArray nT) (by first | ((repeat (first | with_reducible exact List.mem_cons_self .. | with_reducible refine List.mem_cons_of_mem _ ?_)); done) | simp)).1 hCz hoC fun _ e => nomatch e
          have hne8 : D ≠ s1.heap.objs.size + 1 + 1 + 1 := cell_ne (Nw (D, listOf (refsOf ptups).toArray nD) (by first | ((repeat (first | with_reducible exact List.mem_cons_self .. | with_reducible refine List.mem_cons_of_mem _ ?_)); done) | simp)).1 hCz hoC fun _ e => nomatch e
          have hne4 : ∀ p ∈ rest, p.1 ≠ s1.heap.objs.size + 1 + 1 + 1 := by
            rw [hrest]
            intro p hp
            rcases List.mem_append.mp hp with hp | hp
            · exact tail_ne Nw hS (fun p hp => by rw [hrest]; first | ((repeat with_reducible refine List.mem_cons_of_mem _ ?_); first | exact hp | exact List.mem_append_left _ hp | exact List.mem_append_right _ hp | exact List.mem_append_right _ (List.mem_append_left _ hp) | exact List.mem_append_right _ (List.mem_append_right _ hp) | exact List.mem_append_left _ (List.mem_append_right _ hp) | exact List.mem_append_right _ (List.mem_append_right _ (List.mem_append_left _ hp))) | simp [hp]) (by first | ((repeat (first | with_reducible exact List.mem_cons_self .. | with_reducible refine List.mem_cons_of_mem _ ?_)); done) | simp) (notFld_cell hoC) p hp
            · rcases List.mem_append.mp hp with hp | hp
              · exact cell_ne (Nw p (by rw [hrest]; first | ((repeat with_reducible refine List.mem_cons_of_mem _ ?_); first | exact hp | exact List.mem_append_left _ hp | exact List.mem_append_right _ hp | exact List.mem_append_right _ (List.mem_append_left _ hp) | exact List.mem_append_right _ (List.mem_append_right _ hp) | exact List.mem_append_left _ (List.mem_append_right _ hp) | exact List.mem_append_right _ (List.mem_append_right _ (List.mem_append_left _ hp))) | simp [hp])).1 hCz hoC (hbc p (by first | ((repeat with_reducible refine List.mem_cons_of_mem _ ?_); first | exact hp | exact List.mem_append_left _ hp | exact List.mem_append_right _ hp | exact List.mem_append_right _ (List.mem_append_left _ hp) | exact List.mem_append_right _ (List.mem_append_right _ hp) | exact List.mem_append_left _ (List.mem_append_right _ hp) | exact List.mem_append_right _ (List.mem_append_right _ (List.mem_append_left _ hp))) | simp [hp]))
              · rcases List.mem_append.mp hp with hp | hp
                · exact cell_ne (Nw p (by rw [hrest]; first | ((repeat with_reducible refine List.mem_cons_of_mem _ ?_); first | exact hp | exact List.mem_append_left _ hp | exact List.mem_append_right _ hp | exact List.mem_append_right _ (List.mem_append_left _ hp) | exact List.mem_append_right _ (List.mem_append_right _ hp) | exact List.mem_append_left _ (List.mem_append_right _ hp) | exact List.mem_append_right _ (List.mem_append_right _ (List.mem_append_left _ hp))) | simp [hp])).1 hCz hoC (hbc p (by first | ((repeat with_reducible refine List.mem_cons_of_mem _ ?_); first | exact hp | exact List.mem_append_left _ hp | exact List.mem_append_right _ hp | exact List.mem_append_right _ (List.mem_append_left _ hp) | exact List.mem_append_right _ (List.mem_append_right _ hp) | exact List.mem_append_left _ (List.mem_append_right _ hp) | exact List.mem_append_right _ (List.mem_append_right _ (List.mem_append_left _ hp))) | simp [hp]))
                · rw [hown p hp]; exact (hI (s1.heap.objs.size + 1 + 1 + 1, oC) (by first | ((repeat (first | with_reducible exact List.mem_cons_self .. | with_reducible refine List.mem_cons_of_mem _ ?_)); done) | simp)).symm
          clear hbc
          k_steps
          refine Halt.go (item_wN (n := nWs) i (by assumption) (by first | ((repeat (first | with_reducible exact List.mem_cons_self .. | with_reducible refine List.mem_cons_of_mem _ ?_)); done) | simp) hws hi hl4 fun tw => ?_)
          have hwn := wantN_len (wd := wd) (j := i) hl4
          have hu1 : (wantN wd i).length ≤ 1000 := by omega
          have hu2 : (Txt.upper (wantN wd i)).length ≤ sizeLine := by
            have := len_upper (wantN wd i)
            rw [sizeLine_eq]; omega
          k_steps
          rename Fr _ _ _ _ => F
          rename News _ _ _ _ => Nw
          have hwd8 : ∀ d ∈ wd, d < 8 := fun d hd => Nat.lt_of_lt_of_le (hwd d hd) p6
          refine Halt.go (Does.use (all_spec (nm := Txt.upper (wantN wd i)) ⟨by with_reducible assumption, by with_reducible assumption⟩ (by exact F.keep) (TabAt.news (by exact Nw)) (TabAt.none (by exact Nw)) (hT.rowsAt (by exact fun q hq => (Nw q (by rw [hrest]; first | ((repeat with_reducible refine List.mem_cons_of_mem _ ?_); first | exact hq | exact List.mem_append_left _ hq | exact List.mem_append_right _ hq | exact List.mem_append_right _ (List.mem_append_left _ hq) | exact List.mem_append_right _ (List.mem_append_right _ hq) | exact List.mem_append_left _ (List.mem_append_right _ hq) | exact List.mem_append_right _ (List.mem_append_right _ (List.mem_append_left _ hq))) | simp [hq])).1)) (rowN_ok hwd8 hl4 hb3 p2 _ p3) (upN_ok hwd8 hl4)) rfl (by first | exact Nat.le_of_ble_eq_true rfl | simp only [Around.deeper, callerA, claimMargin, recursionLimit]; omega) (by first | exact Nat.le_of_ble_eq_true rfl | simp only [Around.deeper, callerA, cLine]; omega) ?_)
          rintro v h5 tk5 ⟨keep, D1, k1, ps, rfl, hD1, hD0, hps⟩
          rw [all_twice hwd8 (by first | with_reducible assumption | with_reducible exact lt_num (by with_reducible assumption) (Nat.le_of_ble_eq_true rfl) | with_reducible exact le_num (by with_reducible assumption) (Nat.le_of_ble_eq_true rfl) | with_reducible exact le_le (by with_reducible assumption) (Nat.le_of_ble_eq_true rfl) | omega)] at hps
          have F5 := F.keeps keep.stays
          have N5 := news_new F hD0 hD1 (Nw.grown keep.stays)
          clear F Nw keep
          (try dsimp only)
          k_steps
          refine Halt.go ?_
          k_dflt (refine ListComp_2 (by k_asm) (by with_unfolding_all rfl) (by decide) (by rfl) (by decide) (by rfl) (by rfl) (by rfl) (by decide) (by decide) (by decide) ?_)
          k_steps
          rename Fr _ _ _ _ => F
          rename News _ _ _ _ => Nw
          have hpl : ptups.length = cntN b := by rw [hPt.length, heldN_len]
          refine ⟨D, nD, ptups, heldN wd b (cntN b), _, (· == i), rfl, rfl, F, Nw, by simp, hPt, fun q hq => by rw [hrest]; simp [hq], by omega, ?_, ?_, ?_⟩
          · clear F Nw
            rintro kk t1 I2 oI2 C oC2 D2 ys m₂ h6 tk6 E' ⟨r, hr, hrk⟩ hC hx F Nw off ne3
            (try dsimp only)
            k_steps
            · rw [Bool.eq_iff_iff, beq_iff_eq, beq_iff_eq]; omega
            · assumption
            · assumption
          · clear F Nw
            rintro I2 oI2 C oC2 D2 ys m₂ h6 tk6 E' hC F Nw off ne3
            (try dsimp only)
            k_steps
            · assumption
            · assumption
          · clear F Nw
            rintro D2 h6 tk6 ts hts F Nw o1
            obtain ⟨c0, tc, hcv0, hc0⟩ : ∃ c0 tc, cv[i]? = some (.int c0 tc) ∧ (cntsN b wd.length)[i]? = some c0 := by
              have hli : i < cv.length := by omega
              obtain ⟨c0, tc, e1, e2⟩ := hcv.at i _ (List.getElem?_eq_getElem hli)
              exact ⟨c0, tc, by rw [List.getElem?_eq_getElem hli, e1], e2⟩
            rw [told_len hb1 hb3 hl1 hl4 hwd hi] at hc0
            have hcc := Option.some.inj hc0
            have hll : (strValues ps).length = 2 * cntF (fun t => grN wd b t (plN b) == i) (cntN b) := by
              have := congrArg List.length hps
              rw [List.length_map, twice_len] at this
              simpa [strValues] using this
            have hcl2 : ∀ f n, cntF f n ≤ n := by
              intro f n
              induction n with
              | zero => exact Nat.le_refl _
              | succ n ih => rw [cntF]; split <;> omega
            have hcl3 := hcl2 (fun t => grN wd b t (plN b) == i) (cntN b)
            (try dsimp only)
            k_steps
            refine Halt.go (es_ne (xs := ps) (ys := ts) ⟨_, (Nw (D1, listOf (strValues ps).toArray k1) (by first | ((repeat (first | with_reducible exact List.mem_cons_self .. | with_reducible refine List.mem_cons_of_mem _ ?_)); done) | simp)).1, rfl, _, rfl⟩ ⟨_, (Nw _ (List.mem_cons_self ..)).1, rfl, _, rfl⟩ (by rw [hps, hts]) (by rw [hts]; exact ok_twice _ hb3 _) (by first | exact Nat.le_of_ble_eq_true rfl | simp only [Around.deeper, callerA, cLine]; omega) ?_)
            k_steps
            refine Halt.go (lenN (vs := strValues ps) (n := k1) (by assumption) (by first | ((repeat (first | with_reducible exact List.mem_cons_self .. | with_reducible refine List.mem_cons_of_mem _ ?_)); done) | simp) (by first | with_reducible assumption | with_reducible exact lt_num (by with_reducible assumption) (Nat.le_of_ble_eq_true rfl) | with_reducible exact le_num (by with_reducible assumption) (Nat.le_of_ble_eq_true rfl) | with_reducible exact le_le (by with_reducible assumption) (Nat.le_of_ble_eq_true rfl) | omega) fun tkl kl => ?_)
            rw [hll]
            k_steps
            refine Halt.go (kim_list (l := cv) (n := nC) (by assumption) (show (CN, listOf cv.toArray nC) ∈ _ by simp) rfl rfl (by first | with_reducible assumption | with_reducible exact lt_num (by with_reducible assumption) (Nat.le_of_ble_eq_true rfl) | with_reducible exact le_num (by with_reducible assumption) (Nat.le_of_ble_eq_true rfl) | with_reducible exact le_le (by with_reducible assumption) (Nat.le_of_ble_eq_true rfl) | omega) (by first | with_reducible assumption | with_reducible exact lt_num (by with_reducible assumption) (Nat.le_of_ble_eq_true rfl) | with_reducible exact le_num (by with_reducible assumption) (Nat.le_of_ble_eq_true rfl) | with_reducible exact le_le (by with_reducible assumption) (Nat.le_of_ble_eq_true rfl) | omega) (by rw [Int.toNat_natCast]; exact hcv0) ?_)
            k_steps
            refine Halt.go (ne_int ?_)
            rw [← hcc, Int.natCast_mul, show ((2 : Nat) : Int) = 2 from rfl, bne_self_eq_false]
            k_steps
            rename _ = Data.cell (some (Value.int (i : Int) t0)) => hoC2
            refine OurTurn.next (nx := (CN, listOf cv.toArray nC) :: (WN, listOf (strValues ws).toArray nWs) :: (W, listOf wv.toArray nW) :: (s1.heap.objs.size + 1 + 1 + 1, _) :: (s1.heap.objs.size + 1 + 1, oB) :: (s1.heap.objs.size + 1, oA) :: (tl ++ big)) F (fun q hq => Nw q ?_) ?_ (hJ' _ _ ⟨_, _, hoC2, rfl, m2, m5, m3, m4⟩)
            · rw [hrest]
              rw [hbig2] at hq
              simp only [List.mem_cons, List.mem_append] at hq ⊢
              rcases hq with (h | h | h | h | h | h | h | h | h | h | h | h | h) | h <;> (first | exact Or.inl h | exact Or.inr (Or.inl h) | exact Or.inr (Or.inr (Or.inl h)) | exact Or.inr (Or.inr (Or.inr (Or.inl h))) | exact Or.inr (Or.inr (Or.inr (Or.inr (Or.inl h)))) | exact Or.inr (Or.inr (Or.inr (Or.inr (Or.inr (Or.inl h))))) | exact Or.inr (Or.inr (Or.inr (Or.inr (Or.inr (Or.inr (Or.inl h)))))) | exact Or.inr (Or.inr (Or.inr (Or.inr (Or.inr (Or.inr (Or.inr (Or.inl h))))))) | exact Or.inr (Or.inr (Or.inr (Or.inr (Or.inr (Or.inr (Or.inr (Or.inr (Or.inl h)))))))) | exact Or.inr (Or.inr (Or.inr (Or.inr (Or.inr (Or.inr (Or.inr (Or.inr (Or.inr (Or.inl h))))))))) | exact Or.inr (Or.inr (Or.inr (Or.inr (Or.inr (Or.inr (Or.inr (Or.inr (Or.inr (Or.inr (Or.inl h)))))))))) | exact Or.inr (Or.inr (Or.inr (Or.inr (Or.inr (Or.inr (Or.inr (Or.inr (Or.inr (Or.inr (Or.inr (Or.inl h))))))))))) | exact Or.inr (Or.inr (Or.inr (Or.inr (Or.inr (Or.inr (Or.inr (Or.inr (Or.inr (Or.inr (Or.inr (Or.inr (Or.inl h)))))))))))) | exact Or.inr (Or.inr (Or.inr (Or.inr (Or.inr (Or.inr (Or.inr (Or.inr (Or.inr (Or.inr (Or.inr (Or.inr (Or.inr (Or.inl h))))))))))))) | exact Or.inr h | exact Or.inr (Or.inr h) | exact Or.inr (Or.inr (Or.inr h)) | exact Or.inr (Or.inr (Or.inr (Or.inr h))) | exact Or.inr (Or.inr (Or.inr (Or.inr (Or.inr h)))) | exact Or.inr (Or.inr (Or.inr (Or.inr (Or.inr (Or.inr h))))) | exact Or.inr (Or.inr (Or.inr (Or.inr (Or.inr (Or.inr (Or.inr h)))))) | exact Or.inr (Or.inr (Or.inr (Or.inr (Or.inr (Or.inr (Or.inr (Or.inr h))))))) | exact Or.inr (Or.inr (Or.inr (Or.inr (Or.inr (Or.inr (Or.inr (Or.inr (Or.inr h)))))))) | exact Or.inr (Or.inr (Or.inr (Or.inr (Or.inr (Or.inr (Or.inr (Or.inr (Or.inr (Or.inr h))))))))) | exact Or.inr (Or.inr (Or.inr (Or.inr (Or.inr (Or.inr (Or.inr (Or.inr (Or.inr (Or.inr (Or.inr h)))))))))) | exact Or.inr (Or.inr (Or.inr (Or.inr (Or.inr (Or.inr (Or.inr (Or.inr (Or.inr (Or.inr (Or.inr (Or.inr h))))))))))) | exact Or.inr (Or.inr (Or.inr (Or.inr (Or.inr (Or.inr (Or.inr (Or.inr (Or.inr (Or.inr (Or.inr (Or.inr (Or.inr h)))))))))))) | exact Or.inr (Or.inr (Or.inr (Or.inr (Or.inr (Or.inr (Or.inr (Or.inr (Or.inr (Or.inr (Or.inr (Or.inr (Or.inr (Or.inr h))))))))))))) | simp [h])
            · rw [hbig2]
              intro q hq
              rcases List.mem_cons.mp hq with h | hq
              · exact hI q (by first | ((repeat with_reducible refine List.mem_cons_of_mem _ ?_); first | exact h | exact List.mem_append_left _ h | exact List.mem_append_right _ h | exact List.mem_append_right _ (List.mem_append_left _ h) | exact List.mem_append_right _ (List.mem_append_right _ h) | exact List.mem_append_left _ (List.mem_append_right _ h) | exact List.mem_append_right _ (List.mem_append_right _ (List.mem_append_left _ h))) | simp [h])
              rcases List.mem_cons.mp hq with h | hq
              · exact hI q (by first | ((repeat with_reducible refine List.mem_cons_of_mem _ ?_); first | exact h | exact List.mem_append_left _ h | exact List.mem_append_right _ h | exact List.mem_append_right _ (List.mem_append_left _ h) | exact List.mem_append_right _ (List.mem_append_right _ h) | exact List.mem_append_left _ (List.mem_append_right _ h) | exact List.mem_append_right _ (List.mem_append_right _ (List.mem_append_left _ h))) | simp [h])
              rcases List.mem_cons.mp hq with h | hq
              · exact hI q (by first | ((repeat with_reducible refine List.mem_cons_of_mem _ ?_); first | exact h | exact List.mem_append_left _ h | exact List.mem_append_right _ h | exact List.mem_append_right _ (List.mem_append_left _ h) | exact List.mem_append_right _ (List.mem_append_right _ h) | exact List.mem_append_left _ (List.mem_append_right _ h) | exact List.mem_append_right _ (List.mem_append_right _ (List.mem_append_left _ h))) | simp [h])
              rcases List.mem_cons.mp hq with h | hq
              · rw [h]; exact hI (s1.heap.objs.size + 1 + 1 + 1, oC) (by first | ((repeat (first | with_reducible exact List.mem_cons_self .. | with_reducible refine List.mem_cons_of_mem _ ?_)); done) | simp)
              · exact hI q (List.mem_cons_of_mem _ (List.mem_cons_of_mem _ (List.mem_cons_of_mem _ (List.mem_cons_of_mem _ hq))))
        · clear F Nw hr m2 m5 m3 m4 hoC
          rintro m₁ nx h tk ⟨oC, z, hoC, rfl, m2, m5, m3, m4⟩ F Nw
          obtain ⟨t1, t2, rfl, ht1, ht2⟩ := hS
          obtain ⟨p1, hp1, _⟩ := tab_mem ht1
          obtain ⟨p2, hp2, _⟩ := tab_mem ht2
          have hgr : GrownAll [(213, 209), (206, 202)] h := ⟨⟨_, (Nw _ (List.mem_cons_of_mem _ (List.mem_cons_of_mem _ (List.mem_cons_of_mem _ (List.mem_cons_of_mem _ (List.mem_cons_of_mem _ (List.mem_cons_of_mem _ (List.mem_append_left _ (List.mem_append_right _ hp2))))))))).1⟩, ⟨_, (Nw _ (List.mem_cons_of_mem _ (List.mem_cons_of_mem _ (List.mem_cons_of_mem _ (List.mem_cons_of_mem _ (List.mem_cons_of_mem _ (List.mem_cons_of_mem _ (List.mem_append_left _ (List.mem_append_left _ hp1))))))))).1⟩, trivial⟩
          (try dsimp only)
          k_steps
      intro K hK
      dsimp only [List.take]
      (try k_fold)
      k_steps
      obtain ⟨p1, p2, p3, p4, p5, p6⟩ := pl_le hb1 hb3
      have hwl : wv.length = wd.length := by rw [hwv.length, castL_length]
      refine Halt.go (Does.use (places_one b hb1 hb3 ⟨by with_reducible assumption, by with_reducible assumption⟩ (by exact F.keep)) rfl (by first | exact Nat.le_of_ble_eq_true rfl | simp only [Around.deeper, callerA, claimMargin, recursionLimit]; omega) (by first | exact Nat.le_of_ble_eq_true rfl | simp only [Around.deeper, callerA, cLine]; omega) ?_)
      rintro v h4 tk4 ⟨keep, tkp, rfl⟩
      have F4 := F.keeps keep.stays
      have N4 := Nw.grown keep.stays
      clear F Nw keep
      obtain ⟨pl, hpl⟩ : ∃ pl, pl = plN b ∧ True := ⟨_, rfl, trivial⟩
      rw [← hpl.1] at p1 p2
      rw [← hpl.1]
      (try dsimp only)
      k_steps
      have hb8 : (1 : Int) ≤ ((2 ^ b : Nat) : Int) ∧ ((2 ^ b : Nat) : Int) ≤ 8 := by
        have := Nat.two_pow_pos b
        omega
      obtain ⟨mm, hmm⟩ : ∃ mm : Int, mm = ((2 ^ b : Nat) : Int) ∧ True := ⟨_, rfl, trivial⟩
      refine Halt.go (pow_int_small (by first | with_reducible assumption | with_reducible exact lt_num (by with_reducible assumption) (Nat.le_of_ble_eq_true rfl) | with_reducible exact le_num (by with_reducible assumption) (Nat.le_of_ble_eq_true rfl) | with_reducible exact le_le (by with_reducible assumption) (Nat.le_of_ble_eq_true rfl) | omega) (by first | with_reducible assumption | with_reducible exact lt_num (by with_reducible assumption) (Nat.le_of_ble_eq_true rfl) | with_reducible exact le_num (by with_reducible assumption) (Nat.le_of_ble_eq_true rfl) | with_reducible exact le_le (by with_reducible assumption) (Nat.le_of_ble_eq_true rfl) | omega) (by first | with_reducible assumption | with_reducible exact lt_num (by with_reducible assumption) (Nat.le_of_ble_eq_true rfl) | with_reducible exact le_num (by with_reducible assumption) (Nat.le_of_ble_eq_true rfl) | with_reducible exact le_le (by with_reducible assumption) (Nat.le_of_ble_eq_true rfl) | omega) ?_)
      obtain ⟨big1, hbig1⟩ : ∃ z : Int, z = (65535 + ((2 ^ b : Nat) : Int)) ^ (pl : Int).toNat ∧ True := ⟨_, rfl, trivial⟩
      rw [← hbig1.1]
      k_steps
      refine Halt.go (lenN (vs := wv) (n := nW) (by assumption) (by first | ((repeat (first | with_reducible exact List.mem_cons_self .. | with_reducible refine List.mem_cons_of_mem _ ?_)); done) | simp) (by first | with_reducible assumption | with_reducible exact lt_num (by with_reducible assumption) (Nat.le_of_ble_eq_true rfl) | with_reducible exact le_num (by with_reducible assumption) (Nat.le_of_ble_eq_true rfl) | with_reducible exact le_le (by with_reducible assumption) (Nat.le_of_ble_eq_true rfl) | omega) fun tkl kl => ?_)
      rw [hwl]
      k_steps
      refine Halt.go (pow_int_small (by first | with_reducible assumption | with_reducible exact lt_num (by with_reducible assumption) (Nat.le_of_ble_eq_true rfl) | with_reducible exact le_num (by with_reducible assumption) (Nat.le_of_ble_eq_true rfl) | with_reducible exact le_le (by with_reducible assumption) (Nat.le_of_ble_eq_true rfl) | omega) (by first | with_reducible assumption | with_reducible exact lt_num (by with_reducible assumption) (Nat.le_of_ble_eq_true rfl) | with_reducible exact le_num (by with_reducible assumption) (Nat.le_of_ble_eq_true rfl) | with_reducible exact le_le (by with_reducible assumption) (Nat.le_of_ble_eq_true rfl) | omega) (by decide) ?_)
      have hlt1 : big1.natAbs < 2 ^ 149 := by rw [hbig1.1]; exact pow_lt (by first | with_reducible assumption | with_reducible exact lt_num (by with_reducible assumption) (Nat.le_of_ble_eq_true rfl) | with_reducible exact le_num (by with_reducible assumption) (Nat.le_of_ble_eq_true rfl) | with_reducible exact le_le (by with_reducible assumption) (Nat.le_of_ble_eq_true rfl) | omega) (by first | with_reducible assumption | with_reducible exact lt_num (by with_reducible assumption) (Nat.le_of_ble_eq_true rfl) | with_reducible exact le_num (by with_reducible assumption) (Nat.le_of_ble_eq_true rfl) | with_reducible exact le_le (by with_reducible assumption) (Nat.le_of_ble_eq_true rfl) | omega) (by first | with_reducible assumption | with_reducible exact lt_num (by with_reducible assumption) (Nat.le_of_ble_eq_true rfl) | with_reducible exact le_num (by with_reducible assumption) (Nat.le_of_ble_eq_true rfl) | with_reducible exact le_le (by with_reducible assumption) (Nat.le_of_ble_eq_true rfl) | omega)
      obtain ⟨big2, hbg2⟩ : ∃ z : Int, z = 65536 ^ (wd.length : Int).toNat ∧ True := ⟨_, rfl, trivial⟩
      have hlt2 : big2.natAbs < 2 ^ 100 ∧ big2 ≠ 0 := by rw [hbg2.1]; exact pow_lt2 (by first | with_reducible assumption | with_reducible exact lt_num (by with_reducible assumption) (Nat.le_of_ble_eq_true rfl) | with_reducible exact le_num (by with_reducible assumption) (Nat.le_of_ble_eq_true rfl) | with_reducible exact le_le (by with_reducible assumption) (Nat.le_of_ble_eq_true rfl) | omega)
      rw [← hbg2.1]
      have hap : ∀ p ∈ big, ∀ q ∈ tl, p.1 ≠ q.1 := by
        intro p hp q hq e
        have h1 := (N4 p (by first | ((repeat with_reducible refine List.mem_cons_of_mem _ ?_); first | exact hp | exact List.mem_append_left _ hp | exact List.mem_append_right _ hp | exact List.mem_append_right _ (List.mem_append_left _ hp) | exact List.mem_append_right _ (List.mem_append_right _ hp) | exact List.mem_append_left _ (List.mem_append_right _ hp) | exact List.mem_append_right _ (List.mem_append_right _ (List.mem_append_left _ hp))) | simp [hp])).1
        have h2 := (N4 q (by first | ((repeat with_reducible refine List.mem_cons_of_mem _ ?_); first | exact hq | exact List.mem_append_left _ hq | exact List.mem_append_right _ hq | exact List.mem_append_right _ (List.mem_append_left _ hq) | exact List.mem_append_right _ (List.mem_append_right _ hq) | exact List.mem_append_left _ (List.mem_append_right _ hq) | exact List.mem_append_right _ (List.mem_append_right _ (List.mem_append_left _ hq))) | simp [hq])).1
        rw [e, h2] at h1
        obtain ⟨vs, hv⟩ := hS.fld q hq
        rw [Option.some.inj h1] at hv
        exact hbig p hp vs hv
      k_steps
      rename Fr _ _ _ _ => F
      rename News _ _ _ _ => Nw
      have hid : idmM big1 big2 ≤ 3 := by unfold idmM; split <;> split <;> omega
      refine Halt.go (Does.use (idm_spec _ ⟨by with_reducible assumption, by with_reducible assumption⟩ (by exact F.keep) hS (tabs_at (by exact Nw) (by intro p hp; first | ((repeat with_reducible refine List.mem_cons_of_mem _ ?_); first | exact hp | exact List.mem_append_left _ hp | exact List.mem_append_right _ hp | exact List.mem_append_right _ (List.mem_append_left _ hp) | exact List.mem_append_right _ (List.mem_append_right _ hp) | exact List.mem_append_left _ (List.mem_append_right _ hp) | exact List.mem_append_right _ (List.mem_append_right _ (List.mem_append_left _ hp))) | simp [hp])) hlt1 hlt2.2 hlt2.1 rfl) rfl (by first | exact Nat.le_of_ble_eq_true rfl | simp only [Around.deeper, callerA, claimMargin, recursionLimit]; omega) (by first | exact Nat.le_of_ble_eq_true rfl | simp only [Around.deeper, callerA, cLine]; omega) ?_)
      rintro v h5 tk5 ⟨hP, T, n0, tq, tr, rfl, hT1, hT0⟩
      obtain ⟨tl2, hS2, F2, N2, hsub2, keep2, _⟩ := hP.back2 hS F Nw fun tl' => ⟨_, .cons notFld_list (.cons notFld_list (.cons (notFld_cell hoC) (.cons (notFld_cell hoB) (.cons (notFld_cell hoA) (.here hap)))))⟩
      have N3 := news_new F hT0 hT1 (N2 _ (.cons notFld_list (.cons notFld_list (.cons (notFld_cell hoC) (.cons (notFld_cell hoB) (.cons (notFld_cell hoA) (.here hap)))))))
      clear F Nw hP N2
      (try dsimp only)
      k_steps
      obtain ⟨hll, hlh⟩ := low_len hb1 hb3 hl1 hl4
      obtain ⟨hr1, hr2⟩ := rs_lt b wd.length hb1 hb3
      have eR : big1.fmod big2 = ((rsN b wd.length : Nat) : Int) := by
        obtain ⟨e1, e2⟩ := big_nat b pl wd.length
        rw [hbig1.1, hbg2.1, e1, e2, fmod_nat, hpl.1]; rfl
      have eO : big1.fdiv big2 = ((ovN b wd.length : Nat) : Int) := by
        obtain ⟨e1, e2⟩ := big_nat b pl wd.length
        rw [hbig1.1, hbg2.1, e1, e2, fdiv_nat, hpl.1]; rfl
      rename Fr _ _ _ _ => F
      rename News _ _ _ _ => Nw
      have Nw : News _ _ _ ((WN, listOf (strValues ws).toArray nWs) :: (W, listOf wv.toArray nW) :: _) := fun p hp => Nw p (List.mem_cons_of_mem _ hp)
      rw [eO, eR] at F
      rw [eR]
      refine Halt.go (Does.use (i2d_spec (X := rsN b wd.length) (N := 16) ⟨by with_reducible assumption, by with_reducible assumption⟩ (by exact F.keep) hS2 (tabs_at (by exact Nw) (by intro p hp; first | ((repeat with_reducible refine List.mem_cons_of_mem _ ?_); first | exact hp | exact List.mem_append_left _ hp | exact List.mem_append_right _ hp | exact List.mem_append_right _ (List.mem_append_left _ hp) | exact List.mem_append_right _ (List.mem_append_right _ hp) | exact List.mem_append_left _ (List.mem_append_right _ hp) | exact List.mem_append_right _ (List.mem_append_right _ (List.mem_append_left _ hp))) | simp [hp])) rfl hr1 rfl (by decide) (by decide)) rfl (by first | exact Nat.le_of_ble_eq_true rfl | simp only [Around.deeper, callerA, claimMargin, recursionLimit]; omega) (by first | exact Nat.le_of_ble_eq_true rfl | simp only [Around.deeper, callerA, cLine]; omega) ?_)
      rintro v h6 tk6 ⟨hP, Dl, lv, nl, rfl, hD1, hD0, hlv⟩
      have hlv : IntsAre lv (lowN b wd.length) := hlv
      have hap2 : ∀ p ∈ big, ∀ q ∈ tl2, p.1 ≠ q.1 := by
        intro p hp q hq e
        have h1 := (Nw p (by first | ((repeat with_reducible refine List.mem_cons_of_mem _ ?_); first | exact hp | exact List.mem_append_left _ hp | exact List.mem_append_right _ hp | exact List.mem_append_right _ (List.mem_append_left _ hp) | exact List.mem_append_right _ (List.mem_append_right _ hp) | exact List.mem_append_left _ (List.mem_append_right _ hp) | exact List.mem_append_right _ (List.mem_append_right _ (List.mem_append_left _ hp))) | simp [hp])).1
        have h2 := (Nw q (by first | ((repeat with_reducible refine List.mem_cons_of_mem _ ?_); first | exact hq | exact List.mem_append_left _ hq | exact List.mem_append_right _ hq | exact List.mem_append_right _ (List.mem_append_left _ hq) | exact List.mem_append_right _ (List.mem_append_right _ hq) | exact List.mem_append_left _ (List.mem_append_right _ hq) | exact List.mem_append_right _ (List.mem_append_right _ (List.mem_append_left _ hq))) | simp [hq])).1
        rw [e, h2] at h1
        obtain ⟨vs, hv⟩ := hS2.fld q hq
        rw [Option.some.inj h1] at hv
        exact hbig p hp vs hv
      obtain ⟨tl3, hS3, F2, N2, hsub3, keep3, _⟩ := hP.back2 hS2 F Nw fun tl' => ⟨_, .cons notFld_list (.cons notFld_list (.cons (notFld_cell hoC) (.cons (notFld_cell hoB) (.cons (notFld_cell hoA) (.here hap2)))))⟩
      have N3 := news_new F hD0 hD1 (N2 _ (.cons notFld_list (.cons notFld_list (.cons (notFld_cell hoC) (.cons (notFld_cell hoB) (.cons (notFld_cell hoA) (.here hap2)))))))
      clear F Nw hP N2
      have hlw : lv.length = (lowN b wd.length).length := hlv.length
      (try dsimp only)
      k_steps
      refine Halt.go (lenN (vs := wv) (n := nW) (by assumption) (by first | ((repeat (first | with_reducible exact List.mem_cons_self .. | with_reducible refine List.mem_cons_of_mem _ ?_)); done) | simp) (by first | with_reducible assumption | with_reducible exact lt_num (by with_reducible assumption) (Nat.le_of_ble_eq_true rfl) | with_reducible exact le_num (by with_reducible assumption) (Nat.le_of_ble_eq_true rfl) | with_reducible exact le_le (by with_reducible assumption) (Nat.le_of_ble_eq_true rfl) | omega) fun tkl kl => ?_)
      rw [hwl]
      k_steps
      refine Halt.go (lenN (vs := lv) (n := nl) (by assumption) (by first | ((repeat (first | with_reducible exact List.mem_cons_self .. | with_reducible refine List.mem_cons_of_mem _ ?_)); done) | simp) (by first | with_reducible assumption | with_reducible exact lt_num (by with_reducible assumption) (Nat.le_of_ble_eq_true rfl) | with_reducible exact le_num (by with_reducible assumption) (Nat.le_of_ble_eq_true rfl) | with_reducible exact le_le (by with_reducible assumption) (Nat.le_of_ble_eq_true rfl) | omega) fun tkl kl => ?_)
      rw [hlw]
      k_steps
      rename Fr _ _ _ _ => F
      rename News _ _ _ _ => Nw
      refine Halt.go (Does.use (i2d_spec (X := ovN b wd.length) (N := 16) ⟨by with_reducible assumption, by with_reducible assumption⟩ (by exact F.keep) hS3 (tabs_at (by exact Nw) (by intro p hp; first | ((repeat with_reducible refine List.mem_cons_of_mem _ ?_); first | exact hp | exact List.mem_append_left _ hp | exact List.mem_append_right _ hp | exact List.mem_append_right _ (List.mem_append_left _ hp) | exact List.mem_append_right _ (List.mem_append_right _ hp) | exact List.mem_append_left _ (List.mem_append_right _ hp) | exact List.mem_append_right _ (List.mem_append_right _ (List.mem_append_left _ hp))) | simp [hp])) rfl hr2 rfl (by decide) (by decide)) rfl (by first | exact Nat.le_of_ble_eq_true rfl | simp only [Around.deeper, callerA, claimMargin, recursionLimit]; omega) (by first | exact Nat.le_of_ble_eq_true rfl | simp only [Around.deeper, callerA, cLine]; omega) ?_)
      rintro v h7 tk7 ⟨hP, Dh, hv, nh, rfl, hD1, hD0, hhv⟩
      have hhv : IntsAre hv (highN b wd.length) := hhv
      have hap3 : ∀ p ∈ big, ∀ q ∈ tl3, p.1 ≠ q.1 := by
        intro p hp q hq e
        have h1 := (Nw p (by first | ((repeat with_reducible refine List.mem_cons_of_mem _ ?_); first | exact hp | exact List.mem_append_left _ hp | exact List.mem_append_right _ hp | exact List.mem_append_right _ (List.mem_append_left _ hp) | exact List.mem_append_right _ (List.mem_append_right _ hp) | exact List.mem_append_left _ (List.mem_append_right _ hp) | exact List.mem_append_right _ (List.mem_append_right _ (List.mem_append_left _ hp))) | simp [hp])).1
        have h2 := (Nw q (by first | ((repeat with_reducible refine List.mem_cons_of_mem _ ?_); first | exact hq | exact List.mem_append_left _ hq | exact List.mem_append_right _ hq | exact List.mem_append_right _ (List.mem_append_left _ hq) | exact List.mem_append_right _ (List.mem_append_right _ hq) | exact List.mem_append_left _ (List.mem_append_right _ hq) | exact List.mem_append_right _ (List.mem_append_right _ (List.mem_append_left _ hq))) | simp [hq])).1
        rw [e, h2] at h1
        obtain ⟨vs, hv⟩ := hS3.fld q hq
        rw [Option.some.inj h1] at hv
        exact hbig p hp vs hv
      obtain ⟨tl4, hS4, F2, N2, hsub4, keep4, _⟩ := hP.back2 hS3 F Nw fun tl' => ⟨_, .cons notFld_list (.cons notFld_list (.cons notFld_list (.cons notFld_list (.cons notFld_list (.cons notFld_list (.cons (notFld_cell hoC) (.cons (notFld_cell hoB) (.cons (notFld_cell hoA) (.here hap3)))))))))⟩
      have N3 := news_new F hD0 hD1 (N2 _ (.cons notFld_list (.cons notFld_list (.cons notFld_list (.cons notFld_list (.cons notFld_list (.cons notFld_list (.cons (notFld_cell hoC) (.cons (notFld_cell hoB) (.cons (notFld_cell hoA) (.here hap3)))))))))))
      clear F Nw hP N2
      have hhw : hv.length = (highN b wd.length).length := hhv.length
      (try dsimp only)
      k_steps
      rename Fr _ _ _ _ => F
      rename News _ _ _ _ => Nw
      rename IntsAre _ (_ ++ [(highN b wd.length).sum]) => hcv
      rw [rep_zero hll] at hcv
      refine hK _ _ _ _ F (fun p hp => Nw p ?_) ⟨b, wd, wv, _, ws, W, WN, _, nW, nWs, 0, oA, oB, oC, tl4, big, tA, tok, x, dx, l, nT, D, nD, tups, ptups, hb1, hb3, hl1, hl4, hwd, hwv, hws, hcv, hS4, rfl, hoA, hoB, ⟨z, hoC⟩, m2, rfl, m3, m4, hT, hPt, hbig, hbig2⟩
      simp only [List.mem_cons] at hp ⊢
      rcases hp with h | h
      · exact .inl h
      · exact .inr (.inr (.inr (.inr (.inr (.inr (.inr h))))))
    intro K hK
    dsimp only [List.take]
    (try k_fold)
    obtain ⟨p1, p2, p3, p4, p5, p6⟩ := pl_le hb1 hb3
    have hwd8 : ∀ d ∈ wd, d < 8 := fun d hd => Nat.lt_of_lt_of_le (hwd d hd) p6
    k_steps
    refine Halt.go (Does.use (file_spec (b := b) (wd := wd) (ws := ws) ⟨by with_reducible assumption, by with_reducible assumption⟩ (by exact F.keep) hS (tabs_at (by exact Nw) (by intro p hp; first | ((repeat with_reducible refine List.mem_cons_of_mem _ ?_); first | exact hp | exact List.mem_append_left _ hp | exact List.mem_append_right _ hp | exact List.mem_append_right _ (List.mem_append_left _ hp) | exact List.mem_append_right _ (List.mem_append_right _ hp) | exact List.mem_append_left _ (List.mem_append_right _ hp) | exact List.mem_append_right _ (List.mem_append_right _ (List.mem_append_left _ hp))) | simp [hp])) hb1 hb3 (Nw _ (List.mem_cons_self ..)).1 hws hl4 hwd8) rfl (by first | exact Nat.le_of_ble_eq_true rfl | simp only [Around.deeper, callerA, claimMargin, recursionLimit]; omega) (by first | exact Nat.le_of_ble_eq_true rfl | simp only [Around.deeper, callerA, cLine]; omega) ?_)
    rintro v h5 tk5 ⟨hP, x, dx, l, tok, tups, nT, rfl, hT, hnew⟩
    obtain ⟨tl2, hS2, F2, N2, hsub2, keep2, _⟩ := hP.back2 hS F Nw fun tl' => ⟨_, .cons notFld_list (.cons notFld_list (.cons (notFld_cell hoC) (.cons (notFld_cell hoB) (.cons (notFld_cell hoA) .nil))))⟩
    have N3 := news_all F hnew (N2 _ (.cons notFld_list (.cons notFld_list (.cons (notFld_cell hoC) (.cons (notFld_cell hoB) (.cons (notFld_cell hoA) .nil))))))
    clear F Nw hP N2 hnew
    (try dsimp only)
    k_steps
    rename Fr _ _ _ _ => F
    rename News _ _ _ _ => Nw
    refine Halt.go (Does.use (held_spec (b := b) (wd := wd) (wv := wv) ⟨by with_reducible assumption, by with_reducible assumption⟩ (by exact F.keep) hb1 hb3 ⟨_, (Nw (W, listOf wv.toArray nW) (by first | ((repeat (first | with_reducible exact List.mem_cons_self .. | with_reducible refine List.mem_cons_of_mem _ ?_)); done) | simp)).1, rfl, _, rfl⟩ hwv hl4) rfl (by first | exact Nat.le_of_ble_eq_true rfl | simp only [Around.deeper, callerA, claimMargin, recursionLimit]; omega) (by first | exact Nat.le_of_ble_eq_true rfl | simp only [Around.deeper, callerA, cLine]; omega) ?_)
    rintro v h6 tk6 ⟨keep, D, nD, ptups, rfl, hPt, hnew⟩
    have F3 := F.keeps keep.stays
    have N3 := news_all F hnew (Nw.grown keep.stays)
    clear F Nw keep hnew
    (try dsimp only)
    k_steps
    rename Fr _ _ _ _ => F
    rename News _ _ _ _ => Nw
    refine hK _ _ _ _ F (fun p hp => Nw p ?_) ⟨b, wd, wv, ws, W, WN, nW, nWs, oA, oB, oC, tl2, _, tb, tA, tok, x, dx, l, nT, D, nD, tups, ptups, hb1, hb3, hl1, hl4, hwd, hwv, hws, hS2, rfl, hoA, hoB, ⟨z, hoC⟩, m1, m2, rfl, rfl, hT, hPt, ?_, rfl⟩
    · simp only [List.cons_append, List.append_assoc, List.mem_cons, List.mem_append] at hp ⊢
      rcases hp with h | h | h | h | h | h | h | h | h | h | h | h <;> (first | exact Or.inl h | exact Or.inr (Or.inl h) | exact Or.inr (Or.inr (Or.inl h)) | exact Or.inr (Or.inr (Or.inr (Or.inl h))) | exact Or.inr (Or.inr (Or.inr (Or.inr (Or.inl h)))) | exact Or.inr (Or.inr (Or.inr (Or.inr (Or.inr (Or.inl h))))) | exact Or.inr (Or.inr (Or.inr (Or.inr (Or.inr (Or.inr (Or.inl h)))))) | exact Or.inr (Or.inr (Or.inr (Or.inr (Or.inr (Or.inr (Or.inr (Or.inl h))))))) | exact Or.inr (Or.inr (Or.inr (Or.inr (Or.inr (Or.inr (Or.inr (Or.inr (Or.inl h)))))))) | exact Or.inr (Or.inr (Or.inr (Or.inr (Or.inr (Or.inr (Or.inr (Or.inr (Or.inr (Or.inl h))))))))) | exact Or.inr (Or.inr (Or.inr (Or.inr (Or.inr (Or.inr (Or.inr (Or.inr (Or.inr (Or.inr (Or.inl h)))))))))) | exact Or.inr (Or.inr (Or.inr (Or.inr (Or.inr (Or.inr (Or.inr (Or.inr (Or.inr (Or.inr (Or.inr (Or.inl h))))))))))) | exact Or.inr h | exact Or.inr (Or.inr h) | exact Or.inr (Or.inr (Or.inr h)) | exact Or.inr (Or.inr (Or.inr (Or.inr h))) | exact Or.inr (Or.inr (Or.inr (Or.inr (Or.inr h)))) | exact Or.inr (Or.inr (Or.inr (Or.inr (Or.inr (Or.inr h))))) | exact Or.inr (Or.inr (Or.inr (Or.inr (Or.inr (Or.inr (Or.inr h)))))) | exact Or.inr (Or.inr (Or.inr (Or.inr (Or.inr (Or.inr (Or.inr (Or.inr h))))))) | exact Or.inr (Or.inr (Or.inr (Or.inr (Or.inr (Or.inr (Or.inr (Or.inr (Or.inr h)))))))) | exact Or.inr (Or.inr (Or.inr (Or.inr (Or.inr (Or.inr (Or.inr (Or.inr (Or.inr (Or.inr h))))))))) | exact Or.inr (Or.inr (Or.inr (Or.inr (Or.inr (Or.inr (Or.inr (Or.inr (Or.inr (Or.inr (Or.inr h)))))))))) | exact Or.inr (Or.inr (Or.inr (Or.inr (Or.inr (Or.inr (Or.inr (Or.inr (Or.inr (Or.inr (Or.inr (Or.inr h))))))))))) | simp [h])
    · intro p hp
      simp only [List.mem_cons, List.mem_append] at hp
      rcases hp with h | h | h | h | h | h
      · rw [h]; exact notFld_plain
      · rw [h]; exact notFld_dict
      · rw [h]; exact notFld_list
      · rw [h]; exact notFld_list
      · exact hT.seq p h
      · exact hPt.seq p h
  )
end Mine

end
theorem PySem.Challenge.cw_pg0310_02_holds : PySem.Challenge.rw_pg0310_02.Holds := by
  exact Mine.law_02
