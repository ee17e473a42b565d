import PyProof.Rows.All
import Wide.All
import OpenK.AllK
import Wide.FinOn
import Lean
import PySem.Challenge.RW_pg0310_01
set_option Elab.async false
section
-- Slim
theorem Mine.fresh_Slim : True := by
  w_top off
  trivial
namespace Mine
theorem room1 {d a b R : Nat} (h : d + a < R) (hb : 1 + b ≤ a) : d + 1 + b < R := by omega
theorem room3 {d a b R : Nat} (h : d + a < R) (hb : 3 + b ≤ a) : d + 3 + b < R := by omega
theorem lt_num {a b c : Nat} (h : a < b) (hbc : b ≤ c) : a < c := Nat.lt_of_lt_of_le h hbc
theorem le_num {a b c : Nat} (h : a < b) (hbc : b ≤ c + 1) : a ≤ c := by omega
theorem le_le {a b c : Nat} (h : a ≤ b) (hbc : b ≤ c) : a ≤ c := Nat.le_trans h hbc
theorem le_lt {a b c : Nat} (h : a ≤ b) (hbc : b + 1 ≤ c) : a < c := Nat.lt_of_le_of_lt h hbc
theorem half_k {k : Nat} (h : 2 ≤ k) : 1 ≤ k / 2 ∧ k / 2 < k ∧ 1 ≤ k - k / 2 ∧ k - k / 2 < k ∧ k / 2 + (k - k / 2) = k ∧ k - k / 2 + k / 2 = k := by omega
theorem half_n {k l n : Nat} (h : l + k ≤ n) : l + k / 2 ≤ n ∧ l + k / 2 + (k - k / 2) ≤ n ∧ l + (k / 2 + (k - k / 2)) ≤ n := by omega
theorem half_d {d k R : Nat} (h : d + (k + 5) < R) (hk : 2 ≤ k) : d + 1 + (k / 2 + 5) < R ∧ d + 1 + (k - k / 2 + 5) < R := by omega
theorem half_u {u k C : Nat} (h : u + (5 * k + 20) < C) (hk : 2 ≤ k) : u + 3 + (5 * (k / 2) + 20) < C ∧ u + 3 + (5 * (k - k / 2) + 20) < C := by omega
theorem half_two {L R : Int} {k : Nat} (h1 : 1 ≤ k) (hR : R = L + k) (hne : L + 1 ≠ R) : 2 ≤ k := by omega
theorem half_one {L R : Int} {k : Nat} (hR : R = L + k) (he : L + 1 = R) : k = 1 := by omega
theorem half_ends {L R M : Int} {k l : Nat} (hL : L = l) (hR : R = L + k) (hM : M = ((l + k / 2 : Nat) : Int)) : M = L + ((k / 2 : Nat) : Int) ∧ R = M + ((k - k / 2 : Nat) : Int) := by omega
theorem half_mid (l k : Nat) : ((l : Int) + ((l : Int) + (k : Int))) / 2 = ((l + k / 2 : Nat) : Int) := by omega
theorem half_dif (l k : Nat) : ((l + k / 2 : Nat) : Int) - (l : Int) = ((k / 2 : Nat) : Int) := by omega
theorem half_200 {l k n : Nat} (h : l + k ≤ n) (h2 : n ≤ 200) : k ≤ 200 ∧ k / 2 ≤ 200 ∧ k - k / 2 ≤ 200 := by omega
theorem half_min {l k n : Nat} (h : l + k ≤ n) : k - k / 2 ≤ n - (l + k / 2) ∧ k / 2 ≤ n - l := by omega
end Mine

end
section
-- Base1
theorem Mine.fresh_Base1 : True := by
  w_top off
  trivial
open PySem PySem.W PyProof.Rows PySem.Calls
set_option maxRecDepth 100000
namespace Mine

/-- an end that no line of the walk opens -/
def Seg (P : Shared → Prop) (s : Shared) : Prop := P s
def Done (s : Shared) (Post : Value → Heap → Prop) (v : Value) (s' : Shared) : Prop := ∃ h' tk', s' = { s with heap := h', toks := tk' } ∧ Post v h'
theorem Done.mk {s : Shared} {Post : Value → Heap → Prop} {v : Value} {h : Heap} {tk : Nat} (h1 : Post v h) : Done s Post v { s with heap := h, toks := tk } := ⟨h, tk, rfl, h1⟩

/-- a call's contract: it ends, and of its answer and of the heap behind it Post holds -/
def Does (M : Model) (d u : Nat) (t : Sem Value) (s : Shared) (Post : Value → Heap → Prop) : Prop :=
  ∀ (d0 u0 : Nat) (fr : Option (List Env)) (gs : Option (List Code)), d0 + d < recursionLimit → u0 + u < cLine →
    wpAny M ⟨none, d0, fr, gs, u0⟩ t (Done s Post) (fun _ _ => False) s

section
variable {M : Model} {A : Around} {E : Value → Shared → Prop} {Q : Value → Shared → Prop} {s : Shared} {t : Sem Value} {d u : Nat} {Post Post' : Value → Heap → Prop}
theorem Does.use (D : Does M d u t s Post) (hh : A.handled = none) (hd : A.depth + d < recursionLimit) (hu : A.units + u < cLine)
    (h : ∀ v h' tk', Post v h' → Q v { s with heap := h', toks := tk' }) : wpAny M A t Q E s := by
  obtain ⟨h1, d0, fr, gs, u0⟩ := A
  cases hh
  exact wpAny_mono (D d0 u0 fr gs hd hu) (fun v s' ⟨h', tk', e, p⟩ => e ▸ h v h' tk' p) fun _ _ x => x.elim
theorem Does.mono (D : Does M d u t s Post) (h : ∀ v h', Post v h' → Post' v h') : Does M d u t s Post' :=
  fun d0 u0 fr gs hd hu => wpAny_mono (D d0 u0 fr gs hd hu) (fun _ _ ⟨h', tk', e, p⟩ => ⟨h', tk', e, h _ _ p⟩) fun _ _ x => x
end

/-- the run's ground: the written part and the top's facts at a heap that every later heap keeps -/
structure Gd (K : Frag) (loose : List Str) (mean : ExcName → Option Value) (mg mb : Str → Option Value) (B : Heap) : Prop where
  X : K.In B
  T : Top topProg loose mean mg mb B

section
variable {prog : Program} {w : World} {A : Around} {s : Shared} {K : Frag} {B : Heap} {loose : List Str} {mean : ExcName → Option Value} {mg mb : Str → Option Value}
  {Q : Value → Shared → Prop} {name qual : Str} {params : Arguments} {body : List Stmt} {scope : Scope} {dV kV doc pm cdv ct oc : Value} {an od : Option Addr} {osl : Array (Option Value)} {f : Addr} {args : List Value} {kw : List (Str × Value)} {binds : List (Str × Value)}

theorem hide_stays {hid : List Addr} {h : Heap} (hB : B.StaysIn h) (hN : ∀ b ∈ hid, B.get? b = none) : B.StaysIn (hideAll h hid) := fun b o e =>
  hideAll_get _ (hB b o e) fun q => by rw [hN b q] at e; cases e

theorem enter (G : Gd K loose mean mg mb B) (hB : B.StaysIn s.heap) (hid : List (Addr × Obj)) (hN : ∀ p ∈ hid, s.heap.get? p.1 = some p.2 ∧ B.get? p.1 = none)
    (ho : K.lookup f = some ⟨oc, od, .func (fnOf name qual params body scope dV kV doc pm an cdv ct), osl⟩) (hcd : codeIn K cdv qual = true) (hroom : A.depth < recursionLimit)
    (hbind : BindsTo s (fnOf name qual params body scope dV kV doc pm an cdv ct) ⟨args, kw⟩ binds) (hloc : ∀ y ∈ binds, scope.names.lookup y.1 = some .local)
    (h : ∀ g L' h₁, g = hideAll s.heap (hid.map (·.1)) → Fr g L' h₁ (fun y => binds.reverse.lookup y) → News g L' h₁ hid → (∀ p ∈ hid, p.1 < L') → K.In g → Top topProg loose mean mg mb g →
      wpAny (model prog w) (A.deeper (envOf qual scope L' f cdv)) (execs body (envOf qual scope L' f cdv))
        (fun fl s' => Q (match fl with | .ret v => v | _ => .none) s')
        (fun _ _ => False)
        { s with heap := h₁, toks := s.toks + binds.length })
    (hco : scope.isCoroutine = false := by rfl) (hgen : scope.isGenerator = false := by rfl) (hk : scope.kind = .function := by rfl)
    (hcell : ∀ x ∈ scope.names, x.2 ≠ .cell := by decide) : wpAny (model prog w) A (call (.ref f) args kw) Q (fun _ _ => False) s := by
  have X := G.X.keeps hB
  refine wpAny_call (codeAny_call_def (fd := fnOf name qual params body scope dV kV doc pm an cdv ct) (body := body) (binds := binds) hroom (X _ _ ho) rfl (G.T.nolimit.keeps hB) (codeRec_of X hcd) rfl hbind hcell hloc (fun h₁ hns hk₁ => ?_) hco hgen hk)
  have st : B.StaysIn (hideAll s.heap (hid.map (·.1))) := hide_stays hB fun b hb => by
    obtain ⟨p, hp, rfl⟩ := List.mem_map.mp hb
    exact (hN p hp).2
  refine wpAny_mono (h _ s.heap.objs.size h₁ rfl ⟨hns, fun b o e => hk₁ b o (of_hideAll _ e), Nat.le_of_eq (hideAll_size _ _)⟩
    (fun p hp => ⟨hk₁ _ _ (hN p hp).1, Nat.ne_of_lt (Heap.lt_size (hN p hp).1), hideAll_none _ (List.mem_map_of_mem hp)⟩) (fun p hp => Heap.lt_size (hN p hp).1) (G.X.keeps st) (G.T.keeps st)) (fun _ _ x => x) fun _ _ x => x.elim

/-- the same of a def whose names are captured: its cells lie ahead in the ledger -/
theorem enterC (G : Gd K loose mean mg mb B) (hB : B.StaysIn s.heap) (hid : List (Addr × Obj)) (hN : ∀ p ∈ hid, s.heap.get? p.1 = some p.2 ∧ B.get? p.1 = none)
    (ho : K.lookup f = some ⟨oc, od, .func (fnOf name qual params body scope dV kV doc pm an cdv ct), osl⟩) (hcd : codeIn K cdv qual = true) (hroom : A.depth < recursionLimit)
    (hbind : BindsTo s (fnOf name qual params body scope dV kV doc pm an cdv ct) ⟨args, kw⟩ binds)
    (hkind : (binds.all fun y => scope.names.lookup y.1 == some .local || scope.names.lookup y.1 == some .cell) = true)
    (hnd : ((cellsFrom 0 scope.names []).map (·.1)).Nodup)
    (h : ∀ g L' h₁ tk cells, g = hideAll s.heap (hid.map (·.1)) → Fr g L' h₁ (bindL (envOfC qual scope L' f cdv).kindOf binds fun _ => none) → News g L' h₁ (cells ++ hid) →
      CellsAre (bindC (envOfC qual scope L' f cdv).kindOf binds fun _ => none) (cellsFrom (L' + 1) scope.names []) cells → (∀ p ∈ hid, p.1 < L') → K.In g → Top topProg loose mean mg mb g →
      wpAny (model prog w) (A.deeper (envOfC qual scope L' f cdv)) (execs body (envOfC qual scope L' f cdv))
        (fun fl s' => Q (match fl with | .ret v => v | _ => .none) s')
        (fun _ _ => False)
        { s with heap := h₁, toks := tk })
    (hco : scope.isCoroutine = false := by rfl) (hgen : scope.isGenerator = false := by rfl) (hk : scope.kind = .function := by rfl) :
    wpAny (model prog w) A (call (.ref f) args kw) Q (fun _ _ => False) s := by
  have X := G.X.keeps hB
  have st : B.StaysIn (hideAll s.heap (hid.map (·.1))) := hide_stays hB fun b hb => by
    obtain ⟨p, hp, rfl⟩ := List.mem_map.mp hb
    exact (hN p hp).2
  refine wpAny_call (codeAny_call_function hroom (X _ _ ho) rfl hco hgen rfl (codeRec_of X hcd) (hbind _ _ _ _ ?_))
  refine wpAny_newFunctionEnv_cells hk (kindsX hkind _) fun env' he s' x => ?_
  subst he
  refine ⟨(G.T.nolimit.keeps hB).keeps x.toInCall.keep, codeAny_func ?_⟩
  obtain ⟨h₁, tk, rfl, _⟩ := x.done
  have hk₁ := x.toInCall.keep
  obtain ⟨cells, NC, Y⟩ := Cl.news (h₀ := s.heap) (Nat.le_refl _) fun n c hm => ⟨x.cell n c (lookup_of_mem_nodup (cellsFrom_names scope.names 0 (s.heap.objs.size + 1) [] [] rfl ▸ hnd) hm), x.above n c hm⟩
  refine wpAny_mono (h _ s.heap.objs.size h₁ tk cells rfl ⟨x.toInCall.ns, fun b o e => hk₁ b o (of_hideAll _ e), Nat.le_of_eq (hideAll_size _ _)⟩ (fun p hp => ?_) Y (fun p hp => Heap.lt_size (hN p hp).1) (G.X.keeps st) (G.T.keeps st)) (fun _ _ y => y) fun _ _ y => y.elim
  rcases List.mem_append.mp hp with hp | hp
  · refine ⟨(NC p hp).1, (NC p hp).2.1, ?_⟩
    cases q : (hideAll s.heap (hid.map (·.1))).get? p.1 with
    | none => rfl
    | some o => have := of_hideAll _ q; rw [(NC p hp).2.2] at this; cases this
  · exact ⟨hk₁ _ _ (hN p hp).1, Nat.ne_of_lt (Heap.lt_size (hN p hp).1), hideAll_none _ (List.mem_map_of_mem hp)⟩
end

section
variable {prog : Program} {w : World} {A : Around} {E : Value → Shared → Prop} {s : Shared} {env : Env} {h₀ : Heap} {Q : Flow → Shared → Prop}

/-- what a turn of a loop leaves -/
def OurTurn (h₀ : Heap) (L I : Addr) (own : List (Addr × Obj)) (J : (Str → Option Value) → List (Addr × Obj) → Prop) (s₁ : Shared) (Q : Flow → Shared → Prop) (f : Flow) (s₂ : Shared) : Prop :=
  match f with
  | .ret v => Q (.ret v) s₂
  | .brk => Q .next s₂
  | _ => ∃ h' tk m' nx, s₂ = { s₁ with heap := h', toks := tk } ∧ Fr h₀ L h' m' ∧ News h₀ L h' (nx ++ own) ∧ (∀ p ∈ nx, p.1 ≠ I) ∧ J m' nx

theorem OurTurn.ret {L I : Addr} {own : List (Addr × Obj)} {J : (Str → Option Value) → List (Addr × Obj) → Prop} {s₁ s₂ : Shared} {v : Value} (h : Q (.ret v) s₂) : OurTurn h₀ L I own J s₁ Q (.ret v) s₂ := h
theorem OurTurn.brk {L I : Addr} {own : List (Addr × Obj)} {J : (Str → Option Value) → List (Addr × Obj) → Prop} {s₁ s₂ : Shared} (h : Q .next s₂) : OurTurn h₀ L I own J s₁ Q .brk s₂ := h
theorem OurTurn.next {L I : Addr} {own nx : List (Addr × Obj)} {J : (Str → Option Value) → List (Addr × Obj) → Prop} {s₁ : Shared} {h' : Heap} {tk : Nat} {m' : Str → Option Value}
    (F : Fr h₀ L h' m') (N : News h₀ L h' (nx ++ own)) (hI : ∀ p ∈ nx, p.1 ≠ I) (hj : J m' nx) : OurTurn h₀ L I own J s₁ Q .next { s₁ with heap := h', toks := tk } := ⟨h', tk, m', nx, rfl, F, N, hI, hj⟩
theorem OurTurn.cont {L I : Addr} {own nx : List (Addr × Obj)} {J : (Str → Option Value) → List (Addr × Obj) → Prop} {s₁ : Shared} {h' : Heap} {tk : Nat} {m' : Str → Option Value}
    (F : Fr h₀ L h' m') (N : News h₀ L h' (nx ++ own)) (hI : ∀ p ∈ nx, p.1 ≠ I) (hj : J m' nx) : OurTurn h₀ L I own J s₁ Q .cont { s₁ with heap := h', toks := tk } := ⟨h', tk, m', nx, rfl, F, N, hI, hj⟩

/-- what a for over any target wants of its iterator: a walk of values, an invariant over the frame's map and the ledger -/
def LoopAny (prog : Program) (w : World) (A : Around) (h₀ : Heap) (env : Env) (target : Expr) (body : List Stmt) (Q : Flow → Shared → Prop) (E : Value → Shared → Prop) (it : Value) (s₂ : Shared) : Prop :=
  ∃ (I : Addr) (fp : List Addr) (n : Nat) (P : Nat → Value → Prop) (St : Nat → Heap → Prop) (m : Str → Option Value) (news : List (Addr × Obj)) (J : Nat → (Str → Option Value) → List (Addr × Obj) → Prop),
    it = .ref I ∧ (∀ v, letOwnedTupleGo target it v = pure ()) ∧ Walks prog w A I fp [I] n P St ∧ env.locals ∉ fp ∧ h₀.get? I = none ∧ (∀ p ∈ news, p.1 ≠ I) ∧ St 0 s₂.heap ∧ Fr h₀ env.locals s₂.heap m ∧ News h₀ env.locals s₂.heap news ∧ J 0 m news ∧
    (∀ i v m₁ news₁ h tk own, i < n → P i v → J i m₁ news₁ → (∀ p ∈ news₁, p.1 ≠ I) → (∀ p ∈ own, p.1 ∈ fp) → Fr h₀ env.locals h m₁ → News h₀ env.locals h (news₁ ++ own) →
      wpAny (model prog w) A (assign target env v) (fun _ s₄ => wpAny (model prog w) A (execs body env) (OurTurn h₀ env.locals I own (J (i + 1)) s₂ Q) E s₄) E { s₂ with heap := h, toks := tk }) ∧
    (∀ m₁ news₁ h tk, J n m₁ news₁ → Fr h₀ env.locals h m₁ → News h₀ env.locals h news₁ → Q .next { s₂ with heap := h, toks := tk })

/-- a for, any target -/
theorem for_any {target iter : Expr} {body : List Stmt} {pos : Pos} (h₀ : Heap)
    (h : wpAny (model prog w) A (eval iter env) (fun x s₁ => wpAny (model prog w) A (pyIter x) (fun it s₂ => LoopAny prog w A h₀ env target body Q E it s₂) E s₁) E s)
    (hs : ∀ x, foldedSetIterable iter env x = pure x := by intro _; rfl)
    (hE : PassesOwn (model prog w) A env E := by passes_own) :
    wpAny (model prog w) A (exec (.For target iter body [] pos) env) Q E s := by
  refine wpAny_For (wpAny_mono h (fun xv s₁ h₁ => wpAny_mono h₁ (fun it s₂ h₂ => ?_) fun _ _ e => e) fun _ _ e => e) hs
  obtain ⟨I, fp, n, P, St, m, news, J, rfl, ht, W, hLf, hI0, hnI, hst, F, N, hj, turn, done⟩ := h₂
  have hIf : I ∈ fp := W.sub I (List.mem_singleton.mpr rfl)
  refine codeAny_forLoop
    (fun k s' => ∃ h' tk m' nx i, s' = { s₂ with heap := h', toks := tk } ∧ St i h' ∧ Fr h₀ env.locals h' m' ∧ News h₀ env.locals h' nx ∧ (∀ p ∈ nx, p.1 ≠ I) ∧ J i m' nx ∧ i ≤ n ∧ k = n + 1 - i) ?_ (n + 1)
    ⟨s₂.heap, s₂.toks, m, news, 0, rfl, hst, F, N, hnI, hj, Nat.zero_le _, rfl⟩ ht
  rintro k s' ⟨h', tk, m', nx, i, rfl, hst', F', N', hnx, hJ, hi, rfl⟩
  have next : ∀ h₁ : Heap, (∀ b o, b ∉ [I] → h'.get? b = some o → h₁.get? b = some o) → Fr h₀ env.locals h₁ m' ∧ News h₀ env.locals h₁ nx := fun h₁ hk₁ =>
    ⟨⟨F'.ns.at' fun o e => hk₁ _ o (fun q => hLf ((List.mem_singleton.mp q) ▸ hIf)) e, fun b o e => hk₁ b o (fun q => by rw [List.mem_singleton.mp q, hI0] at e; cases e) (F'.keep b o e), F'.above⟩,
      fun p hp => ⟨hk₁ _ _ (fun q => hnx p hp (List.mem_singleton.mp q)) (N' p hp).1, (N' p hp).2⟩⟩
  by_cases hlt : i < n
  · refine W.item i _ _ _ hlt hst' fun v h₁ tk₁ hP hst₁ hk₁ => ?_
    obtain ⟨F₁, N₁⟩ := next h₁ hk₁
    have Nown : News h₀ env.locals h₁ (ownOf h₀ fp h₁) := news_ownOf hLf
    have N₂ : News h₀ env.locals h₁ (nx ++ ownOf h₀ fp h₁) := fun p hp => (List.mem_append.mp hp).elim (N₁ p) (Nown p)
    have T := turn i v m' nx h₁ tk₁ (ownOf h₀ fp h₁) hlt hP hJ hnx ownOf_sub F₁ N₂
    have fin : ∀ s₅ : Shared, (∃ h'' tk m'' nx', s₅ = { s₂ with heap := h'', toks := tk } ∧ Fr h₀ env.locals h'' m'' ∧ News h₀ env.locals h'' (nx' ++ ownOf h₀ fp h₁) ∧ (∀ p ∈ nx', p.1 ≠ I) ∧ J (i + 1) m'' nx') →
        ∃ mm, mm < n + 1 - i ∧ ∃ h' tk m' nx i, s₅ = { s₂ with heap := h', toks := tk } ∧ St i h' ∧ Fr h₀ env.locals h' m' ∧ News h₀ env.locals h' nx ∧ (∀ p ∈ nx, p.1 ≠ I) ∧ J i m' nx ∧ i ≤ n ∧ mm = n + 1 - i := by
      rintro s₅ ⟨h₃, tk₃, m₂, nx₂, rfl, F₃, N₃, ha₃, hJ₃⟩
      refine ⟨n + 1 - (i + 1), by omega, h₃, tk₃, m₂, nx₂, i + 1, rfl, ?_, F₃, fun p hp => N₃ p (List.mem_append_left _ hp), ha₃, hJ₃, hlt, rfl⟩
      refine W.frame _ _ _ hst₁ fun b hb o e => ?_
      cases hn : h₀.get? b with
      | some o₀ =>
        have e0 : o₀ = o := by have := F₁.keep b o₀ hn; rw [e] at this; exact (Option.some.inj this).symm
        exact e0 ▸ F₃.keep b o₀ hn
      | none => exact (N₃ (b, o) (List.mem_append_right _ (mem_ownOf hb hn e))).1
    refine wpAny_mono (wpAny_passesOwn hE T) (fun _ s₄ T₄ => wpAny_mono (wpAny_passesOwn hE T₄) (fun f s₅ T₅ => ?_) fun _ _ e => e) fun _ _ e => e
    cases f with
    | ret v => exact T₅
    | brk => exact T₅
    | next =>
      obtain ⟨h₃, tk₃, m₂, nx₂, e, r⟩ := T₅
      exact fin s₅ ⟨h₃, tk₃, m₂, nx₂, e, r⟩
    | cont =>
      obtain ⟨h₃, tk₃, m₂, nx₂, e, r⟩ := T₅
      exact fin s₅ ⟨h₃, tk₃, m₂, nx₂, e, r⟩
  · have hin : i = n := by omega
    subst hin
    refine W.done _ _ _ hst' fun h₁ tk₁ hk₁ => wpAny_execs_nil ?_
    obtain ⟨F₁, N₁⟩ := next h₁ hk₁
    exact done m' nx h₁ tk₁ hJ F₁ N₁

theorem fresh_none {L : Addr} {m : Str → Option Value} {h : Heap} (F : Fr h₀ L h m) : h₀.get? h.objs.size = none := by
  cases e : h₀.get? h.objs.size with
  | none => rfl
  | some o => exact absurd (Heap.lt_size (F.keep _ _ e)) (Nat.lt_irrefl _)

/-- over a list, wherever it lies -/
theorem iter_list {target : Expr} {body : List Stmt} {l : Addr} {vs : List Value} {m₀ : Str → Option Value} {news : List (Addr × Obj)} (J : Nat → (Str → Option Value) → List (Addr × Obj) → Prop)
    (hh : A.handled = none) (hl : s.heap.IsList l vs.toArray) (hlL : l ≠ env.locals) (F : Fr h₀ env.locals s.heap m₀) (N : News h₀ env.locals s.heap news) (hj : J 0 m₀ news)
    (turn : ∀ i v m₁ news₁ h tk I own, vs[i]? = some v → J i m₁ news₁ → (∀ p ∈ news₁, p.1 ≠ I) → l < I → (∀ p ∈ own, p.1 = I ∨ p.1 = l) → Fr h₀ env.locals h m₁ → News h₀ env.locals h (news₁ ++ own) →
      wpAny (model prog w) A (assign target env v) (fun _ s₄ => wpAny (model prog w) A (execs body env) (OurTurn h₀ env.locals I own (J (i + 1)) s Q) E s₄) E { s with heap := h, toks := tk })
    (done : ∀ m₁ news₁ h tk, J vs.length m₁ news₁ → Fr h₀ env.locals h m₁ → News h₀ env.locals h news₁ → Q .next { s with heap := h, toks := tk })
    (ht : ∀ a v, letOwnedTupleGo target a v = pure () := by intro _ _; rfl) :
    wpAny (model prog w) A (pyIter (.ref l)) (fun it s₂ => LoopAny prog w A h₀ env target body Q E it s₂) E s := by
  obtain ⟨ol, hol, _⟩ := id hl
  have hlt := Heap.lt_size hol
  refine wpAny_pyIter_list hl ?_
  have W := Walks.list (prog := prog) (w := w) hh s.heap.objs.size l (Nat.ne_of_lt hlt) vs.toArray
  refine ⟨_, _, _, _, _, m₀, news, J, rfl, ht _, W, ?_, fresh_none F, fun p hp => Nat.ne_of_lt (Heap.lt_size (N p hp).1), ⟨⟨_, Heap.get?_push_size _ rfl, rfl, rfl⟩, hl.at fun o e => Heap.get?_push_of_some _ e⟩, F.push _, (fun p hp => ⟨Heap.get?_push_of_some _ (N p hp).1, (N p hp).2⟩), hj, ?_, ?_⟩
  · intro hm
    rcases List.mem_cons.mp hm with e | hm
    · exact absurd F.ns.lt (e ▸ Nat.lt_irrefl _)
    · exact hlL (List.mem_singleton.mp hm).symm
  · intro i v m₁ news₁ h tk own hi hP hJ hnx hown F₁ N₁
    refine turn i v m₁ news₁ h tk _ own (by simpa using hP) hJ hnx hlt (fun p hp => ?_) F₁ N₁
    rcases List.mem_cons.mp (hown p hp) with e | hm
    · exact .inl e
    · exact .inr (List.mem_singleton.mp hm)
  · intro m₁ news₁ h tk hJ F₁ N₁
    exact done m₁ news₁ h tk (by simpa using hJ) F₁ N₁

end
end Mine

end
section
-- Base2
theorem Mine.fresh_Base2 : True := by
  w_top off
  trivial
open PySem PySem.W PyProof.Rows PySem.Calls PySem.Builtin PySem.Builtin.Str
set_option maxRecDepth 100000
namespace Mine

def find4 (x y : Str) (i j : Int) : Int := match occurrences x y (fromIndex x.length i) (min (fromIndex x.length j) x.length) 1 with | k :: _ => (k : Int) | [] => -1
theorem gives_find4 (x y : Str) (i j : Int) (t u v v' : Tok) : Gives («str.find» ⟨[.str x t, .str y u, .int i v, .int j v'], []⟩) (.int (find4 x y i j)) := by
  show Gives (match occurrences x y (fromIndex x.length i) (min (fromIndex x.length j) x.length) 1 with | k :: _ => retInt k | [] => (do rule "str.find.not-found"; retInt (-1))) _
  unfold find4
  cases occurrences x y (fromIndex x.length i) (min (fromIndex x.length j) x.length) 1 with
  | nil => exact .rule (.of_eq rfl)
  | cons k _ => exact .of_eq rfl

section
variable {prog : Program} {w : World} {A : Around} {E : Value → Shared → Prop} {s : Shared} {h₀ : Heap} {L D : Addr} {m : Str → Option Value} {news news' : List (Addr × Obj)} {x y : Str} {t u v v' : Tok} {i j : Int}
theorem find4K {Q : Value → Shared → Prop} (hq : ∀ tk k, Q (.int (find4 x y i j) tk) { s with toks := k }) :
    wpAny (model prog w) A (call (.builtin "str.find") [.str x t, .str y u, .int i v, .int j v']) Q E s :=
  call_gives F.slot_str_find (typeIs_str _ _ _) F.entry_str_find (F.args_str_find_4 _ _ _ _) (gives_find4 x y i j t u v v') (hq _ _)
theorem truthyK {Q : Bool → Shared → Prop} (hl : x.length ≤ 1000000) (hq : ∀ k, Q ((x.length : Int) != 0) { s with toks := k }) : wpAny (model prog w) A (truthy (.str x t)) Q E s :=
  P.truthy_str (by (first | lia | omega)) (hq _)
theorem splitK {Q : Value → Shared → Prop} (hF : Fr h₀ L s.heap m) (hN : News h₀ L s.heap news) (hy : (y.length == 0) = false)
    (h : ∀ D l h' k, l.map (·.1) = Txt.split x y → Fr h₀ L h' m → News h₀ L h' ((D, listOf (strValues l).toArray 0) :: news) → (∀ p ∈ news, p.1 < D) → Q (.ref D) { s with heap := h', toks := k })
    (hsz : x.length ≤ 1000000) : wpAny (model prog w) A (call (.builtin "str.split") [.str x t, .str y u]) Q E s :=
  splitN1 hF hN hy (fun l h' k e F N => h _ l h' k e F N fun p hp => Heap.lt_size (hN p hp).1) (by rw [sizeLine_eq]; (first | lia | omega))
theorem delK {its : Array Value} {n k : Nat} {Q : Unit → Shared → Prop} (F : Fr h₀ L s.heap m) (N : News h₀ L s.heap news) (hk : seqIndex? i its.size = some k)
    (U : Upd D (listOf its n) (listOf (its.toList.eraseIdx k).toArray (n + 1)) news news') (hfit : Builtin.List.listFitsIndex i = true)
    (h : ∀ h', Fr h₀ L h' m → News h₀ L h' news' → Q () { s with heap := h' }) (hsz : its.size ≤ 1000000) :
    wpAny (model prog w) A (delItem (.ref D) (.int i u)) Q E s := by
  obtain ⟨pre, post, rfl, rfl, a, b⟩ := U.split
  have z := N (D, listOf its n) (List.mem_append.mpr (.inr (.head _)))
  exact delItem_at z.1 hfit hk (fun h' hs ho' => h h' (F.change hs z.2.1 z.2.2) (news_set N a b hs ho')) (by rw [sizeLine_eq]; (first | lia | omega))
end

/-- a cut between two statements -/
theorem cut {M : Model} {A : Around} {E : Value → Shared → Prop} {s : Shared} {env : Env} {st : Stmt} {rest : List Stmt} {Q : Flow → Shared → Prop} (J : Shared → Prop)
    (h1 : wpAny M A (exec st env) (fun f s' => match f with | .next => J s' | f => Q f s') E s) (h2 : ∀ s', J s' → wpAny M A (execs rest env) Q E s') :
    wpAny M A (execs (st :: rest) env) Q E s :=
  wpAny_execs_cons (wpAny_mono h1 (fun f s' h => by cases f <;> first | exact h2 s' h | exact h) fun _ _ x => x)

theorem execs_append_wp {M : Model} {A : Around} {E : Value → Shared → Prop} {env : Env} {bs : List Stmt} {Q : Flow → Shared → Prop} {Γ : Ctx} (hΓ : Γ.In A) : ∀ {as : List Stmt} {p : Pos} {s : Shared},
    Sem.wp M Γ (execs as env) (fun f _ s' => match f with | .next => wpAny M A (execs bs env) Q E s' | f => Q f s') (fun e _ s' => E e s') p s → Sem.wp M Γ (execs (as ++ bs) env) (fun f _ s' => Q f s') (fun e _ s' => E e s') p s
  | [], p, s, h => by
    have h' : wpAny M A (execs bs env) Q E s := h
    exact h' Γ p hΓ
  | a :: as, p, s, h => by
    rw [execs_cons, Sem.wp_bind'] at h
    show Sem.wp M Γ (execs (a :: (as ++ bs)) env) _ _ p s
    rw [execs_cons, Sem.wp_bind']
    refine Sem.wp_mono M Γ _ (fun f p' s' h' => ?_) (fun _ _ _ x => x) p s h
    cases f with
    | next => exact execs_append_wp hΓ h'
    | _ => exact h'
theorem execs_append {M : Model} {A : Around} {E : Value → Shared → Prop} {env : Env} {as bs : List Stmt} {Q : Flow → Shared → Prop} {s : Shared}
    (h : wpAny M A (execs as env) (fun f s' => match f with | .next => wpAny M A (execs bs env) Q E s' | f => Q f s') E s) : wpAny M A (execs (as ++ bs) env) Q E s :=
  fun Γ p hΓ => execs_append_wp hΓ (h Γ p hΓ)
/-- a cut behind the n-th statement -/
theorem cutN {M : Model} {A : Around} {E : Value → Shared → Prop} {env : Env} {body : List Stmt} {Q : Flow → Shared → Prop} {s : Shared} (n : Nat) (J : Shared → Prop)
    (h1 : wpAny M A (execs (body.take n) env) (fun f s' => match f with | .next => Seg J s' | f => Q f s') E s)
    (h2 : ∀ s', J s' → wpAny M A (execs (body.drop n) env) Q E s') : wpAny M A (execs body env) Q E s := by
  rw [← List.take_append_drop n body]
  exact execs_append (wpAny_mono h1 (fun f s' h => by cases f <;> first | exact h2 s' h | exact h) fun _ _ x => x)

theorem len_ge2 (x y : Str) (hk : PySem.Builtin.Str.strKind y = 1) (h : (occurrences x y 0 x.length 1).isEmpty = false) : 2 ≤ (Txt.split x y).length := by
  rcases StrLaws.occ_head x y 1 (Nat.le_refl _) with ⟨e, _⟩ | ⟨i, r, e, hat, _⟩
  · rw [e] at h; cases h
  have h1 : ¬ (x.length < y.length) := fun hlt => by have := hat.1; (first | lia | omega)
  have h2 : ¬ (PySem.Builtin.Str.strKind x < PySem.Builtin.Str.strKind y) := by
    rw [hk]; unfold PySem.Builtin.Str.strKind; split <;> (try split) <;> (first | lia | omega)
  have h3 : ¬ ((occurrences x y 0 x.length (x.length + 1)).isEmpty = true) := by
    rcases StrLaws.occ_head x y (x.length + 1) (by (first | lia | omega)) with ⟨_, hn⟩ | ⟨i', r', e', _, _⟩
    · exact absurd hat (hn i)
    · rw [e']; exact Bool.false_ne_true
  unfold Txt.split
  rw [if_neg (by simp [h1, h2]), if_neg h3, length_partsBetween]
  cases he : occurrences x y 0 x.length (x.length + 1) with
  | nil => rw [he] at h3; exact absurd rfl h3
  | cons a b => simp


theorem two_ends : ∀ {l : List (Str × Tok)}, 2 ≤ l.length → ∃ a mid z, l = (a :: mid) ++ [z]
  | a :: b :: r, _ => ⟨a, (b :: r).dropLast, (b :: r).getLast (by simp), by
      rw [List.cons_append, List.dropLast_concat_getLast]⟩

section
variable {prog : Program} {w : World} {A : Around} {E : Value → Shared → Prop} {s : Shared} {h₀ : Heap} {L D : Addr} {m : Str → Option Value} {news news' : List (Addr × Obj)} {n : Nat} {u : Tok} {value slice : Expr}
theorem item_first {a : Value} {r : List Value} {Q : Value → Shared → Prop} (N : News h₀ L s.heap news) (hm : (D, listOf (a :: r).toArray n) ∈ news) (h : Q a s)
    (hs : subscripted slice false (.ref D) (.int 0 u) = operate [.ref D, .int 0 u] (getItem (.ref D) (.int 0 u)) := by with_unfolding_all rfl) (hg : ∀ r, letTemporaryGo value (.ref D) r = pure () := by intro _; with_unfolding_all rfl) :
    wpAny (model prog w) A (subscriptTail value slice (.ref D) (.int 0 u)) Q E s := kim_list N hm rfl rfl (by decide) (by decide) rfl h hs hg
theorem item_last {a : Value} {r : List Value} {Q : Value → Shared → Prop} (N : News h₀ L s.heap news) (hm : (D, listOf (r ++ [a]).toArray n) ∈ news) (h : Q a s)
    (hs : subscripted slice false (.ref D) (.int (-1) u) = operate [.ref D, .int (-1) u] (getItem (.ref D) (.int (-1) u)) := by with_unfolding_all rfl) (hg : ∀ r, letTemporaryGo value (.ref D) r = pure () := by intro _; with_unfolding_all rfl) :
    wpAny (model prog w) A (subscriptTail value slice (.ref D) (.int (-1) u)) Q E s :=
  kim_back N hm rfl rfl (by decide) (by simp only [List.length_append, List.length_singleton]; (first | lia | omega)) (by decide)
    (by rw [show (-1 + (((r ++ [a]).length : Nat) : Int)).toNat = r.length by simp only [List.length_append, List.length_singleton]; (first | lia | omega)]; simp) h hs hg
theorem del_first {a : Value} {r : List Value} {Q : Unit → Shared → Prop} (F : Fr h₀ L s.heap m) (N : News h₀ L s.heap news)
    (U : Upd D (listOf (a :: r).toArray n) (listOf r.toArray (n + 1)) news news')
    (h : ∀ h', Fr h₀ L h' m → News h₀ L h' news' → Q () { s with heap := h' }) (hsz : r.length ≤ 900000) :
    wpAny (model prog w) A (delItem (.ref D) (.int 0 u)) Q E s :=
  delK (its := (a :: r).toArray) (k := 0) F N (by simp only [List.size_toArray, List.length_cons]; unfold seqIndex?; simp) U (by decide) h (by simp only [List.size_toArray, List.length_cons]; (first | lia | omega))
theorem del_last {a : Value} {r : List Value} {Q : Unit → Shared → Prop} (F : Fr h₀ L s.heap m) (N : News h₀ L s.heap news)
    (U : Upd D (listOf (r ++ [a]).toArray n) (listOf r.toArray (n + 1)) news news')
    (h : ∀ h', Fr h₀ L h' m → News h₀ L h' news' → Q () { s with heap := h' }) (hsz : r.length ≤ 900000) :
    wpAny (model prog w) A (delItem (.ref D) (.int (-1) u)) Q E s := by
  refine delK (n := n) (its := (r ++ [a]).toArray) (k := r.length) F N (by simp only [List.size_toArray, List.length_append, List.length_singleton]; unfold seqIndex?; simp; (first | lia | omega)) ?_ (by decide) h (by simp only [List.size_toArray, List.length_append, List.length_singleton]; (first | lia | omega))
  have e : ((r ++ [a]).toArray.toList.eraseIdx r.length) = r := by simp [List.eraseIdx_append_of_length_le]
  rw [e]
  exact U
end

theorem strValues_snoc (r : List (Str × Tok)) (z : Str) (tz : Tok) : strValues (r ++ [(z, tz)]) = strValues r ++ [.str z tz] := by simp [strValues]
section
variable {prog : Program} {w : World} {A : Around} {E : Value → Shared → Prop} {s : Shared} {h₀ : Heap} {L D : Addr} {m : Str → Option Value} {news news' : List (Addr × Obj)} {n : Nat} {u tz : Tok} {value slice : Expr} {z : Str}
theorem item_lastS {r : List (Str × Tok)} {Q : Value → Shared → Prop} (N : News h₀ L s.heap news) (hm : (D, listOf (strValues (r ++ [(z, tz)])).toArray n) ∈ news) (h : Q (.str z tz) s)
    (hs : subscripted slice false (.ref D) (.int (-1) u) = operate [.ref D, .int (-1) u] (getItem (.ref D) (.int (-1) u)) := by with_unfolding_all rfl) (hg : ∀ r, letTemporaryGo value (.ref D) r = pure () := by intro _; with_unfolding_all rfl) :
    wpAny (model prog w) A (subscriptTail value slice (.ref D) (.int (-1) u)) Q E s :=
  item_last (r := strValues r) N (by rw [← strValues_snoc]; exact hm) h hs hg
theorem del_lastS {r : List (Str × Tok)} {Q : Unit → Shared → Prop} (F : Fr h₀ L s.heap m) (N : News h₀ L s.heap news)
    (U : Upd D (listOf (strValues (r ++ [(z, tz)])).toArray n) (listOf (strValues r).toArray (n + 1)) news news')
    (h : ∀ h', Fr h₀ L h' m → News h₀ L h' news' → Q () { s with heap := h' }) (hsz : (strValues r).length ≤ 900000) :
    wpAny (model prog w) A (delItem (.ref D) (.int (-1) u)) Q E s :=
  del_last (r := strValues r) F N (by rw [← strValues_snoc]; exact U) h hsz
end

section
variable {prog : Program} {w : World} {A : Around} {E : Value → Shared → Prop} {s : Shared} {h₀ : Heap} {L l : Addr} {m : Str → Option Value} {news : List (Addr × Obj)} {n : Nat} {u : Tok} {v : Value} {x : Int}
theorem mulK {Q : Value → Shared → Prop} (F : Fr h₀ L s.heap m) (N : News h₀ L s.heap news) (hm : (l, listOf [v].toArray n) ∈ news) (h0 : 0 ≤ x) (h1 : x ≤ 200)
    (h : ∀ D h', Fr h₀ L h' m → News h₀ L h' ((D, listOf (List.replicate x.toNat v).toArray 0) :: news) → (∀ p ∈ news, p.1 < D) → Q (.ref D) { s with heap := h' }) : wpAny (model prog w) A (binaryOp .Mult (.ref l) (.int x u)) Q E s :=
  KMa.mul (vs := [v]) F N ⟨_, (N _ hm).1, rfl, _, rfl⟩ (by (first | lia | omega)) (by (first | lia | omega)) (by simp only [List.length_singleton]; (first | lia | omega)) (lm_rep_flat_one v _) h
end

end Mine

end
section
-- Base3
theorem Mine.fresh_Base3 : True := by
  w_top off
  trivial
open PySem PySem.W PyProof.Rows PySem.Calls PySem.Builtin PySem.Builtin.Str
set_option maxRecDepth 100000
namespace Mine

/-- a def's table of the code objects that its body makes: where it lies, whence the one code comes, its name -/
structure TabSpec where
  P : Addr
  pos : Pos
  qual : Str
def TabOne (S : TabSpec) (t : List (Addr × Obj)) : Prop :=
  t = [(S.P, tabObj #[])] ∨ ∃ c oc vs tk, t = [(c, oc), (S.P, tabObj #[rawInt S.pos.line, rawInt S.pos.col, .ref c])] ∧ oc.data = .fields vs ∧ vs[1]? = some (.str S.qual tk)
def TabS (S T : TabSpec) (tl : List (Addr × Obj)) : Prop := ∃ t1 t2, tl = t1 ++ t2 ∧ TabOne S t1 ∧ TabOne T t2
def Fld (o : Obj) : Prop := ∃ vs, o.data = .fields vs
def NotFld (o : Obj) : Prop := ∀ vs, o.data ≠ .fields vs
theorem TabOne.fld {S : TabSpec} {t : List (Addr × Obj)} (h : TabOne S t) : ∀ q ∈ t, Fld q.2 := by
  rcases h with rfl | ⟨c, oc, vs, tk, rfl, hd, _⟩
  · intro q hq; rw [List.mem_singleton.mp hq]; exact ⟨_, rfl⟩
  · intro q hq
    rcases List.mem_cons.mp hq with rfl | hq
    · exact ⟨_, hd⟩
    · rw [List.mem_singleton.mp hq]; exact ⟨_, rfl⟩
theorem TabS.fld {S T : TabSpec} {t : List (Addr × Obj)} (h : TabS S T t) : ∀ q ∈ t, Fld q.2 := by
  obtain ⟨t1, t2, rfl, h1, h2⟩ := h
  intro q hq
  exact (List.mem_append.mp hq).elim (h1.fld q) (h2.fld q)

/-- what a call that may lay a code object leaves of the tables and of the rest -/
def TabPost (S T : TabSpec) (tl : List (Addr × Obj)) (h h' : Heap) : Prop :=
  ∃ tl', TabS S T tl' ∧ (∀ b o, b ∉ tl.map (·.1) → h.get? b = some o → h'.get? b = some o) ∧ (∀ p ∈ tl', h'.get? p.1 = some p.2 ∧ (p.1 ∈ tl.map (·.1) ∨ h.get? p.1 = none)) ∧ ∀ a ∈ tl.map (·.1), a ∈ tl'.map (·.1)

/-- a ledger with the tables' part in it, and the same with another such part -/
inductive Suf (tl tl' : List (Addr × Obj)) : List (Addr × Obj) → List (Addr × Obj) → Prop
  | nil : Suf tl tl' tl tl'
  | here {rest} (h : ∀ p ∈ rest, ∀ q ∈ tl, p.1 ≠ q.1) : Suf tl tl' (tl ++ rest) (tl' ++ rest)
  | cons {p n n'} (h : NotFld p.2) (r : Suf tl tl' n n') : Suf tl tl' (p :: n) (p :: n')

theorem hide_none {h : Heap} : ∀ {l : List Addr} {b : Addr}, (hideAll h l).get? b = none → b ∈ l ∨ h.get? b = none := by
  intro l b e
  by_cases hb : b ∈ l
  · exact .inl hb
  · right
    cases q : h.get? b with
    | none => rfl
    | some o => rw [hideAll_get _ q hb] at e; cases e

section
variable {S T : TabSpec} {tl tl' n n' : List (Addr × Obj)} {h₀ h h' : Heap} {L : Addr} {m : Str → Option Value}
theorem Suf.mem (U : Suf tl tl' n n') : ∀ p ∈ tl, p ∈ n := by
  induction U with
  | nil => exact fun p hp => hp
  | here _ => exact fun p hp => List.mem_append_left _ hp
  | cons _ _ ih => exact fun p hp => List.mem_cons_of_mem _ (ih p hp)
theorem Suf.news (U : Suf tl tl' n n') (N : News h₀ L h n) (hF : ∀ q ∈ tl, Fld q.2) (keep : ∀ b o, b ∉ tl.map (·.1) → h.get? b = some o → h'.get? b = some o)
    (hnew : ∀ p ∈ tl', h'.get? p.1 = some p.2 ∧ p.1 ≠ L ∧ h₀.get? p.1 = none) : News h₀ L h' n' := by
  have hN := N
  have tlN : ∀ p ∈ tl, h.get? p.1 = some p.2 := fun p hp => (N p (U.mem p hp)).1
  clear hN
  induction U with
  | nil => exact hnew
  | here hr =>
    intro p hp
    rcases List.mem_append.mp hp with hp | hp
    · exact hnew p hp
    · have z := N p (List.mem_append_right _ hp)
      refine ⟨keep _ _ (fun q => ?_) z.1, z.2⟩
      obtain ⟨r, hr', e⟩ := List.mem_map.mp q
      exact hr p hp r hr' e.symm
  | cons hp0 r ih =>
    rename_i p n n'
    intro q hq
    rcases List.mem_cons.mp hq with rfl | hq
    · have z := N q (List.mem_cons_self ..)
      refine ⟨keep _ _ (fun e => ?_) z.1, z.2⟩
      obtain ⟨r, hr', e⟩ := List.mem_map.mp e
      have := tlN r hr'
      rw [e, z.1] at this
      obtain ⟨vs, hv⟩ := hF r hr'
      rw [← Option.some.inj this] at hv
      exact hp0 vs hv
    · exact ih (fun p hp => N p (List.mem_cons_of_mem _ hp)) q hq

/-- the frame and the ledger behind such a call -/
theorem TabPost.back (P : TabPost S T tl h h') (hS : TabS S T tl) (F : Fr h₀ L h m) (N : News h₀ L h n) (hsuf : ∀ tl', ∃ n', Suf tl tl' n n') :
    ∃ tl', TabS S T tl' ∧ Fr h₀ L h' m ∧ (∀ n', Suf tl tl' n n' → News h₀ L h' n') ∧ (∀ a ∈ tl.map (·.1), a ∈ tl'.map (·.1)) ∧ (∀ b o, b ∉ tl.map (·.1) → h.get? b = some o → h'.get? b = some o) := by
  obtain ⟨tl', hS', keep, hnew, hsub⟩ := P
  obtain ⟨n0, U0⟩ := hsuf tl'
  have tlN : ∀ a ∈ tl.map (·.1), a ≠ L ∧ h₀.get? a = none := fun a ha => by
    obtain ⟨p, hp, rfl⟩ := List.mem_map.mp ha
    exact (N p (U0.mem p hp)).2
  obtain ⟨oL, es, ep, hL, r⟩ := F.ns
  refine ⟨tl', hS', ⟨⟨oL, es, ep, keep _ _ (fun q => (tlN _ q).1 rfl) hL, r⟩, fun b o e => keep b o (fun q => by rw [(tlN _ q).2] at e; cases e) (F.keep b o e), F.above⟩, fun n' U => ?_, hsub, keep⟩
  refine U.news N hS.fld keep fun p hp => ?_
  obtain ⟨h1, h2⟩ := hnew p hp
  refine ⟨h1, ?_⟩
  rcases h2 with h2 | h2
  · exact tlN _ h2
  · refine ⟨fun e => ?_, ?_⟩
    · rw [e, hL] at h2; cases h2
    · cases q : h₀.get? p.1 with
      | none => rfl
      | some o => rw [F.keep _ _ q] at h2; cases h2

/-- at a def's end: what it leaves, from its own frame and ledger over the hidden heap -/
theorem TabPost.of {s : Heap} (hS : TabS S T tl') (F : Fr (hideAll s (tl.map (·.1))) L h m) (N : News (hideAll s (tl.map (·.1))) L h n) (hm : ∀ p ∈ tl', p ∈ n) (hsub : ∀ a ∈ tl.map (·.1), a ∈ tl'.map (·.1)) :
    TabPost S T tl s h :=
  ⟨tl', hS, fun b o hb e => F.keep b o (hideAll_get _ e hb), fun p hp => ⟨(N p (hm p hp)).1, hide_none (N p (hm p hp)).2.2⟩, hsub⟩
theorem new_none {s : Heap} {D : Addr} {o : Obj} (hS : TabS S T tl') (N : News (hideAll s (tl.map (·.1))) L h n) (hm : ∀ p ∈ tl', p ∈ n) (hsub : ∀ a ∈ tl.map (·.1), a ∈ tl'.map (·.1)) (hD : (D, o) ∈ n) (ho : NotFld o) :
    s.get? D = none := by
  rcases hide_none (N _ hD).2.2 with h | h
  · obtain ⟨q, hq, e⟩ := List.mem_map.mp (hsub D h)
    have h1 := (N q (hm q hq)).1
    rw [e, (N _ hD).1] at h1
    obtain ⟨vs, hv⟩ := hS.fld q hq
    rw [← Option.some.inj h1] at hv
    exact absurd hv (ho vs)
  · exact h
end

section
variable {M : Model} {A : Around} {E : Value → Shared → Prop} {s : Shared} {h₀ : Heap} {L a c : Addr} {m mg mb : Str → Option Value} {cn : Str} {cs : Scope} {ccd : Value} {cl : List (Str × Addr)} {led t1 t2 : List (Addr × Obj)}
  {p : Program} {loose : List Str} {mean : ExcName → Option Value} {name qual : Str} {params : Arguments} {body : List Stmt} {scope : Scope} {pos : Pos} {firstLine : Nat} {clos : List (Str × Addr)} {S : TabSpec}
theorem updF_mid {P : Addr} {o : Obj} {rest : List (Addr × Obj)} (hr : ∀ q ∈ rest, q.1 ≠ P) : ∀ {led : List (Addr × Obj)}, (∀ q ∈ led, q.1 ≠ P) → UpdF P o (led ++ (P, o) :: rest) (fun o' => led ++ (P, o') :: rest)
  | [], _ => .head hr
  | q :: led, h => .tail (h q (List.mem_cons_self ..)) (updF_mid hr fun r hr' => h r (List.mem_cons_of_mem _ hr'))

/-- a def within a def: cold or warm, one way -/
theorem nestAny {Q : Value → Shared → Prop} (F : Fr h₀ L s.heap m) (N : News h₀ L s.heap (led ++ (t1 ++ t2))) (T : Top p loose mean mg mb h₀) (C : CodeHd h₀ c S.P) (hcd : ccd = .ref c) (ht : TabOne S t1)
    (hs1 : ∀ q ∈ led, q.1 ≠ S.P) (hs2 : ∀ q ∈ t2, q.1 ≠ S.P) (hpos : pos = S.pos) (hq : qual = S.qual) (hcl : closureFor scope (envX cn cs L a ccd cl) = pure clos)
    (h : ∀ f c' t1' ctv doc h' tk, TabOne S t1' → (∃ oc vs t, (c', oc) ∈ t1' ∧ oc.data = .fields vs ∧ vs[1]? = some (.str qual t)) → (∀ a ∈ t1.map (·.1), a ∈ t1'.map (·.1)) → Fr h₀ L h' m →
      News h₀ L h' ((f, fnMade name qual params body scope clos doc ((mg "__name__").getD .none) c' ctv) :: (led ++ (t1' ++ t2))) → (∀ q ∈ led, q.1 < f) → (∀ q ∈ t1' ++ t2, q.1 < f) → Q (.ref f) { s with heap := h', toks := tk }) :
    wpAny M A (makeFunction name qual params (.stmts body) scope (envX cn cs L a ccd cl) [] [] [] pos firstLine) Q E s := by
  subst hpos hq
  rcases ht with rfl | ⟨c0, oc0, vs0, tk0, rfl, hd0, hv0⟩
  · refine nest_K (g := fun o' => led ++ (S.P, o') :: t2) F N T C hcd (ps := #[]) (updF_mid hs2 hs1) trivial rfl hcl fun f c' oc vs t ctv doc h' tk F' N' hd hv l1 l2 => ?_
    refine h f c' [(c', oc), (S.P, tabObj #[rawInt S.pos.line, rawInt S.pos.col, .ref c'])] ctv doc h' tk (.inr ⟨c', oc, vs, t, rfl, hd, hv⟩) ⟨oc, vs, t, List.mem_cons_self .., hd, hv⟩ (fun a ha => ?_) F' (fun q hq => N' q ?_) (fun q hq => ?_) (fun q hq => ?_)
    · simp only [List.map_cons, List.map_nil, List.mem_singleton] at ha
      subst ha; simp
    · simp only [List.mem_cons, List.mem_append, List.not_mem_nil, or_false] at hq ⊢
      rcases hq with h | h | (h | h) | h
      · exact .inl h
      · exact .inr (.inr (.inl h))
      · exact .inr (.inl h)
      · exact .inr (.inr (.inr (.inl h)))
      · exact .inr (.inr (.inr (.inr h)))
    · exact Nat.lt_trans (l1 q (List.mem_append_left _ hq)) l2
    · simp only [List.mem_cons, List.mem_append, List.not_mem_nil, or_false] at hq
      rcases hq with (h | h) | h
      · rw [h]; exact l2
      · rw [h]; exact Nat.lt_trans (l1 (S.P, tabObj #[]) (by simp)) l2
      · exact Nat.lt_trans (l1 q (by simp [h])) l2
  · refine nestHit_K (c' := c0) (ps := #[rawInt S.pos.line, rawInt S.pos.col, .ref c0]) F N T C hcd (by simp) (by simp [TriplesOk, rawInt]) (by simp [codeAmong, rawInt]) hcl fun f ctv doc h' tk F' N' l1 => ?_
    exact h f c0 _ ctv doc h' tk (.inr ⟨c0, oc0, vs0, tk0, rfl, hd0, hv0⟩) ⟨oc0, vs0, tk0, List.mem_cons_self .., hd0, hv0⟩ (fun a ha => ha) F' N' (fun q hq => l1 q (List.mem_append_left _ hq)) (fun q hq => l1 q (List.mem_append_right _ hq))
end

/-- a tail of the ledger that lies below an address -/
def Low (d : Addr) (l : List (Addr × Obj)) : Prop := ∀ p ∈ l, p.1 < d
theorem Low.ne {d e : Addr} {l : List (Addr × Obj)} (h : Low d l) (hde : @LE.le Nat _ d e) : ∀ p ∈ l, p.1 ≠ e := fun p hp => Nat.ne_of_lt (Nat.lt_of_lt_of_le (h p hp) hde)
theorem allLt_all {d : Addr} : ∀ {l : List (Addr × Obj)}, AllLt d l → ∀ p ∈ l, @LT.lt Nat _ p.1 d
  | [], _, _, hp => nomatch hp
  | _ :: _, h, p, hp => (List.mem_cons.mp hp).elim (fun e => e ▸ h.1) fun m => allLt_all h.2 p m
theorem allLt_low {d : Addr} {l : List (Addr × Obj)} (h : AllLt d l) : Low d l := allLt_all h
theorem allLt_ne {d : Addr} {l : List (Addr × Obj)} (h : AllLt d l) : ∀ p ∈ l, p.1 ≠ d := fun p hp => Nat.ne_of_lt (allLt_all h p hp)

theorem tab_mem {S : TabSpec} {t : List (Addr × Obj)} (h : TabOne S t) : ∃ ps, (S.P, tabObj ps) ∈ t ∧ ∀ x tk, ps[1]? ≠ some (.str x tk) := by
  rcases h with rfl | ⟨c, oc, vs, tk, rfl, _, _⟩
  · exact ⟨#[], List.mem_cons_self .., fun x tk e => by cases e⟩
  · exact ⟨_, List.mem_cons_of_mem _ (List.mem_cons_self ..), fun x tk e => by cases e⟩
theorem tab_apart {S T : TabSpec} {h : Heap} {t1 t2 : List (Addr × Obj)} (h1 : TabOne S t1) (h2 : TabOne T t2) (hne : S.P ≠ T.P) (hk1 : ∀ p ∈ t1, h.get? p.1 = some p.2) (hk2 : ∀ p ∈ t2, h.get? p.1 = some p.2) : ∀ q ∈ t2, q.1 ≠ S.P := by
  obtain ⟨ps, hm, hps⟩ := tab_mem h1
  have hP := hk1 _ hm
  rcases h2 with rfl | ⟨c, oc, vs, tk, rfl, hd, hv⟩
  · intro q hq; rw [List.mem_singleton.mp hq]; exact fun e => hne e.symm
  · intro q hq
    rcases List.mem_cons.mp hq with rfl | hq
    · intro e
      have hc := hk2 _ (List.mem_cons_self ..)
      dsimp only at e hc hP
      rw [e, hP] at hc
      rw [← Option.some.inj hc] at hd
      cases hd
      exact hps _ _ hv
    · rw [List.mem_singleton.mp hq]; exact fun e => hne e.symm

section
variable {M : Model} {A : Around} {E : Value → Shared → Prop} {s : Shared} {h₀ : Heap} {L a c : Addr} {m mg mb : Str → Option Value} {cn : Str} {cs : Scope} {ccd : Value} {cl : List (Str × Addr)} {tl : List (Addr × Obj)}
  {p : Program} {loose : List Str} {mean : ExcName → Option Value} {name qual : Str} {params : Arguments} {body : List Stmt} {scope : Scope} {pos : Pos} {firstLine : Nat} {clos : List (Str × Addr)} {S T : TabSpec}
theorem led_apart {led : List (Addr × Obj)} {h : Heap} (hk : ∀ p ∈ tl, h.get? p.1 = some p.2) (hl : ∀ p ∈ led, h.get? p.1 = some p.2) (hf : ∀ q ∈ tl, Fld q.2) (hn : ∀ q ∈ led, NotFld q.2) {P : Addr} {o : Obj} (hP : (P, o) ∈ tl) : ∀ q ∈ led, q.1 ≠ P := by
  intro q hq e
  have h1 := hl q hq
  have h2 := hk _ hP
  dsimp only at h2
  rw [e, h2] at h1
  obtain ⟨vs, hv⟩ := hf _ hP
  exact hn q hq vs (by rw [← Option.some.inj h1]; exact hv)

/-- a def within a def, the first table's -/
theorem nest1 {Q : Value → Shared → Prop} (led : List (Addr × Obj)) (F : Fr h₀ L s.heap m) (N : News h₀ L s.heap (led ++ tl)) (Tt : Top p loose mean mg mb h₀) (C : CodeHd h₀ c S.P) (hcd : ccd = .ref c) (hS : TabS S T tl)
    (hne : S.P ≠ T.P) (hnf : ∀ q ∈ led, NotFld q.2) (hpos : pos = S.pos) (hq : qual = S.qual) (hcl : closureFor scope (envX cn cs L a ccd cl) = pure clos)
    (h : ∀ f c' tl' ctv doc h' tk, TabS S T tl' → (∃ oc vs t, (c', oc) ∈ tl' ∧ oc.data = .fields vs ∧ vs[1]? = some (.str qual t)) → (∀ a ∈ tl.map (·.1), a ∈ tl'.map (·.1)) → Fr h₀ L h' m →
      News h₀ L h' ((f, fnMade name qual params body scope clos doc ((mg "__name__").getD .none) c' ctv) :: (led ++ tl')) → (∀ q ∈ led, q.1 < f) → Low f tl' → Q (.ref f) { s with heap := h', toks := tk }) :
    wpAny M A (makeFunction name qual params (.stmts body) scope (envX cn cs L a ccd cl) [] [] [] pos firstLine) Q E s := by
  obtain ⟨t1, t2, rfl, h1, h2⟩ := id hS
  obtain ⟨ps, hm, _⟩ := tab_mem h1
  have kt : ∀ p ∈ t1 ++ t2, s.heap.get? p.1 = some p.2 := fun p hp => (N p (List.mem_append_right _ hp)).1
  have kl : ∀ p ∈ led, s.heap.get? p.1 = some p.2 := fun p hp => (N p (List.mem_append_left _ hp)).1
  refine nestAny (led := led) F N Tt C hcd h1 (led_apart kt kl hS.fld hnf (List.mem_append_left _ hm)) (tab_apart h1 h2 hne (fun p hp => kt p (List.mem_append_left _ hp)) fun p hp => kt p (List.mem_append_right _ hp)) hpos hq hcl ?_
  intro f c' t1' ctv doc h' tk hT hc hsub F' N' l1 l2
  obtain ⟨oc, vs, t, hcm, r⟩ := hc
  refine h f c' (t1' ++ t2) ctv doc h' tk ⟨t1', t2, rfl, hT, h2⟩ ⟨oc, vs, t, List.mem_append_left _ hcm, r⟩ (fun a ha => ?_) F' N' l1 l2
  rw [List.map_append] at ha ⊢
  rcases List.mem_append.mp ha with ha | ha
  · exact List.mem_append_left _ (hsub a ha)
  · exact List.mem_append_right _ ha

/-- a def within a def, the second table's -/
theorem nest2 {Q : Value → Shared → Prop} (led : List (Addr × Obj)) (F : Fr h₀ L s.heap m) (N : News h₀ L s.heap (led ++ tl)) (Tt : Top p loose mean mg mb h₀) (C : CodeHd h₀ c T.P) (hcd : ccd = .ref c) (hS : TabS S T tl)
    (hne : S.P ≠ T.P) (hnf : ∀ q ∈ led, NotFld q.2) (hpos : pos = T.pos) (hq : qual = T.qual) (hcl : closureFor scope (envX cn cs L a ccd cl) = pure clos)
    (h : ∀ f c' tl' ctv doc h' tk, TabS S T tl' → (∃ oc vs t, (c', oc) ∈ tl' ∧ oc.data = .fields vs ∧ vs[1]? = some (.str qual t)) → (∀ a ∈ tl.map (·.1), a ∈ tl'.map (·.1)) → Fr h₀ L h' m →
      News h₀ L h' ((f, fnMade name qual params body scope clos doc ((mg "__name__").getD .none) c' ctv) :: (led ++ tl')) → (∀ q ∈ led, q.1 < f) → Low f tl' → Q (.ref f) { s with heap := h', toks := tk }) :
    wpAny M A (makeFunction name qual params (.stmts body) scope (envX cn cs L a ccd cl) [] [] [] pos firstLine) Q E s := by
  obtain ⟨t1, t2, rfl, h1, h2⟩ := hS
  refine nest1 (S := T) (T := S) (tl := t2 ++ t1) led F (fun p hp => N p ?_) Tt C hcd ⟨t2, t1, rfl, h2, h1⟩ hne.symm hnf hpos hq hcl ?_
  · simp only [List.mem_append] at hp ⊢
    rcases hp with h | h | h
    · exact .inl h
    · exact .inr (.inr h)
    · exact .inr (.inl h)
  rintro f c' _ ctv doc h' tk ⟨u2, u1, rfl, g2, g1⟩ ⟨oc, vs, t, hcm, r⟩ hsub F' N' l1 l2
  refine h f c' (u1 ++ u2) ctv doc h' tk ⟨u1, u2, rfl, g1, g2⟩ ⟨oc, vs, t, ?_, r⟩ (fun a ha => ?_) F' (fun p hp => N' p ?_) l1 (fun p hp => l2 p ?_)
  · simp only [List.mem_append] at hcm ⊢; exact hcm.symm
  · have := hsub a (by simp only [List.map_append, List.mem_append] at ha ⊢; exact ha.symm)
    simp only [List.map_append, List.mem_append] at this ⊢; exact this.symm
  · simp only [List.mem_cons, List.mem_append] at hp ⊢
    rcases hp with h | h | h | h
    · exact .inl h
    · exact .inr (.inl h)
    · exact .inr (.inr (.inr h))
    · exact .inr (.inr (.inl h))
  · simp only [List.mem_append] at hp ⊢; exact hp.symm
end

theorem tail_ne {S T : TabSpec} {h₀ h : Heap} {L d : Addr} {tl n : List (Addr × Obj)} {o : Obj} (N : News h₀ L h n) (hS : TabS S T tl) (hsub : ∀ p ∈ tl, p ∈ n) (hm : (d, o) ∈ n) (hn : NotFld o) : ∀ p ∈ tl, p.1 ≠ d := by
  intro p hp e
  have h1 := (N p (hsub p hp)).1
  rw [e, (N _ hm).1] at h1
  obtain ⟨vs, hv⟩ := hS.fld p hp
  rw [← Option.some.inj h1] at hv
  exact hn vs hv
theorem notFld_cell {o : Obj} {v : Option Value} (h : o.data = .cell v) : NotFld o := fun vs e => by rw [h] at e; cases e
theorem notFld_list {a : Array Value} {n : Nat} : NotFld (listOf a n) := fun _ e => by cases e
theorem notFld_seq {a : Array Value} {n : Nat} {c : Value} {d : Option Addr} {sl : Array (Option Value)} : NotFld ⟨c, d, .seq a n, sl⟩ := fun _ e => by cases e

section
variable {prog : Program} {w : World} {A : Around} {s : Shared} {K : Frag} {B : Heap} {loose : List Str} {mean : ExcName → Option Value} {mg mb : Str → Option Value}
  {Q : Value → Shared → Prop} {name qual : Str} {params : Arguments} {body : List Stmt} {scope : Scope} {cl : List (Str × Addr)} {doc pm ctv : Value} {c' f : Addr} {args : List Value} {binds : List (Str × Value)}
/-- a def made within a def -/
theorem enterX (G : Gd K loose mean mg mb B) (hB : B.StaysIn s.heap) (hid : List (Addr × Obj)) (hN : ∀ p ∈ hid, s.heap.get? p.1 = some p.2 ∧ B.get? p.1 = none)
    (ho : B.get? f = some (fnMade name qual params body scope cl doc pm c' ctv)) (hcd : B.CodeRec (.ref c') qual) (hroom : A.depth < recursionLimit)
    (hbind : BindsTo s (fnX name qual params body scope cl .none .none doc pm none (.ref c') ctv) ⟨args, []⟩ binds) (hloc : ∀ y ∈ binds, scope.names.lookup y.1 = some .local)
    (h : ∀ g L' h₁, g = hideAll s.heap (hid.map (·.1)) → Fr g L' h₁ (fun y => binds.reverse.lookup y) → News g L' h₁ hid → (∀ p ∈ hid, p.1 < L') → K.In g → Top topProg loose mean mg mb g → B.StaysIn g →
      wpAny (model prog w) (A.deeper (envX qual scope L' f (.ref c') cl)) (execs body (envX qual scope L' f (.ref c') cl))
        (fun fl s' => Q (match fl with | .ret v => v | _ => .none) s')
        (fun _ _ => False)
        { s with heap := h₁, toks := s.toks + binds.length })
    (hco : scope.isCoroutine = false := by rfl) (hgen : scope.isGenerator = false := by rfl) (hk : scope.kind = .function := by rfl)
    (hcell : ∀ x ∈ scope.names, x.2 ≠ .cell := by decide) : wpAny (model prog w) A (call (.ref f) args) Q (fun _ _ => False) s := by
  have st : B.StaysIn (hideAll s.heap (hid.map (·.1))) := hide_stays hB fun b hb => by
    obtain ⟨p, hp, rfl⟩ := List.mem_map.mp hb
    exact (hN p hp).2
  have hcd' : s.heap.CodeRec (.ref c') qual := by
    obtain ⟨c, oc, vs, t, e1, e2, e3, e4⟩ := hcd
    exact ⟨c, oc, vs, t, e1, hB _ _ e2, e3, e4⟩
  refine wpAny_call (codeAny_call_def (fd := fnX name qual params body scope cl .none .none doc pm none (.ref c') ctv) (body := body) (binds := binds) hroom (hB _ _ ho) rfl (G.T.nolimit.keeps hB) hcd' rfl hbind hcell hloc (fun h₁ hns hk₁ => ?_) hco hgen hk)
  refine wpAny_mono (h _ s.heap.objs.size h₁ rfl ⟨hns, fun b o e => hk₁ b o (of_hideAll _ e), Nat.le_of_eq (hideAll_size _ _)⟩
    (fun p hp => ⟨hk₁ _ _ (hN p hp).1, Nat.ne_of_lt (Heap.lt_size (hN p hp).1), hideAll_none _ (List.mem_map_of_mem hp)⟩) (fun p hp => Heap.lt_size (hN p hp).1) (G.X.keeps st) (G.T.keeps st) st) (fun _ _ x => x) fun _ _ x => x.elim
end
section
variable {M : Model} {A : Around} {E : Value → Shared → Prop} {s : Shared} {h₀ : Heap} {L a : Addr} {m : Str → Option Value} {cn : Str} {cs : Scope} {ccd : Value} {cl : List (Str × Addr)} {x : Str} {pos : Pos} {v : Value} {Q : Value → Shared → Prop} {c : Addr} {o : Obj}
/-- a captured name whose cell lies in the ground -/
theorem nameX_FB (F : Fr h₀ L s.heap m) (hc : cl.lookup x = some c) (ho : h₀.get? c = some o) (hv : o.data = .cell (some v)) (h : Q v s)
    (hk : cs.kind = .function := by rfl) (hx : (envX cn cs L a ccd cl).kindOf x = some .free := by rfl) (hb : (x == ("__debug__" : Str)) = false := by decide) (hn : (x == ("__classdict__" : Str)) = false := by decide) :
    wpAny M A (eval (.Name x pos) (envX cn cs L a ccd cl)) Q E s := wpAny_Name (wpAny_loadName_free hk hx hc ⟨o, F.keep _ _ ho, hv⟩ h hn) hb
end

/-- a def that lies in the written part: its body; and the def that its body makes at a place -/
def fnBody (K : Frag) (f : Addr) : List Stmt := match K.lookup f with
  | some ⟨_, _, .func fd, _⟩ => (match fd.body with | .stmts b => b | _ => [])
  | _ => []
def defParams : Option Stmt → Arguments
  | some (.FunctionDef _ p ..) => p
  | _ => { posonlyargs := [], args := [], vararg := none, kwonlyargs := [], kw_defaults := [], kwarg := none, defaults := [] }
def defBody : Option Stmt → List Stmt
  | some (.FunctionDef _ _ b ..) => b
  | _ => []
def defScope : Option Stmt → Scope
  | some (.FunctionDef _ _ _ _ _ _ sc ..) => sc
  | _ => { kind := .function, names := [], isGenerator := false, isCoroutine := false }
theorem fnAt_keep {h₀ h : Heap} {L q : Addr} {m : Str → Option Value} (F : Fr h₀ L h m) (x : FnAt q h₀) : FnAt q h := let ⟨oc, od, fd, sl, e⟩ := x; ⟨oc, od, fd, sl, F.keep _ _ e⟩
/-- the frame and the ledger behind a change of one made object -/
theorem back_one {h₀ h h' : Heap} {L D : Addr} {m : Str → Option Value} {news news' : List (Addr × Obj)} {o o' : Obj} (F : Fr h₀ L h m) (N : News h₀ L h news) (U : Upd D o o' news news')
    (keep : ∀ b x, b ≠ D → h.get? b = some x → h'.get? b = some x) (hD : h'.get? D = some o') : Fr h₀ L h' m ∧ News h₀ L h' news' := by
  obtain ⟨pre, post, rfl, rfl, a, b⟩ := U.split
  have z := N (D, o) (List.mem_append.mpr (.inr (.head _)))
  obtain ⟨oL, es, ep, hL, r⟩ := F.ns
  refine ⟨⟨⟨oL, es, ep, keep _ _ z.2.1.symm hL, r⟩, fun b x e => keep b x (fun q => by rw [q, z.2.2] at e; cases e) (F.keep b x e), F.above⟩, fun p hp => ?_⟩
  rcases List.mem_append.mp hp with hp | hp
  · have y := N p (List.mem_append_left _ hp)
    exact ⟨keep _ _ (a p hp) y.1, y.2⟩
  · rcases List.mem_cons.mp hp with rfl | hp
    · exact ⟨hD, z.2⟩
    · have y := N p (List.mem_append_right _ (.tail _ hp))
      exact ⟨keep _ _ (b p hp) y.1, y.2⟩
section
variable {prog : Program} {w : World} {A : Around} {E : Value → Shared → Prop} {s : Shared} {h₀ : Heap} {L D : Addr} {news : List (Addr × Obj)} {n : Nat} {vs : List Value}
theorem lenK {Q : Value → Shared → Prop} (N : News h₀ L s.heap news) (hm : (D, listOf vs.toArray n) ∈ news) (hsz : vs.length ≤ 1000000) (h : ∀ tk k, Q (.int (vs.length : Nat) tk) { s with toks := k }) :
    wpAny (model prog w) A (call (.builtin "len") [.ref D]) Q E s :=
  len_list ⟨_, (N _ hm).1, rfl, _, rfl⟩ (by rw [List.size_toArray]; omega) (h _ _)
end
theorem hide_one_get {h : Heap} {D b : Addr} {o : Obj} (e : h.get? b = some o) (hb : b ≠ D) : (hideAll h [D]).get? b = some o := hideAll_get _ e (by simpa using hb)
theorem Gd.hide_one {K : Frag} {loose : List Str} {mean : ExcName → Option Value} {mg mb : Str → Option Value} {g h : Heap} {L D : Addr} {m : Str → Option Value} (G : Gd K loose mean mg mb g) (F : Fr g L h m) (hD : g.get? D = none) : Gd K loose mean mg mb (hideAll h [D]) :=
  have st : g.StaysIn (hideAll h [D]) := hide_stays F.keep fun b hb => by rw [List.mem_singleton.mp hb]; exact hD
  ⟨G.X.keeps st, G.T.keeps st⟩
section
variable {prog : Program} {w : World} {A : Around} {E : Value → Shared → Prop} {s : Shared} {h₀ : Heap} {L D : Addr} {m : Str → Option Value} {vs : List Value}
theorem lenB {Q : Value → Shared → Prop} (F : Fr h₀ L s.heap m) (hl : h₀.IsList D vs.toArray) (hsz : vs.length ≤ 1000000) (h : ∀ tk k, Q (.int (vs.length : Nat) tk) { s with toks := k }) :
    wpAny (model prog w) A (call (.builtin "len") [.ref D]) Q E s :=
  len_list (stays_list F.keep hl) (by rw [List.size_toArray]; omega) (h _ _)
theorem truthyB {Q : Bool → Shared → Prop} (F : Fr h₀ L s.heap m) (hl : h₀.IsList D vs.toArray) (hsz : vs.length ≤ 1000000) (h : ∀ k, Q (decide (0 < vs.length)) { s with toks := k }) : wpAny (model prog w) A (truthy (.ref D)) Q E s :=
  wpAny_truthy_list (stays_list F.keep hl) (by rw [List.size_toArray]; omega) (by
    have e : (!vs.toArray.isEmpty) = decide (0 < vs.length) := by
      cases vs with
      | nil => rfl
      | cons a b => simp
    rw [e]; exact h _)
end
section
variable {prog : Program} {w : World} {A : Around} {E : Value → Shared → Prop} {s : Shared} {env : Env} {h₀ : Heap} {Q : Flow → Shared → Prop}
/-- over a list from its end -/
theorem iter_rev {target : Expr} {body : List Stmt} {l I : Addr} {vs : List Value} {m₀ : Str → Option Value} {news : List (Addr × Obj)} (J : Nat → (Str → Option Value) → List (Addr × Obj) → Prop)
    (hh : A.handled = none) (F : Fr h₀ env.locals s.heap m₀) (N : News h₀ env.locals s.heap ((I, revObj l ((vs.length : Int) - 1)) :: news)) (hnI : ∀ p ∈ news, p.1 ≠ I) (hl : s.heap.IsList l vs.toArray) (hlI : l ≠ I) (hlL : l ≠ env.locals) (hj : J 0 m₀ news)
    (turn : ∀ i v m₁ news₁ h tk own, i < vs.length → vs[vs.length - 1 - i]? = some v → J i m₁ news₁ → (∀ p ∈ news₁, p.1 ≠ I) → (∀ p ∈ own, p.1 = I ∨ p.1 = l) → Fr h₀ env.locals h m₁ → News h₀ env.locals h (news₁ ++ own) →
      wpAny (model prog w) A (assign target env v) (fun _ s₄ => wpAny (model prog w) A (execs body env) (OurTurn h₀ env.locals I own (J (i + 1)) s Q) E s₄) E { s with heap := h, toks := tk })
    (done : ∀ m₁ news₁ h tk, J vs.length m₁ news₁ → Fr h₀ env.locals h m₁ → News h₀ env.locals h news₁ → Q .next { s with heap := h, toks := tk })
    (ht : ∀ a v, letOwnedTupleGo target a v = pure () := by intro _ _; rfl) :
    wpAny (model prog w) A (pyIter (.ref I)) (fun it s₂ => LoopAny prog w A h₀ env target body Q E it s₂) E s := by
  have hI := N _ (List.mem_cons_self ..)
  have hit : s.heap.IsRevIter I l ((vs.length : Int) - 1) := ⟨_, hI.1, rfl, rfl⟩
  refine wpAny_pyIter_revIter hit ?_
  have W := Walks.listRev (prog := prog) (w := w) hh I l hlI vs.toArray
  have e0 : ((vs.toArray.size : Int) - 1 - ((0 : Nat) : Int)) = (vs.length : Int) - 1 := by simp
  refine ⟨I, _, _, _, _, m₀, news, J, rfl, ht _, W, ?_, hI.2.2, hnI, ⟨Nat.zero_le _, by rw [e0]; exact hit, hl⟩, F, (fun p hp => N p (List.mem_cons_of_mem _ hp)), hj, ?_, ?_⟩
  · intro hm
    rcases List.mem_cons.mp hm with e | hm
    · exact hI.2.1 e.symm
    · exact hlL (List.mem_singleton.mp hm).symm
  · intro i v m₁ news₁ h tk own hi hP hJ hnx hown F₁ N₁
    refine turn i v m₁ news₁ h tk own (by simpa using hi) (by simpa using hP) hJ hnx (fun p hp => ?_) F₁ N₁
    rcases List.mem_cons.mp (hown p hp) with e | hm
    · exact .inl e
    · exact .inr (List.mem_singleton.mp hm)
  · intro m₁ news₁ h tk hJ F₁ N₁
    exact done m₁ news₁ h tk (by simpa using hJ) F₁ N₁
end
section
variable {prog : Program} {w : World} {A : Around} {E : Value → Shared → Prop} {s : Shared} {h₀ : Heap} {L : Addr} {m : Str → Option Value} {news : List (Addr × Obj)} {a b : Int} {t u : Tok}
theorem divmodK {Q : Value → Shared → Prop} (F : Fr h₀ L s.heap m) (N : News h₀ L s.heap news) (hb : b ≠ 0) (hs : b.natAbs < 2 ^ 300)
    (h : ∀ T h' tq tr k, Fr h₀ L h' m → News h₀ L h' ((T, { cls := .type "tuple", data := .seq #[.int (a.fdiv b) tq, .int (a.fmod b) tr] }) :: news) → (∀ p ∈ news, p.1 < T) → Q (.ref T) { s with heap := h', toks := k }) :
    wpAny (model prog w) A (call (.builtin "divmod") [.int a t, .int b u]) Q E s :=
  divmod_N F N hb (fun h' F' N' => h _ h' _ _ _ F' N' fun p hp => Heap.lt_size (N p hp).1) (Or.inl (PyProof.noPylong_of_log2 (by
    have : b.natAbs.log2 < 300 := (Nat.log2_lt (by omega)).mpr hs
    omega)))
end
end Mine

end
section
-- Top01
theorem Mine.fresh_Top01 : True := by
  w_top off
  trivial
open PySem PySem.W PyProof.Rows
set_option maxRecDepth 100000
set_option maxHeartbeats 8000000
namespace Mine
open_top hd01 for PySem.Challenge.rw_pg0310_01
set_option pp.deepTerms false
end Mine

end
section
-- Ell01
theorem Mine.fresh_Ell01 : True := by
  w_top off
  trivial
open PySem PySem.W PyProof.Rows PySem.Calls PySem.Builtin.Str
set_option maxRecDepth 100000
set_option maxHeartbeats 2000000
set_option pp.deepTerms false
namespace Mine

def ellGo (got : Str) (e : Int) : List Str → Int → Bool
  | [], _ => true
  | w :: r, p => if find4 got w p e < 0 then false else ellGo got e r (find4 got w p e + w.length)
def ell3 (got : Str) (p e : Int) (ws : List Str) : Bool := if p > e then false else ellGo got e ws p
def ell2 (got : Str) (p : Int) (ws : List Str) (z : Str) : Bool :=
  if (z.length : Int) != 0 then (if Txt.endswith got z then ell3 got p (got.length - z.length) ws else false) else ell3 got p got.length (ws ++ [z])
def ell1 (got : Str) (a : Str) (mid : List Str) (z : Str) : Bool :=
  if (a.length : Int) != 0 then (if Txt.startswith got a then ell2 got a.length mid z else false) else ell2 got 0 (a :: mid) z
def dots : Str := "..."
def ellip (want got : Str) : Bool :=
  if (occurrences want dots 0 want.length 1).isEmpty then want == got else
  match Txt.split want dots with
  | [] => false
  | a :: r => ell1 got a r.dropLast (r.getLastD a)
theorem ellip_split {want got : Str} {a ta mid z tz} {l : List (Str × Tok)} (h : (occurrences want dots 0 want.length 1).isEmpty = false) (e : l.map (·.1) = Txt.split want dots) (hl : l = ((a, ta) :: mid) ++ [(z, tz)]) :
    ellip want got = ell1 got a (mid.map (·.1)) z := by
  unfold ellip
  rw [h, ← e, hl]
  simp

local macro_rules | `(tactic| k_room) => `(tactic| ((try simp only [Around.deeper, recursionLimit] at *); omega))
local macro_rules | `(tactic| k_units) => `(tactic| ((try simp only [Around.deeper, Around.in1, cLine] at *); omega))
local macro_rules | `(tactic| walk_at "truthy str") => `(tactic| (refine truthyK (by first | assumption | omega) ?_; intro _))
local macro_rules | `(tactic| walk_at "call builtin:str.split") => `(tactic| ((with_reducible rename Fr _ _ _ _ => F'); (with_reducible rename News _ _ _ _ => N'); (refine splitK F' N' (by first | rfl | assumption) ?_ (by first | assumption | omega)); intro D' l' h' k' e' F' N' l1; (try k_lt l1)))
local macro_rules | `(tactic| walk_at "subscriptTail Name Constant ref int") => `(tactic| (k_here; k_dflt (refine' item_first ?k1 ?k2 ?_; (case k1 => k_asm); (case k2 => k_mem); k_whole)))

local macro_rules | `(tactic| walk_at "subscriptTail Name UnaryOp ref int") => `(tactic| (k_here; k_dflt (refine' item_lastS ?k1 ?k2 ?_; (case k1 => k_asm); (case k2 => k_mem); k_whole)))
local macro_rules | `(tactic| walk_at "delItem ref int") => `(tactic| (k_here; k_dflt (first
  | ((with_reducible show wpAny _ _ (delItem (Value.ref _) (Value.int 0 _)) _ _ _); refine' del_first ?k1 ?k2 ?k3 ?_ ?k5; (case k1 => k_asm); (case k2 => k_asm); (case k3 => k_upd); (case k5 => assumption); k_whole)
  | ((with_reducible show wpAny _ _ (delItem (Value.ref _) (Value.int (-1) _)) _ _ _); refine' del_lastS ?k1 ?k2 ?k3 ?_ ?k5; (case k1 => k_asm); (case k2 => k_asm); (case k3 => k_upd); (case k5 => assumption); k_whole)); intro h' F' N'; (try k_sweep)))

local macro_rules | `(tactic| walk_at "eval Name") => `(tactic| (k_here; k_dflt (refine' ld ?k1 ?k2 ?_; (case k1 => k_asm); (case k2 => first | exact rfl | assumption); k_whole)))

local macro_rules | `(tactic| walk_at "loadName") => `(tactic| (k_here; k_dflt (refine' ldn ?k1 ?k2 ?_; (case k1 => k_asm); (case k2 => first | exact rfl | assumption); k_whole)))
local macro_rules | `(tactic| walk_at "call builtin:str.find") => `(tactic| ((with_reducible show wpAny _ _ (call (Value.builtin "str.find") [_, _, _, _]) _ _ _); (refine find4K ?_); intro _ _))

inductive EllA (s : Shared) (g' : Heap) (L' : Addr) (want got : Str) (t1 t2 : Tok) (s' : Shared) : Prop
  | mk (h : Heap) (tk : Nat) (D : Addr) (l : List (Str × Tok)) (a : Str) (ta : Tok) (mid : List (Str × Tok)) (z : Str) (tz : Tok) (q1 : s' = { s with heap := h, toks := tk }) (q2 : Fr g' L' h (fun y => if y = "ws" then some (.ref D) else List.lookup y ([("want", Value.str want t1), ("got", .str got t2)] : List (Str × Value)).reverse)) (q3 : News g' L' h [(D, listOf (strValues l).toArray 0)]) (q4 : l = ((a, ta) :: mid) ++ [(z, tz)]) (q5 : l.map (·.1) = Txt.split want dots) (q6 : ellip want got = ell1 got a (mid.map (·.1)) z) : EllA s g' L' want got t1 t2 s'
inductive EllB (s : Shared) (g' : Heap) (L' : Addr) (want got : Str) (t2 : Tok) (s' : Shared) : Prop
  | mk (h : Heap) (tk : Nat) (D : Addr) (vs : List (Str × Tok)) (z : Str) (tz : Tok) (n : Nat) (p : Int) (tp : Tok) (te : Tok) (m : Str → Option Value) (q1 : s' = { s with heap := h, toks := tk }) (q2 : Fr g' L' h m) (q3 : News g' L' h [(D, listOf (strValues (vs ++ [(z, tz)])).toArray n)]) (q4 : m "got" = some (.str got t2)) (q5 : m "ws" = some (.ref D)) (q6 : m "startpos" = some (.int p tp)) (q7 : m "endpos" = some (.int got.length te)) (q8 : (∀ q ∈ vs, q.1.length ≤ 1000)) (q9 : z.length ≤ 1000000) (q10 : vs.length ≤ 3000) (q11 : 0 ≤ p) (q12 : p ≤ 1000000) (q13 : ellip want got = ell2 got p (vs.map (·.1)) z) : EllB s g' L' want got t2 s'
inductive EllC (s : Shared) (g' : Heap) (L' : Addr) (want got : Str) (t2 : Tok) (s' : Shared) : Prop
  | mk (h : Heap) (tk : Nat) (D : Addr) (vs : List (Str × Tok)) (n : Nat) (p : Int) (tp : Tok) (e : Int) (te : Tok) (m : Str → Option Value) (q1 : s' = { s with heap := h, toks := tk }) (q2 : Fr g' L' h m) (q3 : News g' L' h [(D, listOf (strValues vs).toArray n)]) (q4 : m "got" = some (.str got t2)) (q5 : m "ws" = some (.ref D)) (q6 : m "startpos" = some (.int p tp)) (q7 : m "endpos" = some (.int e te)) (q8 : (∀ q ∈ vs, q.1.length ≤ 1000000)) (q9 : 0 ≤ p) (q10 : p ≤ 1000000) (q11 : e ≤ 1000000) (q12 : ellip want got = ellGo got e (vs.map (·.1)) p) : EllC s g' L' want got t2 s'
theorem ell_spec {w : World} {s : Shared} {B : Heap} {loose mean mg mb} {want got : Str} {t1 t2 : Tok}
    (G : Gd (Mine.hd01.heap_39 w.params) loose mean mg mb B) (hB : B.StaysIn s.heap) 
    (hw : want.length ≤ 1000) (hg : got.length ≤ 1000) :
    Does (model PySem.Challenge.rw_pg0310_01.row.prog w) 5 20 (call (.ref 45) [.str want t1, .str got t2]) s (fun v h' => v = .bool (ellip want got) ∧ s.heap.StaysIn h') := by
  intro d0 u0 fr gs hd hu
  revert G
  k_fill
  intro G
  refine' enter (binds := [("want", .str want t1), ("got", .str got t2)]) G hB [] (fun _ h => nomatch h) ?k6 ?k7 ?k8 ?k9 ?kB ?_ ?c2 ?c3 ?c4 ?c5; (case k6 => k_is); (case k7 => k_is); (case k8 => k_room); (case k9 => exact BindsTo.of_eq rfl);  (case c5 => decide); (case kB => exact locs rfl); (case c2 => exact rfl); (case c3 => exact rfl); (case c4 => exact rfl)
  intro g' L' h' hg' F' N' _ X' T'
  have st : s.heap.StaysIn g' := by rw [hg']; exact fun _ _ e => e
  clear hg'
  have hw' : want.length ≤ 1000000 := by (first | lia | omega)
  (try dsimp only)
  refine cutN 3 (EllA s g' L' want got t1 t2) ?_ ?_
  · dsimp only [List.take]
    (try k_fold)
    k_steps
    · refine Done.mk ⟨?_, fun b o e => F'.keep b o (st b o e)⟩
      rename_i ho
      dsimp only
      unfold ellip
      rw [show (occurrences want dots 0 want.length 1).isEmpty = true from ho]; rfl
    · rename List (Str × Tok) => l
      rename (List.map _ _ = _) => e
      rename Fr _ _ _ _ => F
      rename News _ _ _ _ => N
      obtain ⟨⟨a, ta⟩, mid, ⟨z, tz⟩, hl⟩ := two_ends (l := l) (by first | with_reducible assumption | with_reducible exact lt_num (by with_reducible assumption) (Nat.le_of_ble_eq_true rfl) | with_reducible exact le_num (by with_reducible assumption) (Nat.le_of_ble_eq_true rfl) | with_reducible exact le_le (by with_reducible assumption) (Nat.le_of_ble_eq_true rfl) | (first | lia | omega))
      exact ⟨_, _, _, l, a, ta, mid, z, tz, rfl, F, N, hl, e, ellip_split (by assumption) e hl⟩
    · exfalso
      have := len_ge2 want dots (by decide +kernel) (by assumption)
      rename (List.map _ _ = _) => e
      rw [← show _ = Txt.split want dots from e, List.length_map] at this
      (first | lia | omega)
  · rintro _ ⟨h, tk, D, l, a, ta, mid, z, tz, rfl, F, N, hl, hsp, hell⟩
    have hlen : l.length ≤ want.length + 2 := len_le_of_split hsp
    have hb : ∀ q ∈ l, q.1.length ≤ 1000 := fun q hq => by
      have := part_short (x := want) (y := dots) (a := q.1) (by rw [← hsp]; exact List.mem_map_of_mem hq)
      (first | lia | omega)
    subst hl
    have hb1 : ∀ q ∈ mid, q.1.length ≤ 1000 := fun q hq => hb q (by first | ((repeat with_reducible refine List.mem_cons_of_mem _ ?_); first | exact hq | exact List.mem_append_left _ hq | exact List.mem_append_right _ hq | exact List.mem_append_right _ (List.mem_append_left _ hq) | exact List.mem_append_right _ (List.mem_append_right _ hq) | exact List.mem_append_left _ (List.mem_append_right _ hq) | exact List.mem_append_right _ (List.mem_append_right _ (List.mem_append_left _ hq))) | simp [hq])
    have hza1 : a.length ≤ 1000 := hb (a, ta) (by first | ((repeat (first | with_reducible exact List.mem_cons_self .. | with_reducible refine List.mem_cons_of_mem _ ?_)); done) | simp)
    have hza : a.length ≤ 1000000 := by (first | lia | omega)
    have hzz : z.length ≤ 1000000 := by have := hb (z, tz) (by first | ((repeat (first | with_reducible exact List.mem_cons_self .. | with_reducible refine List.mem_cons_of_mem _ ?_)); done) | simp); dsimp only at this; (first | lia | omega)
    have hml : mid.length ≤ 2000 := by simp at hlen; (first | lia | omega)
    have hml1 : (strValues (mid ++ [(z, tz)])).length ≤ 900000 := by simp [strValues]; (first | lia | omega)
    clear hsp hb hlen
    dsimp only [List.drop]
    refine cutN 3 (EllB s g' L' want got t2) ?_ ?_
    · dsimp only [List.take]
      (try k_fold)
      k_steps
      all_goals (try dsimp only)
      · rename Fr _ _ _ _ => F
        rename News _ _ _ _ => N
        refine ⟨_, _, D, mid, z, tz, _, _, _, _, _, rfl, F, fun p hp => N p (List.mem_cons_of_mem _ hp), rfl, rfl, rfl, rfl, hb1, hzz, by (first | lia | omega), Int.natCast_nonneg _, by (first | lia | omega), ?_⟩
        rw [hell]; unfold ell1
        rw [if_pos (by simp_all), if_pos (by assumption)]
      · refine Done.mk ⟨?_, fun b o e => Fr.keep (by assumption) b o (st b o e)⟩
        rw [hell]; unfold ell1
        rw [if_pos (by simp_all), if_neg (by simp_all)]
      · rename Fr _ _ _ _ => F
        rename News _ _ _ _ => N
        refine ⟨_, _, D, (a, ta) :: mid, z, tz, _, _, _, _, _, rfl, F, fun p hp => N p (List.mem_cons_of_mem _ hp), rfl, rfl, rfl, rfl, ?_, hzz, by simp; (first | lia | omega), Int.le_refl _, by (first | lia | omega), ?_⟩
        · intro q hq
          rcases List.mem_cons.mp hq with rfl | hq
          · exact hza1
          · exact hb1 q hq
        rw [hell]; unfold ell1
        rw [if_neg (by simp_all)]; rfl
    · clear hell hml hml1 hb1 hza hza1 hzz F N
      rintro _ ⟨h, tk, D, vs, z, tz, n, p, tp, te, m, rfl, F, N, m1, m2, m3, m4, hb, hz, hl, hp0, hp1, hell⟩
      have hl1 : (strValues vs).length ≤ 900000 := by simp [strValues]; (first | lia | omega)
      dsimp only [List.drop]
      refine cutN 3 (EllC s g' L' want got t2) ?_ ?_
      · dsimp only [List.take]
        (try k_fold)
        k_steps
        all_goals (first | (k_unmd; k_unfold; try dsimp only) | (try dsimp only))
        all_goals first
          | (refine Done.mk ⟨?_, fun b o e => Fr.keep (by assumption) b o (st b o e)⟩
             dsimp only
             rw [hell]; unfold ell2 ell3
             (repeat' split) <;> first | rfl | (exfalso; simp_all; done) | (exfalso; simp_all; (first | lia | omega)))
          | (rename Fr _ _ _ _ => F
             rename News _ _ _ _ => N
             first
               | (refine ⟨_, _, D, vs, _, _, _, _, _, _, rfl, F, N, m1, m2, m3, rfl, fun q hq => by have := hb q hq; (first | lia | omega), hp0, hp1, by (first | lia | omega), ?_⟩
                  rw [hell]; unfold ell2 ell3
                  rw [if_pos (by simp_all), if_pos (by assumption), if_neg (by first | with_reducible assumption | with_reducible exact lt_num (by with_reducible assumption) (Nat.le_of_ble_eq_true rfl) | with_reducible exact le_num (by with_reducible assumption) (Nat.le_of_ble_eq_true rfl) | with_reducible exact le_le (by with_reducible assumption) (Nat.le_of_ble_eq_true rfl) | (first | lia | omega))])
               | (refine ⟨_, _, D, vs ++ [(z, tz)], _, _, _, _, _, _, rfl, F, N, m1, m2, m3, m4, ?_, hp0, hp1, by (first | lia | omega), ?_⟩
                  · intro q hq
                    rcases List.mem_append.mp hq with hq | hq
                    · have := hb q hq; (first | lia | omega)
                    · rw [List.mem_singleton.mp hq]; exact hz
                  rw [hell]; unfold ell2 ell3
                  rw [if_neg (by simp_all), if_neg (by first | with_reducible assumption | with_reducible exact lt_num (by with_reducible assumption) (Nat.le_of_ble_eq_true rfl) | with_reducible exact le_num (by with_reducible assumption) (Nat.le_of_ble_eq_true rfl) | with_reducible exact le_le (by with_reducible assumption) (Nat.le_of_ble_eq_true rfl) | (first | lia | omega))]; simp))
      · clear hell hl1 hl hb hz hp0 hp1 m1 m2 m3 m4 F N
        rintro _ ⟨h, tk, D, vs, n, p, tp, e, te, m, rfl, F, N, m1, m2, m3, m4, hb, hp0, hp1, he, hell⟩
        dsimp only [List.drop]
        (try k_fold)
        refine wpAny_execs_cons ?_
        refine for_any g' ?_
        k_steps
        have z := N _ (List.mem_cons_self ..)
        refine iter_list (vs := strValues vs) (fun i m nx => nx = [(D, listOf (strValues vs).toArray n)] ∧ m "got" = some (.str got t2) ∧ (∃ p tp, m "startpos" = some (.int p tp) ∧ 0 ≤ p ∧ ellip want got = ellGo got e ((vs.map (·.1)).drop i) p) ∧ m "endpos" = some (.int e te))
          rfl ⟨_, z.1, rfl, _, rfl⟩ z.2.1 F N ⟨rfl, m1, ⟨p, tp, m3, hp0, hell⟩, m4⟩ ?_ ?_
        · clear N F m1 m2 m3 m4 hp0 hp1 z hell tp p
          rintro i v m₁ nx h tk I own hv ⟨rfl, m1, ⟨p, tp, m2, hp0, hell⟩, m3⟩ hI hDI hown F N
          obtain ⟨⟨y, ty⟩, hy, rfl⟩ : ∃ q : Str × Tok, vs[i]? = some q ∧ v = .str q.1 q.2 := by
            unfold strValues at hv
            rw [List.getElem?_map] at hv
            cases hq : vs[i]? with
            | none => rw [hq] at hv; cases hv
            | some q => rw [hq] at hv; exact ⟨q, rfl, (Option.some.inj hv).symm⟩
          have hdrop : (vs.map (·.1)).drop i = y :: (vs.map (·.1)).drop (i + 1) := by
            rw [List.drop_eq_getElem?_toList_append, List.getElem?_map, hy]; rfl
          rw [hdrop] at hell
          have hyl : y.length ≤ 1000000 := hb _ (List.mem_of_getElem? hy)
          (try k_fold)
          k_steps
          · refine OurTurn.ret (Done.mk ⟨?_, fun b o e => Fr.keep (by assumption) b o (st b o e)⟩)
            rw [hell]; unfold ellGo
            rw [if_pos (by assumption)]
          · rename Fr _ _ _ _ => F2
            rename News _ _ _ _ => N2
            refine OurTurn.next F2 N2 hI ⟨rfl, m1, ⟨_, _, rfl, by (first | lia | omega), ?_⟩, m3⟩
            rw [hell, ellGo, if_neg (by assumption)]
        · rintro m₁ nx h tk ⟨rfl, m1, ⟨p, tp, m2, hp0, hell⟩, m3⟩ F N
          (try k_fold)
          k_steps
          (first | (k_unmd; k_unfold; try dsimp only) | (try dsimp only))
          refine Done.mk ⟨?_, fun b o e => Fr.keep (by assumption) b o (st b o e)⟩
          rw [hell, show (List.map (fun x => x.1) vs).drop (strValues vs).length = [] by rw [List.drop_eq_nil_iff]; simp [strValues]]
          rfl
end Mine

end
section
-- Dig
theorem Mine.fresh_Dig : True := by
  w_top off
  trivial
open PySem PySem.W PyProof.Rows PySem.Calls PySem.Builtin PySem.Builtin.Str
set_option maxRecDepth 100000
namespace Mine

/-- the k lowest digits, the lowest first -/
def digs (b : Nat) : Nat → Nat → List Int
  | 0, _ => []
  | k + 1, x => ((x % b : Nat) : Int) :: digs b k (x / b)
theorem digs_length (b : Nat) : ∀ (k x : Nat), (digs b k x).length = k
  | 0, _ => rfl
  | k + 1, x => by rw [digs, List.length_cons, digs_length]
theorem digs_add (b : Nat) (hb : 0 < b) : ∀ (k1 k2 x : Nat), digs b (k1 + k2) x = digs b k1 (x % b ^ k1) ++ digs b k2 (x / b ^ k1)
  | 0, k2, x => by simp [digs]
  | k1 + 1, k2, x => by
    rw [show k1 + 1 + k2 = (k1 + k2) + 1 by (first | lia | omega), digs, digs_add b hb k1 k2, digs, List.cons_append]
    congr 2
    · rw [Nat.pow_succ, Nat.mod_mod_of_dvd]
      exact Nat.dvd_mul_left _ _
    · congr 2
      rw [Nat.pow_succ', Nat.mod_mul_right_div_self]
    · rw [Nat.pow_succ', Nat.div_div_eq_div_mul]
theorem digs_one {b x : Nat} (h : x < b) : digs b 1 x = [(x : Int)] := by simp [digs, Nat.mod_eq_of_lt h]
theorem digs_zero (b : Nat) : ∀ k : Nat, digs b k 0 = List.replicate k 0
  | 0 => rfl
  | k + 1 => by rw [digs, List.replicate_succ, Nat.zero_div, digs_zero b k]; simp

theorem and_high (x s : Nat) : x &&& (x / 2 ^ s * 2 ^ s) = x / 2 ^ s * 2 ^ s := by
  apply Nat.eq_of_testBit_eq
  intro i
  rw [Nat.testBit_and, Nat.testBit_mul_two_pow, Nat.testBit_div_two_pow]
  by_cases h : s ≤ i
  · simp [h, Nat.sub_add_cancel h]
  · simp [h]
theorem xor_high (x s : Nat) : Builtin.bitXor (x : Int) ((x / 2 ^ s * 2 ^ s : Nat) : Int) = ((x % 2 ^ s : Nat) : Int) := by
  rw [bitXor_and]
  have e : Builtin.bitAnd (x : Int) ((x / 2 ^ s * 2 ^ s : Nat) : Int) = ((x / 2 ^ s * 2 ^ s : Nat) : Int) := by
    unfold Builtin.bitAnd
    rw [decide_eq_true (Int.natCast_nonneg _), decide_eq_true (Int.natCast_nonneg _)]
    show ((((x : Int).toNat &&& ((x / 2 ^ s * 2 ^ s : Nat) : Int).toNat : Nat)) : Int) = _
    rw [Int.toNat_natCast, Int.toNat_natCast, and_high]
  rw [e]
  have := Nat.div_add_mod x (2 ^ s)
  rw [Nat.mul_comm] at this
  (first | lia | omega)
theorem fdiv_nat (x y : Nat) : (x : Int).fdiv (y : Int) = ((x / y : Nat) : Int) := by
  rw [Int.fdiv_eq_ediv_of_nonneg _ (Int.natCast_nonneg _)]; rfl
theorem fmod_nat (x y : Nat) : (x : Int).fmod (y : Int) = ((x % y : Nat) : Int) := by
  rw [Int.fmod_eq_emod_of_nonneg _ (Int.natCast_nonneg _)]; rfl
theorem two_pow_cast (s : Nat) : (2 : Int) ^ s = ((2 ^ s : Nat) : Int) := by rw [Int.natCast_pow]; rfl

theorem splice {l k1 k2 : Nat} {ns d1 d2 : List Int} (h1 : d1.length = k1) (hl : l + (k1 + k2) ≤ ns.length) :
    (ns.take l ++ d1 ++ ns.drop (l + k1)).take (l + k1) ++ d2 ++ (ns.take l ++ d1 ++ ns.drop (l + k1)).drop (l + k1 + k2) = ns.take l ++ (d1 ++ d2) ++ ns.drop (l + (k1 + k2)) := by
  have e : (ns.take l ++ d1).length = l + k1 := by rw [List.length_append, List.length_take, h1]; (first | lia | omega)
  rw [List.take_left' e, Nat.add_assoc, List.drop_append, e, List.drop_of_length_le (by rw [e]; (first | lia | omega)), List.drop_drop]
  simp only [List.nil_append, List.append_assoc]
  congr 4
  (first | lia | omega)
theorem splice_len {l k1 : Nat} {ns d1 : List Int} (h1 : d1.length = k1) (hl : l + k1 ≤ ns.length) : (ns.take l ++ d1 ++ ns.drop (l + k1)).length = ns.length := by
  simp only [List.length_append, List.length_take, List.length_drop]; (first | lia | omega)
theorem set_splice {l : Nat} {ns : List Int} {x : Int} (hl : l < ns.length) : ns.set l x = ns.take l ++ [x] ++ ns.drop (l + 1) := by
  rw [List.set_eq_take_append_cons_drop, if_pos hl]; simp

section
variable {prog : Program} {w : World} {A : Around} {E : Value → Shared → Prop} {s : Shared} {a b n : Int} {t u : Tok}
theorem rshiftG {Q : Value → Shared → Prop} (hn : 0 ≤ n) (h : ∀ M : Int, M = a.fdiv (2 ^ n.toNat) → ∀ tk k, Q (.int M tk) { s with toks := k }) : wpAny (model prog w) A (binaryOp .RShift (.int a t) (.int n u)) Q E s := rshift_int hn (h _ rfl _ _)
theorem lshiftG {Q : Value → Shared → Prop} (hn : 0 ≤ n) (hsz : (Builtin.Int.intBits a : Int) + n ≤ 2 ^ 27) (h : ∀ M : Int, M = a * 2 ^ n.toNat → ∀ tk k, Q (.int M tk) { s with toks := k }) : wpAny (model prog w) A (binaryOp .LShift (.int a t) (.int n u)) Q E s := lshift_int hn hsz (h _ rfl _ _)
theorem xorG {Q : Value → Shared → Prop} (h : ∀ M : Int, M = Builtin.bitXor a b → ∀ tk k, Q (.int M tk) { s with toks := k }) : wpAny (model prog w) A (binaryOp .BitXor (.int a t) (.int b u)) Q E s := xor_int (h _ rfl _ _)
end
/-- what the shifts of a half's width want -/
def ShOk (L R n x : Int) : Prop := ∀ M : Int, M = (L + R).fdiv (2 ^ Int.toNat 1) → 0 ≤ (M - L) * n ∧ ∀ U : Int, U = x.fdiv (2 ^ ((M - L) * n).toNat) → (Builtin.Int.intBits U : Int) + (M - L) * n ≤ 2 ^ 27
theorem ShOk.nonneg {L R n x M : Int} (h : ShOk L R n x) (hM : M = (L + R).fdiv (2 ^ Int.toNat 1)) : 0 ≤ (M - L) * n := (h M hM).1
theorem ShOk.size {L R n x M U : Int} (h : ShOk L R n x) (hM : M = (L + R).fdiv (2 ^ Int.toNat 1)) (hU : U = x.fdiv (2 ^ ((M - L) * n).toNat)) : (Builtin.Int.intBits U : Int) + (M - L) * n ≤ 2 ^ 27 := (h M hM).2 U hU
theorem bits_nat_le {x m : Nat} (h : x < 2 ^ m) : Builtin.Int.intBits (x : Int) ≤ m := intBits_le_iff.mpr (by rw [Int.natAbs_natCast]; exact h)

/-- the number of these digits, the lowest first -/
def fromD (b : Nat) : List Nat → Nat
  | [] => 0
  | d :: r => d + b * fromD b r
theorem fromD_append (b : Nat) : ∀ d1 d2 : List Nat, fromD b (d1 ++ d2) = fromD b d1 + b ^ d1.length * fromD b d2
  | [], d2 => by simp [fromD]
  | d :: r, d2 => by
    rw [List.cons_append, fromD, fromD_append b r d2, fromD, List.length_cons, Nat.pow_succ', Nat.mul_add, Nat.mul_assoc, Nat.add_assoc]
theorem fromD_lt (b : Nat) : ∀ ds : List Nat, (∀ d ∈ ds, d < b) → fromD b ds < b ^ ds.length
  | [], _ => by simp [fromD]
  | d :: r, h => by
    have h1 := h d (List.mem_cons_self ..)
    have h2 := fromD_lt b r fun e he => h e (List.mem_cons_of_mem _ he)
    rw [fromD, List.length_cons, Nat.pow_succ']
    have h3 : b * (fromD b r + 1) ≤ b * b ^ r.length := Nat.mul_le_mul_left b h2
    rw [Nat.mul_add] at h3
    (first | lia | omega)
theorem take_two (ds : List Nat) (l k1 k2 : Nat) : (ds.drop l).take (k1 + k2) = (ds.drop l).take k1 ++ (ds.drop (l + k1)).take k2 := by
  rw [List.take_add, List.drop_drop]
def castL (ds : List Nat) : List Int := ds.map fun d : Nat => (d : Int)
theorem castL_length (ds : List Nat) : (castL ds).length = ds.length := List.length_map ..
theorem castL_getD (ds : List Nat) (i : Nat) : (castL ds).getD i 0 = ((ds.getD i 0 : Nat) : Int) := by
  unfold castL
  rw [List.getD_eq_getElem?_getD, List.getD_eq_getElem?_getD, List.getElem?_map]
  cases ds[i]? <;> rfl
theorem fromD_one (b : Nat) (ds : List Nat) (l : Nat) (h : l < ds.length) : fromD b ((ds.drop l).take 1) = ds.getD l 0 := by
  rw [List.drop_eq_getElem_cons h, List.take_succ_cons, List.take_zero, fromD, fromD, List.getD_eq_getElem?_getD, List.getElem?_eq_getElem h]; simp
theorem nn_of {a : Int} {n : Nat} (h : a = n) : 0 ≤ a := by rw [h]; exact Int.natCast_nonneg _
theorem sz_of {V a : Int} {p m : Nat} (es : a = p) (hb : Builtin.Int.intBits V ≤ m) (h : m + p ≤ 134217728) : (Builtin.Int.intBits V : Int) + a ≤ 2 ^ 27 := by (first | lia | omega)
end Mine

end
section
-- Inn01
theorem Mine.fresh_Inn01 : True := by
  w_top off
  trivial
open PySem PySem.W PyProof.Rows PySem.Calls PySem.Builtin.Str
set_option maxRecDepth 100000
set_option maxHeartbeats 1000000
set_option pp.deepTerms false
namespace Mine
local macro_rules | `(tactic| k_room) => `(tactic| ((try simp only [Around.deeper, recursionLimit] at *); omega))
local macro_rules | `(tactic| k_units) => `(tactic| ((try simp only [Around.deeper, Around.in1, cLine] at *); omega))
noncomputable abbrev innerD (w : World) : Option Stmt := (fnBody (hd01.heap_39 w.params) 66)[1]?
noncomputable def innerParams (w : World) := defParams (innerD w)
noncomputable def innerBody (w : World) := defBody (innerD w)
noncomputable def innerScope (w : World) := defScope (innerD w)
noncomputable abbrev innerFn (w : World) (cl : List (Str × Addr)) (doc pm : Value) (c' : Addr) (ctv : Value) : Obj := fnMade "inner" "_int2digits.<locals>.inner" (innerParams w) (innerBody w) (innerScope w) cl doc pm c' ctv

section
local macro_rules | `(tactic| walk_at "eval Name") => `(tactic| (k_here; k_dflt (refine' nameX_FB ?k1 ?k2 ?k3 ?k4 ?_; (case k1 => k_asm); (case k2 => exact rfl); (case k3 => with_reducible assumption); (case k4 => with_reducible assumption); k_whole)))
local macro_rules | `(tactic| walk_at "binaryOp RShift int int") => `(tactic| (refine' rshiftG ?k1 ?_; (case k1 => first | decide | exact ShOk.nonneg (by with_reducible assumption) (by with_reducible assumption)); intro _ _ _ _))
local macro_rules | `(tactic| walk_at "binaryOp LShift int int") => `(tactic| (refine' lshiftG ?k1 ?k2 ?_; (case k1 => exact ShOk.nonneg (by with_reducible assumption) (by with_reducible assumption)); (case k2 => exact ShOk.size (by with_reducible assumption) (by with_reducible assumption) (by with_reducible assumption)); intro _ _ _ _))
local macro_rules | `(tactic| walk_at "binaryOp BitXor int int") => `(tactic| (refine' xorG ?_; intro _ _ _ _))
local macro_rules | `(tactic| walk_at "callWith ref") => `(tactic| (k_here; k_dflt (refine' callWith_F ?k1 ?_; (case k1 => exact fnAt_keep (by k_asm) (by with_reducible assumption)); k_whole)))
local macro_rules | `(tactic| walk_at "FnAt") => `(tactic| exact fnAt_keep (by k_asm) (by with_reducible assumption))

theorem inner_spec {w : World} {B : Heap} {loose mean mg mb} {f cA cI cN D : Addr} {c' : Addr} {doc pm ctv : Value} {n : Int} {tn : Tok} {oA oI oN : Obj} {N : Nat}
    (G : Gd (Mine.hd01.heap_39 w.params) loose mean mg mb B) (hf : B.get? f = some (innerFn w [("n", cN), ("inner", cI), ("a_digits", cA)] doc pm c' ctv)) (hcd : B.CodeRec (.ref c') "_int2digits.<locals>.inner")
    (hA : B.get? cA = some oA) (hA1 : oA.data = .cell (some (.ref D))) (hI : B.get? cI = some oI) (hI1 : oI.data = .cell (some (.ref f))) (hN : B.get? cN = some oN) (hN1 : oN.data = .cell (some (.int n tn)))
    (hnN : n = N) (hn1 : N ≤ 100) (hD : B.get? D = none) :
    ∀ (k : Nat) (s : Shared) (x L R : Int) (X l : Nat) (tx tL tR : Tok) (vs : List Value) (ns : List Int) (nn : Nat), 1 ≤ k → L = l → R = L + k → x = X → X < (2 ^ N) ^ k → l + k ≤ ns.length → ns.length ≤ 200 → IntsAre vs ns → B.StaysIn s.heap → s.heap.get? D = some (listOf vs.toArray nn) →
    Does (model PySem.Challenge.rw_pg0310_01.row.prog w) (k + 5) (5 * k + 20) (call (.ref f) [.int x tx, .int L tL, .int R tR]) s
      (fun v h' => v = .none ∧ (∃ vs' nn', h'.get? D = some (listOf vs'.toArray nn') ∧ IntsAre vs' (ns.take l ++ digs (2 ^ N) k X ++ ns.drop (l + k))) ∧ ∀ b o, b ≠ D → s.heap.get? b = some o → h'.get? b = some o) := by
  have hfn : FnAt f B := ⟨_, _, _, _, hf⟩
  delta innerFn at hf
  conv at hf in (innerParams w) => whnf
  conv at hf in (innerBody w) => whnf
  conv at hf in (innerScope w) => whnf
  intro k
  induction k using Nat.strongRecOn with
  | ind k ih =>
  intro s x L R X l tx tL tR vs ns nn hk0 hL hR hx hX hlk hns hi hB hDs d0 u0 fr gs hd hu
  revert G
  k_fill
  intro G
  refine' enterX (binds := [("x", .int x tx), ("L", .int L tL), ("R", .int R tR)]) G hB [(D, listOf vs.toArray nn)] (List.forall_mem_cons.mpr ⟨⟨hDs, hD⟩, List.forall_mem_nil _⟩) hf hcd ?k8 ?k9 ?kB ?_ ?c2 ?c3 ?c4 ?c5; (case k8 => k_room); (case k9 => exact BindsTo.of_eq rfl); (case kB => exact locs rfl); (case c2 => exact rfl); (case c3 => exact rfl); (case c4 => exact rfl); (case c5 => decide)
  intro g' L' h' hg' F' N' l1 X' T' stB
  have st : ∀ b o, b ≠ D → s.heap.get? b = some o → g'.get? b = some o := by rw [hg']; exact fun b o hb e => hideAll_get _ e (by simpa using hb)
  clear hg'
  (try dsimp only)
  have hA' := stB _ _ hA
  have hI' := stB _ _ hI
  have hN' := stB _ _ hN
  have hfn' : FnAt f g' := let ⟨a, b, c, d, e⟩ := hfn; ⟨a, b, c, d, stB _ _ e⟩
  have hM : ∀ M : Int, M = (L + R).fdiv (2 ^ Int.toNat 1) → M = ((l + k / 2 : Nat) : Int) := by
    intro M hM
    rw [hM, hR, hL]
    rw [Int.fdiv_eq_ediv_of_nonneg _ (by decide)]
    exact half_mid l k
  have hs1 : ∀ M : Int, M = (L + R).fdiv (2 ^ Int.toNat 1) → (M - L) * n = ((N * (k / 2) : Nat) : Int) := by
    intro M h
    rw [hM M h, hL, hnN, Int.natCast_mul, Int.mul_comm]
    exact congrArg _ (half_dif l k)
  have hU : ∀ M U : Int, M = (L + R).fdiv (2 ^ Int.toNat 1) → U = x.fdiv (2 ^ ((M - L) * n).toNat) → U = ((X / 2 ^ (N * (k / 2)) : Nat) : Int) := by
    intro M U h h2
    rw [h2, hs1 M h, hx, Int.toNat_natCast, two_pow_cast, fdiv_nat]
  have hN2 : N * (k / 2) ≤ 20000 := Nat.le_trans (Nat.mul_le_mul hn1 (half_200 hlk hns).2.1) (by decide)
  have hNk : N * k ≤ 20000 := Nat.le_trans (Nat.mul_le_mul hn1 (half_200 hlk hns).1) (by decide)
  have hXp : X < 2 ^ (N * k) := by rw [Nat.pow_mul]; exact hX
  have hok : ShOk L R n x := by
    intro M h
    rw [hs1 M h]
    refine ⟨Int.natCast_nonneg _, fun U h2 => ?_⟩
    rw [← hs1 M h] at h2
    rw [hU M U h h2]
    have := bits_nat_le (x := X / 2 ^ (N * (k / 2))) (m := N * k) (Nat.lt_of_le_of_lt (Nat.div_le_self _ _) hXp)
    (first | lia | omega)
  clear hA hI hN
  (try k_fold)
  k_steps
  · (first | (k_unmd; k_unfold; try dsimp only) | (try dsimp only))
    rename Fr _ _ _ _ => F
    rename News _ _ _ _ => Nw
    rename L + 1 = R => h1
    rename IntsAre (vs.set _ _) _ => hi2
    refine Done.mk ⟨rfl, ⟨_, nn, (Nw _ (List.mem_cons_self ..)).1, ?_⟩, fun b o hb e => F.keep b o (st b o hb e)⟩
    have hk1 : k = 1 := half_one hR h1
    subst hk1
    rw [digs_one (by simpa using hX), ← set_splice (by (first | lia | omega)), ← hx]
    have : L.toNat = l := by (first | lia | omega)
    rw [this] at hi2 ⊢
    exact hi2
  · rename Fr _ _ _ _ => F
    rename News _ _ _ _ => Nw
    rename _ = Int.fdiv (L + R) _ => hM1
    rename _ = Int.fdiv x _ => hU1
    rename _ = _ * 2 ^ _ => hS1
    rename _ = Builtin.bitXor x _ => hW1
    rename L + 1 ≠ R => hne
    have eM := hM _ hM1
    have eU := hU _ _ hM1 hU1
    rw [hS1, hs1 _ hM1, eU, Int.toNat_natCast, two_pow_cast, ← Int.natCast_mul, hx, xor_high] at hW1
    have hk2 := half_two hk0 hR hne
    obtain ⟨b1, b2, b3, b4, b5, b6⟩ := half_k hk2
    obtain ⟨n1, n2, n3⟩ := half_n hlk
    obtain ⟨r1, r2⟩ := half_d hd hk2
    obtain ⟨u1, u2⟩ := half_u hu hk2
    obtain ⟨e1, e2⟩ := half_ends hL hR eM
    have hlow : X % 2 ^ (N * (k / 2)) < (2 ^ N) ^ (k / 2) := by rw [← Nat.pow_mul]; exact Nat.mod_lt _ (Nat.two_pow_pos _)
    have hup : X / 2 ^ (N * (k / 2)) < (2 ^ N) ^ (k - k / 2) := by
      rw [Nat.div_lt_iff_lt_mul (Nat.two_pow_pos _), Nat.pow_mul, ← Nat.pow_add, b6]
      exact hX
    refine Does.use (ih (k / 2) (by first | with_reducible assumption | (first | lia | omega)) _ _ _ _ (X % 2 ^ (N * (k / 2))) l _ _ _ vs ns nn (by first | with_reducible assumption | (first | lia | omega)) hL (by first | with_reducible assumption | (first | lia | omega)) hW1 hlow (by first | with_reducible assumption | (first | lia | omega)) hns hi (fun b o e => F.keep b o (stB b o e)) (Nw _ (List.mem_cons_self ..)).1) rfl (by simp only [Around.deeper]; first | with_reducible assumption | (first | lia | omega)) (by simp only [Around.deeper]; first | with_reducible assumption | (first | lia | omega)) ?_
    rintro v h2 tk2 ⟨rfl, ⟨vs1, nn1, hD1, hi1⟩, keep1⟩
    obtain ⟨F2, N2⟩ := back_one F Nw (.head (List.forall_mem_nil _)) keep1 hD1
    clear F Nw
    k_steps
    rename Fr _ _ _ _ => F
    rename News _ _ _ _ => Nw
    have hl1 := splice_len (ns := ns) (l := l) (digs_length (2 ^ N) (k / 2) (X % 2 ^ (N * (k / 2)))) (by first | with_reducible assumption | (first | lia | omega))
    refine Does.use (ih (k - k / 2) (by first | with_reducible assumption | (first | lia | omega)) _ _ _ _ (X / 2 ^ (N * (k / 2))) (l + k / 2) _ _ _ vs1 _ nn1 (by first | with_reducible assumption | (first | lia | omega)) eM (by first | with_reducible assumption | (first | lia | omega)) eU hup (by rw [hl1]; first | with_reducible assumption | (first | lia | omega)) (by rw [hl1]; exact hns) hi1 (fun b o e => F.keep b o (stB b o e)) (Nw _ (List.mem_cons_self ..)).1) rfl (by simp only [Around.deeper]; first | with_reducible assumption | (first | lia | omega)) (by simp only [Around.deeper]; first | with_reducible assumption | (first | lia | omega)) ?_
    rintro v h3 tk3 ⟨rfl, ⟨vs2, nn2, hD2, hi2⟩, keep2⟩
    obtain ⟨F2, N2⟩ := back_one F Nw (.head (List.forall_mem_nil _)) keep2 hD2
    clear F Nw
    k_steps
    refine Done.mk ⟨rfl, ⟨vs2, nn2, hD2, ?_⟩, fun b o hb e => F2.keep b o (st b o hb e)⟩
    rw [splice (digs_length _ _ _) (by first | with_reducible assumption | (first | lia | omega))] at hi2
    have e := digs_add (2 ^ N) (Nat.two_pow_pos _) (k / 2) (k - k / 2) X
    rw [b5, ← Nat.pow_mul] at e
    rw [e]
    rw [b5] at hi2
    exact hi2
end
end Mine

end
section
-- I2d01
theorem Mine.fresh_I2d01 : True := by
  w_top off
  trivial
open PySem PySem.W PyProof.Rows PySem.Calls PySem.Builtin.Str
set_option maxRecDepth 100000
set_option maxHeartbeats 2000000
set_option pp.deepTerms false
namespace Mine
local macro_rules | `(tactic| k_room) => `(tactic| ((try simp only [Around.deeper, recursionLimit] at *); omega))
local macro_rules | `(tactic| k_units) => `(tactic| ((try simp only [Around.deeper, Around.in1, cLine] at *); omega))
local macro_rules | `(tactic| walk_at "binaryOp Mult ref int") => `(tactic| (k_here; (with_reducible show wpAny _ _ (binaryOp Operator.Mult (Value.ref _) (Value.int _ _)) _ _ _); k_dflt (refine' mulK ?k1 ?k2 ?k3 ?k4 ?k5 ?_; (case k1 => k_asm); (case k2 => k_asm); (case k3 => k_mem); (case k4 => assumption); (case k5 => assumption)); intro D' h' F' N' l1; (try k_lt l1); (try k_sweep)))

local macro_rules | `(tactic| k_all) => `(tactic| first | with_reducible assumption | exact allLt_ne (by with_reducible assumption) | exact Low.ne (by with_reducible assumption) (by omega) | (exact Low.ne (by assumption) (by omega)))
local macro_rules | `(tactic| walk_at "call builtin:len") => `(tactic| (k_here; (with_reducible show wpAny _ _ (call (Value.builtin "len") [Value.ref _]) _ _ _); k_dflt (refine' lenK ?k1 ?k2 ?k3 ?_; (case k1 => k_asm); (case k2 => k_mem); (case k3 => assumption); k_whole); intro _ _))
abbrev S1 : TabSpec := ⟨61, ⟨66, 4, 75, 28⟩, "_int2digits.<locals>.inner"⟩
abbrev S2 : TabSpec := ⟨68, ⟨81, 4, 86, 55⟩, "_digits2int.<locals>.inner"⟩


def ndig (N X : Nat) : Nat := (Builtin.Int.intBits (X : Int) + N - 1) / N
theorem ndig_cast (N X : Nat) (hN : 1 ≤ N) : ((Builtin.Int.intBits (X : Int) : Int) + N - 1).fdiv N = (ndig N X : Int) := by
  unfold ndig
  rw [← fdiv_nat]
  congr 1
  omega
theorem ndig_le {N X m : Nat} (hN : 1 ≤ N) (hX : X < 2 ^ m) : ndig N X ≤ m := by
  unfold ndig
  have := bits_nat_le hX
  refine Nat.le_of_lt_succ ?_
  rw [Nat.div_lt_iff_lt_mul (by first | with_reducible assumption | with_reducible exact lt_num (by with_reducible assumption) (Nat.le_of_ble_eq_true rfl) | with_reducible exact le_num (by with_reducible assumption) (Nat.le_of_ble_eq_true rfl) | with_reducible exact le_le (by with_reducible assumption) (Nat.le_of_ble_eq_true rfl) | omega), Nat.succ_mul]
  generalize Builtin.Int.intBits (X : Int) = b at *
  have h3 : m * 1 ≤ m * N := Nat.mul_le_mul_left m hN
  omega
theorem lt_ndig (N X : Nat) (hN : 1 ≤ N) : X < (2 ^ N) ^ ndig N X := by
  have h : X < 2 ^ Builtin.Int.intBits (X : Int) := by
    have := (intBits_le_iff (m := Builtin.Int.intBits (X : Int)) (x := (X : Int))).mp (Nat.le_refl _)
    rwa [Int.natAbs_natCast] at this
  refine Nat.lt_of_lt_of_le h ?_
  rw [← Nat.pow_mul]
  refine Nat.pow_le_pow_right (by decide) ?_
  unfold ndig
  generalize Builtin.Int.intBits (X : Int) = b
  have h1 := Nat.div_add_mod (b + N - 1) N
  have h2 := Nat.mod_lt (b + N - 1) (show 0 < N by omega)
  omega
theorem ndig_pos {N X : Nat} (hN : 1 ≤ N) (hX : X ≠ 0) : 1 ≤ ndig N X := by
  rcases Nat.eq_zero_or_pos (ndig N X) with h | h
  · have := lt_ndig N X hN
    rw [h] at this
    simp at this
    exact absurd this hX
  · exact h
theorem ints_rep (k : Nat) (tk : Tok) : IntsAre (List.replicate k (Value.int 0 tk)) (List.replicate k 0) := by
  induction k with
  | zero => exact .nil
  | succ k ih => rw [List.replicate_succ, List.replicate_succ]; exact .cons 0 tk ih

theorem inner_call {w : World} {s : Shared} {g : Heap} {L : Addr} {m : Str → Option Value} {loose mean mg mb} {f D l0 c1 c2 c3 : Addr} {o0 o1 o2 o3 : Obj} {c' : Addr} {doc pm ctv : Value} {n : Int} {tn : Tok} {N : Nat} {vs : List Value} {ns : List Int} {nn : Nat} {tl2 : List (Addr × Obj)}
    (F : Fr g L s.heap m) (Nw : News g L s.heap ((f, innerFn w [("n", c1), ("inner", c3), ("a_digits", c2)] doc pm c' ctv) :: (D, listOf vs.toArray nn) :: (l0, o0) :: (c3, o3) :: (c2, o2) :: (c1, o1) :: tl2))
    (X : (hd01.heap_39 w.params).In g) (T : Top topProg loose mean mg mb g)
    (hl : @LT.lt Nat _ D f ∧ @LT.lt Nat _ c3 D ∧ @LT.lt Nat _ c2 D ∧ @LT.lt Nat _ c1 D ∧ @LT.lt Nat _ l0 D) (hA4 : ∀ p ∈ tl2, p.1 ≠ D) (h2 : o2.data = .cell (some (.ref D))) (h3 : o3.data = .cell (some (.ref f))) (h1 : o1.data = .cell (some (.int n tn)))
    (hc' : ∃ oc cvs t, (c', oc) ∈ tl2 ∧ oc.data = .fields cvs ∧ cvs[1]? = some (.str "_int2digits.<locals>.inner" t)) (hnN : n = N) (hn1 : N ≤ 100)
    {k : Nat} {x R : Int} {Xn : Nat} {tx tL tR : Tok} (hk : 1 ≤ k) (hR : R = k) (hx : x = Xn) (hX : Xn < (2 ^ N) ^ k) (hkn : k = ns.length) (hns : ns.length ≤ 200) (hi : IntsAre vs ns) :
    Does (model PySem.Challenge.rw_pg0310_01.row.prog w) (k + 5) (5 * k + 20) (call (.ref f) [.int x tx, .int 0 tL, .int R tR]) s
      (fun v h' => ∃ vs' nn', IntsAre vs' (digs (2 ^ N) k Xn) ∧ Fr g L h' m ∧ News g L h' ((f, innerFn w [("n", c1), ("inner", c3), ("a_digits", c2)] doc pm c' ctv) :: (D, listOf vs'.toArray nn') :: (l0, o0) :: (c3, o3) :: (c2, o2) :: (c1, o1) :: tl2)) := by
  obtain ⟨oc, cvs, ct, hcm, hcd, hcv⟩ := hc'
  have hDN := Nw (D, listOf vs.toArray nn) (by first | ((repeat (first | with_reducible exact List.mem_cons_self .. | with_reducible refine List.mem_cons_of_mem _ ?_)); done) | simp)
  have G' : Gd _ loose mean mg mb (hideAll s.heap [D]) := Gd.hide_one ⟨X, T⟩ F hDN.2.2
  have get : ∀ {b : Addr} {o : Obj}, (b, o) ∈ _ → b ≠ D → (hideAll s.heap [D]).get? b = some o := fun {b o} hm hb => hide_one_get (Nw (b, o) hm).1 hb
  have := inner_spec G' (get (List.mem_cons_self ..) (Nat.ne_of_gt hl.1)) ⟨c', oc, cvs, ct, rfl, get (by simp [hcm]) (hA4 _ hcm), hcd, hcv⟩ (get (b := c2) (by first | ((repeat (first | with_reducible exact List.mem_cons_self .. | with_reducible refine List.mem_cons_of_mem _ ?_)); done) | simp) (Nat.ne_of_lt hl.2.2.1)) h2 (get (b := c3) (by first | ((repeat (first | with_reducible exact List.mem_cons_self .. | with_reducible refine List.mem_cons_of_mem _ ?_)); done) | simp) (Nat.ne_of_lt hl.2.1)) h3 (get (b := c1) (by first | ((repeat (first | with_reducible exact List.mem_cons_self .. | with_reducible refine List.mem_cons_of_mem _ ?_)); done) | simp) (Nat.ne_of_lt hl.2.2.2.1)) h1
    hnN hn1 (hideAll_none _ (List.mem_singleton.mpr rfl)) k s x 0 R Xn 0 tx tL tR vs ns nn hk rfl (by first | with_reducible assumption | with_reducible exact lt_num (by with_reducible assumption) (Nat.le_of_ble_eq_true rfl) | with_reducible exact le_num (by with_reducible assumption) (Nat.le_of_ble_eq_true rfl) | with_reducible exact le_le (by with_reducible assumption) (Nat.le_of_ble_eq_true rfl) | omega) hx hX (by first | with_reducible assumption | with_reducible exact lt_num (by with_reducible assumption) (Nat.le_of_ble_eq_true rfl) | with_reducible exact le_num (by with_reducible assumption) (Nat.le_of_ble_eq_true rfl) | with_reducible exact le_le (by with_reducible assumption) (Nat.le_of_ble_eq_true rfl) | omega) hns hi (fun b o e => of_hideAll _ e) hDN.1
  refine this.mono ?_
  rintro _ h' ⟨_, ⟨vs', nn', hD', hi'⟩, keep⟩
  refine ⟨vs', nn', ?_, back_one (o := listOf vs.toArray nn) F Nw ?_ keep hD'⟩
  · rw [List.take_zero, List.nil_append, Nat.zero_add, List.drop_of_length_le (by first | with_reducible assumption | with_reducible exact lt_num (by with_reducible assumption) (Nat.le_of_ble_eq_true rfl) | with_reducible exact le_num (by with_reducible assumption) (Nat.le_of_ble_eq_true rfl) | with_reducible exact le_le (by with_reducible assumption) (Nat.le_of_ble_eq_true rfl) | omega), List.append_nil] at hi'
    exact hi'
  · refine Upd.tail (Nat.ne_of_gt hl.1) (Upd.head ?_)
    refine List.forall_mem_cons.mpr ⟨Nat.ne_of_lt hl.2.2.2.2, List.forall_mem_cons.mpr ⟨Nat.ne_of_lt hl.2.1, List.forall_mem_cons.mpr ⟨Nat.ne_of_lt hl.2.2.1, List.forall_mem_cons.mpr ⟨Nat.ne_of_lt hl.2.2.2.1, hA4⟩⟩⟩⟩

theorem i2d_spec {w : World} {s : Shared} {B : Heap} {loose mean mg mb} {a n : Int} {X N : Nat} {t1 t2 : Tok} {tl : List (Addr × Obj)}
    (G : Gd (Mine.hd01.heap_39 w.params) loose mean mg mb B) (hB : B.StaysIn s.heap) (hS : TabS S1 S2 tl) (htl : ∀ p ∈ tl, s.heap.get? p.1 = some p.2 ∧ B.get? p.1 = none)
    (ha : a = X) (ha1 : X < 2 ^ 150) (hn : n = N) (hn0 : 1 ≤ N) (hn1 : N ≤ 100) :
    Does (model PySem.Challenge.rw_pg0310_01.row.prog w) 170 800 (call (.ref 66) [.int a t1, .int n t2]) s
      (fun v h' => TabPost S1 S2 tl s.heap h' ∧ ∃ D vs nn, v = .ref D ∧ h'.get? D = some (listOf vs.toArray nn) ∧ s.heap.get? D = none ∧ IntsAre vs (digs (2 ^ N) (ndig N X) X)) := by
  intro d0 u0 fr gs hd hu
  revert G
  k_fill
  intro G
  refine' enterC (binds := [("a", .int a t1), ("n", .int n t2)]) G hB tl htl ?k6 ?k7 ?k8 ?k9 ?kB ?kD ?_ ?c2 ?c3 ?c4; (case k6 => k_is); (case k7 => k_is); (case k8 => k_room); (case k9 => exact BindsTo.of_eq rfl);  (case kB => exact rfl); (case kD => decide +kernel); (case c2 => exact rfl); (case c3 => exact rfl); (case c4 => exact rfl)
  intro g' L' h' tk' cells' hg' F' N' Y' l1 X' T'
  have hkK : (↑(Builtin.Int.intBits a) + n - 1).fdiv n = (ndig N X : Int) := by rw [ha, hn]; exact ndig_cast N X hn0
  have hK := ndig_le hn0 ha1
  have hk0 : 0 ≤ (↑(Builtin.Int.intBits a) + n - 1).fdiv n := by omega
  have hk1 : (↑(Builtin.Int.intBits a) + n - 1).fdiv n ≤ 200 := by omega
  subst hg'
  have hlow : Low L' tl := l1
  have C1 : CodeHd (hideAll s.heap (tl.map (·.1))) 65 61 := codeHd_of_K X' rfl
  k_cells Y'
  (try simp only [List.cons_append, List.nil_append] at N')
  (try dsimp only)
  (try k_fold)
  k_steps
  k_dflt (refine' nestDef_K ?d0 ?k0 ?a0 ?_; (case d0 => exact rfl); (case k0 => exact rfl); (case a0 => exact rfl))
  refine nest1 (S := S1) (T := S2) [_, _, _, _, _] (by k_asm) (by k_asm) T' C1 rfl hS (by decide) ?_ rfl rfl rfl ?_
  · (repeat' (first | exact List.forall_mem_nil _ | refine List.forall_mem_cons.mpr ⟨?_, ?_⟩)) <;> (intro vs hvs; first | (cases hvs; done) | (simp_all; done))
  clear hlow
  intro f c' tl2 ctv doc h' tk hT3 hc' hsub F' N' l1 hlow
  (try simp only [List.cons_append, List.nil_append] at N' l1)
  (try k_lt l1)
  (try k_sweep)
  (try dsimp only)
  rw [hkK, Int.toNat_natCast] at N'
  have A1 := tail_ne (d := L' + 1 + 1 + 1) N' hT3 (fun p hp => by first | ((repeat with_reducible refine List.mem_cons_of_mem _ ?_); first | exact hp | exact List.mem_append_left _ hp | exact List.mem_append_right _ hp | exact List.mem_append_right _ (List.mem_append_left _ hp) | exact List.mem_append_right _ (List.mem_append_right _ hp) | exact List.mem_append_left _ (List.mem_append_right _ hp) | exact List.mem_append_right _ (List.mem_append_right _ (List.mem_append_left _ hp))) | simp [hp]) (by k_mem) (notFld_cell (by assumption))
  have A2 := tail_ne (d := L' + 1 + 1) N' hT3 (fun p hp => by first | ((repeat with_reducible refine List.mem_cons_of_mem _ ?_); first | exact hp | exact List.mem_append_left _ hp | exact List.mem_append_right _ hp | exact List.mem_append_right _ (List.mem_append_left _ hp) | exact List.mem_append_right _ (List.mem_append_right _ hp) | exact List.mem_append_left _ (List.mem_append_right _ hp) | exact List.mem_append_right _ (List.mem_append_right _ (List.mem_append_left _ hp))) | simp [hp]) (by k_mem) (notFld_cell (by assumption))
  have A3 := tail_ne (d := L' + 1) N' hT3 (fun p hp => by first | ((repeat with_reducible refine List.mem_cons_of_mem _ ?_); first | exact hp | exact List.mem_append_left _ hp | exact List.mem_append_right _ hp | exact List.mem_append_right _ (List.mem_append_left _ hp) | exact List.mem_append_right _ (List.mem_append_right _ hp) | exact List.mem_append_left _ (List.mem_append_right _ hp) | exact List.mem_append_right _ (List.mem_append_right _ (List.mem_append_left _ hp))) | simp [hp]) (by k_mem) (notFld_cell (by assumption))
  have A4 := tail_ne N' hT3 (fun p hp => by first | ((repeat with_reducible refine List.mem_cons_of_mem _ ?_); first | exact hp | exact List.mem_append_left _ hp | exact List.mem_append_right _ hp | exact List.mem_append_right _ (List.mem_append_left _ hp) | exact List.mem_append_right _ (List.mem_append_right _ hp) | exact List.mem_append_left _ (List.mem_append_right _ hp) | exact List.mem_append_right _ (List.mem_append_right _ (List.mem_append_left _ hp))) | simp [hp]) (List.mem_cons_of_mem _ (List.mem_cons_self ..)) notFld_list
  have hlen : (List.replicate (ndig N X) (Value.int 0 tk')).length ≤ 1000000 := by rw [List.length_replicate]; omega
  k_steps
  · rename Fr _ _ _ _ => F
    rename News _ _ _ _ => Nw
    rename a ≠ 0 => ha0
    refine Does.use (inner_call F Nw X' T' (tn := t2) (N := N) (Xn := X) (x := a) (k := ndig N X) (R := (List.replicate (ndig N X) (Value.int 0 tk')).length) (ns := List.replicate (ndig N X) 0) ?q1 A4 ?q2 ?q3 ?q4 hc' hn hn1 (ndig_pos hn0 (by first | with_reducible assumption | with_reducible exact lt_num (by with_reducible assumption) (Nat.le_of_ble_eq_true rfl) | with_reducible exact le_num (by with_reducible assumption) (Nat.le_of_ble_eq_true rfl) | with_reducible exact le_le (by with_reducible assumption) (Nat.le_of_ble_eq_true rfl) | omega)) (by rw [List.length_replicate]) ha (lt_ndig N X hn0) (by rw [List.length_replicate]) (by rw [List.length_replicate]; omega) (ints_rep _ _)) rfl ?q5 ?q6 ?_
    case q1 => exact ⟨by omega, by omega, by omega, by omega, by omega⟩
    case q2 => assumption
    case q3 => assumption
    case q4 => assumption
    case q5 => (first | exact room1 hd (Nat.le_of_ble_eq_true rfl) | exact room3 hu (Nat.le_of_ble_eq_true rfl) | (simp only [Around.deeper]; omega))
    case q6 => (first | exact room1 hd (Nat.le_of_ble_eq_true rfl) | exact room3 hu (Nat.le_of_ble_eq_true rfl) | (simp only [Around.deeper]; omega))
    rintro v h2 tk2 ⟨vs', nn', hi', F2, N2⟩
    clear F Nw
    k_steps
    (first | (k_unmd; k_unfold; try dsimp only) | (try dsimp only))
    rename Fr _ _ _ _ => F
    rename News _ _ _ _ => Nw
    exact Done.mk ⟨TabPost.of hT3 F Nw (fun p hp => by first | ((repeat with_reducible refine List.mem_cons_of_mem _ ?_); first | exact hp | exact List.mem_append_left _ hp | exact List.mem_append_right _ hp | exact List.mem_append_right _ (List.mem_append_left _ hp) | exact List.mem_append_right _ (List.mem_append_right _ hp) | exact List.mem_append_left _ (List.mem_append_right _ hp) | exact List.mem_append_right _ (List.mem_append_right _ (List.mem_append_left _ hp))) | simp [hp]) hsub, _, _, _, rfl, (Nw _ (List.mem_cons_of_mem _ (List.mem_cons_self ..))).1, new_none hT3 Nw (fun p hp => by first | ((repeat with_reducible refine List.mem_cons_of_mem _ ?_); first | exact hp | exact List.mem_append_left _ hp | exact List.mem_append_right _ hp | exact List.mem_append_right _ (List.mem_append_left _ hp) | exact List.mem_append_right _ (List.mem_append_right _ hp) | exact List.mem_append_left _ (List.mem_append_right _ hp) | exact List.mem_append_right _ (List.mem_append_right _ (List.mem_append_left _ hp))) | simp [hp]) hsub (List.mem_cons_of_mem _ (List.mem_cons_self ..)) notFld_list, hi'⟩
  · (first | (k_unmd; k_unfold; try dsimp only) | (try dsimp only))
    rename Fr _ _ _ _ => F
    rename News _ _ _ _ => Nw
    rename a = 0 => ha0
    have hX0 : X = 0 := by omega
    refine Done.mk ⟨TabPost.of hT3 F Nw (fun p hp => by first | ((repeat with_reducible refine List.mem_cons_of_mem _ ?_); first | exact hp | exact List.mem_append_left _ hp | exact List.mem_append_right _ hp | exact List.mem_append_right _ (List.mem_append_left _ hp) | exact List.mem_append_right _ (List.mem_append_right _ hp) | exact List.mem_append_left _ (List.mem_append_right _ hp) | exact List.mem_append_right _ (List.mem_append_right _ (List.mem_append_left _ hp))) | simp [hp]) hsub, _, _, _, rfl, (Nw _ (List.mem_cons_of_mem _ (List.mem_cons_self ..))).1, new_none hT3 Nw (fun p hp => by first | ((repeat with_reducible refine List.mem_cons_of_mem _ ?_); first | exact hp | exact List.mem_append_left _ hp | exact List.mem_append_right _ hp | exact List.mem_append_right _ (List.mem_append_left _ hp) | exact List.mem_append_right _ (List.mem_append_right _ hp) | exact List.mem_append_left _ (List.mem_append_right _ hp) | exact List.mem_append_right _ (List.mem_append_right _ (List.mem_append_left _ hp))) | simp [hp]) hsub (List.mem_cons_of_mem _ (List.mem_cons_self ..)) notFld_list, ?_⟩
    rw [hX0, digs_zero]
    exact ints_rep _ _
end Mine

end
section
-- D2i01
theorem Mine.fresh_D2i01 : True := by
  w_top off
  trivial
open PySem PySem.W PyProof.Rows PySem.Calls PySem.Builtin.Str
set_option maxRecDepth 100000
set_option maxHeartbeats 1000000
set_option pp.deepTerms false
namespace Mine
local macro_rules | `(tactic| k_room) => `(tactic| ((try simp only [Around.deeper, recursionLimit] at *); omega))
local macro_rules | `(tactic| k_units) => `(tactic| ((try simp only [Around.deeper, Around.in1, cLine] at *); omega))
local macro_rules | `(tactic| k_all) => `(tactic| first | with_reducible assumption | exact allLt_ne (by with_reducible assumption) | exact Low.ne (by with_reducible assumption) (by omega) | (exact Low.ne (by assumption) (by omega)))
noncomputable abbrev inner2D (w : World) : Option Stmt := (fnBody (hd01.heap_39 w.params) 73)[0]?
noncomputable def inner2Params (w : World) := defParams (inner2D w)
noncomputable def inner2Body (w : World) := defBody (inner2D w)
noncomputable def inner2Scope (w : World) := defScope (inner2D w)
noncomputable abbrev inner2Fn (w : World) (cl : List (Str × Addr)) (doc pm : Value) (c' : Addr) (ctv : Value) : Obj := fnMade "inner" "_digits2int.<locals>.inner" (inner2Params w) (inner2Body w) (inner2Scope w) cl doc pm c' ctv

section
local macro_rules | `(tactic| walk_at "eval Name") => `(tactic| (k_here; k_dflt (refine' nameX_FB ?k1 ?k2 ?k3 ?k4 ?_; (case k1 => k_asm); (case k2 => exact rfl); (case k3 => with_reducible assumption); (case k4 => with_reducible assumption); k_whole)))
local macro_rules | `(tactic| walk_at "binaryOp RShift int int") => `(tactic| (refine' rshiftG ?k1 ?_; (case k1 => decide); intro _ _ _ _))
local macro_rules | `(tactic| walk_at "callWith ref") => `(tactic| (k_here; k_dflt (refine' callWith_F ?k1 ?_; (case k1 => exact fnAt_keep (by k_asm) (by with_reducible assumption)); k_whole)))
local macro_rules | `(tactic| walk_at "FnAt") => `(tactic| exact fnAt_keep (by k_asm) (by with_reducible assumption))
local macro_rules | `(tactic| walk_at "subscriptTail Name Name ref int") => `(tactic| (k_here; (with_reducible show wpAny _ _ (subscriptTail _ _ (Value.ref _) (Value.int _ _)) _ _ _); k_dflt (refine' item_anyK ?k1 ?k2 ?k3 ?k4 ?k5 ?_ ?k7; (case k1 => exact stays_list (Fr.keep (by k_asm)) (by with_reducible assumption)); (case k2 => with_reducible assumption); (case k3 => omega); (case k4 => omega); (case k5 => omega); (case k7 => with_unfolding_all rfl)); intro _))

local macro_rules | `(tactic| walk_at "binaryOp LShift int int") => `(tactic| (refine' lshiftG ?k1 ?k2 ?_; (case k1 => with_reducible assumption); (case k2 => with_reducible assumption); intro _ _ _ _))

theorem inner2_spec {w : World} {B : Heap} {loose mean mg mb} {f cA cI cN D : Addr} {c' : Addr} {doc pm ctv : Value} {n : Int} {tn : Tok} {oA oI oN : Obj} {N : Nat} {vs : List Value} {ds : List Nat}
    (G : Gd (Mine.hd01.heap_39 w.params) loose mean mg mb B) (hf : B.get? f = some (inner2Fn w [("n", cN), ("inner", cI), ("digits", cA)] doc pm c' ctv)) (hcd : B.CodeRec (.ref c') "_digits2int.<locals>.inner")
    (hA : B.get? cA = some oA) (hA1 : oA.data = .cell (some (.ref D))) (hI : B.get? cI = some oI) (hI1 : oI.data = .cell (some (.ref f))) (hN : B.get? cN = some oN) (hN1 : oN.data = .cell (some (.int n tn)))
    (hnN : n = N) (hn1 : N ≤ 100) (hD : B.IsList D vs.toArray) (hi : IntsAre vs (castL ds)) (hds : ∀ d ∈ ds, d < 2 ^ N) (hns : (castL ds).length ≤ 200) :
    ∀ (k : Nat) (s : Shared) (L R : Int) (l : Nat) (tL tR : Tok), 1 ≤ k → L = l → R = L + k → l + k ≤ (castL ds).length → B.StaysIn s.heap →
    Does (model PySem.Challenge.rw_pg0310_01.row.prog w) (k + 5) (5 * k + 20) (call (.ref f) [.int L tL, .int R tR]) s
      (fun v h' => (∃ tk, v = .int (fromD (2 ^ N) ((ds.drop l).take k)) tk) ∧ s.heap.StaysIn h') := by
  have hfn : FnAt f B := ⟨_, _, _, _, hf⟩
  delta inner2Fn at hf
  conv at hf in (inner2Params w) => whnf
  conv at hf in (inner2Body w) => whnf
  conv at hf in (inner2Scope w) => whnf
  intro k
  induction k using Nat.strongRecOn with
  | ind k ih =>
  intro s L R l tL tR hk0 hL hR hlk hB d0 u0 fr gs hd hu
  revert G
  k_fill
  intro G
  refine' enterX (binds := [("L", .int L tL), ("R", .int R tR)]) G hB [] (List.forall_mem_nil _) hf hcd ?k8 ?k9 ?kB ?_ ?c2 ?c3 ?c4 ?c5; (case k8 => k_room); (case k9 => exact BindsTo.of_eq rfl); (case kB => exact locs rfl); (case c2 => exact rfl); (case c3 => exact rfl); (case c4 => exact rfl); (case c5 => decide)
  intro g' L' h' hg' F' N' l1 X' T' stB
  have st : s.heap.StaysIn g' := by rw [hg']; exact fun _ _ e => e
  clear hg'
  (try dsimp only)
  have hA' := stB _ _ hA
  have hI' := stB _ _ hI
  have hN' := stB _ _ hN
  have hfn' : FnAt f g' := let ⟨a, b, c, d, e⟩ := hfn; ⟨a, b, c, d, stB _ _ e⟩
  have hD' := stays_list stB hD
  have hM : ∀ M : Int, M = (L + R).fdiv (2 ^ Int.toNat 1) → M = ((l + k / 2 : Nat) : Int) := by
    intro M hM
    rw [hM, hR, hL]
    rw [Int.fdiv_eq_ediv_of_nonneg _ (by decide)]
    exact half_mid l k
  have hs1 : ∀ M : Int, M = (L + R).fdiv (2 ^ Int.toNat 1) → (M - L) * n = ((N * (k / 2) : Nat) : Int) := by
    intro M h
    rw [hM M h, hL, hnN, Int.natCast_mul, Int.mul_comm]
    exact congrArg _ (half_dif l k)
  clear hA hI hN hD
  (try k_fold)
  have hlen : (castL ds).length = ds.length := castL_length ds
  k_steps
  · (first | (k_unmd; k_unfold; try dsimp only) | (try dsimp only))
    rename Fr _ _ _ _ => F
    rename L + 1 = R => h1
    have hk1 : k = 1 := half_one hR h1
    subst hk1
    refine Done.mk ⟨⟨_, congrArg (fun z => Value.int z _) ?_⟩, fun b o e => F.keep b o (st b o e)⟩
    rw [castL_getD, fromD_one _ _ _ (by (first | lia | omega)), show L.toNat = l by (first | lia | omega)]
  · rename Fr _ _ _ _ => F
    rename News _ _ _ _ => Nw
    rename _ = Int.fdiv (L + R) _ => hM1
    rename L + 1 ≠ R => hne
    have eM := hM _ hM1
    have es := hs1 _ hM1
    have hk2 := half_two hk0 hR hne
    obtain ⟨b1, b2, b3, b4, b5, b6⟩ := half_k hk2
    obtain ⟨n1, n2, n3⟩ := half_n hlk
    obtain ⟨r1, r2⟩ := half_d hd hk2
    obtain ⟨u1, u2⟩ := half_u hu hk2
    obtain ⟨e1, e2⟩ := half_ends hL hR eM
    obtain ⟨m1, m2⟩ := half_min hlk
    rw [hlen] at m1 m2
    have hs0 := nn_of es
    have hlt2 := fromD_lt (2 ^ N) ((ds.drop (l + k / 2)).take (k - k / 2)) fun d hd => hds d (List.mem_of_mem_drop (List.mem_of_mem_take hd))
    rw [← Nat.pow_mul] at hlt2
    have hb2 := bits_nat_le hlt2
    rw [List.length_take, List.length_drop, Nat.min_eq_left (by first | with_reducible assumption | (first | lia | omega))] at hb2
    have hN2 : N * (k / 2) ≤ 20000 := Nat.le_trans (Nat.mul_le_mul hn1 (half_200 hlk hns).2.1) (by decide)
    have hN3 : N * (k - k / 2) ≤ 20000 := Nat.le_trans (Nat.mul_le_mul hn1 (half_200 hlk hns).2.2) (by decide)
    have hz := sz_of es hb2 (by first | with_reducible assumption | (first | lia | omega))
    refine Does.use (ih (k - k / 2) (by first | with_reducible assumption | (first | lia | omega)) _ _ _ (l + k / 2) _ _ (by first | with_reducible assumption | (first | lia | omega)) eM (by first | with_reducible assumption | (first | lia | omega)) (by first | with_reducible assumption | (first | lia | omega)) (fun b o e => F.keep b o (stB b o e))) rfl (by simp only [Around.deeper]; first | with_reducible assumption | (first | lia | omega)) (by simp only [Around.deeper]; first | with_reducible assumption | (first | lia | omega)) ?_
    rintro v h2 tk2 ⟨⟨tkv, rfl⟩, keep1⟩
    replace F := F.keeps keep1
    replace Nw := Nw.grown keep1
    k_steps
    rename Fr _ _ _ _ => F
    rename News _ _ _ _ => Nw
    rename _ = _ * 2 ^ _ => hS1
    refine Does.use (ih (k / 2) (by first | with_reducible assumption | (first | lia | omega)) _ _ _ l _ _ (by first | with_reducible assumption | (first | lia | omega)) hL (by first | with_reducible assumption | (first | lia | omega)) (by first | with_reducible assumption | (first | lia | omega)) (fun b o e => F.keep b o (stB b o e))) rfl (by simp only [Around.deeper]; first | with_reducible assumption | (first | lia | omega)) (by simp only [Around.deeper]; first | with_reducible assumption | (first | lia | omega)) ?_
    rintro v h3 tk3 ⟨⟨tkw, rfl⟩, keep2⟩
    replace F := F.keeps keep2
    replace Nw := Nw.grown keep2
    k_steps
    (first | (k_unmd; k_unfold; try dsimp only) | (try dsimp only))
    refine Done.mk ⟨⟨_, congrArg (fun z => Value.int z _) ?_⟩, fun b o e => F.keep b o (st b o e)⟩
    rw [hS1, es, Int.toNat_natCast, two_pow_cast, ← Int.natCast_mul, ← Int.natCast_add]
    congr 1
    have e := fromD_append (2 ^ N) ((ds.drop l).take (k / 2)) ((ds.drop (l + k / 2)).take (k - k / 2))
    rw [← take_two, b5, List.length_take, List.length_drop, Nat.min_eq_left (by first | with_reducible assumption | (first | lia | omega)), ← Nat.pow_mul] at e
    rw [e, Nat.mul_comm, Nat.add_comm]
end

local macro_rules | `(tactic| walk_at "call builtin:len") => `(tactic| (k_here; (with_reducible show wpAny _ _ (call (Value.builtin "len") [Value.ref _]) _ _ _); k_dflt (refine' lenB ?k1 ?k2 ?k3 ?_; (case k1 => k_asm); (case k2 => with_reducible assumption); (case k3 => assumption); k_whole); intro _ _))
local macro_rules | `(tactic| walk_at "truthy ref") => `(tactic| (k_here; k_dflt (refine' truthyB ?k1 ?k2 ?k3 ?_; (case k1 => k_asm); (case k2 => with_reducible assumption); (case k3 => assumption); k_whole); intro _))

theorem inner2_call {w : World} {s : Shared} {g : Heap} {L : Addr} {m : Str → Option Value} {loose mean mg mb} {f D c1 c2 c3 : Addr} {o1 o2 o3 : Obj} {c' : Addr} {doc pm ctv : Value} {n : Int} {tn : Tok} {N : Nat} {vs : List Value} {ds : List Nat} {tl2 : List (Addr × Obj)}
    (F : Fr g L s.heap m) (Nw : News g L s.heap ((f, inner2Fn w [("n", c2), ("inner", c3), ("digits", c1)] doc pm c' ctv) :: (c3, o3) :: (c2, o2) :: (c1, o1) :: tl2))
    (X : (hd01.heap_39 w.params).In g) (T : Top topProg loose mean mg mb g) (hD : g.IsList D vs.toArray)
    (h1 : o1.data = .cell (some (.ref D))) (h3 : o3.data = .cell (some (.ref f))) (h2 : o2.data = .cell (some (.int n tn)))
    (hc' : ∃ oc cvs t, (c', oc) ∈ tl2 ∧ oc.data = .fields cvs ∧ cvs[1]? = some (.str "_digits2int.<locals>.inner" t)) (hnN : n = N) (hn1 : N ≤ 100) (hi : IntsAre vs (castL ds)) (hds : ∀ d ∈ ds, d < 2 ^ N) (hns : ds.length ≤ 200)
    {R : Int} {tL tR : Tok} (hR : R = ds.length) (hk : 1 ≤ ds.length) :
    Does (model PySem.Challenge.rw_pg0310_01.row.prog w) (ds.length + 5) (5 * ds.length + 20) (call (.ref f) [.int 0 tL, .int R tR]) s
      (fun v h' => (∃ tk, v = .int (fromD (2 ^ N) ds) tk) ∧ s.heap.StaysIn h') := by
  obtain ⟨oc, cvs, ct, hcm, hcd, hcv⟩ := hc'
  have get : ∀ {b : Addr} {o : Obj}, (b, o) ∈ _ → s.heap.get? b = some o := fun {b o} hm => (Nw (b, o) hm).1
  have := inner2_spec (B := s.heap) ⟨X.keeps F.keep, T.keeps F.keep⟩ (get (List.mem_cons_self ..)) ⟨c', oc, cvs, ct, rfl, get (by simp [hcm]), hcd, hcv⟩ (get (b := c1) (by simp)) h1 (get (b := c3) (by simp)) h3 (get (b := c2) (by simp)) h2
    hnN hn1 (stays_list F.keep hD) hi hds (by rw [castL_length]; exact hns) ds.length s 0 R 0 tL tR hk rfl (by (first | lia | omega)) (by rw [castL_length]; (first | lia | omega)) (fun _ _ e => e)
  rw [List.drop_zero, List.take_length] at this
  exact this

theorem d2i_spec {w : World} {s : Shared} {B : Heap} {loose mean mg mb} {n : Int} {N D nn : Nat} {t2 : Tok} {tl : List (Addr × Obj)} {vs : List Value} {ds : List Nat}
    (G : Gd (Mine.hd01.heap_39 w.params) loose mean mg mb B) (hB : B.StaysIn s.heap) (hS : TabS S1 S2 tl) (htl : ∀ p ∈ tl, s.heap.get? p.1 = some p.2 ∧ B.get? p.1 = none)
    (hD : s.heap.get? D = some (listOf vs.toArray nn)) (hi : IntsAre vs (castL ds)) (hds : ∀ d ∈ ds, d < 2 ^ N) (hns : ds.length ≤ 150) (hn : n = N) (hn1 : N ≤ 100) :
    Does (model PySem.Challenge.rw_pg0310_01.row.prog w) 170 800 (call (.ref 73) [.ref D, .int n t2]) s
      (fun v h' => TabPost S1 S2 tl s.heap h' ∧ ∃ tk, v = .int (fromD (2 ^ N) ds) tk) := by
  intro d0 u0 fr gs hd hu
  revert G
  k_fill
  intro G
  refine' enterC (binds := [("digits", .ref D), ("n", .int n t2)]) G hB tl htl ?k6 ?k7 ?k8 ?k9 ?kB ?kD ?_ ?c2 ?c3 ?c4; (case k6 => k_is); (case k7 => k_is); (case k8 => k_room); (case k9 => exact BindsTo.of_eq rfl);  (case kB => exact rfl); (case kD => decide +kernel); (case c2 => exact rfl); (case c3 => exact rfl); (case c4 => exact rfl)
  intro g' L' h' tk' cells' hg' F' N' Y' l1 X' T'
  subst hg'
  have hD0 : D ∉ tl.map (·.1) := fun q => by
    obtain ⟨p, hp, rfl⟩ := List.mem_map.mp q
    have h1 := (htl p hp).1
    rw [hD] at h1
    obtain ⟨fs, hf⟩ := hS.fld p hp
    rw [← Option.some.inj h1] at hf
    cases hf
  have hD1 : (hideAll s.heap (tl.map (·.1))).IsList D vs.toArray := ⟨_, hideAll_get _ hD hD0, rfl, _, rfl⟩
  have C1 : CodeHd (hideAll s.heap (tl.map (·.1))) 72 68 := codeHd_of_K X' rfl
  k_cells Y'
  (try simp only [List.cons_append, List.nil_append] at N')
  (try dsimp only)
  (try k_fold)
  refine wpAny_execs_cons ?_
  k_dflt (refine' nestDef_K ?d0 ?k0 ?a0 ?_; (case d0 => exact rfl); (case k0 => exact rfl); (case a0 => exact rfl))
  refine nest2 (S := S1) (T := S2) [_, _, _] (by k_asm) (by k_asm) T' C1 rfl hS (by decide) ?_ rfl rfl rfl ?_
  · (repeat' (first | exact List.forall_mem_nil _ | refine List.forall_mem_cons.mpr ⟨?_, ?_⟩)) <;> (intro vs hvs; first | (cases hvs; done) | (simp_all; done))
  intro f c' tl2 ctv doc h' tk hT3 hc' hsub F' N' l1 hlow
  (try simp only [List.cons_append, List.nil_append] at N' l1)
  (try k_lt l1)
  (try k_sweep)
  (try dsimp only)
  have A1 := tail_ne (d := L' + 1 + 1 + 1) N' hT3 (fun p hp => by simp [hp]) (by k_mem) (notFld_cell (by assumption))
  have A2 := tail_ne (d := L' + 1 + 1) N' hT3 (fun p hp => by simp [hp]) (by k_mem) (notFld_cell (by assumption))
  have A3 := tail_ne (d := L' + 1) N' hT3 (fun p hp => by simp [hp]) (by k_mem) (notFld_cell (by assumption))
  have hvl : vs.length ≤ 1000000 := by rw [hi.length, castL_length]; (first | lia | omega)
  have hvl2 : vs.length = ds.length := by rw [hi.length, castL_length]
  k_steps
  · rename Fr _ _ _ _ => F
    rename News _ _ _ _ => Nw
    rename 0 < vs.length => hpos
    refine Does.use (inner2_call F Nw X' T' (tn := t2) (N := N) (ds := ds) hD1 ?q2 ?q3 ?q4 hc' hn hn1 hi hds (by (first | lia | omega)) (by rw [hvl2]) (by (first | lia | omega))) rfl ?q5 ?q6 ?_
    case q2 => assumption
    case q3 => assumption
    case q4 => assumption
    case q5 => simp only [Around.deeper]; (first | lia | omega)
    case q6 => simp only [Around.deeper]; (first | lia | omega)
    rintro v h2 tk2 ⟨⟨tkv, rfl⟩, keep⟩
    replace F := F.keeps keep
    replace Nw := Nw.grown keep
    k_steps
    (first | (k_unmd; k_unfold; try dsimp only) | (try dsimp only))
    exact Done.mk ⟨TabPost.of hT3 F Nw (fun p hp => by simp [hp]) hsub, _, rfl⟩
  · (first | (k_unmd; k_unfold; try dsimp only) | (try dsimp only))
    rename Fr _ _ _ _ => F
    rename News _ _ _ _ => Nw
    rename ¬ 0 < vs.length => hpos
    refine Done.mk ⟨TabPost.of hT3 F Nw (fun p hp => by simp [hp]) hsub, _, congrArg (fun z => Value.int z _) ?_⟩
    rw [show ds = [] from List.length_eq_zero_iff.mp (by (first | lia | omega))]
    rfl
end Mine

end
section
-- Div01
theorem Mine.fresh_Div01 : True := by
  w_top off
  trivial
open PySem PySem.W PyProof.Rows PySem.Calls PySem.Builtin.Str
set_option maxRecDepth 100000
set_option maxHeartbeats 1000000
set_option pp.deepTerms false
namespace Mine
local macro_rules | `(tactic| k_room) => `(tactic| ((try simp only [Around.deeper, recursionLimit] at *); omega))
local macro_rules | `(tactic| k_units) => `(tactic| ((try simp only [Around.deeper, Around.in1, cLine] at *); omega))
local macro_rules | `(tactic| k_all) => `(tactic| first | with_reducible assumption | exact allLt_ne (by with_reducible assumption) | exact Low.ne (by with_reducible assumption) (by omega) | (exact Low.ne (by assumption) (by omega)))

local macro_rules | `(tactic| walk_at "call builtin:divmod") => `(tactic| (k_here; (with_reducible show wpAny _ _ (call (Value.builtin _) [Value.int _ _, Value.int _ _]) _ _ _); k_dflt (refine' divmodK ?k1 ?k2 ?k3 ?k4 ?_; (case k1 => k_asm); (case k2 => k_asm); (case k3 => assumption); (case k4 => assumption)); intro T' h' _ _ _ F' N' l1; (try k_lt l1); (try k_sweep)))
theorem none_of {h g : Heap} {a : Addr} (st : h.StaysIn g) (e : g.get? a = none) : h.get? a = none := by
  cases q : h.get? a with
  | none => rfl
  | some o => have := st _ _ q; rw [e] at this; cases this
theorem div2_spec {w : World} {s : Shared} {B : Heap} {loose mean mg mb} {a b n : Int} {t1 t2 t3 : Tok} {An Bn N : Nat}
    (G : Gd (Mine.hd01.heap_39 w.params) loose mean mg mb B) (hB : B.StaysIn s.heap) (ha : a = An) (ha1 : An < 2 ^ 300) (hb : b = Bn) (hb0 : 1 ≤ Bn) (hb1 : Bn < 2 ^ 300) (hn : n = (N : Nat)) :
    Does (model PySem.Challenge.rw_pg0310_01.row.prog w) 5 20 (call (.ref 52) [.int a t1, .int b t2, .int n t3]) s
      (fun v h' => s.heap.StaysIn h' ∧ ∃ T n0 tq tr, v = .ref T ∧ h'.get? T = some ({ cls := .type "tuple", data := .seq #[.int ((An / Bn : Nat) : Int) tq, .int ((An % Bn : Nat) : Int) tr] n0 } : Obj) ∧ s.heap.get? T = none) := by
  intro d0 u0 fr gs hd hu
  revert G
  k_fill
  intro G
  refine' enter (binds := [("a", .int a t1), ("b", .int b t2), ("n", .int n t3)]) G hB [] (List.forall_mem_nil _) ?k6 ?k7 ?k8 ?k9 ?kB ?_ ?c2 ?c3 ?c4 ?c5; (case k6 => k_is); (case k7 => k_is); (case k8 => k_room); (case k9 => exact BindsTo.of_eq rfl);  (case c5 => decide); (case kB => exact locs rfl); (case c2 => exact rfl); (case c3 => exact rfl); (case c4 => exact rfl)
  intro g' L' h' hg' F' N' _ X' T'
  have st : s.heap.StaysIn g' := by rw [hg']; exact fun _ _ e => e
  have hb00 : b ≠ 0 := by (first | lia | omega)
  have hbits : (Builtin.Int.intBits a : Int) - n ≤ 4000 := by
    have := bits_nat_le ha1
    rw [ha]; (first | lia | omega)
  have hbs : b.natAbs < 2 ^ 300 := by rw [hb, Int.natAbs_natCast]; exact hb1
  clear hg'
  (try dsimp only)
  (try k_fold)
  k_steps
  (first | (k_unmd; k_unfold; try dsimp only) | (try dsimp only))
  rename Fr _ _ _ _ => F
  rename News _ _ _ _ => Nw
  have z := Nw _ (List.mem_cons_self ..)
  have hT := none_of st z.2.2
  have z1 := z.1
  dsimp only at z1
  rw [ha, hb, fdiv_nat, fmod_nat] at z1
  exact Done.mk ⟨fun b o e => F.keep b o (st b o e), _, _, _, _, rfl, z1, hT⟩

theorem digs_get (b : Nat) : ∀ (k x j : Nat), j < k → (digs b k x)[j]? = some (((x / b ^ j) % b : Nat) : Int)
  | 0, _, _, h => absurd h (Nat.not_lt_zero _)
  | k + 1, x, 0, _ => by simp [digs]
  | k + 1, x, j + 1, h => by
    rw [digs, List.getElem?_cons_succ, digs_get b k (x / b) j (by first | with_reducible assumption | with_reducible exact lt_num (by with_reducible assumption) (Nat.le_of_ble_eq_true rfl) | with_reducible exact le_num (by with_reducible assumption) (Nat.le_of_ble_eq_true rfl) | with_reducible exact le_le (by with_reducible assumption) (Nat.le_of_ble_eq_true rfl) | (first | lia | omega)), Nat.div_div_eq_div_mul, Nat.pow_succ']

/-- the state of the division's loop: what is divided so far, the quotient's digits, the rest -/
def DivSt (b K A B i : Nat) (qs : List Nat) (r : Nat) : Prop :=
  r = A / b ^ (K - i) % B ∧ fromD b qs.reverse = A / b ^ (K - i) / B ∧ (∀ q ∈ qs, q < b) ∧ qs.length = i
theorem DivSt.start {b K A B : Nat} (h : A < b ^ K) : DivSt b K A B 0 [] 0 := by
  refine ⟨?_, ?_, List.forall_mem_nil _, rfl⟩
  · rw [Nat.sub_zero, Nat.div_eq_of_lt h, Nat.zero_mod]
  · rw [Nat.sub_zero, Nat.div_eq_of_lt h, Nat.zero_div]; rfl
theorem DivSt.step {b K A B i r : Nat} {qs : List Nat} (h : DivSt b K A B i qs r) (hi : i < K) (hB : 0 < B) (hb : 0 < b) :
    DivSt b K A B (i + 1) (qs ++ [(r * b + A / b ^ (K - 1 - i) % b) / B]) ((r * b + A / b ^ (K - 1 - i) % b) % B) := by
  obtain ⟨h1, h2, h3, h4⟩ := h
  have e : K - i = (K - 1 - i) + 1 := by (first | lia | omega)
  have e2 : K - (i + 1) = K - 1 - i := by (first | lia | omega)
  have ex : A / b ^ (K - i) = A / b ^ (K - 1 - i) / b := by rw [e, Nat.pow_succ, Nat.div_div_eq_div_mul]
  rw [DivSt, e2]
  generalize A / b ^ (K - 1 - i) = X at *
  rw [ex] at h1 h2
  have hX := Nat.div_add_mod X b
  have hY := Nat.div_add_mod (X / b) B
  have hr : r < B := by rw [h1]; exact Nat.mod_lt _ hB
  have eX : X = B * (b * (X / b / B)) + (r * b + X % b) := by
    rw [h1, Nat.mul_left_comm, Nat.mul_comm (X / b % B) b, ← Nat.add_assoc, ← Nat.mul_add, hY, hX]
  refine ⟨?_, ?_, ?_, ?_⟩
  · conv => rhs; rw [eX]
    rw [Nat.mul_add_mod]
  · rw [List.reverse_append, List.reverse_singleton, List.singleton_append, fromD, h2]
    conv => rhs; rw [eX]
    rw [Nat.mul_add_div hB, Nat.add_comm]
  · intro q hq
    rcases List.mem_append.mp hq with hq | hq
    · exact h3 q hq
    · rw [List.mem_singleton.mp hq]
      rw [Nat.div_lt_iff_lt_mul hB]
      have h5 : X % b < b := Nat.mod_lt _ hb
      have h6 : (r + 1) * b ≤ B * b := Nat.mul_le_mul_right b hr
      rw [Nat.add_mul, Nat.one_mul, Nat.mul_comm B b] at h6
      (first | lia | omega)
  · rw [List.length_append, h4]; rfl
end Mine

end
section
-- Pos01
theorem Mine.fresh_Pos01 : True := by
  w_top off
  trivial
open PySem PySem.W PyProof.Rows PySem.Calls PySem.Builtin.Str
set_option maxRecDepth 100000
set_option maxHeartbeats 1000000
set_option pp.deepTerms false
namespace Mine
local macro_rules | `(tactic| k_room) => `(tactic| ((try simp only [Around.deeper, recursionLimit] at *); omega))
local macro_rules | `(tactic| k_units) => `(tactic| ((try simp only [Around.deeper, Around.in1, cLine] at *); omega))
local macro_rules | `(tactic| k_all) => `(tactic| first | with_reducible assumption | exact allLt_ne (by with_reducible assumption) | exact Low.ne (by with_reducible assumption) (by omega) | (exact Low.ne (by assumption) (by omega)))
local macro_rules | `(tactic| walk_at "eval Name") => `(tactic| (k_here; k_dflt (refine' ld ?k1 ?k2 ?_; (case k1 => k_asm); (case k2 => first | exact rfl | assumption); k_whole)))
local macro_rules | `(tactic| walk_at "call type:reversed") => `(tactic| (k_here; (with_reducible show wpAny _ _ (call (Value.type "reversed") [Value.ref _]) _ _ _); k_dflt (refine' krv_reversed ?k1 ?k2 ?k3 ?_; (case k1 => k_asm); (case k2 => k_asm); (case k3 => exact News.isList (by k_asm) (by k_mem))); intro D' h' F' N' l1; (try k_lt l1); (try k_sweep)))

theorem for_anyF {prog : Program} {w : World} {A : Around} {E : Value → Shared → Prop} {s : Shared} {env : Env} {h₀ : Heap} {L : Addr} {m : Str → Option Value} {Q : Flow → Shared → Prop} {target iter : Expr} {body : List Stmt} {pos : Pos} (_F : Fr h₀ L s.heap m)
    (h : wpAny (model prog w) A (eval iter env) (fun x s₁ => wpAny (model prog w) A (pyIter x) (fun it s₂ => LoopAny prog w A h₀ env target body Q E it s₂) E s₁) E s)
    (hs : ∀ x, foldedSetIterable iter env x = pure x := by intro _; rfl)
    (hE : PassesOwn (model prog w) A env E := by passes_own) :
    wpAny (model prog w) A (exec (.For target iter body [] pos) env) Q E s := for_any h₀ h hs hE
local macro_rules | `(tactic| walk_at "exec For Name Call cons nil") => `(tactic| (k_here; k_dflt (refine' for_anyF ?k1 ?_ ?k2 ?k3; (case k1 => k_asm); (case k2 => (intro _; rfl)); (case k3 => passes_own))))
theorem reverseK {prog : Program} {w : World} {A : Around} {E : Value → Shared → Prop} {s : Shared} {h₀ : Heap} {L D : Addr} {m : Str → Option Value} {news news' : List (Addr × Obj)} {n : Nat} {vs : List Value} {Q : Value → Shared → Prop} (F : Fr h₀ L s.heap m) (N : News h₀ L s.heap news)
    (U : Upd D (listOf vs.toArray n) (listOf vs.reverse.toArray n) news news') (hsz : vs.length ≤ 1000000)
    (h : ∀ h', Fr h₀ L h' m → News h₀ L h' news' → Q .none { s with heap := h' }) : wpAny (model prog w) A (call (.builtin "list.reverse") [.ref D]) Q E s := by
  exact kl_reverse F N rfl U (by rw [sizeLine_eq]; show vs.length ≤ _; (first | lia | omega)) h
theorem news_drop3 {g h : Heap} {L : Addr} {a b c : Addr × Obj} {r : List (Addr × Obj)} (N : News g L h (a :: b :: c :: r)) : News g L h (a :: b :: r) := fun p hp => N p (by
  rcases List.mem_cons.mp hp with rfl | hp
  · exact List.mem_cons_self ..
  · rcases List.mem_cons.mp hp with rfl | hp
    · exact List.mem_cons_of_mem _ (List.mem_cons_self ..)
    · exact List.mem_cons_of_mem _ (List.mem_cons_of_mem _ (List.mem_cons_of_mem _ hp)))
theorem news_new {g h h' : Heap} {L D : Addr} {m : Str → Option Value} {o : Obj} {n : List (Addr × Obj)} (F : Fr g L h m) (hn : h.get? D = none) (hD : h'.get? D = some o) (N : News g L h' n) : News g L h' ((D, o) :: n) := fun p hp => by
  rcases List.mem_cons.mp hp with rfl | hp
  · refine ⟨hD, fun e => ?_, none_of F.keep hn⟩
    obtain ⟨oL, _, _, hL, _⟩ := F.ns
    dsimp only at e
    rw [e, hL] at hn; cases hn
  · exact N p hp
theorem tabs_at {g h : Heap} {L : Addr} {n tl : List (Addr × Obj)} (N : News g L h n) (hm : ∀ p ∈ tl, p ∈ n) : ∀ p ∈ tl, h.get? p.1 = some p.2 ∧ g.get? p.1 = none := fun p hp => ⟨(N p (hm p hp)).1, (N p (hm p hp)).2.2⟩
theorem sub_trans {tl tl2 tl3 : List (Addr × Obj)} (h1 : ∀ a ∈ tl.map (·.1), a ∈ tl2.map (·.1)) (h2 : ∀ a ∈ tl2.map (·.1), a ∈ tl3.map (·.1)) : ∀ a ∈ tl.map (·.1), a ∈ tl3.map (·.1) := fun a h => h2 a (h1 a h)

local macro_rules | `(tactic| walk_at "binaryOp LShift int int") => `(tactic| (refine' lshiftG ?k1 ?k2 ?_; (case k1 => with_reducible assumption); (case k2 => with_reducible assumption); intro _ _ _ _))
local macro_rules | `(tactic| walk_at "call builtin:list.reverse") => `(tactic| (k_here; (with_reducible show wpAny _ _ (call (Value.builtin _) [Value.ref _]) _ _ _); k_dflt (refine' reverseK ?k1 ?k2 ?k3 ?k4 ?_; (case k1 => k_asm); (case k2 => k_asm); (case k3 => k_upd); (case k4 => omega)); intro h' F' N'; (try k_sweep)))
inductive PosJ (D : Addr) (tl2 : List (Addr × Obj)) (b : Int) (An Bn : Nat) (t2 : Tok) (i : Nat) (m : Str → Option Value) (nx : List (Addr × Obj)) : Prop
  | mk (Qd : Addr) (qvs : List Value) (qn : Nat) (qs : List Nat) (r : Nat) (tr : Tok) (tn : Tok) (q1 : nx = (Qd, listOf qvs.toArray qn) :: tl2) (q2 : Qd ≠ D) (q3 : IntsAre qvs (castL qs)) (q4 : DivSt (2 ^ Builtin.Int.intBits b) (ndig (Builtin.Int.intBits b) An) An Bn i qs r) (q5 : m "q_digits" = some (.ref Qd)) (q6 : m "r" = some (.int (r : Nat) tr)) (q7 : m "n" = some (.int (Builtin.Int.intBits b) tn)) (q8 : m "b" = some (.int b t2)) : PosJ D tl2 b An Bn t2 i m nx
theorem pos_spec {w : World} {s : Shared} {B : Heap} {loose mean mg mb} {a b : Int} {An Bn : Nat} {t1 t2 : Tok} {tl : List (Addr × Obj)}
    (G : Gd (Mine.hd01.heap_39 w.params) loose mean mg mb B) (hB : B.StaysIn s.heap) (hS : TabS S1 S2 tl) (htl : ∀ p ∈ tl, s.heap.get? p.1 = some p.2 ∧ B.get? p.1 = none)
    (ha : a = An) (ha1 : An < 2 ^ 150) (hb : b = Bn) (hb0 : 1 ≤ Bn) (hb1 : Bn < 2 ^ 100) :
    Does (model PySem.Challenge.rw_pg0310_01.row.prog w) 180 820 (call (.ref 80) [.int a t1, .int b t2]) s
      (fun v h' => TabPost S1 S2 tl s.heap h' ∧ ∃ T n0 tq tr, v = .ref T ∧ h'.get? T = some ({ cls := .type "tuple", data := .seq #[.int ((An / Bn : Nat) : Int) tq, .int ((An % Bn : Nat) : Int) tr] n0 } : Obj) ∧ s.heap.get? T = none) := by
  intro d0 u0 fr gs hd hu
  revert G
  k_fill
  intro G
  refine' enter (binds := [("a", .int a t1), ("b", .int b t2)]) G hB tl htl ?k6 ?k7 ?k8 ?k9 ?kB ?_ ?c2 ?c3 ?c4 ?c5; (case k6 => k_is); (case k7 => k_is); (case k8 => k_room); (case k9 => exact BindsTo.of_eq rfl);  (case c5 => decide); (case kB => exact locs rfl); (case c2 => exact rfl); (case c3 => exact rfl); (case c4 => exact rfl)
  intro g' L' h' hg' F' N' hlow X' T'
  subst hg'
  have hlow : Low L' tl := hlow
  (try dsimp only)
  (try k_fold)
  k_steps
  rename Fr _ _ _ _ => F
  rename News _ _ _ _ => Nw
  have hN0 : 1 ≤ Builtin.Int.intBits b := by
    rcases Nat.eq_zero_or_pos (Builtin.Int.intBits b) with h | h
    · have := (intBits_le_iff (m := 0) (x := b)).mp (by first | with_reducible assumption | with_reducible exact lt_num (by with_reducible assumption) (Nat.le_of_ble_eq_true rfl) | with_reducible exact le_num (by with_reducible assumption) (Nat.le_of_ble_eq_true rfl) | with_reducible exact le_le (by with_reducible assumption) (Nat.le_of_ble_eq_true rfl) | (first | lia | omega))
      rw [hb, Int.natAbs_natCast] at this
      (first | lia | omega)
    · exact h
  have hN1 : Builtin.Int.intBits b ≤ 100 := by rw [hb]; exact bits_nat_le hb1
  have hBb : Bn < 2 ^ Builtin.Int.intBits b := by
    have := (intBits_le_iff (m := Builtin.Int.intBits b) (x := b)).mp (Nat.le_refl _)
    rwa [hb, Int.natAbs_natCast, ← hb] at this
  refine Does.use (i2d_spec ⟨X', T'⟩ F.keep hS (tabs_at Nw fun p hp => hp) ha ha1 (N := Builtin.Int.intBits b) rfl hN0 hN1) rfl (by first | exact room1 hd (Nat.le_of_ble_eq_true rfl) | exact room3 hu (Nat.le_of_ble_eq_true rfl) | (simp only [Around.deeper]; (first | lia | omega))) (by first | exact room1 hd (Nat.le_of_ble_eq_true rfl) | exact room3 hu (Nat.le_of_ble_eq_true rfl) | (simp only [Around.deeper]; (first | lia | omega))) ?_
  rintro v h2 tk2 ⟨hP, D, vs, nn, rfl, hD, hD0, hi⟩
  obtain ⟨tl2, hS2, F2, N2, hsub2, keep2⟩ := hP.back hS F Nw fun tl' => ⟨_, .nil⟩
  have N3 := news_new F hD0 hD (N2 _ .nil)
  have A1 := tail_ne N3 hS2 (fun p hp => by first | ((repeat with_reducible refine List.mem_cons_of_mem _ ?_); first | exact hp | exact List.mem_append_left _ hp | exact List.mem_append_right _ hp | exact List.mem_append_right _ (List.mem_append_left _ hp) | exact List.mem_append_right _ (List.mem_append_right _ hp) | exact List.mem_append_left _ (List.mem_append_right _ hp) | exact List.mem_append_right _ (List.mem_append_right _ (List.mem_append_left _ hp))) | simp [hp]) (List.mem_cons_self ..) notFld_list
  clear F Nw N2 keep2 hP hD hD0
  (try dsimp only)
  k_steps
  rename Fr _ _ _ _ => F
  rename News _ _ _ _ => Nw
  have z1 := Nw (D, listOf vs.toArray nn) (by first | ((repeat (first | with_reducible exact List.mem_cons_self .. | with_reducible refine List.mem_cons_of_mem _ ?_)); done) | simp)
  refine iter_rev (vs := vs) (PosJ D tl2 b An Bn t2) rfl F (news_drop3 Nw) ?_ ⟨_, z1.1, rfl, _, rfl⟩ ?_ z1.2.1 ?_ ?_ ?_ ?ht
  case ht => intro _ _; rfl
  · rename _ ∧ _ ∧ AllLt _ tl2 => l9
    exact List.forall_mem_cons.mpr ⟨Nat.ne_of_lt l9.1, allLt_ne l9.2.2⟩
  · rename _ ∧ _ ∧ AllLt _ tl2 => l9
    exact Nat.ne_of_lt l9.2.1
  · rename _ ∧ AllLt _ tl2 => l9
    have hne0 := Nat.ne_of_gt l9.1
    exact ⟨_, [], _, [], 0, _, _, rfl, hne0, .nil, DivSt.start (lt_ndig _ _ hN0), rfl, rfl, rfl, rfl⟩
  · clear z1 F Nw
    rintro i v m₁ nx h tk own hi1 hv ⟨Qd, qvs, qn, qs, r, tr, tn, rfl, hQD, hq, hst, m1, m2, m3, m4⟩ hI hown F Nw
    obtain ⟨rest, hrest⟩ : ∃ r, r = tl2 ++ own := ⟨_, rfl⟩
    have F : Fr (hideAll s.heap (tl.map (·.1))) L' h m₁ := F
    have Nw : News (hideAll s.heap (tl.map (·.1))) L' h ((Qd, listOf qvs.toArray qn) :: rest) := by rw [hrest]; exact Nw
    have A2 := tail_ne Nw hS2 (fun p hp => by rw [hrest]; first | ((repeat with_reducible refine List.mem_cons_of_mem _ ?_); first | exact hp | exact List.mem_append_left _ hp | exact List.mem_append_right _ hp | exact List.mem_append_right _ (List.mem_append_left _ hp) | exact List.mem_append_right _ (List.mem_append_right _ hp) | exact List.mem_append_left _ (List.mem_append_right _ hp) | exact List.mem_append_right _ (List.mem_append_right _ (List.mem_append_left _ hp))) | simp [hp]) (List.mem_cons_self ..) notFld_list
    have hvl : vs.length = ndig (Builtin.Int.intBits b) An := by rw [hi.length, digs_length]
    obtain ⟨x, t, rfl, hx⟩ := hi.at _ _ hv
    rw [digs_get _ _ _ _ (by first | with_reducible assumption | with_reducible exact lt_num (by with_reducible assumption) (Nat.le_of_ble_eq_true rfl) | with_reducible exact le_num (by with_reducible assumption) (Nat.le_of_ble_eq_true rfl) | with_reducible exact le_le (by with_reducible assumption) (Nat.le_of_ble_eq_true rfl) | (first | lia | omega))] at hx
    obtain rfl := Option.some.inj hx
    have hown2 : ∀ p ∈ rest, p.1 ≠ Qd := by
      rw [hrest]
      intro p hp
      rcases List.mem_append.mp hp with hp | hp
      · exact A2 p hp
      · rcases hown p hp with e | e
        · rw [e]; exact (hI _ (List.mem_cons_self ..)).symm
        · rw [e]; exact hQD.symm
    have hrn : r < 2 ^ 100 := Nat.lt_trans (by rw [hst.1]; exact Nat.mod_lt _ hb0) hb1
    have hrb := bits_nat_le hrn
    have hs0 : 0 ≤ (Builtin.Int.intBits b : Int) := Int.natCast_nonneg _
    have hz : (Builtin.Int.intBits (r : Int) : Int) + (Builtin.Int.intBits b : Int) ≤ 2 ^ 27 := by (first | lia | omega)
    (try k_fold)
    k_steps
    clear F Nw
    rename Fr _ _ _ _ => F
    rename News _ _ _ _ => Nw
    rename _ = (r : Int) * 2 ^ _ => hM1
    rw [Int.toNat_natCast, two_pow_cast, ← Int.natCast_mul] at hM1
    have hd2 : An / (2 ^ Builtin.Int.intBits b) ^ (vs.length - 1 - i) % 2 ^ Builtin.Int.intBits b < 2 ^ Builtin.Int.intBits b := Nat.mod_lt _ (Nat.two_pow_pos _)
    have hp100 : 2 ^ Builtin.Int.intBits b ≤ 2 ^ 100 := Nat.pow_le_pow_right (by decide) hN1
    have hsum : r * 2 ^ Builtin.Int.intBits b + An / (2 ^ Builtin.Int.intBits b) ^ (vs.length - 1 - i) % 2 ^ Builtin.Int.intBits b < 2 ^ 300 := by
      have h1 : r * 2 ^ Builtin.Int.intBits b ≤ 2 ^ 100 * 2 ^ 100 := Nat.mul_le_mul (Nat.le_of_lt hrn) hp100
      (first | lia | omega)
    refine Does.use (div2_spec ⟨X', T'⟩ F.keep (An := r * 2 ^ Builtin.Int.intBits b + An / (2 ^ Builtin.Int.intBits b) ^ (vs.length - 1 - i) % 2 ^ Builtin.Int.intBits b) (Bn := Bn) (N := Builtin.Int.intBits b) (by rw [hM1, Int.natCast_add]) hsum hb hb0 (Nat.lt_trans hb1 (by decide)) rfl) rfl (by first | exact room1 hd (Nat.le_of_ble_eq_true rfl) | exact room3 hu (Nat.le_of_ble_eq_true rfl) | (simp only [Around.deeper]; (first | lia | omega))) (by first | exact room1 hd (Nat.le_of_ble_eq_true rfl) | exact room3 hu (Nat.le_of_ble_eq_true rfl) | (simp only [Around.deeper]; (first | lia | omega))) ?_
    rintro v h3 tk3 ⟨keep, T, n0, tq, tr2, rfl, hT, hT0⟩
    have hTQ : @Ne Nat T Qd := fun e => by
      have := (Nw _ (List.mem_cons_self ..)).1
      dsimp only at this hT0
      rw [← e, hT0] at this; cases this
    have F3 := F.keeps keep
    have N3 := news_new F hT0 hT (Nw.grown keep)
    clear F Nw
    have hst2 := hst.step (by first | with_reducible assumption | with_reducible exact lt_num (by with_reducible assumption) (Nat.le_of_ble_eq_true rfl) | with_reducible exact le_num (by with_reducible assumption) (Nat.le_of_ble_eq_true rfl) | with_reducible exact le_le (by with_reducible assumption) (Nat.le_of_ble_eq_true rfl) | (first | lia | omega)) hb0 (Nat.two_pow_pos _)
    have hsz : qvs.length ≤ 200 := by rw [hq.length, castL_length, hst.2.2.2]; have := ndig_le hN0 ha1; (first | lia | omega)
    (try dsimp only)
    k_steps
    rename Fr _ _ _ _ => F
    rename News _ _ _ _ => Nw
    rw [List.push_toArray] at Nw
    refine OurTurn.next (nx := (Qd, listOf (qvs ++ [Value.int (((r * 2 ^ Builtin.Int.intBits b + An / (2 ^ Builtin.Int.intBits b) ^ (vs.length - 1 - i) % 2 ^ Builtin.Int.intBits b) / Bn : Nat) : Int) tq]).toArray (qn + 1)) :: tl2) F (fun p hp => Nw p ?_) (List.forall_mem_cons.mpr ⟨hI (Qd, listOf qvs.toArray qn) (List.mem_cons_self ..), fun p hp => hI p (List.mem_cons_of_mem _ hp)⟩)
      ⟨Qd, _, _, qs ++ [(r * 2 ^ Builtin.Int.intBits b + An / (2 ^ Builtin.Int.intBits b) ^ (vs.length - 1 - i) % 2 ^ Builtin.Int.intBits b) / Bn], _, _, _, rfl, hQD, ?_, (by rw [hvl]; exact hst2), m1, rfl, m3, m4⟩
    · rw [hrest]
      refine List.mem_cons_of_mem _ ?_
      rw [List.cons_append] at hp
      exact hp
    · unfold castL at hq ⊢
      rw [List.map_append]
      exact hq.append (.cons _ _ .nil)
  · clear z1 F Nw
    rintro m₁ nx h tk ⟨Qd, qvs, qn, qs, r, tr, tn, rfl, hQD, hq, hst, m1, m2, m3, m4⟩ F Nw
    have F : Fr (hideAll s.heap (tl.map (·.1))) L' h m₁ := F
    have Nw : News (hideAll s.heap (tl.map (·.1))) L' h ((Qd, listOf qvs.toArray qn) :: tl2) := Nw
    have A2 := tail_ne Nw hS2 (fun p hp => by first | ((repeat with_reducible refine List.mem_cons_of_mem _ ?_); first | exact hp | exact List.mem_append_left _ hp | exact List.mem_append_right _ hp | exact List.mem_append_right _ (List.mem_append_left _ hp) | exact List.mem_append_right _ (List.mem_append_right _ hp) | exact List.mem_append_left _ (List.mem_append_right _ hp) | exact List.mem_append_right _ (List.mem_append_right _ (List.mem_append_left _ hp))) | simp [hp]) (List.mem_cons_self ..) notFld_list
    have hsz : qvs.length ≤ 200 := by rw [hq.length, castL_length, hst.2.2.2, hi.length, digs_length]; have := ndig_le hN0 ha1; (first | lia | omega)
    (try k_fold)
    k_steps
    clear F Nw
    rename Fr _ _ _ _ => F
    rename News _ _ _ _ => Nw
    obtain ⟨hr1, hq1, hq2, hq3⟩ := hst
    rw [hi.length, digs_length, Nat.sub_self, Nat.pow_zero, Nat.div_one] at hr1 hq1
    have hlen : qs.reverse.length ≤ 150 := by rw [List.length_reverse, hq3, hi.length, digs_length]; exact ndig_le hN0 ha1
    have hrev : IntsAre qvs.reverse (castL qs.reverse) := by
      have := hq.reverse
      unfold castL at this ⊢
      rw [← List.map_reverse] at this
      exact this
    refine Does.use (d2i_spec ⟨X', T'⟩ F.keep hS2 (tabs_at Nw fun p hp => List.mem_cons_of_mem _ hp) (Nw _ (List.mem_cons_self ..)).1 (ds := qs.reverse) (N := Builtin.Int.intBits b) hrev (fun d hd => hq2 d (by simpa using hd)) hlen rfl hN1) rfl (by first | exact room1 hd (Nat.le_of_ble_eq_true rfl) | exact room3 hu (Nat.le_of_ble_eq_true rfl) | (simp only [Around.deeper]; (first | lia | omega))) (by first | exact room1 hd (Nat.le_of_ble_eq_true rfl) | exact room3 hu (Nat.le_of_ble_eq_true rfl) | (simp only [Around.deeper]; (first | lia | omega))) ?_
    rintro v h5 tk5 ⟨hP, tkq, rfl⟩
    rw [hq1]
    obtain ⟨tl3, hS3, F5, N5, hsub3, _⟩ := hP.back hS2 F Nw fun tl' => ⟨_, .cons notFld_list .nil⟩
    have N6 := N5 _ (.cons notFld_list .nil)
    have A3 := tail_ne N6 hS3 (fun p hp => by first | ((repeat with_reducible refine List.mem_cons_of_mem _ ?_); first | exact hp | exact List.mem_append_left _ hp | exact List.mem_append_right _ hp | exact List.mem_append_right _ (List.mem_append_left _ hp) | exact List.mem_append_right _ (List.mem_append_right _ hp) | exact List.mem_append_left _ (List.mem_append_right _ hp) | exact List.mem_append_right _ (List.mem_append_right _ (List.mem_append_left _ hp))) | simp [hp]) (List.mem_cons_self ..) notFld_list
    clear F Nw N5 hP A2 hq hrev
    (try dsimp only)
    k_steps
    rename Fr _ _ _ _ => F
    rename News _ _ _ _ => Nw
    rw [hr1] at Nw
    exact Done.mk ⟨TabPost.of hS3 F Nw (fun p hp => by first | ((repeat with_reducible refine List.mem_cons_of_mem _ ?_); first | exact hp | exact List.mem_append_left _ hp | exact List.mem_append_right _ hp | exact List.mem_append_right _ (List.mem_append_left _ hp) | exact List.mem_append_right _ (List.mem_append_right _ hp) | exact List.mem_append_left _ (List.mem_append_right _ hp) | exact List.mem_append_right _ (List.mem_append_right _ (List.mem_append_left _ hp))) | simp [hp]) (sub_trans hsub2 hsub3), _, _, _, _, rfl, (Nw _ (List.mem_cons_self ..)).1, new_none hS3 Nw (fun p hp => by first | ((repeat with_reducible refine List.mem_cons_of_mem _ ?_); first | exact hp | exact List.mem_append_left _ hp | exact List.mem_append_right _ hp | exact List.mem_append_right _ (List.mem_append_left _ hp) | exact List.mem_append_right _ (List.mem_append_right _ hp) | exact List.mem_append_left _ (List.mem_append_right _ hp) | exact List.mem_append_right _ (List.mem_append_right _ (List.mem_append_left _ hp))) | simp [hp]) (sub_trans hsub2 hsub3) (List.mem_cons_self ..) notFld_seq⟩
end Mine
end
section
-- Idm01
theorem Mine.fresh_Idm01 : True := by
  w_top off
  trivial
open PySem PySem.W PyProof.Rows PySem.Calls PySem.Builtin.Str
set_option maxRecDepth 100000
set_option maxHeartbeats 1000000
set_option pp.deepTerms false
namespace Mine
local macro_rules | `(tactic| k_room) => `(tactic| ((try simp only [Around.deeper, recursionLimit] at *); omega))
local macro_rules | `(tactic| k_units) => `(tactic| ((try simp only [Around.deeper, Around.in1, cLine] at *); omega))
local macro_rules | `(tactic| k_all) => `(tactic| first | with_reducible assumption | exact allLt_ne (by with_reducible assumption) | exact Low.ne (by with_reducible assumption) (by omega) | (exact Low.ne (by assumption) (by omega)))
local macro_rules | `(tactic| walk_at "eval Name") => `(tactic| (k_here; k_dflt (refine' ld ?k1 ?k2 ?_; (case k1 => k_asm); (case k2 => first | exact rfl | assumption); k_whole)))

theorem fdm_neg (a b : Int) : (-a).fdiv (-b) = a.fdiv b ∧ -((-a).fmod (-b)) = a.fmod b := by
  rw [Int.fmod_def, Int.fmod_def, Int.neg_fdiv_neg]
  refine ⟨rfl, ?_⟩
  rw [Int.neg_mul]; (first | lia | omega)
theorem fdm_inv {a b : Int} (hb : 0 < b) : -((-a - 1).fdiv b) - 1 = a.fdiv b ∧ b + (-((-a - 1).fmod b) - 1) = a.fmod b := by
  rw [Int.fdiv_eq_ediv_of_nonneg _ (by first | with_reducible assumption | with_reducible exact lt_num (by with_reducible assumption) (Nat.le_of_ble_eq_true rfl) | with_reducible exact le_num (by with_reducible assumption) (Nat.le_of_ble_eq_true rfl) | with_reducible exact le_le (by with_reducible assumption) (Nat.le_of_ble_eq_true rfl) | (first | lia | omega)), Int.fdiv_eq_ediv_of_nonneg _ (by first | with_reducible assumption | with_reducible exact lt_num (by with_reducible assumption) (Nat.le_of_ble_eq_true rfl) | with_reducible exact le_num (by with_reducible assumption) (Nat.le_of_ble_eq_true rfl) | with_reducible exact le_le (by with_reducible assumption) (Nat.le_of_ble_eq_true rfl) | (first | lia | omega)), Int.fmod_eq_emod_of_nonneg _ (by first | with_reducible assumption | with_reducible exact lt_num (by with_reducible assumption) (Nat.le_of_ble_eq_true rfl) | with_reducible exact le_num (by with_reducible assumption) (Nat.le_of_ble_eq_true rfl) | with_reducible exact le_le (by with_reducible assumption) (Nat.le_of_ble_eq_true rfl) | (first | lia | omega)), Int.fmod_eq_emod_of_nonneg _ (by first | with_reducible assumption | with_reducible exact lt_num (by with_reducible assumption) (Nat.le_of_ble_eq_true rfl) | with_reducible exact le_num (by with_reducible assumption) (Nat.le_of_ble_eq_true rfl) | with_reducible exact le_le (by with_reducible assumption) (Nat.le_of_ble_eq_true rfl) | (first | lia | omega))]
  have h1 := Int.mul_ediv_add_emod a b
  have h2 := Int.emod_nonneg a (show b ≠ 0 by (first | lia | omega))
  have h3 := Int.emod_lt_of_pos a hb
  have e : -a - 1 = b * (-(a / b) - 1) + (b - 1 - a % b) := by
    rw [Int.mul_sub, Int.mul_neg, Int.mul_one]; (first | lia | omega)
  have e1 : (-a - 1) / b = -(a / b) - 1 := by
    rw [e, Int.mul_comm, Int.add_comm, Int.add_mul_ediv_right _ _ (by first | with_reducible assumption | with_reducible exact lt_num (by with_reducible assumption) (Nat.le_of_ble_eq_true rfl) | with_reducible exact le_num (by with_reducible assumption) (Nat.le_of_ble_eq_true rfl) | with_reducible exact le_le (by with_reducible assumption) (Nat.le_of_ble_eq_true rfl) | (first | lia | omega)), Int.ediv_eq_zero_of_lt (by first | with_reducible assumption | with_reducible exact lt_num (by with_reducible assumption) (Nat.le_of_ble_eq_true rfl) | with_reducible exact le_num (by with_reducible assumption) (Nat.le_of_ble_eq_true rfl) | with_reducible exact le_le (by with_reducible assumption) (Nat.le_of_ble_eq_true rfl) | (first | lia | omega)) (by first | with_reducible assumption | with_reducible exact lt_num (by with_reducible assumption) (Nat.le_of_ble_eq_true rfl) | with_reducible exact le_num (by with_reducible assumption) (Nat.le_of_ble_eq_true rfl) | with_reducible exact le_le (by with_reducible assumption) (Nat.le_of_ble_eq_true rfl) | (first | lia | omega)), Int.zero_add]
  have e2 : (-a - 1) % b = b - 1 - a % b := by
    rw [e, Int.add_comm, Int.add_mul_emod_self_left, Int.emod_eq_of_lt (by first | with_reducible assumption | with_reducible exact lt_num (by with_reducible assumption) (Nat.le_of_ble_eq_true rfl) | with_reducible exact le_num (by with_reducible assumption) (Nat.le_of_ble_eq_true rfl) | with_reducible exact le_le (by with_reducible assumption) (Nat.le_of_ble_eq_true rfl) | (first | lia | omega)) (by first | with_reducible assumption | with_reducible exact lt_num (by with_reducible assumption) (Nat.le_of_ble_eq_true rfl) | with_reducible exact le_num (by with_reducible assumption) (Nat.le_of_ble_eq_true rfl) | with_reducible exact le_le (by with_reducible assumption) (Nat.le_of_ble_eq_true rfl) | (first | lia | omega))]
  rw [e1, e2]
  constructor <;> (first | lia | omega)
theorem bitNot_is (x : Int) : Builtin.bitNot x = -x - 1 := rfl
def idmM (a b : Int) : Nat := (if b < 0 then 2 else 0) + (if a < 0 then 1 else 0)

theorem idm_spec {w : World} {loose mean mg mb} :
    ∀ (k : Nat) {B : Heap} (_ : Gd (Mine.hd01.heap_39 w.params) loose mean mg mb B) {s : Shared} {a b : Int} {t1 t2 : Tok} {tl : List (Addr × Obj)} (_ : B.StaysIn s.heap) (_ : TabS S1 S2 tl) (_ : ∀ p ∈ tl, s.heap.get? p.1 = some p.2 ∧ B.get? p.1 = none)
    (_ : a.natAbs < 2 ^ 149) (_ : b ≠ 0) (_ : b.natAbs < 2 ^ 100) (_ : idmM a b = k),
    Does (model PySem.Challenge.rw_pg0310_01.row.prog w) (185 + k) (830 + 5 * k) (call (.ref 87) [.int a t1, .int b t2]) s
      (fun v h' => TabPost S1 S2 tl s.heap h' ∧ ∃ T n0 tq tr, v = .ref T ∧ h'.get? T = some ({ cls := .type "tuple", data := .seq #[.int (a.fdiv b) tq, .int (a.fmod b) tr] n0 } : Obj) ∧ s.heap.get? T = none) := by
  intro k
  induction k using Nat.strongRecOn with
  | ind k ih =>
  intro B G s a b t1 t2 tl hB hS htl ha hb hb1 hk d0 u0 fr gs hd hu
  revert G
  k_fill
  intro G
  refine' enter (binds := [("a", .int a t1), ("b", .int b t2)]) G hB tl htl ?k6 ?k7 ?k8 ?k9 ?kB ?_ ?c2 ?c3 ?c4 ?c5; (case k6 => k_is); (case k7 => k_is); (case k8 => k_room); (case k9 => exact BindsTo.of_eq rfl);  (case c5 => decide); (case kB => exact locs rfl); (case c2 => exact rfl); (case c3 => exact rfl); (case c4 => exact rfl)
  intro g' L' h' hg' F' N' hlow X' T'
  subst hg'
  (try dsimp only)
  (try k_fold)
  k_steps
  · exact absurd (by assumption) hb
  · rename Fr _ _ _ _ => F
    rename News _ _ _ _ => Nw
    rename b < 0 => hb0
    refine Does.use (ih (idmM (-a) (-b)) (by rw [← hk]; unfold idmM; rw [if_pos hb0, if_neg (show ¬ -b < 0 by (first | lia | omega))]; split <;> split <;> (first | lia | omega)) ⟨X', T'⟩ F.keep hS (tabs_at Nw fun p hp => hp) (by rw [Int.natAbs_neg]; exact ha) (by first | with_reducible assumption | with_reducible exact lt_num (by with_reducible assumption) (Nat.le_of_ble_eq_true rfl) | with_reducible exact le_num (by with_reducible assumption) (Nat.le_of_ble_eq_true rfl) | with_reducible exact le_le (by with_reducible assumption) (Nat.le_of_ble_eq_true rfl) | (first | lia | omega)) (by rw [Int.natAbs_neg]; exact hb1) rfl) rfl ?q1 ?q2 ?_
    case q1 => have : idmM (-a) (-b) ≤ 1 := (by unfold idmM; rw [if_neg (show ¬ -b < 0 by (first | lia | omega))]; split <;> (first | lia | omega)); have : 2 ≤ k := (by rw [← hk]; unfold idmM; rw [if_pos hb0]; (first | lia | omega)); simp only [Around.deeper]; (first | lia | omega)
    case q2 => have : idmM (-a) (-b) ≤ 1 := (by unfold idmM; rw [if_neg (show ¬ -b < 0 by (first | lia | omega))]; split <;> (first | lia | omega)); have : 2 ≤ k := (by rw [← hk]; unfold idmM; rw [if_pos hb0]; (first | lia | omega)); simp only [Around.deeper]; (first | lia | omega)
    rintro v h2 tk2 ⟨hP, T, n0, tq, tr, rfl, hT, hT0⟩
    have hfd := fdm_neg a b
    obtain ⟨tl2, hS2, F2, N2, hsub2, _⟩ := hP.back hS F Nw fun tl' => ⟨_, .nil⟩
    have N3 := news_new F hT0 hT (N2 _ .nil)
    have A1 := tail_ne N3 hS2 (fun p hp => by first | ((repeat with_reducible refine List.mem_cons_of_mem _ ?_); first | exact hp | exact List.mem_append_left _ hp | exact List.mem_append_right _ hp | exact List.mem_append_right _ (List.mem_append_left _ hp) | exact List.mem_append_right _ (List.mem_append_right _ hp) | exact List.mem_append_left _ (List.mem_append_right _ hp) | exact List.mem_append_right _ (List.mem_append_right _ (List.mem_append_left _ hp))) | simp [hp]) (List.mem_cons_self ..) notFld_seq
    clear F Nw N2 hP
    (try dsimp only)
    k_steps
    (first | (k_unmd; k_unfold; try dsimp only) | (try dsimp only))
    rename Fr _ _ _ _ => F
    rename News _ _ _ _ => Nw
    try simp only [bitNot_is] at Nw
    rw [hfd.1, hfd.2] at Nw
    exact Done.mk ⟨TabPost.of hS2 F Nw (fun p hp => by first | ((repeat with_reducible refine List.mem_cons_of_mem _ ?_); first | exact hp | exact List.mem_append_left _ hp | exact List.mem_append_right _ hp | exact List.mem_append_right _ (List.mem_append_left _ hp) | exact List.mem_append_right _ (List.mem_append_right _ hp) | exact List.mem_append_left _ (List.mem_append_right _ hp) | exact List.mem_append_right _ (List.mem_append_right _ (List.mem_append_left _ hp))) | simp [hp]) hsub2, _, _, _, _, rfl, (Nw _ (List.mem_cons_self ..)).1, new_none hS2 Nw (fun p hp => by first | ((repeat with_reducible refine List.mem_cons_of_mem _ ?_); first | exact hp | exact List.mem_append_left _ hp | exact List.mem_append_right _ hp | exact List.mem_append_right _ (List.mem_append_left _ hp) | exact List.mem_append_right _ (List.mem_append_right _ hp) | exact List.mem_append_left _ (List.mem_append_right _ hp) | exact List.mem_append_right _ (List.mem_append_right _ (List.mem_append_left _ hp))) | simp [hp]) hsub2 (List.mem_cons_self ..) notFld_seq⟩
  · rename Fr _ _ _ _ => F
    rename News _ _ _ _ => Nw
    rename ¬ b < 0 => hb0
    rename a < 0 => ha0
    have eN2 : ∀ x, Builtin.bitNot x = -x - 1 := fun _ => rfl
    have eN := eN2 a
    rw [eN]
    refine Does.use (ih (idmM (-a - 1) b) (by rw [← hk]; unfold idmM; rw [if_neg hb0, if_pos ha0, if_neg (show ¬ -a - 1 < 0 by (first | lia | omega))]; (first | lia | omega)) ⟨X', T'⟩ F.keep hS (tabs_at Nw fun p hp => hp) (by first | with_reducible assumption | with_reducible exact lt_num (by with_reducible assumption) (Nat.le_of_ble_eq_true rfl) | with_reducible exact le_num (by with_reducible assumption) (Nat.le_of_ble_eq_true rfl) | with_reducible exact le_le (by with_reducible assumption) (Nat.le_of_ble_eq_true rfl) | (first | lia | omega)) hb hb1 rfl) rfl ?q3 ?q4 ?_
    case q3 => have : idmM (-a - 1) b = 0 := (by unfold idmM; rw [if_neg hb0, if_neg (show ¬ -a - 1 < 0 by (first | lia | omega))]); have : 1 ≤ k := (by rw [← hk]; unfold idmM; rw [if_neg hb0, if_pos ha0]; (first | lia | omega)); simp only [Around.deeper]; (first | lia | omega)
    case q4 => have : idmM (-a - 1) b = 0 := (by unfold idmM; rw [if_neg hb0, if_neg (show ¬ -a - 1 < 0 by (first | lia | omega))]); have : 1 ≤ k := (by rw [← hk]; unfold idmM; rw [if_neg hb0, if_pos ha0]; (first | lia | omega)); simp only [Around.deeper]; (first | lia | omega)
    rintro v h2 tk2 ⟨hP, T, n0, tq, tr, rfl, hT, hT0⟩
    have hfd := fdm_inv (a := a) (b := b) (by first | with_reducible assumption | with_reducible exact lt_num (by with_reducible assumption) (Nat.le_of_ble_eq_true rfl) | with_reducible exact le_num (by with_reducible assumption) (Nat.le_of_ble_eq_true rfl) | with_reducible exact le_le (by with_reducible assumption) (Nat.le_of_ble_eq_true rfl) | (first | lia | omega))
    obtain ⟨tl2, hS2, F2, N2, hsub2, _⟩ := hP.back hS F Nw fun tl' => ⟨_, .nil⟩
    have N3 := news_new F hT0 hT (N2 _ .nil)
    have A1 := tail_ne N3 hS2 (fun p hp => by first | ((repeat with_reducible refine List.mem_cons_of_mem _ ?_); first | exact hp | exact List.mem_append_left _ hp | exact List.mem_append_right _ hp | exact List.mem_append_right _ (List.mem_append_left _ hp) | exact List.mem_append_right _ (List.mem_append_right _ hp) | exact List.mem_append_left _ (List.mem_append_right _ hp) | exact List.mem_append_right _ (List.mem_append_right _ (List.mem_append_left _ hp))) | simp [hp]) (List.mem_cons_self ..) notFld_seq
    clear F Nw N2 hP
    (try dsimp only)
    k_steps
    (first | (k_unmd; k_unfold; try dsimp only) | (try dsimp only))
    rename Fr _ _ _ _ => F
    rename News _ _ _ _ => Nw
    try simp only [bitNot_is] at Nw
    rw [hfd.1, hfd.2] at Nw
    exact Done.mk ⟨TabPost.of hS2 F Nw (fun p hp => by first | ((repeat with_reducible refine List.mem_cons_of_mem _ ?_); first | exact hp | exact List.mem_append_left _ hp | exact List.mem_append_right _ hp | exact List.mem_append_right _ (List.mem_append_left _ hp) | exact List.mem_append_right _ (List.mem_append_right _ hp) | exact List.mem_append_left _ (List.mem_append_right _ hp) | exact List.mem_append_right _ (List.mem_append_right _ (List.mem_append_left _ hp))) | simp [hp]) hsub2, _, _, _, _, rfl, (Nw _ (List.mem_cons_self ..)).1, new_none hS2 Nw (fun p hp => by first | ((repeat with_reducible refine List.mem_cons_of_mem _ ?_); first | exact hp | exact List.mem_append_left _ hp | exact List.mem_append_right _ hp | exact List.mem_append_right _ (List.mem_append_left _ hp) | exact List.mem_append_right _ (List.mem_append_right _ hp) | exact List.mem_append_left _ (List.mem_append_right _ hp) | exact List.mem_append_right _ (List.mem_append_right _ (List.mem_append_left _ hp))) | simp [hp]) hsub2 (List.mem_cons_self ..) notFld_seq⟩
  · rename Fr _ _ _ _ => F
    rename News _ _ _ _ => Nw
    rename ¬ b < 0 => hb0
    rename ¬ a < 0 => ha0
    have ea : a = (a.toNat : Int) := by (first | lia | omega)
    have eb : b = (b.toNat : Int) := by (first | lia | omega)
    refine Does.use (pos_spec ⟨X', T'⟩ F.keep hS (tabs_at Nw fun p hp => hp) ea (by first | with_reducible assumption | with_reducible exact lt_num (by with_reducible assumption) (Nat.le_of_ble_eq_true rfl) | with_reducible exact le_num (by with_reducible assumption) (Nat.le_of_ble_eq_true rfl) | with_reducible exact le_le (by with_reducible assumption) (Nat.le_of_ble_eq_true rfl) | (first | lia | omega)) eb (by first | with_reducible assumption | with_reducible exact lt_num (by with_reducible assumption) (Nat.le_of_ble_eq_true rfl) | with_reducible exact le_num (by with_reducible assumption) (Nat.le_of_ble_eq_true rfl) | with_reducible exact le_le (by with_reducible assumption) (Nat.le_of_ble_eq_true rfl) | (first | lia | omega)) (by first | with_reducible assumption | with_reducible exact lt_num (by with_reducible assumption) (Nat.le_of_ble_eq_true rfl) | with_reducible exact le_num (by with_reducible assumption) (Nat.le_of_ble_eq_true rfl) | with_reducible exact le_le (by with_reducible assumption) (Nat.le_of_ble_eq_true rfl) | (first | lia | omega))) rfl (by first | exact room1 hd (Nat.le_of_ble_eq_true rfl) | exact room3 hu (Nat.le_of_ble_eq_true rfl) | (simp only [Around.deeper]; (first | lia | omega))) (by first | exact room1 hd (Nat.le_of_ble_eq_true rfl) | exact room3 hu (Nat.le_of_ble_eq_true rfl) | (simp only [Around.deeper]; (first | lia | omega))) ?_
    rintro v h2 tk2 ⟨hP, T, n0, tq, tr, rfl, hT, hT0⟩
    rw [← fdiv_nat, ← fmod_nat, ← ea, ← eb] at hT
    obtain ⟨tl2, hS2, F2, N2, hsub2, _⟩ := hP.back hS F Nw fun tl' => ⟨_, .nil⟩
    have N3 := news_new F hT0 hT (N2 _ .nil)
    have A1 := tail_ne N3 hS2 (fun p hp => by first | ((repeat with_reducible refine List.mem_cons_of_mem _ ?_); first | exact hp | exact List.mem_append_left _ hp | exact List.mem_append_right _ hp | exact List.mem_append_right _ (List.mem_append_left _ hp) | exact List.mem_append_right _ (List.mem_append_right _ hp) | exact List.mem_append_left _ (List.mem_append_right _ hp) | exact List.mem_append_right _ (List.mem_append_right _ (List.mem_append_left _ hp))) | simp [hp]) (List.mem_cons_self ..) notFld_seq
    clear F Nw N2 hP
    (try dsimp only)
    k_steps
    rename Fr _ _ _ _ => F
    rename News _ _ _ _ => Nw
    exact Done.mk ⟨TabPost.of hS2 F Nw (fun p hp => by first | ((repeat with_reducible refine List.mem_cons_of_mem _ ?_); first | exact hp | exact List.mem_append_left _ hp | exact List.mem_append_right _ hp | exact List.mem_append_right _ (List.mem_append_left _ hp) | exact List.mem_append_right _ (List.mem_append_right _ hp) | exact List.mem_append_left _ (List.mem_append_right _ hp) | exact List.mem_append_right _ (List.mem_append_right _ (List.mem_append_left _ hp))) | simp [hp]) hsub2, _, _, _, _, rfl, (Nw _ (List.mem_cons_self ..)).1, new_none hS2 Nw (fun p hp => by first | ((repeat with_reducible refine List.mem_cons_of_mem _ ?_); first | exact hp | exact List.mem_append_left _ hp | exact List.mem_append_right _ hp | exact List.mem_append_right _ (List.mem_append_left _ hp) | exact List.mem_append_right _ (List.mem_append_right _ hp) | exact List.mem_append_left _ (List.mem_append_right _ hp) | exact List.mem_append_right _ (List.mem_append_right _ (List.mem_append_left _ hp))) | simp [hp]) hsub2 (List.mem_cons_self ..) notFld_seq⟩
end Mine

end
section
-- Re
theorem Mine.fresh_Re : True := by
  w_top off
  trivial
open PySem PySem.W PyProof.Rows PySem.Calls PySem.Builtin PySem.Builtin.Re
set_option maxRecDepth 100000
namespace Mine
def Safe (x : Str) : Prop := ∀ c ∈ x.cps.toList, 32 ≤ c ∧ c < 127

theorem plainAttrs_pat : PlainAttrs "re.Pattern" :=
  ⟨⟨"object.__getattribute__", by rw [typeLookup_type, builtinLookup_eq_fast]; kernel_rfl, by decide +kernel⟩, by rw [typeLookup_type, builtinLookup_eq_fast]; kernel_rfl⟩
theorem owner_pat : Manifest.owners.lookup (String.ofList ['n', 'r', 'e', 't', 't', 'a', 'P', '.', 'e', 'r'].reverse) = some Manifest.sig_re_Pattern := by kernel_rfl
theorem slot_pat_search : Slot "re.Pattern" "search" "re.Pattern.search" :=
  .of (owner := "re.Pattern") (n := "search") (by rw [typeLookup_type, builtinLookup_eq_fast]; kernel_rfl) (by decide +kernel) (by decide +kernel) (by decide +kernel)
    (by first | exact .inl (by decide +kernel) | exact .inr (by decide +kernel)) (by rw [isSubtype_type]; kernel_rfl)
theorem type_pat_search : typeOf (.builtin "re.Pattern.search") = pure (.type "method_descriptor") := by show builtinType _ = _; rw [builtinType_eq_fast]; kernel_rfl
theorem entry_pat_search : entryFor table "re.Pattern.search" = some Builtin.«re.Pattern.search» := entryFor_of_tree (by kernel_rfl)
theorem args_pat_search_2 (a b : Value) : argsOk "re.Pattern.search" ⟨[a, b], []⟩ := by
  unfold argsOk; rw [signature?_of (id := "re.Pattern.search") (n := ['h', 'c', 'r', 'a', 'e', 's']) (o := ['n', 'r', 'e', 't', 't', 'a', 'P', '.', 'e', 'r']) (by kernel_rfl) owner_pat]; kernel_rfl

/-- a set that takes none of the safe signs -/
def NoSafe (code : Array Nat) : Prop := ∀ c seen, 32 ≤ c → c < 127 → ∃ seen', Sre.inSet code c code.size 5 true seen = .ok (false, seen')
def code1 : Array Nat := #[14, 10, 4, 1, 1, 22, 0, 31, 16, 127, 0, 13, 7, 22, 0, 31, 16, 127, 0, 1]
def code2 : Array Nat := #[14, 14, 4, 1, 1, 9, 4294966783, 0, 0, 2147483648, 0, 0, 0, 0, 0, 13, 11, 9, 4294966783, 0, 0, 2147483648, 0, 0, 0, 0, 0, 1]
theorem noSafe1 : NoSafe code1 := by
  intro c seen h1 h2
  refine ⟨((seen.add 22).add 16).add 0, ?_⟩
  show Sre.inSet code1 c 20 5 true seen = _
  rw [Sre.inSet]
  show (if decide (0 ≤ c) && decide (c ≤ 31) then _ else _) = _
  rw [if_neg (by simp; (first | lia | omega))]
  rw [Sre.inSet]
  show (if (c == 127) = true then _ else _) = _
  rw [if_neg (by simp; (first | lia | omega))]
  rw [Sre.inSet]
  rfl
theorem bit2 : ∀ c : Nat, c < 127 → 32 ≤ c → (code2.getD (5 + (1 + c / 32)) 0).testBit (c % 32) = false := by decide +kernel
theorem noSafe2 : NoSafe code2 := by
  intro c seen h1 h2
  refine ⟨(seen.add 9).add 0, ?_⟩
  show Sre.inSet code2 c 28 5 true seen = _
  rw [Sre.inSet]
  show (if (decide (c < 256) && (code2.getD (5 + (1 + c / 32)) 0).testBit (c % 32)) = true then _ else _) = _
  rw [bit2 c h2 h1, if_neg (by simp)]
  rw [Sre.inSet]
  rfl

theorem admitted_none {m : Sre.M} (hm : NoSafe m.code) (hs : ∀ i, i < m.lim → 32 ≤ m.text.getD i 0 ∧ m.text.getD i 0 < 127) : ∀ (fuel i : Nat) (seen : Sre.Seen), ∃ seen', Sre.M.admitted m fuel i seen = .ok (none, seen')
  | 0, i, seen => ⟨seen, rfl⟩
  | fuel + 1, i, seen => by
    rw [Sre.M.admitted]
    by_cases h : i ≥ m.lim
    · exact ⟨seen, if_pos h⟩
    · rw [if_neg h]
      obtain ⟨seen', e⟩ := hm (m.text.getD i 0) seen (hs i (by (first | lia | omega))).1 (hs i (by (first | lia | omega))).2
      rw [e]
      exact admitted_none hm hs fuel (i + 1) seen'

/-- a search that has found nothing -/
def Lost (m : Sre.M) : Prop := m.answer = some false ∧ m.frames = [] ∧ m.outcome = none
theorem lost_search {code : Array Nat} {text : Array Nat} (hc : NoSafe code) (h0 : code.getD 0 0 = 14) (h2 : code.getD 2 0 = 4) (h3 : code.getD 3 0 = 1) (hs : ∀ c ∈ text.toList, 32 ≤ c ∧ c < 127) :
    Lost (Sre.forSearch code text 0 0 text.size false) := by
  have hget : ∀ i, i < text.size → 32 ≤ text.getD i 0 ∧ text.getD i 0 < 127 := fun i hi => by
    rw [Array.getD_eq_getD_getElem?, Array.getElem?_eq_getElem hi]
    exact hs _ (by simp)
  unfold Sre.forSearch
  dsimp only
  split
  · exact ⟨rfl, rfl, rfl⟩
  · unfold Sre.M.attemptFrom
    have hf : ∀ m : Sre.M, m.code = code → m.hasFirstSet = true := fun m e => by
      unfold Sre.M.hasFirstSet
      rw [e, h0, h2]; rfl
    rw [hf _ rfl]
    simp only [Bool.not_true, Bool.false_eq_true, if_false]
    have key : ∀ {m : Sre.M} {f i : Nat} {seen : Sre.Seen} {r : Except String (Option Nat × Sre.Seen)}, m.code = code → m.text = text → m.lim = text.size → Sre.M.admitted m f i seen = r → ∃ seen', r = .ok (none, seen') := by
      intro m f i seen r e1 e2 e3 e
      obtain ⟨seen', e'⟩ := admitted_none (m := m) (by rw [e1]; exact hc) (by rw [e2, e3]; exact hget) f i seen
      exact ⟨seen', e.symm.trans e'⟩
    split
    · rename_i s' seen' e
      obtain ⟨_, e2⟩ := key rfl rfl rfl e
      cases e2
    · exact ⟨rfl, rfl, rfl⟩
    · rename_i why e
      obtain ⟨_, e2⟩ := key rfl rfl rfl e
      cases e2

section
variable {M : Model} {A : Around} {E : Value → Shared → Prop} {s : Shared}
theorem rules_loop {Q : PUnit → Shared → Prop} (f : Nat → Bool) (g : Nat → String) (h : Q ⟨⟩ s) : ∀ l : List Nat, wpAny M A (forIn l PUnit.unit fun i _ => if f i = true then (rule (g i) >>= fun _ => pure (ForInStep.yield PUnit.unit)) else pure (ForInStep.yield PUnit.unit)) Q E s
  | [] => wpAny_pure h
  | i :: r => by
    rw [List.forIn_cons]
    refine wpAny_bind ?_
    cases f i with
    | false => exact wpAny_pure (rules_loop f g h r)
    | true => exact wpAny_bind (wpAny_rule (wpAny_pure (rules_loop f g h r)))
theorem lost_runs {m : Sre.M} {Q : Option Sre.M → Shared → Prop} (hm : Lost m) (h : Q none s) : wpAny M A (reRunToEnd m) Q E s := by
  unfold reRunToEnd
  obtain ⟨h1, h2, h3⟩ := hm
  have hstep : (m.runFor reTurnSteps) = { m with outcome := some .failed } := by
    show Sre.M.runFor 4 m = _
    have e1 : m.step = { m with outcome := some .failed } := by
      unfold Sre.M.step
      rw [h3, h1, h2]; rfl
    rw [Sre.M.runFor, h3]
    show Sre.M.runFor 3 m.step = _
    rw [e1]; rfl
  have hd : reDrive (2 ^ 64) m = pure { m with outcome := some .failed } := by
    show reDrive ((2 ^ 64 - 1) + 1) m = _
    rw [reDrive, hstep]; rfl
  rw [hd]
  refine wpAny_bind (wpAny_pure ?_)
  refine wpAny_bind (rules_loop _ _ ?_ _)
  exact wpAny_pure h
end

section
variable {prog : Program} {w : World} {A : Around} {E : Value → Shared → Prop} {s : Shared} {h₀ : Heap} {L P cc : Addr} {m : Str → Option Value} {o oc : Obj} {vs its : Array Value} {n : Nat} {code : Array Nat} {x : Str} {t : Tok}
/-- a pattern object that searches with one set -/
structure PatAt (h : Heap) (P : Addr) (code : Array Nat) : Prop where
  ex : ∃ (o : Obj) (vs : Array Value) (cc : Addr) (oc : Obj) (its : Array Value) (n : Nat), h.get? P = some o ∧ o.cls = .type "re.Pattern" ∧ o.dict = none ∧ o.data = .fields vs ∧ vs[5]? = some (.ref cc) ∧ reRawNat (vs.getD 6 .none) = 0 ∧ reRawNat (vs.getD 2 .none) = 0 ∧
    h.get? cc = some oc ∧ oc.data = .seq its n ∧ (its.map reRawOf).map (·.toNat) = code

theorem searchK {Q : Value → Shared → Prop} (hP : PatAt s.heap P code) (hc : NoSafe code) (h0 : code.getD 0 0 = 14) (h2 : code.getD 2 0 = 4) (h3 : code.getD 3 0 = 1) (hx : Safe x) (hl : x.length ≤ 1000000) (h : Q .none s) :
    wpAny (model prog w) A (call (.builtin "re.Pattern.search") [.ref P, .str x t]) Q E s := by
  obtain ⟨o, vs, cc, oc, its, n, e1, e2, e3, e4, e5, e6, e7, e8, e9, e10⟩ := hP.ex
  have h5 : vs.getD 5 .none = .ref cc := by rw [Array.getD_eq_getD_getElem?, e5]; rfl
  refine wpAny_call_entry slot_pat_search ⟨o, e1, e2⟩ entry_pat_search ?_ (args_pat_search_2 _ _)
  show wpAny _ _ (reTarget "re.Pattern.search" "search" ⟨[.ref P, .str x t], []⟩ >>= _) _ _ _
  refine wpAny_bind ?_
  unfold reTarget
  dsimp only
  refine wpAny_bind (wpAny_of_eq (a := [some (.str x t), none, none]) (by unfold reNamed; rfl) ?_)
  dsimp only
  refine wpAny_bind (wpAny_of_eq (a := 0) rfl ?_)
  refine wpAny_bind (wpAny_of_eq (a := 2 ^ 63 - 1) rfl ?_)
  refine wpAny_bind (wpAny_fieldsOf e1 e4 ?_)
  refine wpAny_bind (wpAny_of_eq (a := (x.cps, 0)) rfl ?_)
  dsimp only
  rw [e6]
  refine wpAny_bind (wpAny_of_eq (a := ⟨⟩) rfl ?_)
  rw [h5]
  refine wpAny_bind ?_
  unfold reRawItems
  refine wpAny_bind (wpAny_seqItems e8 e9 ?_)
  refine wpAny_pure ?_
  dsimp only [Option.getD_some]
  refine wpAny_pure ?_
  dsimp only
  unfold reAnswer
  rw [e10, e7]
  have hmin : min (2 ^ 63 - 1 : Int).toNat x.cps.size = x.cps.size := by
    have : x.cps.size ≤ 1000000 := hl
    (first | lia | omega)
  have hmin0 : min (0 : Int).toNat x.cps.size = 0 := by simp
  rw [hmin, hmin0]
  refine wpAny_bind (lost_runs (lost_search hc h0 h2 h3 hx) ?_)
  exact wpAny_pure ⟨_, rfl, h⟩

theorem patMethK {Q : Value × List Value → Shared → Prop} (hP : PatAt s.heap P code) (pl : Sem Bool) (h : Q (.builtin "re.Pattern.search", [.ref P]) s) : wpAny (model prog w) A (getMethod (.ref P) "search" pl) Q E s := by
  obtain ⟨o, vs, cc, oc, its, n, e1, e2, e3, e4, e5, e6, e7, e8, e9, e10⟩ := hP.ex
  exact getMethod_builtin ⟨o, e1, e2⟩ plainAttrs_pat slot_pat_search type_pat_search (fun a ha => by cases ha; exact ⟨o, e1, e3⟩) h
theorem PatAt.keep {h h' : Heap} {P : Addr} {code : Array Nat} (hP : PatAt h P code) (k : h.StaysIn h') : PatAt h' P code := by
  obtain ⟨o, vs, cc, oc, its, n, e1, e2, e3, e4, e5, e6, e7, e8, e9, e10⟩ := hP.ex
  exact ⟨o, vs, cc, oc, its, n, k _ _ e1, e2, e3, e4, e5, e6, e7, k _ _ e8, e9, e10⟩
end
end Mine

end
section
-- Tab
theorem Mine.fresh_Tab : True := by
  w_top off
  trivial
open PySem PySem.W PyProof.Rows PySem.Calls PySem.Builtin PySem.Builtin.Str
set_option maxRecDepth 100000
namespace Mine

abbrev tupObj (a b : Value) (n : Nat) : Obj := { cls := .type "tuple", data := .seq #[a, b] n }
/-- a row of a table: a pair of texts -/
def RowAt (h : Heap) (x : Value) (r : Str × Str) : Prop := ∃ T n t1 t2, x = .ref T ∧ h.get? T = some (tupObj (.str r.1 t1) (.str r.2 t2) n)
def RowsAt (h : Heap) (xs : List Value) (rs : List (Str × Str)) : Prop := xs.length = rs.length ∧ ∀ (i : Nat) x r, xs[i]? = some x → rs[i]? = some r → RowAt h x r
theorem RowAt.keep {h h' : Heap} {x : Value} {r : Str × Str} (R : RowAt h x r) (k : h.StaysIn h') : RowAt h' x r := by
  obtain ⟨T, n, t1, t2, e, g⟩ := R
  exact ⟨T, n, t1, t2, e, k _ _ g⟩
theorem RowsAt.keep {h h' : Heap} {xs : List Value} {rs : List (Str × Str)} (R : RowsAt h xs rs) (k : h.StaysIn h') : RowsAt h' xs rs := ⟨R.1, fun i x r a b => (R.2 i x r a b).keep k⟩
theorem RowsAt.nil {h : Heap} : RowsAt h [] [] := ⟨rfl, fun i x r a => by simp at a⟩
/-- the row at a place -/
theorem RowsAt.at {h : Heap} {xs : List Value} {rs : List (Str × Str)} {i : Nat} {x : Value} (R : RowsAt h xs rs) (a : xs[i]? = some x) : ∃ r, rs[i]? = some r ∧ RowAt h x r := by
  have hi : i < rs.length := by
    rw [← R.1]
    exact (List.getElem?_eq_some_iff.mp a).1
  exact ⟨rs[i], List.getElem?_eq_getElem hi, R.2 i x _ a (List.getElem?_eq_getElem hi)⟩
theorem RowsAt.refs {h : Heap} {xs : List Value} {rs : List (Str × Str)} (R : RowsAt h xs rs) : ∀ v ∈ xs, ∃ T, v = .ref T := fun v hv => by
  obtain ⟨i, hi⟩ := List.getElem?_of_mem hv
  obtain ⟨r, _, T, n, t1, t2, e, _⟩ := R.at hi
  exact ⟨T, e⟩
/-- what a heap lays out of the way takes no tuple with it -/
theorem RowsAt.hide {h : Heap} {xs : List Value} {rs : List (Str × Str)} {hid : List (Addr × Obj)} (R : RowsAt h xs rs) (hN : ∀ p ∈ hid, h.get? p.1 = some p.2) (hc : ∀ p ∈ hid, p.2.cls ≠ .type "tuple") : RowsAt (hideAll h (hid.map (·.1))) xs rs := by
  refine ⟨R.1, fun i x r a b => ?_⟩
  obtain ⟨T, n, t1, t2, e, g⟩ := R.2 i x r a b
  refine ⟨T, n, t1, t2, e, hideAll_get _ g fun hm => ?_⟩
  obtain ⟨p, hp, rfl⟩ := List.mem_map.mp hm
  have := hN p hp
  rw [g] at this
  exact hc p hp (by rw [← Option.some.inj this])

section
variable {prog : Program} {w : World} {A : Around} {s : Shared} {K : Frag} {B : Heap} {loose : List Str} {mean : ExcName → Option Value} {mg mb : Str → Option Value}
  {R : Result → Shared → Prop} {name qual : Str} {params : Arguments} {body : List Stmt} {scope : Scope} {dV kV doc pm cdv ct oc : Value} {an od : Option Addr} {osl : Array (Option Value)} {f : Addr} {args : List Value} {kw : List (Str × Value)} {binds : List (Str × Value)}
/-- a call's contract where a call is asked as a code -/
def DoesC (M : Model) (d u : Nat) (f : Value) (args : Args) (s : Shared) (Post : Value → Heap → Prop) : Prop :=
  ∀ (d0 u0 : Nat) (fr : Option (List Env)) (gs : Option (List Code)), d0 + d < recursionLimit → u0 + u < cLine →
    codeAny M ⟨none, d0, fr, gs, u0⟩ (.call f args) (fun r s' => ∃ v, r = .ok (.ret v) ∧ Done s Post v s') s

theorem enter_code (G : Gd K loose mean mg mb B) (hB : B.StaysIn s.heap) (hid : List (Addr × Obj)) (hN : ∀ p ∈ hid, s.heap.get? p.1 = some p.2 ∧ B.get? p.1 = none)
    (ho : K.lookup f = some ⟨oc, od, .func (fnOf name qual params body scope dV kV doc pm an cdv ct), osl⟩) (hcd : codeIn K cdv qual = true) (hroom : A.depth < recursionLimit)
    (hbind : BindsTo s (fnOf name qual params body scope dV kV doc pm an cdv ct) ⟨args, kw⟩ binds) (hloc : ∀ y ∈ binds, scope.names.lookup y.1 = some .local)
    (h : ∀ g L' h₁, g = hideAll s.heap (hid.map (·.1)) → Fr g L' h₁ (fun y => binds.reverse.lookup y) → News g L' h₁ hid → (∀ p ∈ hid, p.1 < L') → K.In g → Top topProg loose mean mg mb g →
      wpAny (model prog w) (A.deeper (envOf qual scope L' f cdv)) (execs body (envOf qual scope L' f cdv))
        (fun fl s' => R (.ok (.ret (match fl with | .ret v => v | _ => .none))) s')
        (fun _ _ => False)
        { s with heap := h₁, toks := s.toks + binds.length })
    (hco : scope.isCoroutine = false := by rfl) (hgen : scope.isGenerator = false := by rfl) (hk : scope.kind = .function := by rfl)
    (hcell : ∀ x ∈ scope.names, x.2 ≠ .cell := by decide) : codeAny (model prog w) A (.call (.ref f) ⟨args, kw⟩) R s := by
  have X := G.X.keeps hB
  refine codeAny_call_def (fd := fnOf name qual params body scope dV kV doc pm an cdv ct) (body := body) (binds := binds) hroom (X _ _ ho) rfl (G.T.nolimit.keeps hB) (codeRec_of X hcd) rfl hbind hcell hloc (fun h₁ hns hk₁ => ?_) hco hgen hk
  have st : B.StaysIn (hideAll s.heap (hid.map (·.1))) := hide_stays hB fun b hb => by
    obtain ⟨p, hp, rfl⟩ := List.mem_map.mp hb
    exact (hN p hp).2
  refine wpAny_mono (h _ s.heap.objs.size h₁ rfl ⟨hns, fun b o e => hk₁ b o (of_hideAll _ e), Nat.le_of_eq (hideAll_size _ _)⟩
    (fun p hp => ⟨hk₁ _ _ (hN p hp).1, Nat.ne_of_lt (Heap.lt_size (hN p hp).1), hideAll_none _ (List.mem_map_of_mem hp)⟩) (fun p hp => Heap.lt_size (hN p hp).1) (G.X.keeps st) (G.T.keeps st)) (fun _ _ x => x) fun _ _ x => x.elim
end
theorem DoesC.use {M : Model} {A : Around} {d u : Nat} {f : Value} {args : Args} {s : Shared} {Post : Value → Heap → Prop} {R : Result → Shared → Prop} (D : DoesC M d u f args s Post) (hh : A.handled = none) (hd : A.depth + d < recursionLimit) (hu : A.units + u < cLine)
    (h : ∀ v h' tk', Post v h' → R (.ok (.ret v)) { s with heap := h', toks := tk' }) : codeAny M A (.call f args) R s := by
  obtain ⟨h1, d0, fr, gs, u0⟩ := A
  cases hh
  exact codeAny_mono (D d0 u0 fr gs hd hu) fun r s' ⟨v, e, h', tk', e2, p⟩ => e ▸ e2 ▸ h v h' tk' p

section
variable {prog : Program} {w : World} {A : Around} {E : Value → Shared → Prop} {s : Shared} {h₀ : Heap} {L : Addr} {m : Str → Option Value} {news : List (Addr × Obj)}
/-- a pair of names takes a row -/
theorem assignRow {env : Env} {a b : Str} {pa pb tp : Pos} {kk : Nat} {T : Addr} {x y : Value} {n : Nat} {Q : Unit → Shared → Prop} (F : Fr h₀ env.locals s.heap m) (N : News h₀ env.locals s.heap news) (hh : A.handled = none) (ht : s.heap.get? T = some (tupObj x y n))
    (ha : env.kindOf a = some .local) (hb : env.kindOf b = some .local) (hp : (env.scope.kind == .class || (env.scope.kind == .module && env.locals != env.globals)) = false)
    (h : ∀ (h' : Heap) (tk : Nat), Fr h₀ env.locals h' (fun z => if z = b then some y else if z = a then some x else m z) → News h₀ env.locals h' news → Q () { s with heap := h', toks := tk }) :
    wpAny (model prog w) A (assign (.Tuple [.Name a pa, .Name b pb] kk tp) env (.ref T)) Q E s := by
  refine kcp_assign hh ⟨_, ht, rfl, _, rfl⟩ ha hb hp F.ns fun h' tk hn hk => h h' tk ⟨hn, fun c o e => hk c o (fun q => ?_) (F.keep c o e), F.above⟩ fun p hp => ⟨hk _ _ (N p hp).2.1 (N p hp).1, (N p hp).2⟩
  rw [q] at e
  have := F.above
  exact absurd (Heap.lt_size e) (Nat.not_lt.mpr this)
end
section
variable {prog : Program} {w : World} {A : Around} {E : Value → Shared → Prop} {s : Shared} {env : Env} {h₀ : Heap} {Q : Flow → Shared → Prop}
/-- what a for over any target wants of its iterator: a walk of values, an invariant over the frame's map and the ledger -/
def LoopTup (prog : Program) (w : World) (A : Around) (h₀ : Heap) (env : Env) (target : Expr) (body : List Stmt) (Q : Flow → Shared → Prop) (E : Value → Shared → Prop) (it : Value) (s₂ : Shared) : Prop :=
  ∃ (I : Addr) (fp : List Addr) (n : Nat) (P : Nat → Value → Prop) (St : Nat → Heap → Prop) (m : Str → Option Value) (news : List (Addr × Obj)) (J : Nat → (Str → Option Value) → List (Addr × Obj) → Prop),
    it = .ref I ∧ (∀ i v (s : Shared) (Q : Unit → Shared → Prop) (E : Value → Shared → Prop), P i v → St (i + 1) s.heap → Q () s → wpAny (model prog w) A (letOwnedTupleGo target it v) Q E s) ∧ Walks prog w A I fp [I] n P St ∧ env.locals ∉ fp ∧ h₀.get? I = none ∧ (∀ p ∈ news, p.1 ≠ I) ∧ St 0 s₂.heap ∧ Fr h₀ env.locals s₂.heap m ∧ News h₀ env.locals s₂.heap news ∧ J 0 m news ∧
    (∀ i v m₁ news₁ h tk own, i < n → P i v → J i m₁ news₁ → (∀ p ∈ news₁, p.1 ≠ I) → (∀ p ∈ own, p.1 ∈ fp) → Fr h₀ env.locals h m₁ → News h₀ env.locals h (news₁ ++ own) →
      wpAny (model prog w) A (assign target env v) (fun _ s₄ => wpAny (model prog w) A (execs body env) (OurTurn h₀ env.locals I own (J (i + 1)) s₂ Q) E s₄) E { s₂ with heap := h, toks := tk }) ∧
    (∀ m₁ news₁ h tk, J n m₁ news₁ → Fr h₀ env.locals h m₁ → News h₀ env.locals h news₁ → Q .next { s₂ with heap := h, toks := tk })

/-- a for, any target -/
theorem for_tup {target iter : Expr} {body : List Stmt} {pos : Pos} (h₀ : Heap)
    (h : wpAny (model prog w) A (eval iter env) (fun x s₁ => wpAny (model prog w) A (pyIter x) (fun it s₂ => LoopTup prog w A h₀ env target body Q E it s₂) E s₁) E s)
    (hs : ∀ x, foldedSetIterable iter env x = pure x := by intro _; rfl)
    (hE : PassesOwn (model prog w) A env E := by passes_own) :
    wpAny (model prog w) A (exec (.For target iter body [] pos) env) Q E s := by
  refine wpAny_For (wpAny_mono h (fun xv s₁ h₁ => wpAny_mono h₁ (fun it s₂ h₂ => ?_) fun _ _ e => e) fun _ _ e => e) hs
  obtain ⟨I, fp, n, P, St, m, news, J, rfl, ht, W, hLf, hI0, hnI, hst, F, N, hj, turn, done⟩ := h₂
  have hIf : I ∈ fp := W.sub I (List.mem_singleton.mpr rfl)
  refine codeAny_forLoop_any
    (fun k s' => ∃ h' tk m' nx i, s' = { s₂ with heap := h', toks := tk } ∧ St i h' ∧ Fr h₀ env.locals h' m' ∧ News h₀ env.locals h' nx ∧ (∀ p ∈ nx, p.1 ≠ I) ∧ J i m' nx ∧ i ≤ n ∧ k = n + 1 - i) ?_ (n + 1)
    ⟨s₂.heap, s₂.toks, m, news, 0, rfl, hst, F, N, hnI, hj, Nat.zero_le _, rfl⟩
  rintro k s' ⟨h', tk, m', nx, i, rfl, hst', F', N', hnx, hJ, hi, rfl⟩
  have next : ∀ h₁ : Heap, (∀ b o, b ∉ [I] → h'.get? b = some o → h₁.get? b = some o) → Fr h₀ env.locals h₁ m' ∧ News h₀ env.locals h₁ nx := fun h₁ hk₁ =>
    ⟨⟨F'.ns.at' fun o e => hk₁ _ o (fun q => hLf ((List.mem_singleton.mp q) ▸ hIf)) e, fun b o e => hk₁ b o (fun q => by rw [List.mem_singleton.mp q, hI0] at e; cases e) (F'.keep b o e), F'.above⟩,
      fun p hp => ⟨hk₁ _ _ (fun q => hnx p hp (List.mem_singleton.mp q)) (N' p hp).1, (N' p hp).2⟩⟩
  by_cases hlt : i < n
  · refine W.item i _ _ _ hlt hst' fun v h₁ tk₁ hP hst₁ hk₁ => ?_
    refine ht i v _ _ _ hP hst₁ ?_
    obtain ⟨F₁, N₁⟩ := next h₁ hk₁
    have Nown : News h₀ env.locals h₁ (ownOf h₀ fp h₁) := news_ownOf hLf
    have N₂ : News h₀ env.locals h₁ (nx ++ ownOf h₀ fp h₁) := fun p hp => (List.mem_append.mp hp).elim (N₁ p) (Nown p)
    have T := turn i v m' nx h₁ tk₁ (ownOf h₀ fp h₁) hlt hP hJ hnx ownOf_sub F₁ N₂
    have fin : ∀ s₅ : Shared, (∃ h'' tk m'' nx', s₅ = { s₂ with heap := h'', toks := tk } ∧ Fr h₀ env.locals h'' m'' ∧ News h₀ env.locals h'' (nx' ++ ownOf h₀ fp h₁) ∧ (∀ p ∈ nx', p.1 ≠ I) ∧ J (i + 1) m'' nx') →
        ∃ mm, mm < n + 1 - i ∧ ∃ h' tk m' nx i, s₅ = { s₂ with heap := h', toks := tk } ∧ St i h' ∧ Fr h₀ env.locals h' m' ∧ News h₀ env.locals h' nx ∧ (∀ p ∈ nx, p.1 ≠ I) ∧ J i m' nx ∧ i ≤ n ∧ mm = n + 1 - i := by
      rintro s₅ ⟨h₃, tk₃, m₂, nx₂, rfl, F₃, N₃, ha₃, hJ₃⟩
      refine ⟨n + 1 - (i + 1), by (first | lia | omega), h₃, tk₃, m₂, nx₂, i + 1, rfl, ?_, F₃, fun p hp => N₃ p (List.mem_append_left _ hp), ha₃, hJ₃, hlt, rfl⟩
      refine W.frame _ _ _ hst₁ fun b hb o e => ?_
      cases hn : h₀.get? b with
      | some o₀ =>
        have e0 : o₀ = o := by have := F₁.keep b o₀ hn; rw [e] at this; exact (Option.some.inj this).symm
        exact e0 ▸ F₃.keep b o₀ hn
      | none => exact (N₃ (b, o) (List.mem_append_right _ (mem_ownOf hb hn e))).1
    refine wpAny_mono (wpAny_passesOwn hE T) (fun _ s₄ T₄ => wpAny_mono (wpAny_passesOwn hE T₄) (fun f s₅ T₅ => ?_) fun _ _ e => e) fun _ _ e => e
    cases f with
    | ret v => exact T₅
    | brk => exact T₅
    | next =>
      obtain ⟨h₃, tk₃, m₂, nx₂, e, r⟩ := T₅
      exact fin s₅ ⟨h₃, tk₃, m₂, nx₂, e, r⟩
    | cont =>
      obtain ⟨h₃, tk₃, m₂, nx₂, e, r⟩ := T₅
      exact fin s₅ ⟨h₃, tk₃, m₂, nx₂, e, r⟩
  · have hin : i = n := by (first | lia | omega)
    subst hin
    refine W.done _ _ _ hst' fun h₁ tk₁ hk₁ => wpAny_execs_nil ?_
    obtain ⟨F₁, N₁⟩ := next h₁ hk₁
    exact done m' nx h₁ tk₁ hJ F₁ N₁

/-- over a list, wherever it lies -/
theorem iter_rows {elts : List Expr} {kk : Nat} {tp : Pos} {body : List Stmt} {l : Addr} {vs : List Value} {m₀ : Str → Option Value} {news : List (Addr × Obj)} (J : Nat → (Str → Option Value) → List (Addr × Obj) → Prop)
    (href : ∀ v ∈ vs, ∃ T, v = .ref T) (hh : A.handled = none) (hl : s.heap.IsList l vs.toArray) (hlL : l ≠ env.locals) (F : Fr h₀ env.locals s.heap m₀) (N : News h₀ env.locals s.heap news) (hj : J 0 m₀ news)
    (turn : ∀ i v m₁ news₁ h tk I own, vs[i]? = some v → J i m₁ news₁ → (∀ p ∈ news₁, p.1 ≠ I) → l < I → (∀ p ∈ own, p.1 = I ∨ p.1 = l) → Fr h₀ env.locals h m₁ → News h₀ env.locals h (news₁ ++ own) →
      wpAny (model prog w) A (assign (.Tuple elts kk tp) env v) (fun _ s₄ => wpAny (model prog w) A (execs body env) (OurTurn h₀ env.locals I own (J (i + 1)) s Q) E s₄) E { s with heap := h, toks := tk })
    (done : ∀ m₁ news₁ h tk, J vs.length m₁ news₁ → Fr h₀ env.locals h m₁ → News h₀ env.locals h news₁ → Q .next { s with heap := h, toks := tk }) :
    wpAny (model prog w) A (pyIter (.ref l)) (fun it s₂ => LoopTup prog w A h₀ env (.Tuple elts kk tp) body Q E it s₂) E s := by
  obtain ⟨ol, hol, _⟩ := id hl
  have hlt := Heap.lt_size hol
  refine wpAny_pyIter_list hl ?_
  have W := Walks.list (prog := prog) (w := w) hh s.heap.objs.size l (Nat.ne_of_lt hlt) vs.toArray
  refine ⟨_, _, _, _, _, m₀, news, J, rfl, ?_, W, ?_, fresh_none F, fun p hp => Nat.ne_of_lt (Heap.lt_size (N p hp).1), ⟨⟨_, Heap.get?_push_size _ rfl, rfl, rfl⟩, hl.at fun o e => Heap.get?_push_of_some _ e⟩, F.push _, (fun p hp => ⟨Heap.get?_push_of_some _ (N p hp).1, (N p hp).2⟩), hj, ?_, ?_⟩
  · intro i v s Q E hP hst hQ
    obtain ⟨T, rfl⟩ := href v (by simpa using Array.mem_of_getElem? hP)
    exact wpAny_letOwnedTupleGo_listiter hst.1 hQ
  · intro hm
    rcases List.mem_cons.mp hm with e | hm
    · exact absurd F.ns.lt (e ▸ Nat.lt_irrefl _)
    · exact hlL (List.mem_singleton.mp hm).symm
  · intro i v m₁ news₁ h tk own hi hP hJ hnx hown F₁ N₁
    refine turn i v m₁ news₁ h tk _ own (by simpa using hP) hJ hnx hlt (fun p hp => ?_) F₁ N₁
    rcases List.mem_cons.mp (hown p hp) with e | hm
    · exact .inl e
    · exact .inr (List.mem_singleton.mp hm)
  · intro m₁ news₁ h tk hJ F₁ N₁
    exact done m₁ news₁ h tk (by simpa using hJ) F₁ N₁

end
theorem for_tupF {prog : Program} {w : World} {A : Around} {E : Value → Shared → Prop} {s : Shared} {env : Env} {h₀ : Heap} {L : Addr} {m : Str → Option Value} {Q : Flow → Shared → Prop} {target iter : Expr} {body : List Stmt} {pos : Pos} (_F : Fr h₀ L s.heap m)
    (h : wpAny (model prog w) A (eval iter env) (fun x s₁ => wpAny (model prog w) A (pyIter x) (fun it s₂ => LoopTup prog w A h₀ env target body Q E it s₂) E s₁) E s)
    (hs : ∀ x, foldedSetIterable iter env x = pure x := by intro _; rfl)
    (hE : PassesOwn (model prog w) A env E := by passes_own) :
    wpAny (model prog w) A (exec (.For target iter body [] pos) env) Q E s := for_tup h₀ h hs hE
/-- all but these objects stand as they stood -/
def Keep (Ds : List Addr) (h h' : Heap) : Prop := ∀ b o, b ∉ Ds → h.get? b = some o → h'.get? b = some o
theorem keep_but {s h : Heap} {L : Addr} {m : Str → Option Value} {news hid : List (Addr × Obj)} {Ds : List Addr} (F : Fr (hideAll s (hid.map (·.1))) L h m) (N : News (hideAll s (hid.map (·.1))) L h news) (hN : ∀ p ∈ hid, s.get? p.1 = some p.2)
    (hs : ∀ p ∈ hid, p.1 ∈ Ds ∨ p ∈ news) : Keep Ds s h := fun b o hb e => by
  by_cases hm : b ∈ hid.map (·.1)
  · obtain ⟨p, hp, rfl⟩ := List.mem_map.mp hm
    rcases hs p hp with h1 | h1
    · exact absurd h1 hb
    · rw [hN p hp] at e
      rw [← Option.some.inj e]
      exact (N p h1).1
  · exact F.keep b o (hideAll_get _ e hm)
theorem Keep.stays {h h' : Heap} (k : Keep [] h h') : h.StaysIn h' := fun b o e => k b o (by simp) e
theorem fresh_of {s h : Heap} {L : Addr} {m : Str → Option Value} {news hid : List (Addr × Obj)} {a : Nat} (F : Fr (hideAll s (hid.map (·.1))) L h m) (N : News (hideAll s (hid.map (·.1))) L h news) (hs : ∀ p ∈ hid, ∃ o, (p.1, o) ∈ news) (ha : @LE.le Nat _ h.objs.size a) : s.get? a = none := by
  cases e : s.get? a with
  | none => rfl
  | some o =>
    have key : ∃ o, h.get? a = some o := by
      by_cases hm : a ∈ hid.map (·.1)
      · obtain ⟨p, hp, rfl⟩ := List.mem_map.mp hm
        obtain ⟨o, ho⟩ := hs p hp
        exact ⟨o, (N _ ho).1⟩
      · exact ⟨o, F.keep a o (hideAll_get _ e hm)⟩
    obtain ⟨o, ho⟩ := key
    exact absurd (Heap.lt_size ho) (Nat.not_lt.mpr ha)
theorem fresh_hide {s : Heap} {hid : List (Addr × Obj)} {a : Addr} (e : (hideAll s (hid.map (·.1))).get? a = none) (hne : ∀ p ∈ hid, p.1 ≠ a) : s.get? a = none := by
  rcases hide_none e with h | h
  · obtain ⟨p, hp, rfl⟩ := List.mem_map.mp h
    exact absurd rfl (hne p hp)
  · exact h
/-- the entries of an own instance's dict that holds its rows' list -/
abbrev hdrE (w : World) (tok : Tok) (l : Addr) : List DictEntry := [{ hash := PyData.keyHash w.params (Str.ofString "_headers"), key := .str (Str.ofString "_headers") tok, val := .ref l }]
/-- a table: an own instance, its dict, its rows' list -/
structure TabAt (w : World) (C : Addr) (h : Heap) (x dx l : Addr) (tok : Tok) (refs : List Value) (n : Nat) : Prop where
  hx : h.get? x = some (instObj C dx)
  hd : h.get? dx = some (dictOf (hdrE w tok l) 1)
  hl : h.get? l = some (listOf refs.toArray n)
abbrev hidT (w : World) (C x dx l : Addr) (tok : Tok) (refs : List Value) (n : Nat) : List (Addr × Obj) := [(x, instObj C dx), (dx, dictOf (hdrE w tok l) 1), (l, listOf refs.toArray n)]
structure NmOk (x : Str) : Prop where
  safe : Safe x
  low : Safe (Txt.lower x)
  len : x.length ≤ 300
structure RowsOk (rows : List (Str × Str)) : Prop where
  safe : ∀ r ∈ rows, Safe r.1 ∧ Safe r.2 ∧ r.1.length ≤ 1000 ∧ r.2.length ≤ 1000
  size : rows.length ≤ 1000
section
variable {w : World} {C : Addr} {h B : Heap} {x dx l : Addr} {tok : Tok} {refs : List Value} {n : Nat} {rows : List (Str × Str)}
theorem TabAt.all (T : TabAt w C h x dx l tok refs n) : ∀ p ∈ hidT w C x dx l tok refs n, h.get? p.1 = some p.2 :=
  List.forall_mem_cons.mpr ⟨T.hx, List.forall_mem_cons.mpr ⟨T.hd, List.forall_mem_cons.mpr ⟨T.hl, List.forall_mem_nil _⟩⟩⟩
theorem TabAt.hid (T : TabAt w C h x dx l tok refs n) (nB : B.get? x = none ∧ B.get? dx = none ∧ B.get? l = none) : ∀ p ∈ hidT w C x dx l tok refs n, h.get? p.1 = some p.2 ∧ B.get? p.1 = none :=
  List.forall_mem_cons.mpr ⟨⟨T.hx, nB.1⟩, List.forall_mem_cons.mpr ⟨⟨T.hd, nB.2.1⟩, List.forall_mem_cons.mpr ⟨⟨T.hl, nB.2.2⟩, List.forall_mem_nil _⟩⟩⟩
theorem TabAt.rowsAt (T : TabAt w C h x dx l tok refs n) (R : RowsAt h refs rows) : RowsAt (hideAll h ((hidT w C x dx l tok refs n).map (·.1))) refs rows :=
  R.hide T.all (by intro p hp; simp at hp; rcases hp with rfl | rfl | rfl <;> simp)
theorem ne_at {a b : Addr} {o o' : Obj} (ha : h.get? a = some o) (hb : h.get? b = some o') (hne : o ≠ o') : @Ne Nat a b := fun e => hne (by
  have ha' : h.get? b = some o := e ▸ ha
  rw [hb] at ha'; exact (Option.some.inj ha').symm)
theorem TabAt.xd (T : TabAt w C h x dx l tok refs n) : @Ne Nat x dx := ne_at T.hx T.hd (by intro e; cases e)
theorem TabAt.xl (T : TabAt w C h x dx l tok refs n) : @Ne Nat x l := ne_at T.hx T.hl (by intro e; cases e)
theorem TabAt.dl (T : TabAt w C h x dx l tok refs n) : @Ne Nat dx l := ne_at T.hd T.hl (fun e => by have := congrArg Obj.cls e; simp at this)
end
theorem drop_at {α : Type} {l : List α} {i : Nat} {a : α} (h : l[i]? = some a) : l.drop i = a :: l.drop (i + 1) := by
  rw [List.drop_eq_getElem?_toList_append, h]; rfl
end Mine

end
section
-- Cnv01
local macro_rules | `(tactic| walk_at "no such key") => `(tactic| skip)
theorem Mine.fresh_Cnv01 : True := by
  w_top off
  trivial
open PySem PySem.W PyProof.Rows PySem.Calls PySem.Builtin.Str
set_option maxRecDepth 100000
set_option maxHeartbeats 1000000
set_option pp.deepTerms false
namespace Mine
local macro_rules | `(tactic| k_room) => `(tactic| ((try simp only [Around.deeper, recursionLimit] at *); omega))
local macro_rules | `(tactic| k_units) => `(tactic| ((try simp only [Around.deeper, Around.in1, cLine] at *); omega))


theorem pat1 {w : World} {h : Heap} (X : (Mine.hd01.heap_39 w.params).In h) : PatAt h 92 code1 :=
  ⟨_, _, 91, _, _, _, X _ _ rfl, rfl, rfl, rfl, rfl, rfl, rfl, X _ _ rfl, rfl, by kernel_rfl⟩
theorem pat2 {w : World} {h : Heap} (X : (Mine.hd01.heap_39 w.params).In h) : PatAt h 97 code2 :=
  ⟨_, _, 96, _, _, _, X _ _ rfl, rfl, rfl, rfl, rfl, rfl, rfl, X _ _ rfl, rfl, by kernel_rfl⟩
local macro_rules | `(tactic| walk_at "getMethod ref") => `(tactic| (k_here; k_dflt (refine' patMethK (code := _) ?k1 _ ?_; (case k1 => first | exact PatAt.keep (by with_reducible assumption) (Fr.keep (by with_reducible assumption))); k_whole)))
local macro_rules | `(tactic| walk_at "call builtin:re.Pattern.search") => `(tactic| (k_here; first
   | (refine' searchK (PatAt.keep (P := 92) (by with_reducible assumption) (Fr.keep (by with_reducible assumption))) noSafe1 rfl rfl rfl (by assumption) (by assumption) ?_)
   | (refine' searchK (PatAt.keep (P := 97) (by with_reducible assumption) (Fr.keep (by with_reducible assumption))) noSafe2 rfl rfl rfl (by assumption) (by assumption) ?_)))
theorem conv_spec {w : World} {s : Shared} {B : Heap} {loose mean mg mb} {self : Value} {x : Str} {t : Tok} {nm : Bool}
    (G : Gd (Mine.hd01.heap_39 w.params) loose mean mg mb B) (hB : B.StaysIn s.heap) (hx : Safe x) (hl : x.length ≤ 1000) :
    Does (model PySem.Challenge.rw_pg0310_01.row.prog w) 5 20 (call (.ref 119) [self, .str x t] [("name", .bool nm)]) s (fun v h' => v = .str x t ∧ s.heap.StaysIn h') := by
  intro d0 u0 fr gs hd hu
  revert G
  k_fill
  intro G
  refine' enter (binds := [("self", self), ("value", .str x t), ("name", .bool nm)]) G hB [] (List.forall_mem_nil _) ?k6 ?k7 ?k8 ?k9 ?kB ?_ ?c2 ?c3 ?c4 ?c5; (case k6 => k_is); (case k7 => k_is); (case k8 => k_room); (case k9 => exact BindsTo.of_eq rfl);  (case c5 => decide); (case kB => exact locs rfl); (case c2 => exact rfl); (case c3 => exact rfl); (case c4 => exact rfl)
  intro g' L' h' hg' F' N' hlow X' T'
  have st : s.heap.StaysIn g' := by rw [hg']; exact fun _ _ e => e
  clear hg'
  have p1 := pat1 X'
  have p2 := pat2 X'
  have hl2 : x.length ≤ 1000000 := by omega
  (try dsimp only)
  (try k_fold)
  k_steps
  all_goals (first | (k_unmd; k_unfold; try dsimp only) | (try dsimp only))
  all_goals (refine Done.mk ⟨rfl, fun b o e => Fr.keep (by with_reducible assumption) b o (st b o e)⟩)
end Mine

end
section
-- Ini01
theorem Mine.fresh_Ini01 : True := by
  w_top off
  trivial
open PySem PySem.W PyProof.Rows PySem.Calls PySem.Builtin.Str
set_option maxRecDepth 100000
set_option maxHeartbeats 1000000
set_option pp.deepTerms false
namespace Mine
local macro_rules | `(tactic| k_room) => `(tactic| ((try simp only [Around.deeper, recursionLimit] at *); omega))
local macro_rules | `(tactic| k_units) => `(tactic| ((try simp only [Around.deeper, Around.in1, cLine] at *); omega))
local macro_rules | `(tactic| k_all) => `(tactic| first | with_reducible assumption | exact allLt_ne (by with_reducible assumption) | exact Low.ne (by with_reducible assumption) (by omega) | (exact Low.ne (by assumption) (by omega)))

local macro_rules | `(tactic| walk_at "eval Name") => `(tactic| (k_here; k_dflt (refine' ld ?k1 ?k2 ?_; (case k1 => k_asm); (case k2 => first | exact rfl | assumption); k_whole)))
theorem init_spec {w : World} {s : Shared} {B : Heap} {loose mean mg mb} {x dx l : Addr} {refs : List Value} {rows : List (Str × Str)} {n : Nat}
    (G : Gd (Mine.hd01.heap_39 w.params) loose mean mg mb B) (hB : B.StaysIn s.heap)
    (hx : s.heap.get? x = some (instObj 218 dx) ∧ B.get? x = none) (hdx : s.heap.get? dx = some (dictOf [] 0) ∧ B.get? dx = none) (hl : s.heap.get? l = some (listOf refs.toArray n) ∧ B.get? l = none) (hxl : @Ne Nat x l) (hdl : @Ne Nat dx l) (hxd : @Ne Nat x dx)
    (hr : RowsAt s.heap refs rows) (hs : ∀ r ∈ rows, Safe r.1 ∧ Safe r.2 ∧ r.1.length ≤ 1000 ∧ r.2.length ≤ 1000) (hsz : rows.length ≤ 1000) :
    DoesC (model PySem.Challenge.rw_pg0310_01.row.prog w) 10 40 (.ref 112) ⟨[.ref x, .ref l], []⟩ s (fun v h' => v = .none ∧ ∃ tok, Keep [dx] s.heap h' ∧ h'.get? dx = some (dictOf (hdrE w tok l) 1)) := by
  intro d0 u0 fr gs hd hu
  revert G
  k_fill
  intro G
  refine' enter_code (binds := [("self", .ref x), ("headers", .ref l)]) G hB [(x, instObj 218 dx), (dx, dictOf [] 0), (l, listOf refs.toArray n)] ?kH ?k6 ?k7 ?k8 ?k9 ?kB ?_ ?c2 ?c3 ?c4 ?c5; (case k6 => k_is); (case k7 => k_is); (case k8 => k_room); (case k9 => exact binds_K (G.X.keeps hB) rfl (by k_is) rfl rfl rfl);  (case c5 => decide); (case kB => exact locs rfl); (case c2 => exact rfl); (case c3 => exact rfl); (case c4 => exact rfl)
  case kH => exact List.forall_mem_cons.mpr ⟨hx, List.forall_mem_cons.mpr ⟨hdx, List.forall_mem_cons.mpr ⟨hl, List.forall_mem_nil _⟩⟩⟩
  intro g' L' h' hg' F' N' hlow X' T'
  subst hg'
  have hidN : ∀ p ∈ [(x, instObj 218 dx), (dx, dictOf [] 0), (l, listOf refs.toArray n)], s.heap.get? p.1 = some p.2 := List.forall_mem_cons.mpr ⟨hx.1, List.forall_mem_cons.mpr ⟨hdx.1, List.forall_mem_cons.mpr ⟨hl.1, List.forall_mem_nil _⟩⟩⟩
  have hrg := hr.hide hidN (by intro p hp; simp at hp; rcases hp with rfl | rfl | rfl <;> simp)
  (try dsimp only)
  (try k_fold)
  k_steps
  rename Fr _ _ _ _ => F
  rename News _ _ _ _ => Nw
  refine for_tupF F ?_
  k_steps
  have z := Nw (l, listOf refs.toArray n) (by first | ((repeat (first | with_reducible exact List.mem_cons_self .. | with_reducible refine List.mem_cons_of_mem _ ?_)); done) | simp)
  refine iter_rows (vs := refs) (fun i m nx => nx = [(x, instObj 218 dx), (dx, dictOf (hdrE w _ l) 1), (l, listOf refs.toArray n)] ∧ m "self" = some (.ref x)) hr.refs rfl ⟨_, z.1, rfl, _, rfl⟩ z.2.1 F Nw ⟨rfl, rfl⟩ ?_ ?_
  · clear F Nw z
    rintro i v m₁ nx h tk I own hv ⟨rfl, m1⟩ hI hlI hown F Nw
    obtain ⟨r, hr1, T, nt, t1, t2, rfl, hT⟩ := RowsAt.at hrg hv
    obtain ⟨s1, s2, s3, s4⟩ := hs r (List.mem_of_getElem? hr1)
    refine assignRow F Nw rfl (F.keep _ _ hT) rfl rfl rfl ?_
    clear F Nw
    intro h' tk' F Nw
    (try k_fold)
    k_steps
    show wpAny _ _ (call (.ref 119) [.ref x, .str r.1 t1] [("name", .bool true)]) _ _ _
    refine Does.use (conv_spec ⟨X', T'⟩ F.keep s1 s3) rfl (by first | exact room1 hd (Nat.le_of_ble_eq_true rfl) | exact room3 hu (Nat.le_of_ble_eq_true rfl) | (simp only [Around.deeper]; omega)) (by first | exact room1 hd (Nat.le_of_ble_eq_true rfl) | exact room3 hu (Nat.le_of_ble_eq_true rfl) | (simp only [Around.deeper]; omega)) ?_
    rintro v h2 tk2 ⟨rfl, keep⟩
    have F2 := F.keeps keep
    have N2 := Nw.grown keep
    clear F Nw keep
    (try dsimp only)
    k_steps
    show wpAny _ _ (call (.ref 119) [.ref x, .str r.2 t2] [("name", .bool false)]) _ _ _
    refine Does.use (conv_spec ⟨X', T'⟩ F2.keep s2 s4) rfl (by first | exact room1 hd (Nat.le_of_ble_eq_true rfl) | exact room3 hu (Nat.le_of_ble_eq_true rfl) | (simp only [Around.deeper]; omega)) (by first | exact room1 hd (Nat.le_of_ble_eq_true rfl) | exact room3 hu (Nat.le_of_ble_eq_true rfl) | (simp only [Around.deeper]; omega)) ?_
    rintro v h3 tk3 ⟨rfl, keep⟩
    have F3 := F2.keeps keep
    have N3 := N2.grown keep
    clear F2 N2 keep
    (try dsimp only)
    k_steps
    exact OurTurn.next F3 N3 hI ⟨rfl, m1⟩
  · rintro m₁ nx h tk ⟨rfl, m1⟩ F Nw
    (try k_fold)
    k_steps
    (first | (k_unmd; k_unfold; try dsimp only) | (try dsimp only))
    exact Done.mk ⟨rfl, _, keep_but F Nw hidN (by intro p hp; simp at hp; rcases hp with rfl | rfl | rfl <;> simp), (Nw _ (List.mem_cons_of_mem _ (List.mem_cons_self ..))).1⟩
end Mine

end
section
-- Get01
local macro_rules | `(tactic| walk_at "no such key") => `(tactic| skip)
theorem Mine.fresh_Get01 : True := by
  w_top off
  trivial
open PySem PySem.W PyProof.Rows PySem.Calls PySem.Builtin.Str
set_option maxRecDepth 100000
set_option maxHeartbeats 1000000
set_option pp.deepTerms false
namespace Mine
local macro_rules | `(tactic| k_room) => `(tactic| ((try simp only [Around.deeper, recursionLimit] at *); omega))
local macro_rules | `(tactic| k_units) => `(tactic| ((try simp only [Around.deeper, Around.in1, cLine] at *); omega))
local macro_rules | `(tactic| k_all) => `(tactic| first | with_reducible assumption | exact allLt_ne (by with_reducible assumption) | exact Low.ne (by with_reducible assumption) (by omega) | (exact Low.ne (by assumption) (by omega)))
local macro_rules | `(tactic| walk_at "eval Name") => `(tactic| (k_here; k_dflt (refine' ld ?k1 ?k2 ?_; (case k1 => k_asm); (case k2 => first | exact rfl | assumption); k_whole)))

theorem items_spec {w : World} {s : Shared} {B : Heap} {loose mean mg mb} {x dx l : Addr} {tok : Tok} {refs : List Value} {n : Nat}
    (G : Gd (Mine.hd01.heap_39 w.params) loose mean mg mb B) (hB : B.StaysIn s.heap)
    (T : TabAt w 218 s.heap x dx l tok refs n) (nB : B.get? x = none ∧ B.get? dx = none ∧ B.get? l = none) (_hsz : refs.length ≤ 1000) :
    Does (model PySem.Challenge.rw_pg0310_01.row.prog w) 10 40 (call (.ref 182) [.ref x]) s (fun v h' => Keep [] s.heap h' ∧ ∃ D k, v = .ref D ∧ h'.get? D = some (listOf refs.toArray k) ∧ s.heap.get? D = none) := by
  intro d0 u0 fr gs hd hu
  revert G
  k_fill
  intro G
  refine' enter (binds := [("self", .ref x)]) G hB (hidT w 218 x dx l tok refs n) (T.hid nB) ?k6 ?k7 ?k8 ?k9 ?kB ?_ ?c2 ?c3 ?c4 ?c5; (case k6 => k_is); (case k7 => k_is); (case k8 => k_room); (case k9 => exact BindsTo.of_eq rfl);  (case c5 => decide); (case kB => exact locs rfl); (case c2 => exact rfl); (case c3 => exact rfl); (case c4 => exact rfl)
  intro g' L' h' hg' F' N' hlow X' T'
  subst hg'
  (try dsimp only)
  (try k_fold)
  k_steps
  rename Fr _ _ _ _ => F
  rename News _ _ _ _ => Nw
  (first | (k_unmd; k_unfold; try dsimp only) | (try dsimp only))
  rw [slicePick_all] at Nw
  refine Done.mk ⟨keep_but F Nw T.all (by intro p hp; right; exact List.mem_cons_of_mem _ hp), _, _, rfl, (Nw _ (List.mem_cons_self ..)).1, ?_⟩
  exact fresh_of F' N' (fun p hp => ⟨_, hp⟩) (Nat.le_succ _)

/-- what a table tells of a name -/
def getR (nm : Str) (rows : List (Str × Str)) : Option Str := (rows.find? (fun r => Txt.lower r.1 == Txt.lower nm)).map (·.2)
theorem getR_pos {nm : Str} {r : Str × Str} {rest : List (Str × Str)} (h : (Txt.lower r.1 == Txt.lower nm) = true) : getR nm (r :: rest) = some r.2 := by
  unfold getR; rw [List.find?_cons_of_pos (p := fun q : Str × Str => Txt.lower q.1 == Txt.lower nm) h]; rfl
theorem getR_neg {nm : Str} {r : Str × Str} {rest : List (Str × Str)} (h : (Txt.lower r.1 == Txt.lower nm) = false) : getR nm (r :: rest) = getR nm rest := by
  unfold getR; rw [List.find?_cons_of_neg (p := fun q : Str × Str => Txt.lower q.1 == Txt.lower nm) (by rw [h]; decide)]
def IsGot (df : Value) (r : Option Str) (v : Value) : Prop := match r with
  | some x => ∃ t, v = .str x t
  | none => v = df

theorem get_spec {w : World} {s : Shared} {B : Heap} {loose mean mg mb} {x dx l : Addr} {tok : Tok} {refs : List Value} {rows : List (Str × Str)} {n : Nat} {nm : Str} {tn : Tok} {df : Value}
    (G : Gd (Mine.hd01.heap_39 w.params) loose mean mg mb B) (hB : B.StaysIn s.heap)
    (T : TabAt w 218 s.heap x dx l tok refs n) (nB : B.get? x = none ∧ B.get? dx = none ∧ B.get? l = none) (hr : RowsAt s.heap refs rows) (ok : RowsOk rows) (hn : NmOk nm) {args : List Value} (ha : args = [.ref x, .str nm tn, df] ∨ (args = [.ref x, .str nm tn] ∧ df = .none)) :
    Does (model PySem.Challenge.rw_pg0310_01.row.prog w) 10 40 (call (.ref 165) args) s (fun v h' => Keep [] s.heap h' ∧ IsGot df (getR nm rows) v) := by
  intro d0 u0 fr gs hd hu
  revert G
  k_fill
  intro G
  refine' enter (binds := [("self", .ref x), ("name", .str nm tn), ("default", df)]) G hB (hidT w 218 x dx l tok refs n) (T.hid nB) ?k6 ?k7 ?k8 ?k9 ?kB ?_ ?c2 ?c3 ?c4 ?c5; (case k6 => k_is); (case k7 => k_is); (case k8 => k_room); (case k9 => rcases ha with rfl | ⟨rfl, rfl⟩ <;> exact binds_K (G.X.keeps hB) rfl (by k_is) rfl rfl rfl);  (case c5 => decide); (case kB => exact locs rfl); (case c2 => exact rfl); (case c3 => exact rfl); (case c4 => exact rfl)
  intro g' L' h' hg' F' N' hlow X' T'
  have hrg := T.rowsAt hr
  have hn1 := hn.len
  have hrsz := ok.size
  subst hg'
  (try dsimp only)
  (try k_fold)
  k_steps
  show wpAny _ _ (call (.ref 119) [.ref x, .str (Txt.lower nm) _] [("name", .bool true)]) _ _ _
  refine Does.use (conv_spec ⟨X', T'⟩ F'.keep hn.low (by first | with_reducible assumption | with_reducible exact lt_num (by with_reducible assumption) (Nat.le_of_ble_eq_true rfl) | with_reducible exact le_num (by with_reducible assumption) (Nat.le_of_ble_eq_true rfl) | with_reducible exact le_le (by with_reducible assumption) (Nat.le_of_ble_eq_true rfl) | omega)) rfl (by first | exact room1 hd (Nat.le_of_ble_eq_true rfl) | exact room3 hu (Nat.le_of_ble_eq_true rfl) | (simp only [Around.deeper]; omega)) (by first | exact room1 hd (Nat.le_of_ble_eq_true rfl) | exact room3 hu (Nat.le_of_ble_eq_true rfl) | (simp only [Around.deeper]; omega)) ?_
  rintro v h2 tk2 ⟨rfl, keep⟩
  have F2 := F'.keeps keep
  have N2 := N'.grown keep
  clear F' N' keep
  (try dsimp only)
  k_steps
  (try clear F2 N2)
  rename Fr _ _ _ _ => F
  rename News _ _ _ _ => Nw
  refine for_tupF F ?_
  k_steps
  have z := Nw (l, listOf refs.toArray n) (by first | ((repeat (first | with_reducible exact List.mem_cons_self .. | with_reducible refine List.mem_cons_of_mem _ ?_)); done) | simp)
  refine iter_rows (vs := refs) (fun i m nx => nx = hidT w 218 x dx l tok refs n ∧ (∃ t, m "name" = some (.str (Txt.lower nm) t)) ∧ m "default" = some df ∧ getR nm rows = getR nm (rows.drop i)) hr.refs rfl ⟨_, z.1, rfl, _, rfl⟩ z.2.1 F Nw ⟨rfl, ⟨_, rfl⟩, rfl, rfl⟩ ?_ ?_
  · clear F Nw z
    rintro i v m₁ nx h tk I own hv ⟨rfl, ⟨t0, m1⟩, m2, m3⟩ hI hlI hown F Nw
    obtain ⟨r, hr1, Tp, nt, t1, t2, rfl, hT⟩ := RowsAt.at hrg hv
    obtain ⟨s1, s2, s3, s4⟩ := ok.safe r (List.mem_of_getElem? hr1)
    rw [drop_at hr1] at m3
    refine assignRow F Nw rfl (F.keep _ _ hT) rfl rfl rfl ?_
    clear F Nw
    intro h' tk' F Nw
    (try k_fold)
    k_steps
    · rename (_ == _) = true => hq
      refine OurTurn.ret (Done.mk ⟨keep_but F Nw T.all (fun p hp => .inr (List.mem_append_left _ hp)), ?_⟩)
      rw [m3, getR_pos hq]
      exact ⟨_, rfl⟩
    · rename (_ == _) = false => hq
      refine OurTurn.next F Nw hI ⟨rfl, ⟨_, m1⟩, m2, ?_⟩
      rw [m3, getR_neg hq]
  · rintro m₁ nx h tk ⟨rfl, m1, m2, m3⟩ F Nw
    rw [List.drop_eq_nil_of_le (by rw [hr.1]; exact Nat.le_refl _)] at m3
    (try k_fold)
    k_steps
    (first | (k_unmd; k_unfold; try dsimp only) | (try dsimp only))
    refine Done.mk ⟨keep_but F Nw T.all (fun p hp => .inr hp), ?_⟩
    rw [m3]
    rfl
end Mine

end
section
-- Tups
theorem Mine.fresh_Tups : True := by
  w_top off
  trivial
open PySem PySem.W PyProof.Rows PySem.Calls PySem.Builtin PySem.Builtin.Str
set_option maxRecDepth 100000
namespace Mine
/-- rows as a ledger holds them -/
def refsOf (tups : List (Addr × Obj)) : List Value := tups.map fun p => .ref p.1
def TupIs (p : Addr × Obj) (r : Str × Str) : Prop := ∃ n t1 t2, p.2 = tupObj (.str r.1 t1) (.str r.2 t2) n
inductive TupsAre : List (Addr × Obj) → List (Str × Str) → Prop
  | nil : TupsAre [] []
  | cons {p r ps rs} (h : TupIs p r) (t : TupsAre ps rs) : TupsAre (p :: ps) (r :: rs)
theorem TupsAre.length {ps : List (Addr × Obj)} {rs : List (Str × Str)} (T : TupsAre ps rs) : ps.length = rs.length := by
  induction T with
  | nil => rfl
  | cons _ _ ih => simp [ih]
theorem refsOf_length (ps : List (Addr × Obj)) : (refsOf ps).length = ps.length := by simp [refsOf]
theorem refsOf_snoc (ps : List (Addr × Obj)) (p : Addr × Obj) : refsOf (ps ++ [p]) = refsOf ps ++ [.ref p.1] := by simp [refsOf]
theorem TupsAre.snoc {ps : List (Addr × Obj)} {rs : List (Str × Str)} {p : Addr × Obj} {r : Str × Str} (T : TupsAre ps rs) (h : TupIs p r) : TupsAre (ps ++ [p]) (rs ++ [r]) := by
  induction T with
  | nil => exact .cons h .nil
  | cons a _ ih => exact .cons a ih
theorem TupsAre.at {ps : List (Addr × Obj)} {rs : List (Str × Str)} (T : TupsAre ps rs) : ∀ (i : Nat) p, ps[i]? = some p → ∃ r, rs[i]? = some r ∧ TupIs p r := by
  induction T with
  | nil => intro i p h; simp at h
  | cons a _ ih =>
    intro i p h
    cases i with
    | zero => simp at h; subst h; exact ⟨_, rfl, a⟩
    | succ i => simpa using ih i p (by simpa using h)
theorem TupsAre.rowsAt {ps : List (Addr × Obj)} {rs : List (Str × Str)} {h : Heap} (T : TupsAre ps rs) (hk : ∀ p ∈ ps, h.get? p.1 = some p.2) : RowsAt h (refsOf ps) rs := by
  refine ⟨by rw [refsOf_length, T.length], fun i x r a b => ?_⟩
  unfold refsOf at a
  rw [List.getElem?_map] at a
  cases hp : ps[i]? with
  | none => rw [hp] at a; cases a
  | some p =>
    rw [hp] at a
    obtain ⟨r', hr, n, t1, t2, e⟩ := T.at i p hp
    rw [hr] at b
    cases b
    exact ⟨p.1, n, t1, t2, (Option.some.inj a).symm, by rw [hk p (List.mem_of_getElem? hp), e]⟩
theorem TupsAre.seq {ps : List (Addr × Obj)} {rs : List (Str × Str)} (T : TupsAre ps rs) : ∀ p ∈ ps, NotFld p.2 := fun p hp => by
  obtain ⟨i, hi⟩ := List.getElem?_of_mem hp
  obtain ⟨r, _, n, t1, t2, e⟩ := T.at i p hi
  rw [e]; exact fun _ z => by cases z

/-- what a method leaves that changes a table's rows -/
structure TabMut (w : World) (C x dx l : Addr) (tok : Tok) (tups : List (Addr × Obj)) (rows' : List (Str × Str)) (s h' : Heap) : Prop where
  ex : ∃ tups' n', TabAt w C h' x dx l tok (refsOf tups') n' ∧ TupsAre tups' rows' ∧ ∀ p ∈ tups', h'.get? p.1 = some p.2 ∧ (p ∈ tups ∨ s.get? p.1 = none)
  keep : Keep [l] s h'
/-- of a table within a call: its rows and itself, at a later heap of that call -/
theorem tups_keep {s h : Heap} {L : Addr} {m : Str → Option Value} {hid tups : List (Addr × Obj)} (F : Fr (hideAll s (hid.map (·.1))) L h m) (hN : ∀ p ∈ hid, s.get? p.1 = some p.2) (hc : ∀ p ∈ hid, p.2.cls ≠ .type "tuple") {rs : List (Str × Str)} (T : TupsAre tups rs)
    (hk : ∀ p ∈ tups, s.get? p.1 = some p.2) : ∀ p ∈ tups, h.get? p.1 = some p.2 := fun p hp => by
  refine F.keep _ _ (hideAll_get _ (hk p hp) fun hm => ?_)
  obtain ⟨q, hq, e⟩ := List.mem_map.mp hm
  have h1 := hN q hq
  rw [e, hk p hp] at h1
  obtain ⟨i, hi⟩ := List.getElem?_of_mem hp
  obtain ⟨r, _, n, t1, t2, e2⟩ := T.at i p hi
  refine hc q hq ?_
  rw [← Option.some.inj h1, e2]
section
variable {w : World} {C x dx l L : Addr} {g h : Heap} {tok : Tok} {refs : List Value} {n : Nat} {rest : List (Addr × Obj)}
theorem TabAt.news (N : News g L h ((x, instObj C dx) :: (dx, dictOf (hdrE w tok l) 1) :: (l, listOf refs.toArray n) :: rest)) : TabAt w C h x dx l tok refs n :=
  ⟨(N _ (List.mem_cons_self ..)).1, (N _ (List.mem_cons_of_mem _ (List.mem_cons_self ..))).1, (N _ (List.mem_cons_of_mem _ (List.mem_cons_of_mem _ (List.mem_cons_self ..)))).1⟩
theorem TabAt.none (N : News g L h ((x, instObj C dx) :: (dx, dictOf (hdrE w tok l) 1) :: (l, listOf refs.toArray n) :: rest)) : g.get? x = Option.none ∧ g.get? dx = Option.none ∧ g.get? l = Option.none :=
  ⟨(N _ (List.mem_cons_self ..)).2.2, (N _ (List.mem_cons_of_mem _ (List.mem_cons_self ..))).2.2, (N _ (List.mem_cons_of_mem _ (List.mem_cons_of_mem _ (List.mem_cons_self ..)))).2.2⟩
theorem hidT_cls : ∀ p ∈ hidT w C x dx l tok refs n, p.2.cls ≠ .type "tuple" := by intro p hp; simp at hp; rcases hp with rfl | rfl | rfl <;> simp
end
theorem fresh_tup {s h : Heap} {L D : Addr} {hid news : List (Addr × Obj)} {o : Obj} (N : News (hideAll s (hid.map (·.1))) L h news) (hm : (D, o) ∈ news) (ho : o.cls = .type "tuple") (hs : ∀ p ∈ hid, ∃ o', (p.1, o') ∈ news ∧ o'.cls ≠ .type "tuple") : s.get? D = none :=
  fresh_hide (N _ hm).2.2 fun p hp => by
    obtain ⟨o', h1, h2⟩ := hs p hp
    exact ne_at (N _ h1).1 (N _ hm).1 fun e => h2 ((congrArg Obj.cls e).trans ho)
theorem TabAt.ne_tup {w : World} {C x dx l D : Addr} {h : Heap} {tok : Tok} {refs refs0 : List Value} {n n0 : Nat} {o : Obj} (T : TabAt w C h x dx l tok refs n) (hD : h.get? D = some o) (ho : o.cls = .type "tuple") : ∀ p ∈ hidT w C x dx l tok refs0 n0, p.1 ≠ D := by
  intro p hp
  simp at hp
  rcases hp with rfl | rfl | rfl
  · exact ne_at T.hx hD fun e => by rw [← e] at ho; cases ho
  · exact ne_at T.hd hD fun e => by rw [← e] at ho; simp at ho
  · exact ne_at T.hl hD fun e => by rw [← e] at ho; simp at ho
theorem TabMut.push {w : World} {C x dx l D : Addr} {s h : Heap} {tok : Tok} {tups tups0 : List (Addr × Obj)} {rows : List (Str × Str)} {n k : Nat} {a b : Str} {ta tb : Tok} (T : TabAt w C h x dx l tok (refsOf tups ++ [.ref D]) n) (hT : TupsAre tups rows)
    (htk : ∀ p ∈ tups, h.get? p.1 = some p.2 ∧ (p ∈ tups0 ∨ s.get? p.1 = none)) (hD1 : h.get? D = some (tupObj (.str a ta) (.str b tb) k)) (hD : s.get? D = none) (keep : Keep [l] s h) : TabMut w C x dx l tok tups0 (rows ++ [(a, b)]) s h := by
  refine ⟨⟨tups ++ [(D, _)], n, by rw [refsOf_snoc]; exact T, hT.snoc ⟨k, ta, tb, rfl⟩, fun p hp => ?_⟩, keep⟩
  rcases List.mem_append.mp hp with hp | hp
  · exact htk p hp
  · rw [List.mem_singleton.mp hp]
    exact ⟨hD1, .inr hD⟩
section
variable {prog : Program} {w : World} {A : Around} {s : Shared} {h₀ : Heap} {L : Addr} {m : Str → Option Value} {env : Env}
theorem compEnd_mono {I C D : Addr} {oI oC oD : Obj} {S : List (Addr × Obj) → Prop} {r r' : Value → List (Addr × Obj) → Prop} {s₁ s₂ : Shared} {y : Value} (h : LCg.CompEnd h₀ L m s₁ I oI C oC D oD S r y s₂) (hr : ∀ n, r y n → r' y n) : LCg.CompEnd h₀ L m s₁ I oI C oC D oD S r' y s₂ := by
  obtain ⟨h', tk, n', e, F, N, o, hS, hy⟩ := h
  exact ⟨h', tk, n', e, F, N, o, hS, hr _ hy⟩
/-- a block with a test, over as many values as there are -/
theorem compT_ind {ct elt : Expr} {x : Str} {scope : Scope} {cl : List (Str × Addr)} {S : List (Addr × Obj) → Prop} {P : Nat → Value → Prop} {Fin : List Value → List (Addr × Obj) → Prop} (J : Nat → List Value → List (Addr × Obj) → Prop) {n : Nat}
    (step : ∀ i ys news, J i ys news → i < n → ∀ v I oI C oC D m₂ h tk (E' : Value → Shared → Prop), P i v → LCg.NsObj oC m₂ → m₂ x = some v → Fr h₀ L h m → News h₀ L h ((I, oI) :: (C, oC) :: (D, LCg.lst ys) :: news) → LCg.Off3 I C D news → ((@Ne Nat I C) ∧ (@Ne Nat I D) ∧ (@Ne Nat C D)) →
      wpAny (model prog w) A (isTrue ct (compEnvC scope cl C env) (eval ct (compEnvC scope cl C env))) (fun ok s' => if ok = true then
        wpAny (model prog w) A (eval elt (compEnvC scope cl C env)) (LCg.CompEnd h₀ L m { s with heap := h, toks := tk } I oI C oC D (LCg.lst ys) S (fun y news' => J (i + 1) (ys ++ [y]) news')) E' s'
        else LCg.CompEnd h₀ L m { s with heap := h, toks := tk } I oI C oC D (LCg.lst ys) S (fun _ news' => J (i + 1) ys news') Value.none s') E' { s with heap := h, toks := tk })
    (fin : ∀ ys news, J n ys news → Fin ys news) : ∀ k i ys news, i + k = n → J i ys news → LCt.CompRestT prog w A h₀ L m env ct elt x scope cl s S P Fin k i ys news
  | 0, i, ys, news, e, hJ => fin ys news (by rw [← e]; exact hJ)
  | k + 1, i, ys, news, e, hJ => by
    refine LCt.CompRestT.succ fun v I oI C oC D m₂ h tk E' hv a b c d e1 f => wpAny_mono (step i ys news hJ (by (first | lia | omega)) v I oI C oC D m₂ h tk E' hv a b c d e1 f) (fun ok s' q => ?_) fun _ _ z => z
    cases ok with
    | true =>
      simp only [if_true] at q ⊢
      exact wpAny_mono q (fun y s₂ z => compEnd_mono z fun n' hn => compT_ind J step fin k (i + 1) _ _ (by (first | lia | omega)) hn) fun _ _ z => z
    | false =>
      simp only [Bool.false_eq_true, if_false] at q ⊢
      exact compEnd_mono q fun n' hn => compT_ind J step fin k (i + 1) _ _ (by (first | lia | omega)) hn
theorem compU_ind {elt : Expr} {x : Str} {scope : Scope} {cl : List (Str × Addr)} {S : List (Addr × Obj) → Prop} {P : Nat → Value → Prop} {Fin : List Value → List (Addr × Obj) → Prop} (J : Nat → List Value → List (Addr × Obj) → Prop) {n : Nat}
    (step : ∀ i ys news, J i ys news → i < n → ∀ v I oI C oC D m₂ h tk (E' : Value → Shared → Prop), P i v → LCg.NsObj oC m₂ → m₂ x = some v → Fr h₀ L h m → News h₀ L h ((I, oI) :: (C, oC) :: (D, LCg.lst ys) :: news) → LCg.Off3 I C D news → ((@Ne Nat I C) ∧ (@Ne Nat I D) ∧ (@Ne Nat C D)) →
      wpAny (model prog w) A (eval elt (compEnvC scope cl C env)) (LCg.CompEnd h₀ L m { s with heap := h, toks := tk } I oI C oC D (LCg.lst ys) S (fun y news' => J (i + 1) (ys ++ [y]) news')) E' { s with heap := h, toks := tk })
    (fin : ∀ ys news, J n ys news → Fin ys news) : ∀ k i ys news, i + k = n → J i ys news → LCg.CompRest prog w A h₀ L m env elt x scope cl s S P Fin k i ys news
  | 0, i, ys, news, e, hJ => fin ys news (by rw [← e]; exact hJ)
  | k + 1, i, ys, news, e, hJ => by
    refine LCg.CompRest.succ fun v I oI C oC D m₂ h tk E' hv a b c d e1 f => wpAny_mono (step i ys news hJ (by (first | lia | omega)) v I oI C oC D m₂ h tk E' hv a b c d e1 f) (fun y s' q => ?_) fun _ _ z => z
    exact compEnd_mono q fun n' hn => compU_ind J step fin k (i + 1) _ _ (by (first | lia | omega)) hn
end
theorem tups_hide {s : Heap} {hid tups : List (Addr × Obj)} (hN : ∀ p ∈ hid, s.get? p.1 = some p.2) (hc : ∀ p ∈ hid, p.2.cls ≠ .type "tuple") {rs : List (Str × Str)} (T : TupsAre tups rs)
    (hk : ∀ p ∈ tups, s.get? p.1 = some p.2) : ∀ p ∈ tups, (hideAll s (hid.map (·.1))).get? p.1 = some p.2 := fun p hp => by
  refine hideAll_get _ (hk p hp) fun hm => ?_
  obtain ⟨q, hq, e⟩ := List.mem_map.mp hm
  have h1 := hN q hq
  rw [e, hk p hp] at h1
  obtain ⟨i, hi⟩ := List.getElem?_of_mem hp
  obtain ⟨r, _, n, t1, t2, e2⟩ := T.at i p hi
  refine hc q hq ?_
  rw [← Option.some.inj h1, e2]
theorem refsOf_at {tups : List (Addr × Obj)} {i : Nat} {v : Value} (h : (refsOf tups).toArray[i]? = some v) : ∃ p, tups[i]? = some p ∧ v = .ref p.1 := by
  unfold refsOf at h
  rw [List.getElem?_toArray, List.getElem?_map] at h
  cases hp : tups[i]? with
  | none => rw [hp] at h; cases h
  | some p => rw [hp] at h; exact ⟨p, rfl, (Option.some.inj h).symm⟩
theorem take_at {α : Type} {l : List α} {i : Nat} {a : α} (h : l[i]? = some a) : l.take (i + 1) = l.take i ++ [a] := by
  rw [List.take_add_one, h]; rfl
theorem delItemOwn {M : Model} {A : Around} {E : Value → Shared → Prop} {s : Shared} {K : Frag} {x C L f : Addr} {h₀ : Heap} {m : Str → Option Value} {ox : Obj} {od : Option Obj} {i : Value} {Q : Unit → Shared → Prop} (F : Fr h₀ L s.heap m) (X₀ : K.In h₀) (I : InstAt s.heap x ox C od) (hq : noSeq K C = true) (hs : findIn K (.ref C) "__delitem__" = some (some (.ref f))) (hf : isFn K (.ref f) = true)
    (h : wpAny M A (call (.ref f) [.ref x, i]) (fun _ s' => Q () s') E s) : wpAny M A (delItem (.ref x) i) Q E s := by
  have X := X₀.keeps F.keep
  unfold delItem sequenceKey
  refine wpAny_holding (wpAny_bind (wpAny_bind (I.type.here ?_)))
  refine wpAny_bind ((anyM_none X hq).here ?_)
  rw [if_pos (show (!false) = true from rfl)]
  exact wpAny_pure (wpAny_bind (special_fn X I hs (beq_iff_eq.mp hf) (wpAny_mono h (fun _ _ z => wpAny_pure z) fun _ _ z => z)))
section
variable {w : World} {C x dx l L : Addr} {g h h' : Heap} {tok : Tok} {refs refs' : List Value} {n n' : Nat} {rest tups : List (Addr × Obj)} {m : Str → Option Value} {rows' : List (Str × Str)}
theorem tab_back (F : Fr g L h m) (N : News g L h ((x, instObj C dx) :: (dx, dictOf (hdrE w tok l) 1) :: (l, listOf refs.toArray n) :: rest)) (keep : Keep [l] h h') (T2 : TabAt w C h' x dx l tok refs' n') (hr : ∀ p ∈ rest, p.1 ≠ l) :
    Fr g L h' m ∧ News g L h' ((x, instObj C dx) :: (dx, dictOf (hdrE w tok l) 1) :: (l, listOf refs'.toArray n') :: rest) := by
  have zx := N _ (List.mem_cons_self ..)
  have zd := N _ (List.mem_cons_of_mem _ (List.mem_cons_self ..))
  have zl := N _ (List.mem_cons_of_mem _ (List.mem_cons_of_mem _ (List.mem_cons_self ..)))
  obtain ⟨oL, es, ep, hL, r⟩ := F.ns
  refine ⟨⟨⟨oL, es, ep, keep _ _ (by simpa using zl.2.1.symm) hL, r⟩, fun b o e => keep b o (by simp; rintro rfl; rw [zl.2.2] at e; cases e) (F.keep b o e), F.above⟩, List.forall_mem_cons.mpr ⟨⟨T2.hx, zx.2⟩, List.forall_mem_cons.mpr ⟨⟨T2.hd, zd.2⟩, List.forall_mem_cons.mpr ⟨⟨T2.hl, zl.2⟩, fun p hp => ?_⟩⟩⟩⟩
  have z := N p (List.mem_cons_of_mem _ (List.mem_cons_of_mem _ (List.mem_cons_of_mem _ hp)))
  exact ⟨keep _ _ (by simpa using hr p hp) z.1, z.2⟩
/-- the frame and the ledger behind a method that changes a table -/
theorem TabMut.back (M : TabMut w C x dx l tok tups rows' h h') (F : Fr g L h m) (N : News g L h ((x, instObj C dx) :: (dx, dictOf (hdrE w tok l) 1) :: (l, listOf refs.toArray n) :: (tups ++ rest))) (hr : ∀ p ∈ rest, p.1 ≠ l) :
    ∃ tups' n', TupsAre tups' rows' ∧ Fr g L h' m ∧ News g L h' ((x, instObj C dx) :: (dx, dictOf (hdrE w tok l) 1) :: (l, listOf (refsOf tups').toArray n') :: (tups' ++ rest)) := by
  obtain ⟨⟨tups', n', T2, hT, ht⟩, keep⟩ := M
  obtain ⟨F2, N2⟩ := tab_back F (fun p hp => N p (by
    simp only [List.mem_cons, List.mem_append] at hp ⊢
    rcases hp with h | h | h | h
    · exact .inl h
    · exact .inr (.inl h)
    · exact .inr (.inr (.inl h))
    · exact .inr (.inr (.inr (.inr h))))) keep T2 hr
  refine ⟨tups', n', hT, F2, fun p hp => ?_⟩
  simp only [List.mem_cons, List.mem_append] at hp
  rcases hp with h1 | h1 | h1 | h1 | h1
  · exact N2 p (by simp [h1])
  · exact N2 p (by simp [h1])
  · exact N2 p (by simp [h1])
  · obtain ⟨a, b⟩ := ht p h1
    refine ⟨a, ?_⟩
    rcases b with b | b
    · exact (N p (by simp [b])).2
    · refine ⟨fun e => ?_, ?_⟩
      · obtain ⟨oL, es, ep, hL, r⟩ := F.ns
        rw [e, hL] at b; cases b
      · cases q : g.get? p.1 with
        | none => rfl
        | some o => rw [F.keep _ _ q] at b; cases b
  · exact N2 p (by simp [h1])
end
end Mine

end
section
-- Set01
theorem Mine.fresh_Set01 : True := by
  w_top off
  trivial
open PySem PySem.W PyProof.Rows PySem.Calls PySem.Builtin.Str
set_option maxRecDepth 100000
set_option maxHeartbeats 1000000
set_option pp.deepTerms false
namespace Mine
local macro_rules | `(tactic| k_room) => `(tactic| ((try simp only [Around.deeper, recursionLimit] at *); omega))
local macro_rules | `(tactic| k_units) => `(tactic| ((try simp only [Around.deeper, Around.in1, cLine] at *); omega))
local macro_rules | `(tactic| k_all) => `(tactic| first | with_reducible assumption | exact allLt_ne (by with_reducible assumption) | exact Low.ne (by with_reducible assumption) (by omega) | (exact Low.ne (by assumption) (by omega)))
local macro_rules | `(tactic| walk_at "eval Name") => `(tactic| (k_here; k_dflt (refine' ld ?k1 ?k2 ?_; (case k1 => k_asm); (case k2 => first | exact rfl | assumption); k_whole)))

def setD (nm val : Str) (rows : List (Str × Str)) : List (Str × Str) := match getR nm rows with
  | some _ => rows
  | none => rows ++ [(nm, val)]
theorem setdefault_spec {w : World} {s : Shared} {B : Heap} {loose mean mg mb} {x dx l : Addr} {tok : Tok} {tups : List (Addr × Obj)} {rows : List (Str × Str)} {n : Nat} {nm val : Str} {tn tv : Tok}
    (G : Gd (Mine.hd01.heap_39 w.params) loose mean mg mb B) (hB : B.StaysIn s.heap)
    (T : TabAt w 218 s.heap x dx l tok (refsOf tups) n) (nB : B.get? x = none ∧ B.get? dx = none ∧ B.get? l = none) (hT : TupsAre tups rows) (ht : ∀ p ∈ tups, s.heap.get? p.1 = some p.2) (ok : RowsOk rows) (hn : NmOk nm) (hv : Safe val) (hvl : val.length ≤ 1000) :
    Does (model PySem.Challenge.rw_pg0310_01.row.prog w) 20 60 (call (.ref 208) [.ref x, .str nm tn, .str val tv]) s (fun v h' => TabMut w 218 x dx l tok tups (setD nm val rows) s.heap h' ∧ ∃ t, v = .str ((getR nm rows).getD val) t) := by
  intro d0 u0 fr gs hd hu
  revert G
  k_fill
  intro G
  refine' enter (binds := [("self", .ref x), ("name", .str nm tn), ("value", .str val tv)]) G hB (hidT w 218 x dx l tok (refsOf tups) n) (T.hid nB) ?k6 ?k7 ?k8 ?k9 ?kB ?_ ?c2 ?c3 ?c4 ?c5; (case k6 => k_is); (case k7 => k_is); (case k8 => k_room); (case k9 => exact BindsTo.of_eq rfl);  (case c5 => decide); (case kB => exact locs rfl); (case c2 => exact rfl); (case c3 => exact rfl); (case c4 => exact rfl)
  intro g' L' h' hg' F' N' hlow X' T'
  have hrsz := ok.size
  have hsz : (refsOf tups).length ≤ 1000 := by rw [refsOf_length, hT.length]; exact hrsz
  have e1 := T.xl
  have e2 := T.dl
  have e3 := T.xd
  unfold hidT at F' N'
  subst hg'
  (try dsimp only)
  (try k_fold)
  k_steps
  rename Fr _ _ _ _ => F
  rename News _ _ _ _ => Nw
  have htk := tups_keep F T.all hidT_cls hT ht
  refine Does.use (get_spec ⟨X', T'⟩ (by exact F.keep) (TabAt.news (by exact Nw)) (TabAt.none (by exact Nw)) (hT.rowsAt (by exact htk)) ok hn (.inr ⟨rfl, rfl⟩)) rfl (by first | exact room1 hd (Nat.le_of_ble_eq_true rfl) | exact room3 hu (Nat.le_of_ble_eq_true rfl) | (simp only [Around.deeper]; omega)) (by first | exact room1 hd (Nat.le_of_ble_eq_true rfl) | exact room3 hu (Nat.le_of_ble_eq_true rfl) | (simp only [Around.deeper]; omega)) ?_
  rintro v h2 tk2 ⟨keep, got⟩
  have F2 := F.keeps keep.stays
  have N2 := Nw.grown keep.stays
  clear F Nw keep
  unfold setD
  cases hg : getR nm rows with
  | some r =>
    rw [hg] at got
    obtain ⟨t, rfl⟩ := got
    (try dsimp only)
    k_steps
    (try clear F2 N2)
    rename Fr _ _ _ _ => F
    rename News _ _ _ _ => Nw
    (first | (k_unmd; k_unfold; try dsimp only) | (try dsimp only))
    have htk := tups_keep F T.all hidT_cls hT ht
    exact Done.mk ⟨⟨⟨tups, n, TabAt.news Nw, hT, fun p hp => ⟨htk p hp, .inl hp⟩⟩, keep_but F Nw T.all (fun p hp => .inr hp)⟩, _, rfl⟩
  | none =>
    rw [hg] at got
    cases got
    (try dsimp only)
    k_steps
    show wpAny _ _ (call (.ref 119) [.ref x, .str nm _] [("name", .bool true)]) _ _ _
    (try clear F2 N2)
    rename Fr _ _ _ _ => F
    rename News _ _ _ _ => Nw
    refine Does.use (conv_spec ⟨X', T'⟩ F.keep hn.safe (by have := hn.len; omega)) rfl (by first | exact room1 hd (Nat.le_of_ble_eq_true rfl) | exact room3 hu (Nat.le_of_ble_eq_true rfl) | (simp only [Around.deeper]; omega)) (by first | exact room1 hd (Nat.le_of_ble_eq_true rfl) | exact room3 hu (Nat.le_of_ble_eq_true rfl) | (simp only [Around.deeper]; omega)) ?_
    rintro v h3 tk3 ⟨rfl, keep⟩
    have F3 := F.keeps keep
    have N3 := Nw.grown keep
    clear F Nw keep
    (try dsimp only)
    k_steps
    show wpAny _ _ (call (.ref 119) [.ref x, .str val _] [("name", .bool false)]) _ _ _
    refine Does.use (conv_spec ⟨X', T'⟩ F3.keep hv hvl) rfl (by first | exact room1 hd (Nat.le_of_ble_eq_true rfl) | exact room3 hu (Nat.le_of_ble_eq_true rfl) | (simp only [Around.deeper]; omega)) (by first | exact room1 hd (Nat.le_of_ble_eq_true rfl) | exact room3 hu (Nat.le_of_ble_eq_true rfl) | (simp only [Around.deeper]; omega)) ?_
    rintro v h4 tk4 ⟨rfl, keep⟩
    have F4 := F3.keeps keep
    have N4 := N3.grown keep
    clear F3 N3 keep
    (try dsimp only)
    k_steps
    (try clear F4 N4)
    rename Fr _ _ _ _ => F
    rename News _ _ _ _ => Nw
    (first | (k_unmd; k_unfold; try dsimp only) | (try dsimp only))
    have htk := tups_keep F T.all hidT_cls hT ht
    rw [List.push_toArray] at Nw
    have hD1 := (Nw _ (List.mem_cons_self ..)).1
    have N5 := fun p hp => Nw p (List.mem_cons_of_mem _ hp)
    have T5 := TabAt.news N5
    have hD := fresh_hide (Nw _ (List.mem_cons_self ..)).2.2 (T5.ne_tup hD1 rfl)
    exact Done.mk ⟨TabMut.push T5 hT (fun p hp => ⟨htk p hp, .inl hp⟩) hD1 hD (keep_but F Nw T.all (by intro p hp; simp at hp; rcases hp with rfl | rfl | rfl <;> simp)), _, rfl⟩
end Mine

end
section
-- SetSl
theorem Mine.fresh_SetSl : True := by
  w_top off
  trivial
open PySem PySem.W PyProof.Rows PySem.Calls PySem.Builtin PySem.Builtin.Str
set_option maxRecDepth 100000
namespace Mine
section
variable {prog : Program} {w : World} {A : Around} {E : Value → Shared → Prop} {s : Shared} {h₀ : Heap} {L : Addr} {m : Str → Option Value} {news : List (Addr × Obj)}
theorem all_new (its new : Array Value) : its.extract 0 (0 : Int).toNat ++ new ++ its.extract (max (0 : Int) ((its.size : Nat) : Int)).toNat its.size = new := by
  have e : (max (0 : Int) ((its.size : Nat) : Int)).toNat = its.size := by (first | lia | omega)
  rw [e]
  simp
theorem setAll {l sl D : Addr} {its new : Array Value} {n : Nat} {Q : Unit → Shared → Prop} (ho : s.heap.get? l = some (listOf its n)) (hs : s.heap.IsSliceOf sl .none .none .none) (hD : s.heap.IsList D new) (hlD : l ≠ D) (hsz1 : its.size ≤ 2000) (hsz2 : new.size ≤ 2000)
    (h : ∀ h' n', h'.get? l = some (listOf new n') → Heap.SameBut l s.heap h' → Q () { s with heap := h' }) :
    wpAny (model prog w) A (setItem (.ref l) (.ref sl) (.ref D)) Q E s := by
  have hl : s.heap.IsList l its := ⟨_, ho, rfl, _, rfl⟩
  obtain ⟨os, hos, hcs, hds⟩ := id hs
  obtain ⟨oD, hoD, hcD, nD, hdD⟩ := id hD
  have hTs : s.TypeIs (.ref sl) "slice" := ⟨os, hos, hcs⟩
  unfold setItem
  try with_reducible refine wpAny_holding ?_
  first | refine wpAny_bind (wpAny_pure ?_) | skip
  refine wpAny_bind (wpAny_sequenceKey hl.typeIs (by decide) ?_)
  refine wpAny_bind (wpAny_callSpecial?_slot (name := Str.ofString "__setitem__") hl.typeIs slot_list_setitem
    (wpAny_call_entry slot_list_setitem hl.typeIs entry_list_setitem ?_ (args_list_setitem _ _ _)))
  show wpAny _ _ (Builtin.List.listSubscript? (.ref sl) >>= _) _ _ s
  refine wpAny_bind ?_
  unfold Builtin.List.listSubscript?
  refine wpAny_bind (wpAny_specialOf hTs slice_no_index ?_)
  simp only [Option.isNone_none, if_true]
  refine wpAny_pure ?_
  show wpAny _ _ (typeOf (.ref sl) >>= _) _ _ s
  refine wpAny_bind (wpAny_typeOf hTs ?_)
  rw [if_neg (by decide)]
  rw [listSliceParts_eq]
  refine wpAny_bind (wpAny_bind (wpAny_field hos hds (x := .none) rfl (wpAny_bind (wpAny_listPart .none ?_))))
  rw [if_neg (show ¬ ((rawPart none == rawInt 0) = true) from Bool.false_ne_true)]
  refine wpAny_bind (wpAny_field hos hds (x := .none) rfl (wpAny_bind (wpAny_listPart .none ?_)))
  refine wpAny_bind (wpAny_field hos hds (x := .none) rfl (wpAny_bind (wpAny_listPart .none (wpAny_pure ?_))))
  have hsame : Builtin.List.listSameRef (.ref l) (.ref D) = false := by
    show (l == D) = false
    simpa using hlD
  dsimp only
  rw [hsame]
  simp only [Bool.false_eq_true, if_false]
  refine wpAny_bind (m := Builtin.List.listAllItems (.ref D) _) ?_
  unfold Builtin.List.listAllItems
  refine wpAny_bind (wpAny_typeOf hD.typeIs ?_)
  rw [if_pos (by decide)]
  unfold Builtin.List.listItems
  refine wpAny_bind (wpAny_seqItems hoD hdD (wpAny_pure ?_))
  refine wpAny_bind (wpAny_bind (wpAny_seqItems ho rfl (wpAny_pure ?_)))
  refine wpAny_bind (wpAny_of_eq (sliceIndices_raw none none none its.size (by simp)) ?_)
  show wpAny _ _ (if (((1 : Int) == 1) = true) then _ else _) _ _ _
  rw [if_pos (show ((1 : Int) == 1) = true from rfl)]
  refine wpAny_bind (wpAny_rule ?_)
  have htl : Builtin.List.listTooLong (its.size + new.size) = false := by
    unfold Builtin.List.listTooLong
    rw [sizeLine_eq]
    simp; (first | lia | omega)
  rw [htl]
  simp only [Bool.false_eq_true, if_false]
  have hb : sliceBounds none none none its.size = (0, ((its.size : Nat) : Int), 1) := rfl
  rw [hb]
  dsimp only
  obtain ⟨n', e⟩ : ∃ n', Obj.mapSeq (fun xs => xs.extract 0 (0 : Int).toNat ++ new ++ xs.extract (max (0 : Int) ((its.size : Nat) : Int)).toNat xs.size) (listOf its n) = listOf (its.extract 0 (0 : Int).toNat ++ new ++ its.extract (max (0 : Int) ((its.size : Nat) : Int)).toNat its.size) n' := ⟨_, rfl⟩
  rw [all_new] at e
  refine wpAny_bind (m := Builtin.List.listUpdate (.ref l) _) ?_
  unfold Builtin.List.listUpdate
  refine wpAny_updateSeq (xs := its) ho rfl (wpAny_bind (wpAny_letGo (wpAny_pure ⟨_, rfl, wpAny_pure (h _ n' ?_ (Heap.SameBut.update ..))⟩))) (by rw [sizeLine_eq]; (first | lia | omega)) (by rw [sizeLine_eq, all_new]; (first | lia | omega))
  rw [Heap.get?_update_self _ ho (by rw [e]; rfl), e]
end
end Mine

end
section
-- Del01
theorem Mine.fresh_Del01 : True := by
  w_top off
  trivial
open PySem PySem.W PyProof.Rows PySem.Calls PySem.Builtin.Str
set_option maxRecDepth 100000
set_option maxHeartbeats 1000000
set_option pp.deepTerms false
namespace Mine
local macro_rules | `(tactic| k_room) => `(tactic| ((try simp only [Around.deeper, recursionLimit] at *); omega))
local macro_rules | `(tactic| k_units) => `(tactic| ((try simp only [Around.deeper, Around.in1, cLine] at *); omega))
local macro_rules | `(tactic| k_all) => `(tactic| first | with_reducible assumption | exact allLt_ne (by with_reducible assumption) | exact Low.ne (by with_reducible assumption) (by omega) | (exact Low.ne (by assumption) (by omega)))

local macro_rules | `(tactic| walk_at "eval ListComp") => `(tactic| (k_here; k_dflt (refine LCt.ListComp_T (F₀ := by k_asm) (by with_unfolding_all rfl) (by decide) (by rfl) (by decide) (by rfl) ?_)))
local macro_rules | `(tactic| walk_at "subscriptTail") => `(tactic| (k_here; (with_reducible show wpAny _ _ (subscriptTail _ _ (Value.ref _) (Value.int _ _)) _ _ _); k_dflt (refine' item_tupleT ?t ?a ?b ?c ?d ?_; (case t => exact ⟨_, Fr.keep (by k_asm) _ _ (by with_reducible assumption), rfl, _, rfl⟩); (case a => decide); (case b => decide); (case c => rfl); (case d => rfl); k_whole)))
def delR (nm : Str) (rows : List (Str × Str)) : List (Str × Str) := rows.filter fun r => Txt.lower r.1 != Txt.lower nm
theorem del_spec {w : World} {s : Shared} {B : Heap} {loose mean mg mb} {x dx l : Addr} {tok : Tok} {tups : List (Addr × Obj)} {rows : List (Str × Str)} {n : Nat} {nm : Str} {tn : Tok}
    (G : Gd (Mine.hd01.heap_39 w.params) loose mean mg mb B) (hB : B.StaysIn s.heap)
    (T : TabAt w 218 s.heap x dx l tok (refsOf tups) n) (nB : B.get? x = none ∧ B.get? dx = none ∧ B.get? l = none) (hT : TupsAre tups rows) (ht : ∀ p ∈ tups, s.heap.get? p.1 = some p.2) (ok : RowsOk rows) (hn : NmOk nm) :
    Does (model PySem.Challenge.rw_pg0310_01.row.prog w) 20 60 (call (.ref 138) [.ref x, .str nm tn]) s (fun v h' => v = .none ∧ (∃ tups' n', TabAt w 218 h' x dx l tok (refsOf tups') n' ∧ TupsAre tups' (delR nm rows) ∧ ∀ p ∈ tups', p ∈ tups) ∧ Keep [l] s.heap h') := by
  intro d0 u0 fr gs hd hu
  revert G
  k_fill
  intro G
  refine' enterC (binds := [("self", .ref x), ("name", .str nm tn)]) G hB (hidT w 218 x dx l tok (refsOf tups) n) (T.hid nB) ?k6 ?k7 ?k8 ?k9 ?kB ?kD ?_ ?c2 ?c3 ?c4; (case k6 => k_is); (case k7 => k_is); (case k8 => k_room); (case k9 => exact BindsTo.of_eq rfl);  (case kB => exact rfl); (case kD => decide +kernel); (case c2 => exact rfl); (case c3 => exact rfl); (case c4 => exact rfl)
  intro g' L' h' tk' cells' hg' F' N' Y' hlow X' T'
  k_cells Y'
  have hrsz := ok.size
  have hsz : (refsOf tups).length ≤ 1000 := by rw [refsOf_length, hT.length]; exact hrsz
  have hn1 := hn.len
  have e1 := T.xl
  have e2 := T.dl
  have e3 := T.xd
  subst hg'
  unfold hidT at F' N'
  (try simp only [List.cons_append, List.nil_append] at N')
  (try dsimp only)
  (try k_fold)
  k_steps
  rename Fr _ _ _ _ => F
  rename News _ _ _ _ => Nw
  show wpAny _ _ (call (.ref 119) [.ref x, .str (Txt.lower nm) _] [("name", .bool true)]) _ _ _
  refine Does.use (conv_spec ⟨X', T'⟩ (by exact F.keep) hn.low (by first | with_reducible assumption | with_reducible exact lt_num (by with_reducible assumption) (Nat.le_of_ble_eq_true rfl) | with_reducible exact le_num (by with_reducible assumption) (Nat.le_of_ble_eq_true rfl) | with_reducible exact le_le (by with_reducible assumption) (Nat.le_of_ble_eq_true rfl) | (first | lia | omega))) rfl (by first | exact room1 hd (Nat.le_of_ble_eq_true rfl) | exact room3 hu (Nat.le_of_ble_eq_true rfl) | (simp only [Around.deeper]; (first | lia | omega))) (by first | exact room1 hd (Nat.le_of_ble_eq_true rfl) | exact room3 hu (Nat.le_of_ble_eq_true rfl) | (simp only [Around.deeper]; (first | lia | omega))) ?_
  rintro v h2 tk2 ⟨rfl, keep⟩
  have F2 := F.keeps keep
  have N2 := Nw.grown keep
  clear F Nw keep
  (try dsimp only)
  k_steps
  (try clear F2 N2)
  rename Fr _ _ _ _ => F
  rename News _ _ _ _ => Nw
  have hgt := tups_hide (hid := hidT w 218 x dx l tok (refsOf tups) n) T.all hidT_cls hT ht
  refine LCt.CompSrcT.ledger (its := (refsOf tups).toArray) (k := n) rfl F Nw (by first | ((repeat (first | with_reducible exact List.mem_cons_self .. | with_reducible refine List.mem_cons_of_mem _ ?_)); done) | simp) (by rw [List.size_toArray, sizeLine_eq]; (first | lia | omega)) (fun g => ?_)
  refine compT_ind (fun i ys nx => nx = _ ∧ ∃ ps, ys = refsOf ps ∧ TupsAre ps (delR nm (rows.take i)) ∧ ∀ p ∈ ps, p ∈ tups) ?_ ?_ _ 0 [] _ (Nat.zero_add _) ⟨rfl, [], rfl, .nil, fun p hp => nomatch hp⟩
  · clear F Nw
    rintro i ys nx ⟨rfl, ps, rfl, hps, hsub⟩ hi v I oI C oC D m₂ h tk E' hv hC hx F Nw off ne3
    obtain ⟨p, hp, rfl⟩ := refsOf_at hv
    obtain ⟨r, hr1, pn, t1, t2, hpo⟩ := hT.at i p hp
    obtain ⟨s1, s2, s3, s4⟩ := ok.safe r (List.mem_of_getElem? hr1)
    have hpg := hgt p (List.mem_of_getElem? hp)
    rw [hpo] at hpg
    (try dsimp only)
    k_steps
    · rename (_ != _) = true => hq
      refine LCg.CompEnd.intro F Nw _ (fun p hp => hp) off (.inr ⟨listOf (refsOf tups).toArray n, by simp, rfl, _, rfl⟩) ⟨rfl, ps ++ [p], (refsOf_snoc _ _).symm, ?_, ?_⟩
      · rw [take_at hr1, delR, List.filter_append, List.filter_cons_of_pos (by exact hq), List.filter_nil]
        exact hps.snoc ⟨_, _, _, hpo⟩
      · intro q hq
        rcases List.mem_append.mp hq with h | h
        · exact hsub q h
        · rw [List.mem_singleton.mp h]; exact List.mem_of_getElem? hp
    · rename (_ != _) = false => hq
      refine LCg.CompEnd.intro F Nw _ (fun p hp => hp) off (.inr ⟨listOf (refsOf tups).toArray n, by simp, rfl, _, rfl⟩) ⟨rfl, ps, rfl, ?_, hsub⟩
      rw [take_at hr1, delR, List.filter_append, List.filter_cons_of_neg (by rw [hq]; decide), List.filter_nil, List.append_nil]
      exact hps
  · clear F Nw
    rintro ys nx ⟨rfl, ps, rfl, hps, hsub⟩
    rw [List.take_of_length_le (by rw [List.size_toArray, refsOf_length, hT.length]; exact Nat.le_refl _)] at hps
    intro D h tk F Nw o1
    (try dsimp only)
    k_steps
    have hlen : ps.length ≤ 1000 := by
      rw [hps.length]
      exact Nat.le_trans (List.length_filter_le _ _) hrsz
    have zl := Nw (l, listOf (refsOf tups).toArray n) (by first | ((repeat (first | with_reducible exact List.mem_cons_self .. | with_reducible refine List.mem_cons_of_mem _ ?_)); done) | simp)
    have zD := Nw (D, LCg.lst (refsOf ps)) (by first | ((repeat (first | with_reducible exact List.mem_cons_self .. | with_reducible refine List.mem_cons_of_mem _ ?_)); done) | simp)
    have zx := Nw (x, instObj 218 dx) (by first | ((repeat (first | with_reducible exact List.mem_cons_self .. | with_reducible refine List.mem_cons_of_mem _ ?_)); done) | simp)
    have zd := Nw (dx, dictOf (hdrE w tok l) 1) (by first | ((repeat (first | with_reducible exact List.mem_cons_self .. | with_reducible refine List.mem_cons_of_mem _ ?_)); done) | simp)
    have hlD : @Ne Nat l D := by
      have := o1
      simp only [LCg.Off1] at this
      exact this.2.2.2.1
    refine setAll (its := (refsOf tups).toArray) (new := (refsOf ps).toArray) (n := n) (Heap.get?_push_of_some _ zl.1) (Heap.IsSliceOf.new ..) ⟨_, Heap.get?_push_of_some _ zD.1, rfl, _, rfl⟩ hlD (by rw [List.size_toArray]; (first | lia | omega)) (by rw [List.size_toArray, refsOf_length]; (first | lia | omega)) ?_
    intro h' n' hl' hs'
    have F5 := (F.push _).change hs' zl.2.1 zl.2.2
    have N5 : News _ L' h' [(x, instObj 218 dx), (dx, dictOf (hdrE w tok l) 1)] := List.forall_mem_cons.mpr ⟨⟨hs'.extBut _ _ e1 (Heap.get?_push_of_some _ zx.1), zx.2⟩, List.forall_mem_cons.mpr ⟨⟨hs'.extBut _ _ e2 (Heap.get?_push_of_some _ zd.1), zd.2⟩, List.forall_mem_nil _⟩⟩
    clear F Nw
    (try dsimp only)
    k_steps
    (first | (k_unmd; k_unfold; try dsimp only) | (try dsimp only))
    exact Done.mk ⟨rfl, ⟨ps, n', ⟨(N5 _ (List.mem_cons_self ..)).1, (N5 _ (List.mem_cons_of_mem _ (List.mem_cons_self ..))).1, hl'⟩, hps, hsub⟩, keep_but (hid := hidT w 218 x dx l tok (refsOf tups) n) F5 N5 T.all (by intro p hp; simp at hp; rcases hp with rfl | rfl | rfl <;> simp)⟩
end Mine

end
section
-- Gal01
local macro_rules | `(tactic| walk_at "no such key") => `(tactic| skip)
theorem Mine.fresh_Gal01 : True := by
  w_top off
  trivial
open PySem PySem.W PyProof.Rows PySem.Calls PySem.Builtin.Str
set_option maxRecDepth 100000
set_option maxHeartbeats 1000000
set_option pp.deepTerms false
namespace Mine
local macro_rules | `(tactic| k_room) => `(tactic| ((try simp only [Around.deeper, recursionLimit] at *); omega))
local macro_rules | `(tactic| k_units) => `(tactic| ((try simp only [Around.deeper, Around.in1, cLine] at *); omega))
local macro_rules | `(tactic| k_all) => `(tactic| first | with_reducible assumption | exact allLt_ne (by with_reducible assumption) | exact Low.ne (by with_reducible assumption) (by omega) | (exact Low.ne (by assumption) (by omega)))

local macro_rules | `(tactic| walk_at "eval ListComp") => `(tactic| (k_here; k_dflt (refine LCt.ListComp_T (F₀ := by k_asm) (by with_unfolding_all rfl) (by decide) (by rfl) (by decide) (by rfl) ?_)))
local macro_rules | `(tactic| walk_at "subscriptTail") => `(tactic| (k_here; (with_reducible show wpAny _ _ (subscriptTail _ _ (Value.ref _) (Value.int _ _)) _ _ _); k_dflt (refine' item_tupleT ?t ?a ?b ?c ?d ?_; (case t => exact ⟨_, Fr.keep (by k_asm) _ _ (by with_reducible assumption), rfl, _, rfl⟩); (case a => decide); (case b => decide); (case c => rfl); (case d => rfl); k_whole)))
/-- all of a name -/
def allR (nm : Str) (rows : List (Str × Str)) : List Str := (rows.filter fun r => Txt.lower r.1 == Txt.lower nm).map (·.2)
theorem all_spec {w : World} {s : Shared} {B : Heap} {loose mean mg mb} {x dx l : Addr} {tok : Tok} {refs : List Value} {rows : List (Str × Str)} {n : Nat} {nm : Str} {tn : Tok}
    (G : Gd (Mine.hd01.heap_39 w.params) loose mean mg mb B) (hB : B.StaysIn s.heap)
    (T : TabAt w 218 s.heap x dx l tok refs n) (nB : B.get? x = none ∧ B.get? dx = none ∧ B.get? l = none) (hr : RowsAt s.heap refs rows) (ok : RowsOk rows) (hn : NmOk nm) :
    Does (model PySem.Challenge.rw_pg0310_01.row.prog w) 20 60 (call (.ref 157) [.ref x, .str nm tn]) s (fun v h' => Keep [] s.heap h' ∧ ∃ D k ps, v = .ref D ∧ h'.get? D = some (listOf (strValues ps).toArray k) ∧ s.heap.get? D = none ∧ ps.map (·.1) = allR nm rows) := by
  intro d0 u0 fr gs hd hu
  revert G
  k_fill
  intro G
  refine' enterC (binds := [("self", .ref x), ("name", .str nm tn)]) G hB (hidT w 218 x dx l tok refs n) (T.hid nB) ?k6 ?k7 ?k8 ?k9 ?kB ?kD ?_ ?c2 ?c3 ?c4; (case k6 => k_is); (case k7 => k_is); (case k8 => k_room); (case k9 => exact BindsTo.of_eq rfl);  (case kB => exact rfl); (case kD => decide +kernel); (case c2 => exact rfl); (case c3 => exact rfl); (case c4 => exact rfl)
  intro g' L' h' tk' cells' hg' F' N' Y' hlow X' T'
  k_cells Y'
  have hrsz := ok.size
  have hsz : refs.length ≤ 1000 := by rw [hr.1]; exact hrsz
  have hn1 := hn.len
  have e1 := T.xl
  have e2 := T.dl
  have e3 := T.xd
  have hrg := T.rowsAt hr
  subst hg'
  unfold hidT at F' N' hrg
  (try simp only [List.cons_append, List.nil_append] at N')
  (try dsimp only)
  (try k_fold)
  k_steps
  rename Fr _ _ _ _ => F
  rename News _ _ _ _ => Nw
  show wpAny _ _ (call (.ref 119) [.ref x, .str (Txt.lower nm) _] [("name", .bool true)]) _ _ _
  refine Does.use (conv_spec ⟨X', T'⟩ (by exact F.keep) hn.low (by first | with_reducible assumption | with_reducible exact lt_num (by with_reducible assumption) (Nat.le_of_ble_eq_true rfl) | with_reducible exact le_num (by with_reducible assumption) (Nat.le_of_ble_eq_true rfl) | with_reducible exact le_le (by with_reducible assumption) (Nat.le_of_ble_eq_true rfl) | (first | lia | omega))) rfl (by first | exact room1 hd (Nat.le_of_ble_eq_true rfl) | exact room3 hu (Nat.le_of_ble_eq_true rfl) | (simp only [Around.deeper]; (first | lia | omega))) (by first | exact room1 hd (Nat.le_of_ble_eq_true rfl) | exact room3 hu (Nat.le_of_ble_eq_true rfl) | (simp only [Around.deeper]; (first | lia | omega))) ?_
  rintro v h2 tk2 ⟨rfl, keep⟩
  have F2 := F.keeps keep
  have N2 := Nw.grown keep
  clear F Nw keep
  (try dsimp only)
  k_steps
  (try clear F2 N2)
  rename Fr _ _ _ _ => F
  rename News _ _ _ _ => Nw
  refine LCt.CompSrcT.ledger (its := refs.toArray) (k := n) rfl F Nw (by first | ((repeat (first | with_reducible exact List.mem_cons_self .. | with_reducible refine List.mem_cons_of_mem _ ?_)); done) | simp) (by rw [List.size_toArray, sizeLine_eq]; (first | lia | omega)) (fun g => ?_)
  refine compT_ind (fun i ys nx => nx = _ ∧ ∃ ps, ys = strValues ps ∧ ps.map (·.1) = allR nm (rows.take i)) ?_ ?_ _ 0 [] _ (Nat.zero_add _) ⟨rfl, [], rfl, rfl⟩
  · clear F Nw
    rintro i ys nx ⟨rfl, ps, rfl, hps⟩ hi v I oI C oC D m₂ h tk E' hv hC hx F Nw off ne3
    obtain ⟨r, hr1, Tp, nt, t1, t2, rfl, hpg⟩ := RowsAt.at hrg (by simpa using hv)
    obtain ⟨s1, s2, s3, s4⟩ := ok.safe r (List.mem_of_getElem? hr1)
    (try dsimp only)
    k_steps
    · rename (_ == _) = true => hq
      refine LCg.CompEnd.intro F Nw _ (fun p hp => hp) off (.inr ⟨listOf refs.toArray n, by simp, rfl, _, rfl⟩) ⟨rfl, ps ++ [(r.2, t2)], by simp [strValues], ?_⟩
      rw [take_at hr1, allR, List.filter_append, List.filter_cons_of_pos (by exact hq), List.filter_nil, List.map_append, List.map_append, hps]
      rfl
    · rename (_ == _) = false => hq
      refine LCg.CompEnd.intro F Nw _ (fun p hp => hp) off (.inr ⟨listOf refs.toArray n, by simp, rfl, _, rfl⟩) ⟨rfl, ps, rfl, ?_⟩
      rw [take_at hr1, allR, List.filter_append, List.filter_cons_of_neg (by rw [hq]; decide), List.filter_nil, List.append_nil]
      exact hps
  · clear F Nw
    rintro ys nx ⟨rfl, ps, rfl, hps⟩
    rw [List.take_of_length_le (by rw [List.size_toArray, hr.1]; exact Nat.le_refl _)] at hps
    intro D h tk F Nw o1
    (try dsimp only)
    k_steps
    (first | (k_unmd; k_unfold; try dsimp only) | (try dsimp only))
    have zl := Nw (l, listOf refs.toArray n) (by first | ((repeat (first | with_reducible exact List.mem_cons_self .. | with_reducible refine List.mem_cons_of_mem _ ?_)); done) | simp)
    have zD := Nw (D, LCg.lst (strValues ps)) (by first | ((repeat (first | with_reducible exact List.mem_cons_self .. | with_reducible refine List.mem_cons_of_mem _ ?_)); done) | simp)
    have zx := Nw (x, instObj 218 dx) (by first | ((repeat (first | with_reducible exact List.mem_cons_self .. | with_reducible refine List.mem_cons_of_mem _ ?_)); done) | simp)
    have zd := Nw (dx, dictOf (hdrE w tok l) 1) (by first | ((repeat (first | with_reducible exact List.mem_cons_self .. | with_reducible refine List.mem_cons_of_mem _ ?_)); done) | simp)
    simp only [LCg.Off1] at o1
    refine Done.mk ⟨keep_but (hid := hidT w 218 x dx l tok refs n) F Nw T.all (fun p hp => .inr (List.mem_cons_of_mem _ (List.mem_cons_of_mem _ hp))), D, _, ps, rfl, zD.1, ?_, hps⟩
    exact fresh_hide (hid := hidT w 218 x dx l tok refs n) zD.2.2 (by
      intro p hp; simp at hp
      rcases hp with rfl | rfl | rfl
      · exact o1.2.1
      · exact o1.2.2.1
      · exact o1.2.2.2.1)
end Mine

end
section
-- Sit01
theorem Mine.fresh_Sit01 : True := by
  w_top off
  trivial
open PySem PySem.W PyProof.Rows PySem.Calls PySem.Builtin.Str
set_option maxRecDepth 100000
set_option maxHeartbeats 1000000
set_option pp.deepTerms false
namespace Mine
local macro_rules | `(tactic| k_room) => `(tactic| ((try simp only [Around.deeper, recursionLimit] at *); omega))
local macro_rules | `(tactic| k_units) => `(tactic| ((try simp only [Around.deeper, Around.in1, cLine] at *); omega))
local macro_rules | `(tactic| k_all) => `(tactic| first | with_reducible assumption | exact allLt_ne (by with_reducible assumption) | exact Low.ne (by with_reducible assumption) (by omega) | (exact Low.ne (by assumption) (by omega)))

local macro_rules | `(tactic| walk_at "eval Name") => `(tactic| (k_here; k_dflt (refine' ld ?k1 ?k2 ?_; (case k1 => k_asm); (case k2 => first | exact rfl | assumption); k_whole)))
local macro_rules | `(tactic| walk_at "delItem ref str") => `(tactic| (k_here; (with_reducible show wpAny _ _ (delItem (Value.ref _) _) _ _ _); k_dflt (refine' delItemOwn ?F ?X ?I ?hQ ?hS ?hF ?_; (case F => k_asm); (case X => k_asm); (case I => k_inst); (case hS => k_is); (case hF => k_is); (case hQ => k_is); k_whole)))
def putR (nm val : Str) (rows : List (Str × Str)) : List (Str × Str) := delR nm rows ++ [(nm, val)]
theorem sit_spec {w : World} {s : Shared} {B : Heap} {loose mean mg mb} {x dx l : Addr} {tok : Tok} {tups : List (Addr × Obj)} {rows : List (Str × Str)} {n : Nat} {nm val : Str} {tn tv : Tok}
    (G : Gd (Mine.hd01.heap_39 w.params) loose mean mg mb B) (hB : B.StaysIn s.heap)
    (T : TabAt w 218 s.heap x dx l tok (refsOf tups) n) (nB : B.get? x = none ∧ B.get? dx = none ∧ B.get? l = none) (hT : TupsAre tups rows) (ht : ∀ p ∈ tups, s.heap.get? p.1 = some p.2) (ok : RowsOk rows) (hn : NmOk nm) (hv : Safe val) (hvl : val.length ≤ 1000) :
    Does (model PySem.Challenge.rw_pg0310_01.row.prog w) 40 100 (call (.ref 133) [.ref x, .str nm tn, .str val tv]) s (fun v h' => v = .none ∧ TabMut w 218 x dx l tok tups (putR nm val rows) s.heap h') := by
  intro d0 u0 fr gs hd hu
  revert G
  k_fill
  intro G
  refine' enter (binds := [("self", .ref x), ("name", .str nm tn), ("val", .str val tv)]) G hB (hidT w 218 x dx l tok (refsOf tups) n) (T.hid nB) ?k6 ?k7 ?k8 ?k9 ?kB ?_ ?c2 ?c3 ?c4 ?c5; (case k6 => k_is); (case k7 => k_is); (case k8 => k_room); (case k9 => exact BindsTo.of_eq rfl);  (case c5 => decide); (case kB => exact locs rfl); (case c2 => exact rfl); (case c3 => exact rfl); (case c4 => exact rfl)
  intro g' L' h' hg' F' N' hlow X' T'
  have hrsz := ok.size
  have hsz : (refsOf tups).length ≤ 1000 := by rw [refsOf_length, hT.length]; exact hrsz
  have e1 := T.xl
  have e2 := T.dl
  have e3 := T.xd
  subst hg'
  unfold hidT at F' N'
  (try dsimp only)
  (try k_fold)
  k_steps
  rename Fr _ _ _ _ => F
  rename News _ _ _ _ => Nw
  have htk := tups_keep (hid := hidT w 218 x dx l tok (refsOf tups) n) F T.all hidT_cls hT ht
  refine Does.use (del_spec ⟨X', T'⟩ (by exact F.keep) (TabAt.news (by exact Nw)) (TabAt.none (by exact Nw)) hT (by exact htk) ok hn) rfl (by first | exact room1 hd (Nat.le_of_ble_eq_true rfl) | exact room3 hu (Nat.le_of_ble_eq_true rfl) | (simp only [Around.deeper]; omega)) (by first | exact room1 hd (Nat.le_of_ble_eq_true rfl) | exact room3 hu (Nat.le_of_ble_eq_true rfl) | (simp only [Around.deeper]; omega)) ?_
  rintro v h2 tk2 ⟨rfl, ⟨tups', n', T2, hT2, hsub⟩, keep⟩
  obtain ⟨F2, N2⟩ := tab_back F Nw keep T2 (by first | ((repeat (first | with_reducible exact List.mem_cons_self .. | with_reducible refine List.mem_cons_of_mem _ ?_)); done) | simp)
  clear F Nw
  have hlen2 : (refsOf tups').length ≤ 1000 := by
    rw [refsOf_length, hT2.length]
    exact Nat.le_trans (List.length_filter_le _ _) hrsz
  (try dsimp only)
  k_steps
  show wpAny _ _ (call (.ref 119) [.ref x, .str nm _] [("name", .bool true)]) _ _ _
  rename Fr _ _ _ _ => F
  rename News _ _ _ _ => Nw
  refine Does.use (conv_spec ⟨X', T'⟩ (by exact F.keep) hn.safe (by have := hn.len; omega)) rfl (by first | exact room1 hd (Nat.le_of_ble_eq_true rfl) | exact room3 hu (Nat.le_of_ble_eq_true rfl) | (simp only [Around.deeper]; omega)) (by first | exact room1 hd (Nat.le_of_ble_eq_true rfl) | exact room3 hu (Nat.le_of_ble_eq_true rfl) | (simp only [Around.deeper]; omega)) ?_
  rintro v h3 tk3 ⟨rfl, keep⟩
  have F3 := F.keeps keep
  have N3 := Nw.grown keep
  clear F Nw keep
  (try dsimp only)
  k_steps
  show wpAny _ _ (call (.ref 119) [.ref x, .str val _] [("name", .bool false)]) _ _ _
  rename Fr _ _ _ _ => F
  rename News _ _ _ _ => Nw
  refine Does.use (conv_spec ⟨X', T'⟩ (by exact F.keep) hv hvl) rfl (by first | exact room1 hd (Nat.le_of_ble_eq_true rfl) | exact room3 hu (Nat.le_of_ble_eq_true rfl) | (simp only [Around.deeper]; omega)) (by first | exact room1 hd (Nat.le_of_ble_eq_true rfl) | exact room3 hu (Nat.le_of_ble_eq_true rfl) | (simp only [Around.deeper]; omega)) ?_
  rintro v h4 tk4 ⟨rfl, keep⟩
  have F4 := F.keeps keep
  have N4 := Nw.grown keep
  clear F Nw keep
  (try dsimp only)
  k_steps
  rename Fr _ _ _ _ => F
  rename News _ _ _ _ => Nw
  (first | (k_unmd; k_unfold; try dsimp only) | (try dsimp only))
  have htk := tups_keep (hid := hidT w 218 x dx l tok (refsOf tups) n) F T.all hidT_cls hT ht
  rw [List.push_toArray] at Nw
  have hD1 := (Nw _ (List.mem_cons_self ..)).1
  have N5 := fun p hp => Nw p (List.mem_cons_of_mem _ hp)
  have T5 := TabAt.news N5
  have hD := fresh_hide (hid := hidT w 218 x dx l tok (refsOf tups) n) (Nw _ (List.mem_cons_self ..)).2.2 (T5.ne_tup hD1 rfl)
  exact Done.mk ⟨rfl, TabMut.push T5 hT2 (fun p hp => ⟨htk p (hsub p hp), .inl (hsub p hp)⟩) hD1 hD (keep_but (hid := hidT w 218 x dx l tok (refsOf tups) n) F Nw T.all (by intro p hp; simp at hp; rcases hp with rfl | rfl | rfl <;> simp))⟩
end Mine

end
section
-- Cel
theorem Mine.fresh_Cel : True := by
  w_top off
  trivial
open PySem PySem.W PyProof.Rows PySem.Calls PySem.Builtin PySem.Builtin.Str
set_option maxRecDepth 100000
set_option maxHeartbeats 2000000
set_option pp.deepTerms false
namespace Mine
def pn (i : Nat) : Str := (["p0", "p1", "p2", "p3", "p4", "p5", "p6", "p7", "p8", "p9"] : List Str).getD i ""
def Pn (i : Nat) : Str := (["P0", "P1", "P2", "P3", "P4", "P5", "P6", "P7", "P8", "P9"] : List Str).getD i ""
def sgn (i : Nat) : Str := (["a", "b", "c", "d", "e", "A", "B", "C", "D", "E"] : List Str).getD i ""
theorem pn_eq : ∀ n, n < 10 → Str.ofString "p" ++ Str.ofString (toString ((n : Nat) : Int)) = pn n := by decide +kernel
theorem Pn_eq : ∀ n, n < 10 → Str.ofString "P" ++ Str.ofString (toString ((n : Nat) : Int)) = Pn n := by decide +kernel
section
variable {prog : Program} {w : World} {A : Around} {E : Value → Shared → Prop} {s : Shared} {t u : Tok} {Q : Value → Shared → Prop}
theorem modP {i : Int} {n : Nat} (hi : i = n) (h10 : n < 10) (h : ∀ tk k, Q (.str (pn n) tk) { s with toks := k }) : wpAny (model prog w) A (binaryOp .Mod (.str (Str.ofString "p%d") t) (.int i u)) Q E s := by
  (refine' KPc.mod_int ?kpcF ?kpcl ?kpch ?kpcm ?_; (case kpcF => kpc_eq); (case kpcl => (first | lia | omega)); (case kpch => (first | lia | omega)); (case kpcm => kpc_run))
  intro t' k
  rw [hi, pn_eq n h10]
  exact h _ _
theorem modQ {i : Int} {n : Nat} (hi : i = n) (h10 : n < 10) (h : ∀ tk k, Q (.str (Pn n) tk) { s with toks := k }) : wpAny (model prog w) A (binaryOp .Mod (.str (Str.ofString "P%d") t) (.int i u)) Q E s := by
  (refine' KPc.mod_int ?kpcF ?kpcl ?kpch ?kpcm ?_; (case kpcF => kpc_eq); (case kpcl => (first | lia | omega)); (case kpch => (first | lia | omega)); (case kpcm => kpc_run))
  intro t' k
  rw [hi, Pn_eq n h10]
  exact h _ _
end
/-- a place's sign, as a table's row: small letters 0 to 4, great ones 5 to 9 -/
def rowOf (c : Nat × Nat) : Str × Str := (if c.2 < 5 then pn c.1 else Pn c.1, sgn c.2)
def rowsOf (cs : List (Nat × Nat)) : List (Str × Str) := cs.map rowOf
def CellOk (c : Nat × Nat) : Prop := c.1 < 10 ∧ c.2 < 10
theorem lower_pn : ∀ i, i < 10 → Txt.lower (pn i) = pn i := by decide +kernel
theorem lower_Pn : ∀ i, i < 10 → Txt.lower (Pn i) = pn i := by decide +kernel
theorem pn_inj : ∀ i, i < 10 → ∀ j, j < 10 → (pn i == pn j) = (i == j) := by decide +kernel
theorem safe_pn : ∀ i, i < 10 → Safe (pn i) ∧ (pn i).length = 2 := by unfold Safe; decide +kernel
theorem safe_Pn : ∀ i, i < 10 → Safe (Pn i) ∧ (Pn i).length = 2 := by unfold Safe; decide +kernel
theorem safe_sgn : ∀ i, i < 10 → Safe (sgn i) ∧ (sgn i).length = 1 := by unfold Safe; decide +kernel
theorem nmOk_pn {i : Nat} (h : i < 10) : NmOk (pn i) := ⟨(safe_pn i h).1, by rw [lower_pn i h]; exact (safe_pn i h).1, by rw [(safe_pn i h).2]; decide⟩
theorem nmOk_Pn {i : Nat} (h : i < 10) : NmOk (Pn i) := ⟨(safe_Pn i h).1, by rw [lower_Pn i h]; exact (safe_pn i h).1, by rw [(safe_Pn i h).2]; decide⟩
theorem lower_row {c : Nat × Nat} (h : CellOk c) : Txt.lower (rowOf c).1 = pn c.1 := by
  unfold rowOf
  dsimp only
  split
  · exact lower_pn _ h.1
  · exact lower_Pn _ h.1
theorem rowsOk {cs : List (Nat × Nat)} (h : ∀ c ∈ cs, CellOk c) (hl : cs.length ≤ 1000) : RowsOk (rowsOf cs) := by
  refine ⟨fun r hr => ?_, by rw [rowsOf, List.length_map]; exact hl⟩
  obtain ⟨c, hc, rfl⟩ := List.mem_map.mp hr
  have h2 := h c hc
  have h3 := safe_sgn c.2 h2.2
  refine ⟨?_, h3.1, ?_, by show (sgn c.2).length ≤ 1000; rw [h3.2]; decide⟩
  · show Safe (if c.2 < 5 then pn c.1 else Pn c.1)
    split
    · exact (safe_pn _ h2.1).1
    · exact (safe_Pn _ h2.1).1
  · show (if c.2 < 5 then pn c.1 else Pn c.1).length ≤ 1000
    split
    · rw [(safe_pn _ h2.1).2]; decide
    · rw [(safe_Pn _ h2.1).2]; decide
/-- which sign stands at a place -/
def at' (i : Nat) (cs : List (Nat × Nat)) : Option Nat := (cs.find? (fun c => c.1 == i)).map (·.2)
end Mine

end
section
-- Cel2
theorem Mine.fresh_Cel2 : True := by
  w_top off
  trivial
open PySem PySem.W PyProof.Rows PySem.Calls PySem.Builtin PySem.Builtin.Str
set_option maxRecDepth 100000
namespace Mine
abbrev Cells := List (Nat × Nat)
def setC (i k : Nat) (cs : Cells) : Cells := match at' i cs with
  | some _ => cs
  | none => cs ++ [(i, k)]
def putC (i k : Nat) (cs : Cells) : Cells := cs.filter (fun c => c.1 != i) ++ [(i, k + 5)]
/-- the chord is offered to the places from the left -/
def spotC (k : Nat) : Nat → Nat → Cells → Cells
  | 0, _, cs => cs
  | f + 1, p, cs => if p < 9 then (if (at' p cs).getD k == k then setC p k cs else spotC k f (p + 1) (setC p k cs)) else cs
def freeC (cs : Cells) : List Nat := (List.range 10).filter fun p => (at' p cs).isNone
def stepC (k r : Nat) (cs : Cells) : Cells := putC ((freeC (spotC k 9 0 cs)).getD r 0) k (spotC k 9 0 cs)
def layC (r0 r1 r2 r3 : Nat) : Cells := stepC 4 0 (stepC 3 r3 (stepC 2 r2 (stepC 1 r1 (stepC 0 r0 []))))
def okC (cs : Cells) : Bool := decide (cs.length ≤ 10) && cs.all fun c => decide (c.1 < 10) && decide (c.2 < 10)
def okS (k r : Nat) (cs : Cells) : Bool := okC cs && okC (spotC k 9 0 cs) && decide (r < (freeC (spotC k 9 0 cs)).length)
def chkS (r0 r1 r2 r3 : Nat) : Bool := okS 0 r0 [] && okS 1 r1 (stepC 0 r0 []) && okS 2 r2 (stepC 1 r1 (stepC 0 r0 [])) && okS 3 r3 (stepC 2 r2 (stepC 1 r1 (stepC 0 r0 []))) && okS 4 0 (stepC 3 r3 (stepC 2 r2 (stepC 1 r1 (stepC 0 r0 [])))) && okC (layC r0 r1 r2 r3)
def all4 (f : Nat → Nat → Nat → Nat → Bool) : Bool := (List.range 9).all fun r0 => (List.range 7).all fun r1 => (List.range 5).all fun r2 => (List.range 3).all fun r3 => f r0 r1 r2 r3
theorem all4_at {f : Nat → Nat → Nat → Nat → Bool} (h : all4 f = true) {r0 r1 r2 r3 : Nat} (h0 : r0 < 9) (h1 : r1 < 7) (h2 : r2 < 5) (h3 : r3 < 3) : f r0 r1 r2 r3 = true := by
  unfold all4 at h
  simp only [List.all_eq_true, List.mem_range] at h
  exact h r0 h0 r1 h1 r2 h2 r3 h3
theorem chkS_all : all4 chkS = true := by decide +kernel
def baseZ (k : Nat) : Int := [9, -7, 5, -3, 1].getD k 0
def leftN : Nat → Int → Int
  | 0, z => z
  | k + 1, z => (leftN k z).fdiv (baseZ k)
def restN (k : Nat) (z : Int) : Nat := ((leftN k z).fmod (baseZ k)).natAbs
def csN : Nat → Int → Cells
  | 0, _ => []
  | k + 1, z => stepC k (restN k z) (csN k z)
theorem baseZ_ne {k : Nat} (h : k < 5) : baseZ k ≠ 0 ∧ (baseZ k).natAbs < 2 ^ 100 := by
  rcases k with _ | _ | _ | _ | _ | k
  case succ.succ.succ.succ.succ => (first | lia | omega)
  all_goals (constructor <;> decide)
theorem fdiv_small (a b : Int) (hb : b ≠ 0) : (a.fdiv b).natAbs ≤ a.natAbs + 1 := by
  have key : ∀ (a b : Int), 0 < b → (a.fdiv b).natAbs ≤ a.natAbs + 1 := by
    intro a b hb
    rw [Int.fdiv_eq_ediv_of_nonneg _ (by (first | lia | omega))]
    have h1 := Int.mul_ediv_add_emod a b
    have h2 := Int.emod_nonneg a (show b ≠ 0 by (first | lia | omega))
    have h3 := Int.emod_lt_of_pos a hb
    by_cases hq : 0 ≤ a / b
    · have : a / b ≤ b * (a / b) := by
        have := Int.mul_le_mul_of_nonneg_right (show (1 : Int) ≤ b by (first | lia | omega)) hq
        rwa [Int.one_mul] at this
      (first | lia | omega)
    · have : b * (a / b + 1) ≤ (a / b + 1) := by
        have := Int.mul_le_mul_of_nonpos_right (show (1 : Int) ≤ b by (first | lia | omega)) (show a / b + 1 ≤ 0 by (first | lia | omega))
        rwa [Int.one_mul] at this
      have e : b * (a / b + 1) = b * (a / b) + b := by rw [Int.mul_add, Int.mul_one]
      (first | lia | omega)
  by_cases h : 0 < b
  · exact key a b h
  · have := key (-a) (-b) (by (first | lia | omega))
    rwa [Int.neg_fdiv_neg, Int.natAbs_neg] at this
theorem leftN_small (z : Int) : ∀ k, k ≤ 5 → (leftN k z).natAbs ≤ z.natAbs + k
  | 0, _ => Nat.le_refl _
  | k + 1, h => by
    have := fdiv_small (leftN k z) (baseZ k) (baseZ_ne (by (first | lia | omega))).1
    have := leftN_small z k (by (first | lia | omega))
    show ((leftN k z).fdiv (baseZ k)).natAbs ≤ _
    (first | lia | omega)
theorem rest_lt (a b : Int) (hb : b ≠ 0) : (a.fmod b).natAbs < b.natAbs := by
  by_cases h : 0 < b
  · rw [Int.fmod_eq_emod_of_nonneg _ (by (first | lia | omega))]
    have h2 := Int.emod_nonneg a hb
    have h3 := Int.emod_lt_of_pos a h
    (first | lia | omega)
  · have e : a.fmod b = -((-a).fmod (-b)) := by
      rw [Int.fmod_def, Int.fmod_def, Int.neg_fdiv_neg, Int.neg_mul]; (first | lia | omega)
    rw [e, Int.natAbs_neg, Int.fmod_eq_emod_of_nonneg _ (by (first | lia | omega))]
    have h2 := Int.emod_nonneg (-a) (show -b ≠ 0 by (first | lia | omega))
    have h3 := Int.emod_lt_of_pos (-a) (show 0 < -b by (first | lia | omega))
    (first | lia | omega)
theorem lay_facts (z : Int) : ∀ k, k < 5 → okS k (restN k z) (csN k z) = true := by
  have h0 : restN 0 z < 9 := rest_lt _ 9 (by decide)
  have h1 : restN 1 z < 7 := rest_lt _ (-7) (by decide)
  have h2 : restN 2 z < 5 := rest_lt _ 5 (by decide)
  have h3 : restN 3 z < 3 := rest_lt _ (-3) (by decide)
  have h4 : restN 4 z < 1 := rest_lt _ 1 (by decide)
  have e4 : restN 4 z = 0 := by (first | lia | omega)
  have := all4_at chkS_all h0 h1 h2 h3
  unfold chkS at this
  simp only [Bool.and_eq_true] at this
  obtain ⟨⟨⟨⟨⟨a0, a1⟩, a2⟩, a3⟩, a4⟩, _⟩ := this
  intro k hk
  rcases k with _ | _ | _ | _ | _ | k
  · exact a0
  · exact a1
  · exact a2
  · exact a3
  · rw [e4]; exact a4
  · (first | lia | omega)
theorem csN_lay (z : Int) : csN 5 z = layC (restN 0 z) (restN 1 z) (restN 2 z) (restN 3 z) := by
  have h4 : restN 4 z < 1 := rest_lt _ 1 (by decide)
  have e4 : restN 4 z = 0 := by (first | lia | omega)
  show stepC 4 (restN 4 z) _ = _
  rw [e4]; rfl
end Mine

end
section
-- CelR01
theorem Mine.fresh_CelR01 : True := by
  w_top off
  trivial
open PySem PySem.W PyProof.Rows PySem.Calls PySem.Builtin PySem.Builtin.Str
set_option maxRecDepth 100000
namespace Mine
theorem at_pos {i : Nat} {c : Nat × Nat} {cs : Cells} (h : c.1 = i) : at' i (c :: cs) = some c.2 := by
  unfold at'; rw [List.find?_cons_of_pos (by simpa using h)]; rfl
theorem at_neg {i : Nat} {c : Nat × Nat} {cs : Cells} (h : c.1 ≠ i) : at' i (c :: cs) = at' i cs := by
  unfold at'; rw [List.find?_cons_of_neg (by simpa using h)]
theorem getR_cells {nm : Str} {i : Nat} (hn : Txt.lower nm = pn i) (hi : i < 10) : ∀ {cs : Cells}, (∀ c ∈ cs, CellOk c) → getR nm (rowsOf cs) = (at' i cs).map sgn
  | [], _ => rfl
  | c :: cs, h => by
    have hc := h c (List.mem_cons_self ..)
    have e : (Txt.lower (rowOf c).1 == Txt.lower nm) = (c.1 == i) := by rw [lower_row hc, hn, pn_inj _ hc.1 _ hi]
    have ih := getR_cells hn hi (cs := cs) fun c hc => h c (List.mem_cons_of_mem _ hc)
    show getR nm (rowOf c :: rowsOf cs) = _
    by_cases hq : c.1 = i
    · rw [getR_pos (by rw [e]; simpa using hq), at_pos hq]; rfl
    · rw [getR_neg (by rw [e]; simpa using hq), at_neg hq, ih]
theorem setD_cells {i k : Nat} (hi : i < 10) (hk : k < 5) {cs : Cells} (h : ∀ c ∈ cs, CellOk c) : setD (pn i) (sgn k) (rowsOf cs) = rowsOf (setC i k cs) := by
  unfold setD setC
  rw [getR_cells (lower_pn i hi) hi h]
  cases at' i cs with
  | some r => rfl
  | none =>
    show rowsOf cs ++ [(pn i, sgn k)] = rowsOf (cs ++ [(i, k)])
    unfold rowsOf
    rw [List.map_append]
    show _ = _ ++ [rowOf (i, k)]
    unfold rowOf
    rw [if_pos hk]
theorem delR_cells {nm : Str} {i : Nat} (hn : Txt.lower nm = pn i) (hi : i < 10) : ∀ {cs : Cells}, (∀ c ∈ cs, CellOk c) → delR nm (rowsOf cs) = rowsOf (cs.filter fun c => c.1 != i)
  | [], _ => rfl
  | c :: cs, h => by
    have hc := h c (List.mem_cons_self ..)
    have e : (Txt.lower (rowOf c).1 != Txt.lower nm) = (c.1 != i) := by rw [bne, bne, lower_row hc, hn, pn_inj _ hc.1 _ hi]
    have ih := delR_cells hn hi (cs := cs) fun c hc => h c (List.mem_cons_of_mem _ hc)
    unfold delR at ih ⊢
    show List.filter _ (rowOf c :: rowsOf cs) = _
    by_cases hq : (c.1 != i) = true
    · rw [List.filter_cons_of_pos (by rw [e]; exact hq), List.filter_cons_of_pos (p := fun c : Nat × Nat => c.1 != i) hq, ih]; rfl
    · rw [List.filter_cons_of_neg (by rw [e]; exact hq), List.filter_cons_of_neg (p := fun c : Nat × Nat => c.1 != i) hq, ih]
theorem putR_cells {i k : Nat} (hi : i < 10) {cs : Cells} (h : ∀ c ∈ cs, CellOk c) : putR (Pn i) (sgn (k + 5)) (rowsOf cs) = rowsOf (putC i k cs) := by
  unfold putR putC
  rw [delR_cells (lower_Pn i hi) hi h]
  unfold rowsOf
  rw [List.map_append]
  show _ = _ ++ [rowOf (i, k + 5)]
  unfold rowOf
  rw [if_neg (by simp)]
theorem sgn_inj : ∀ i, i < 10 → ∀ j, j < 10 → (sgn i == sgn j) = (i == j) := by decide +kernel
theorem okC_cells {cs : Cells} (h : okC cs = true) : (∀ c ∈ cs, CellOk c) ∧ cs.length ≤ 10 := by
  unfold okC at h
  simp only [Bool.and_eq_true, decide_eq_true_eq, List.all_eq_true] at h
  exact ⟨fun c hc => h.2 c hc, h.1⟩
theorem setC_ok {i k : Nat} (hi : i < 10) (hk : k < 10) {cs : Cells} (h : ∀ c ∈ cs, CellOk c) : ∀ c ∈ setC i k cs, CellOk c := by
  unfold setC
  cases at' i cs with
  | some r => exact h
  | none =>
    intro c hc
    rcases List.mem_append.mp hc with hc | hc
    · exact h c hc
    · rw [List.mem_singleton.mp hc]; exact ⟨hi, hk⟩
theorem at_ok {i r : Nat} {cs : Cells} (h : ∀ c ∈ cs, CellOk c) (e : at' i cs = some r) : r < 10 := by
  unfold at' at e
  cases hf : cs.find? (fun c => c.1 == i) with
  | none => rw [hf] at e; cases e
  | some c => rw [hf] at e; cases e; exact (h c (List.mem_of_find?_eq_some hf)).2
theorem setC_length {i k : Nat} {cs : Cells} : (setC i k cs).length ≤ cs.length + 1 := by
  unfold setC
  cases at' i cs <;> simp
end Mine

end
section
-- Bas01
theorem Mine.fresh_Bas01 : True := by
  w_top off
  trivial
open PySem PySem.W PyProof.Rows PySem.Calls PySem.Builtin.Str
set_option maxRecDepth 100000
set_option maxHeartbeats 1000000
set_option pp.deepTerms false
namespace Mine
local macro_rules | `(tactic| k_room) => `(tactic| ((try simp only [Around.deeper, recursionLimit] at *); omega))
local macro_rules | `(tactic| k_units) => `(tactic| ((try simp only [Around.deeper, Around.in1, cLine] at *); omega))

theorem base_one {w : World} {s : Shared} {B : Heap} {loose mean mg mb} {k : Nat} {t : Tok} (kz : Int) (hk : kz = k)
    (G : Gd (Mine.hd01.heap_39 w.params) loose mean mg mb B) (hB : B.StaysIn s.heap) (h5 : k < 5) :
    Does (model PySem.Challenge.rw_pg0310_01.row.prog w) 5 20 (call (.ref 229) [.int kz t]) s (fun v h' => Keep [] s.heap h' ∧ ∃ tk, v = .int (baseZ k) tk) := by
  intro d0 u0 fr gs hd hu
  revert G
  k_fill
  intro G
  refine' enter (binds := [("k", .int kz t)]) G hB [] (List.forall_mem_nil _) ?k6 ?k7 ?k8 ?k9 ?kB ?_ ?c2 ?c3 ?c4 ?c5; (case k6 => k_is); (case k7 => k_is); (case k8 => k_room); (case k9 => exact BindsTo.of_eq rfl);  (case c5 => decide); (case kB => exact locs rfl); (case c2 => exact rfl); (case c3 => exact rfl); (case c4 => exact rfl)
  intro g' L' h' hg' F' N' hlow X' T'
  subst hg'
  subst hk
  (try dsimp only)
  rcases k with _ | _ | _ | _ | _ | k
  case succ.succ.succ.succ.succ => (first | lia | omega)
  all_goals (try k_fold)
  all_goals k_steps
  all_goals exact Done.mk ⟨keep_but (hid := []) (by with_reducible assumption) (by with_reducible assumption) (List.forall_mem_nil _) (List.forall_mem_nil _), _, rfl⟩
end Mine

end
section
-- Mk01
theorem Mine.fresh_Mk01 : True := by
  w_top off
  trivial
open PySem PySem.W PyProof.Rows PySem.Calls PySem.Builtin.Str
set_option maxRecDepth 100000
set_option maxHeartbeats 1000000
set_option pp.deepTerms false
namespace Mine
theorem make_spec {w : World} {A : Around} {E : Value → Shared → Prop} {s : Shared} {h₀ : Heap} {loose mean mg mb} {L l : Addr} {m : Str → Option Value} {news : List (Addr × Obj)} {tups : List (Addr × Obj)} {rows : List (Str × Str)} {n : Nat} {Q : Value → Shared → Prop}
    (G : Gd (Mine.hd01.heap_39 w.params) loose mean mg mb h₀) (F : Fr h₀ L s.heap m) (N : News h₀ L s.heap news) (hm : (l, listOf (refsOf tups).toArray n) ∈ news) (hT : TupsAre tups rows) (ht : ∀ p ∈ tups, p ∈ news) (ok : RowsOk rows) (hh : A.handled = none) (hd : A.depth + 20 < recursionLimit) (hu : A.units + 60 < cLine)
    (h : ∀ x dx tok h' tk, Fr h₀ L h' m → News h₀ L h' ((x, instObj 218 dx) :: (dx, dictOf (hdrE w tok l) 1) :: news) → (∀ p ∈ news, p.1 < dx) → dx < x → Q (.ref x) { s with heap := h', toks := tk }) :
    wpAny (model PySem.Challenge.rw_pg0310_01.row.prog w) A (call (.ref 218) [.ref l]) Q E s := by
  revert G
  k_fill
  intro G
  refine call_cls F G.X N (by k_is) (by k_is) (by k_is) ?_
  intro x dx h1 F1 N1 l1 l2
  have zx := N1 _ (List.mem_cons_self ..)
  have zd := N1 _ (List.mem_cons_of_mem _ (List.mem_cons_self ..))
  have zl := N1 (l, listOf (refsOf tups).toArray n) (List.mem_cons_of_mem _ (List.mem_cons_of_mem _ hm))
  have hr1 : RowsAt h1 (refsOf tups) rows := hT.rowsAt fun p hp => (N1 p (List.mem_cons_of_mem _ (List.mem_cons_of_mem _ (ht p hp)))).1
  have dl : @LT.lt Nat _ l dx := l1 _ hm
  have dd : @LT.lt Nat _ dx x := l2
  have hw : (Code.builtin "type.__call__" ⟨.ref 218 :: [.ref l], []⟩).weight ≤ 2 := by first | exact Nat.le_refl 2 | exact (show (1 : Nat) ≤ 2 by decide) | exact (show (0 : Nat) ≤ 2 by decide)
  have hc : (Code.builtin "type.__call__" ⟨.ref 218 :: [.ref l], []⟩).cUnits ≤ 2 := by first | exact Nat.le_refl 2 | exact (show (1 : Nat) ≤ 2 by decide) | exact (show (0 : Nat) ≤ 2 by decide)
  refine DoesC.use (init_spec (x := x) (dx := dx) (l := l) (refs := refsOf tups) (n := n) (rows := rows) G (by exact F1.keep) ⟨by exact zx.1, zx.2.2⟩ ⟨by exact zd.1, zd.2.2⟩ ⟨by exact zl.1, zl.2.2⟩ (Nat.ne_of_gt (Nat.lt_trans dl dd)) (Nat.ne_of_gt dl) (Nat.ne_of_gt dd) (by exact hr1) ok.safe ok.size) hh (by simp only [Around.under]; (first | lia | omega)) (by simp only [Around.under]; (first | lia | omega)) ?_
  rintro v h2 tk2 ⟨rfl, tok, keep, hd2⟩
  refine ⟨rfl, ?_⟩
  obtain ⟨oL, es, ep, hL, r⟩ := F1.ns
  refine h x dx tok h2 tk2 ⟨⟨oL, es, ep, keep _ _ (by simpa using zd.2.1.symm) hL, r⟩, fun b o e => keep b o (by simp; rintro rfl; rw [zd.2.2] at e; cases e) (F1.keep b o e), F1.above⟩ (List.forall_mem_cons.mpr ⟨⟨keep _ _ (by simpa using Nat.ne_of_gt dd) zx.1, zx.2⟩, List.forall_mem_cons.mpr ⟨⟨hd2, zd.2⟩, fun p hp => ?_⟩⟩) l1 l2
  have z := N1 p (List.mem_cons_of_mem _ (List.mem_cons_of_mem _ hp))
  exact ⟨keep _ _ (by simpa using Nat.ne_of_lt (l1 p hp)) z.1, z.2⟩
end Mine

end
section
-- Whl
theorem Mine.fresh_Whl : True := by
  w_top off
  trivial
open PySem PySem.W PyProof.Rows PySem.Calls PySem.Builtin
set_option maxRecDepth 100000
namespace Mine
section
variable {prog : Program} {w : World} {A : Around} {E : Value → Shared → Prop} {s : Shared} {env : Env} {h₀ : Heap} {Q : Flow → Shared → Prop} {L : Addr}
/-- what a turn of a while leaves -/
def WTurn (h₀ : Heap) (L : Addr) (J : Nat → (Str → Option Value) → List (Addr × Obj) → Prop) (k : Nat) (s : Shared) (Q : Flow → Shared → Prop) (f : Flow) (s₂ : Shared) : Prop :=
  match f with
  | .ret v => Q (.ret v) s₂
  | .brk => Q .next s₂
  | _ => ∃ k' h' tk m' nx, k' < k ∧ s₂ = { s with heap := h', toks := tk } ∧ Fr h₀ L h' m' ∧ News h₀ L h' nx ∧ J k' m' nx
theorem WTurn.next {J : Nat → (Str → Option Value) → List (Addr × Obj) → Prop} {k k' : Nat} {nx : List (Addr × Obj)} {h' : Heap} {tk : Nat} {m' : Str → Option Value} (hk : k' < k) (F : Fr h₀ L h' m') (N : News h₀ L h' nx) (hj : J k' m' nx) : WTurn h₀ L J k s Q .next { s with heap := h', toks := tk } := ⟨k', h', tk, m', nx, hk, rfl, F, N, hj⟩
/-- a while -/
theorem while_any {test : Expr} {body : List Stmt} {pos : Pos} {m : Str → Option Value} {news : List (Addr × Obj)} (J : Nat → (Str → Option Value) → List (Addr × Obj) → Prop) (n : Nat) (F : Fr h₀ L s.heap m) (N : News h₀ L s.heap news) (hj : J n m news)
    (turn : ∀ k m₁ news₁ h tk, J k m₁ news₁ → Fr h₀ L h m₁ → News h₀ L h news₁ → wpAny (model prog w) A (isTrue test env (eval test env)) (fun b s₂ => if b = true then wpAny (model prog w) A (execs body env) (WTurn h₀ L J k s Q) E s₂ else Q .next s₂) E { s with heap := h, toks := tk })
    (hE : PassesOwn (model prog w) A env E := by passes_own) :
    wpAny (model prog w) A (exec (.While test body [] pos) env) Q E s := by
  refine wpAny_While ?_
  refine codeAny_whileLoop (fun k s' => ∃ h' tk m' nx, s' = { s with heap := h', toks := tk } ∧ Fr h₀ L h' m' ∧ News h₀ L h' nx ∧ J k m' nx) ?_ n ⟨s.heap, s.toks, m, news, rfl, F, N, hj⟩
  rintro k s' ⟨h', tk, m', nx, rfl, F', N', hJ⟩
  have T := turn k m' nx h' tk hJ F' N'
  refine wpAny_mono (wpAny_passesOwn hE T) (fun b s₂ T₂ => ?_) fun _ _ e => e
  cases b with
  | false =>
    simp only [Bool.false_eq_true, if_false] at T₂ ⊢
    exact wpAny_execs_nil T₂
  | true =>
    simp only [if_true] at T₂ ⊢
    refine wpAny_mono (wpAny_passesOwn hE T₂) (fun f s₃ T₃ => ?_) fun _ _ e => e
    cases f with
    | ret v => exact T₃
    | brk => exact T₃
    | next =>
      obtain ⟨k', h', tk, m', nx, hk, e, r⟩ := T₃
      exact ⟨k', hk, h', tk, m', nx, e, r⟩
    | cont =>
      obtain ⟨k', h', tk, m', nx, hk, e, r⟩ := T₃
      exact ⟨k', hk, h', tk, m', nx, e, r⟩

/-- what a for over any target wants of its iterator: a walk of values, an invariant over the frame's map and the ledger -/
def LoopOwn (prog : Program) (w : World) (A : Around) (h₀ : Heap) (env : Env) (target : Expr) (body : List Stmt) (Q : Flow → Shared → Prop) (E : Value → Shared → Prop) (it : Value) (s₂ : Shared) : Prop :=
  ∃ (I : Addr) (fp : List Addr) (n : Nat) (P : Nat → Value → Prop) (St : Nat → Heap → Prop) (m : Str → Option Value) (news : List (Addr × Obj)) (J : Nat → (Str → Option Value) → List (Addr × Obj) → Prop),
    it = .ref I ∧ (∀ v, letOwnedTupleGo target it v = pure ()) ∧ Walks prog w A I fp [I] n P St ∧ env.locals ∉ fp ∧ h₀.get? I = none ∧ (∀ p ∈ news, p.1 ≠ I) ∧ St 0 s₂.heap ∧ Fr h₀ env.locals s₂.heap m ∧ News h₀ env.locals s₂.heap news ∧ J 0 m news ∧
    (∀ i v m₁ news₁ h tk own, i < n → P i v → J i m₁ news₁ → (∀ p ∈ news₁, p.1 ≠ I) → (∀ p ∈ own, p.1 ∈ fp) → own = ownOf h₀ fp h → St (i + 1) h → Fr h₀ env.locals h m₁ → News h₀ env.locals h (news₁ ++ own) →
      wpAny (model prog w) A (assign target env v) (fun _ s₄ => wpAny (model prog w) A (execs body env) (OurTurn h₀ env.locals I own (J (i + 1)) s₂ Q) E s₄) E { s₂ with heap := h, toks := tk }) ∧
    (∀ m₁ news₁ h tk, J n m₁ news₁ → Fr h₀ env.locals h m₁ → News h₀ env.locals h news₁ → Q .next { s₂ with heap := h, toks := tk })

/-- a for, any target -/
theorem for_own {target iter : Expr} {body : List Stmt} {pos : Pos} (h₀ : Heap)
    (h : wpAny (model prog w) A (eval iter env) (fun x s₁ => wpAny (model prog w) A (pyIter x) (fun it s₂ => LoopOwn prog w A h₀ env target body Q E it s₂) E s₁) E s)
    (hs : ∀ x, foldedSetIterable iter env x = pure x := by intro _; rfl)
    (hE : PassesOwn (model prog w) A env E := by passes_own) :
    wpAny (model prog w) A (exec (.For target iter body [] pos) env) Q E s := by
  refine wpAny_For (wpAny_mono h (fun xv s₁ h₁ => wpAny_mono h₁ (fun it s₂ h₂ => ?_) fun _ _ e => e) fun _ _ e => e) hs
  obtain ⟨I, fp, n, P, St, m, news, J, rfl, ht, W, hLf, hI0, hnI, hst, F, N, hj, turn, done⟩ := h₂
  have hIf : I ∈ fp := W.sub I (List.mem_singleton.mpr rfl)
  refine codeAny_forLoop
    (fun k s' => ∃ h' tk m' nx i, s' = { s₂ with heap := h', toks := tk } ∧ St i h' ∧ Fr h₀ env.locals h' m' ∧ News h₀ env.locals h' nx ∧ (∀ p ∈ nx, p.1 ≠ I) ∧ J i m' nx ∧ i ≤ n ∧ k = n + 1 - i) ?_ (n + 1)
    ⟨s₂.heap, s₂.toks, m, news, 0, rfl, hst, F, N, hnI, hj, Nat.zero_le _, rfl⟩ ht
  rintro k s' ⟨h', tk, m', nx, i, rfl, hst', F', N', hnx, hJ, hi, rfl⟩
  have next : ∀ h₁ : Heap, (∀ b o, b ∉ [I] → h'.get? b = some o → h₁.get? b = some o) → Fr h₀ env.locals h₁ m' ∧ News h₀ env.locals h₁ nx := fun h₁ hk₁ =>
    ⟨⟨F'.ns.at' fun o e => hk₁ _ o (fun q => hLf ((List.mem_singleton.mp q) ▸ hIf)) e, fun b o e => hk₁ b o (fun q => by rw [List.mem_singleton.mp q, hI0] at e; cases e) (F'.keep b o e), F'.above⟩,
      fun p hp => ⟨hk₁ _ _ (fun q => hnx p hp (List.mem_singleton.mp q)) (N' p hp).1, (N' p hp).2⟩⟩
  by_cases hlt : i < n
  · refine W.item i _ _ _ hlt hst' fun v h₁ tk₁ hP hst₁ hk₁ => ?_
    obtain ⟨F₁, N₁⟩ := next h₁ hk₁
    have Nown : News h₀ env.locals h₁ (ownOf h₀ fp h₁) := news_ownOf hLf
    have N₂ : News h₀ env.locals h₁ (nx ++ ownOf h₀ fp h₁) := fun p hp => (List.mem_append.mp hp).elim (N₁ p) (Nown p)
    have T := turn i v m' nx h₁ tk₁ (ownOf h₀ fp h₁) hlt hP hJ hnx ownOf_sub rfl hst₁ F₁ N₂
    have fin : ∀ s₅ : Shared, (∃ h'' tk m'' nx', s₅ = { s₂ with heap := h'', toks := tk } ∧ Fr h₀ env.locals h'' m'' ∧ News h₀ env.locals h'' (nx' ++ ownOf h₀ fp h₁) ∧ (∀ p ∈ nx', p.1 ≠ I) ∧ J (i + 1) m'' nx') →
        ∃ mm, mm < n + 1 - i ∧ ∃ h' tk m' nx i, s₅ = { s₂ with heap := h', toks := tk } ∧ St i h' ∧ Fr h₀ env.locals h' m' ∧ News h₀ env.locals h' nx ∧ (∀ p ∈ nx, p.1 ≠ I) ∧ J i m' nx ∧ i ≤ n ∧ mm = n + 1 - i := by
      rintro s₅ ⟨h₃, tk₃, m₂, nx₂, rfl, F₃, N₃, ha₃, hJ₃⟩
      refine ⟨n + 1 - (i + 1), by omega, h₃, tk₃, m₂, nx₂, i + 1, rfl, ?_, F₃, fun p hp => N₃ p (List.mem_append_left _ hp), ha₃, hJ₃, hlt, rfl⟩
      refine W.frame _ _ _ hst₁ fun b hb o e => ?_
      cases hn : h₀.get? b with
      | some o₀ =>
        have e0 : o₀ = o := by have := F₁.keep b o₀ hn; rw [e] at this; exact (Option.some.inj this).symm
        exact e0 ▸ F₃.keep b o₀ hn
      | none => exact (N₃ (b, o) (List.mem_append_right _ (mem_ownOf hb hn e))).1
    refine wpAny_mono (wpAny_passesOwn hE T) (fun _ s₄ T₄ => wpAny_mono (wpAny_passesOwn hE T₄) (fun f s₅ T₅ => ?_) fun _ _ e => e) fun _ _ e => e
    cases f with
    | ret v => exact T₅
    | brk => exact T₅
    | next =>
      obtain ⟨h₃, tk₃, m₂, nx₂, e, r⟩ := T₅
      exact fin s₅ ⟨h₃, tk₃, m₂, nx₂, e, r⟩
    | cont =>
      obtain ⟨h₃, tk₃, m₂, nx₂, e, r⟩ := T₅
      exact fin s₅ ⟨h₃, tk₃, m₂, nx₂, e, r⟩
  · have hin : i = n := by omega
    subst hin
    refine W.done _ _ _ hst' fun h₁ tk₁ hk₁ => wpAny_execs_nil ?_
    obtain ⟨F₁, N₁⟩ := next h₁ hk₁
    exact done m' nx h₁ tk₁ hJ F₁ N₁

theorem for_ownF {m : Str → Option Value} {target iter : Expr} {body : List Stmt} {pos : Pos} (_F : Fr h₀ L s.heap m)
    (h : wpAny (model prog w) A (eval iter env) (fun x s₁ => wpAny (model prog w) A (pyIter x) (fun it s₂ => LoopOwn prog w A h₀ env target body Q E it s₂) E s₁) E s)
    (hs : ∀ x, foldedSetIterable iter env x = pure x := by intro _; rfl)
    (hE : PassesOwn (model prog w) A env E := by passes_own) :
    wpAny (model prog w) A (exec (.For target iter body [] pos) env) Q E s := for_own h₀ h hs hE

open LCg in
/-- over a range -/
theorem iter_range {target : Expr} {body : List Stmt} {r : Addr} {a b : Int} {t u v : Tok} {n : Nat} {m₀ : Str → Option Value} {news : List (Addr × Obj)} (J : Nat → (Str → Option Value) → List (Addr × Obj) → Prop)
    (hh : A.handled = none) (hr : IsRange s.heap r a b 1 t u v) (hsm : Builtin.Range.small a b 1 = true) (hn : Builtin.Range.rangeSize a b 1 = ((n : Nat) : Int)) (F : Fr h₀ env.locals s.heap m₀) (N : News h₀ env.locals s.heap news) (hj : J 0 m₀ news)
    (turn : ∀ (i : Nat) (t : Tok) m₁ news₁ h tk I own, i < n → J i m₁ news₁ → (∀ p ∈ news₁, p.1 ≠ I) → (∀ p ∈ own, p.1 = I) → (∃ o, (I, o) ∈ own ∧ o.cls = .type "range_iterator") → Fr h₀ env.locals h m₁ → News h₀ env.locals h (news₁ ++ own) →
      wpAny (model prog w) A (assign target env (.int (a + (i : Int)) t)) (fun _ s₄ => wpAny (model prog w) A (execs body env) (OurTurn h₀ env.locals I own (J (i + 1)) s Q) E s₄) E { s with heap := h, toks := tk })
    (done : ∀ m₁ news₁ h tk, J n m₁ news₁ → Fr h₀ env.locals h m₁ → News h₀ env.locals h news₁ → Q .next { s with heap := h, toks := tk })
    (ht : ∀ a v, letOwnedTupleGo target a v = pure () := by intro _ _; rfl) :
    wpAny (model prog w) A (pyIter (.ref r)) (fun it s₂ => LoopOwn prog w A h₀ env target body Q E it s₂) E s := by
  refine wpAny_pyIter_range hr hsm ?_
  refine ⟨_, _, _, _, _, m₀, news, J, rfl, ht _, range_walks hh a n, ?_, fresh_none F, fun p hp => Nat.ne_of_lt (Heap.lt_size (N p hp).1), (by show IsRangeIter _ _ _ _ _; rw [hn]; simpa using Heap.get?_push_size _ rfl), F.push _, (fun p hp => ⟨Heap.get?_push_of_some _ (N p hp).1, (N p hp).2⟩), hj, ?_, ?_⟩
  · intro hm
    exact absurd F.ns.lt (List.mem_singleton.mp hm ▸ Nat.lt_irrefl _)
  · intro i v m₁ news₁ h tk own hi hP hJ hnx hown hoe hst F₁ N₁
    obtain ⟨t', rfl⟩ := hP
    exact turn i t' m₁ news₁ h tk _ own hi hJ hnx (fun p hp => List.mem_singleton.mp (hown p hp)) ⟨_, by rw [hoe]; exact mem_ownOf (List.mem_singleton.mpr rfl) (fresh_none F) hst, rfl⟩ F₁ N₁
  · intro m₁ news₁ h tk hJ F₁ N₁
    exact done m₁ news₁ h tk hJ F₁ N₁
end
/-- a place where the walk is to stand still -/
def Halt (P : Prop) : Prop := P
theorem Halt.mk {P : Prop} (h : Halt P) : P := h
theorem Halt.go {P : Prop} (h : P) : Halt P := h
theorem loadX {M : Model} {A : Around} {E : Value → Shared → Prop} {s : Shared} {h₀ : Heap} {L a : Addr} {m : Str → Option Value} {cn : Str} {cs : Scope} {ccd : Value} {cl : List (Str × Addr)} {x : Str} {v : Value} {Q : Value → Shared → Prop} (F : Fr h₀ L s.heap m) (hv : m x = some v) (h : Q v s)
    (hk : cs.kind = .function := by rfl) (hx : (envX cn cs L a ccd cl).kindOf x = some .local := by rfl) : wpAny M A (loadName (envX cn cs L a ccd cl) x) Q E s := wpAny_loadName_local hk hx F.ns hv h
theorem TabPost.back2 {S T : TabSpec} {tl n : List (Addr × Obj)} {h₀ h h' : Heap} {L : Addr} {m : Str → Option Value} (P : TabPost S T tl h h') (hS : TabS S T tl) (F : Fr h₀ L h m) (N : News h₀ L h n) (hsuf : ∀ tl', ∃ n', Suf tl tl' n n') :
    ∃ tl', TabS S T tl' ∧ Fr h₀ L h' m ∧ (∀ n', Suf tl tl' n n' → News h₀ L h' n') ∧ (∀ a ∈ tl.map (·.1), a ∈ tl'.map (·.1)) ∧ (∀ b o, b ∉ tl.map (·.1) → h.get? b = some o → h'.get? b = some o) ∧ (∀ p ∈ tl', p.1 ∈ tl.map (·.1) ∨ h.get? p.1 = none) := by
  obtain ⟨tl', hS', keep, hnew, hsub⟩ := P
  obtain ⟨n0, U0⟩ := hsuf tl'
  have tlN : ∀ a ∈ tl.map (·.1), a ≠ L ∧ h₀.get? a = none := fun a ha => by
    obtain ⟨p, hp, rfl⟩ := List.mem_map.mp ha
    exact (N p (U0.mem p hp)).2
  obtain ⟨oL, es, ep, hL, r⟩ := F.ns
  refine ⟨tl', hS', ⟨⟨oL, es, ep, keep _ _ (fun q => (tlN _ q).1 rfl) hL, r⟩, fun b o e => keep b o (fun q => by rw [(tlN _ q).2] at e; cases e) (F.keep b o e), F.above⟩, fun n' U => ?_, hsub, keep, fun p hp => (hnew p hp).2⟩
  refine U.news N hS.fld keep fun p hp => ?_
  obtain ⟨h1, h2⟩ := hnew p hp
  refine ⟨h1, ?_⟩
  rcases h2 with h2 | h2
  · exact tlN _ h2
  · refine ⟨fun e => ?_, ?_⟩
    · rw [e, hL] at h2; cases h2
    · cases q : h₀.get? p.1 with
      | none => rfl
      | some o => rw [F.keep _ _ q] at h2; cases h2

end Mine

end
section
-- Itm
theorem Mine.fresh_Itm : True := by
  w_top off
  trivial
open PySem PySem.W PyProof.Rows PySem.Calls PySem.Builtin PySem.Builtin.Str
set_option maxRecDepth 100000
namespace Mine
theorem item_abc : ∀ i : Nat, i < 5 → Txt.item (Str.ofString "abcde") (0 + (i : Int)) = sgn i := by decide +kernel
theorem upper_sgn : ∀ i : Nat, i < 5 → Txt.upper (sgn i) = sgn (i + 5) := by decide +kernel
end Mine

end
section
-- Lay01
theorem Mine.fresh_Lay01 : True := by
  w_top off
  trivial
open PySem PySem.W PyProof.Rows PySem.Calls PySem.Builtin.Str
set_option maxRecDepth 100000
set_option maxHeartbeats 1000000
set_option pp.deepTerms false
namespace Mine
local macro_rules | `(tactic| k_room) => `(tactic| ((try simp only [Around.deeper, recursionLimit] at *); omega))
local macro_rules | `(tactic| k_units) => `(tactic| ((try simp only [Around.deeper, Around.in1, cLine] at *); omega))
local macro_rules | `(tactic| k_all) => `(tactic| first | with_reducible assumption | exact allLt_ne (by with_reducible assumption) | exact Low.ne (by with_reducible assumption) (by omega) | (exact Low.ne (by assumption) (by omega)))
local macro_rules | `(tactic| walk_at "eval Name") => `(tactic| (k_here; k_dflt (refine' nameX_L ?F ?v ?_ ?a ?b; (case F => k_asm); (case a => rfl); (case b => rfl); (case v => first | exact rfl | assumption); k_whole)))
local macro_rules | `(tactic| walk_at "exec For Name Call cons nil") => `(tactic| (k_here; k_dflt (refine' for_ownF ?k1 ?_ ?k2 ?k3; (case k1 => k_asm); (case k2 => (intro _; rfl)); (case k3 => passes_own))))

local macro_rules | `(tactic| walk_at "loadName") => `(tactic| (k_here; k_dflt (refine' loadX ?F ?v ?_ ?a ?b; (case F => k_asm); (case a => rfl); (case b => rfl); (case v => first | exact rfl | assumption); k_whole)))
local macro_rules | `(tactic| walk_at "exec Assign cons ListComp") => `(tactic| (k_here; k_dflt (refine LCt.Assign_ListComp_T (F₀ := by k_asm) (by rfl) (by with_unfolding_all rfl) (by with_unfolding_all rfl) (by decide) (by rfl) (by decide) (by rfl) (by rfl) (by rfl) ?_)))
local macro_rules | `(tactic| walk_at "CompSrcT") => `(tactic| (refine Halt.mk ?_))
local macro_rules | `(tactic| walk_at "subscriptTail Name Call ref int") => `(tactic| (k_here; refine Halt.mk ?_))
local macro_rules | `(tactic| walk_at "subscriptTail") => `(tactic| (k_here; (with_reducible show wpAny _ _ (subscriptTail _ _ (Value.ref _) (Value.int _ _)) _ _ _); refine Halt.mk ?_))
local macro_rules | `(tactic| walk_at "exec While") => `(tactic| (k_here; refine Halt.mk ?_))
local macro_rules | `(tactic| walk_at "exec While BoolOp") => `(tactic| (k_here; refine Halt.mk ?_))
local macro_rules | `(tactic| walk_at "binaryOp Mod str int") => `(tactic| (k_here; (with_reducible show wpAny _ _ (binaryOp Operator.Mod (Value.str (Str.ofString "p%d") _) (Value.int _ _)) _ _ _); refine' modP ?a ?b ?_; (case a => rfl); (case b => omega); intro _ _))
local macro_rules | `(tactic| walk_at "binaryOp Mod str int") => `(tactic| (k_here; (with_reducible show wpAny _ _ (binaryOp Operator.Mod (Value.str (Str.ofString "P%d") _) (Value.int _ _)) _ _ _); refine' modQ ?a ?b ?_; (case a => rfl); (case b => omega); intro _ _))
theorem spotC_step {k p : Nat} {cs : Cells} (h : p < 9) : spotC k (9 - p) p cs = if (at' p cs).getD k == k then setC p k cs else spotC k (9 - (p + 1)) (p + 1) (setC p k cs) := by
  obtain ⟨f, hf⟩ : ∃ f, 9 - p = f + 1 := ⟨8 - p, by (first | lia | omega)⟩
  rw [hf, spotC, if_pos h, show 9 - (p + 1) = f by (first | lia | omega)]
theorem free_at {ys : List Value} {cs : Cells} {r : Nat} (hys : IntsAre ys (castL (freeC cs))) (hr : r < (freeC cs).length) : ∃ p t, ys[r]? = some (.int ((p : Nat) : Int) t) ∧ p = (freeC cs).getD r 0 ∧ p < 10 := by
  have hl : r < ys.length := by
    have := hys.length
    unfold castL at this
    rw [List.length_map] at this
    (first | lia | omega)
  obtain ⟨n, t, e, hn⟩ := hys.at r _ (List.getElem?_eq_getElem hl)
  unfold castL at hn
  rw [List.getElem?_map, List.getElem?_eq_getElem hr] at hn
  refine ⟨(freeC cs)[r], t, ?_, by rw [List.getD_eq_getElem?_getD, List.getElem?_eq_getElem hr]; rfl, ?_⟩
  · rw [List.getElem?_eq_getElem hl, e]
    rw [← Option.some.inj hn]
  · have := List.getElem_mem hr
    unfold freeC at this
    exact List.mem_range.mp (List.mem_filter.mp this).1
theorem notFld_plain {c : Value} {d : Option Addr} {sl : Array (Option Value)} : NotFld ⟨c, d, .plain, sl⟩ := fun _ e => by cases e
theorem notFld_dict {es : List DictEntry} {n : Nat} : NotFld (dictOf es n) := fun _ e => by cases e
/-- a cut; what comes behind is out of sight of the part ahead of it -/
theorem cutK {M : Model} {A : Around} {E : Value → Shared → Prop} {env : Env} {body : List Stmt} {Q : Flow → Shared → Prop} {s : Shared} (n : Nat) (J : Shared → Prop)
    (h1 : ∀ K : Flow → Shared → Prop, (∀ s', J s' → K .next s') → wpAny M A (execs (body.take n) env) K E s)
    (h2 : ∀ s', J s' → wpAny M A (execs (body.drop n) env) Q E s') : wpAny M A (execs body env) Q E s := cutN n J (h1 _ fun _ h => h) h2
inductive LayJ (w : World) (z : Int) (x dx l L' : Addr) (tok : Tok) (tl : List (Addr × Obj)) (i : Nat) (m : Str → Option Value) (nx : List (Addr × Obj)) : Prop
  | mk (oc : Obj) (tups : List (Addr × Obj)) (n : Nat) (tl' : List (Addr × Obj)) (tz : Tok) (q1 : oc.data = .cell (some (.ref x))) (q2 : TupsAre tups (rowsOf (csN i z))) (q3 : TabS S1 S2 tl') (q4 : (∀ a ∈ tl.map (·.1), a ∈ tl'.map (·.1))) (q5 : nx = (x, instObj 218 dx) :: (dx, dictOf (hdrE w tok l) 1) :: (l, listOf (refsOf tups).toArray n) :: (L' + 1, oc) :: (tl' ++ tups)) (q6 : m "left" = some (.int (leftN i z) tz)) : LayJ w z x dx l L' tok tl i m nx
inductive LayP (s : Shared) (w : World) (z : Int) (x dx l L' : Addr) (tok : Tok) (tl own : List (Addr × Obj)) (oc : Obj) (i : Nat) (I : Addr) (s' : Shared) : Prop
  | mk (h : Heap) (tk : Nat) (m : Str → Option Value) (tups : List (Addr × Obj)) (n : Nat) (tl2 : List (Addr × Obj)) (q1 : s' = { s with heap := h, toks := tk }) (q2 : Fr (hideAll s.heap (tl.map (·.1))) L' h m) (q3 : News (hideAll s.heap (tl.map (·.1))) L' h ((x, instObj 218 dx) :: (dx, dictOf (hdrE w tok l) 1) :: (l, listOf (refsOf tups).toArray n) :: (L' + 1, oc) :: (tups ++ (tl2 ++ own)))) (q4 : TupsAre tups (rowsOf (spotC i 9 0 (csN i z)))) (q5 : TabS S1 S2 tl2) (q6 : (∀ a ∈ tl.map (·.1), a ∈ tl2.map (·.1))) (q7 : (∀ p ∈ tl2, p.1 ≠ I)) (q8 : (∃ t, m "small" = some (.str (sgn i) t))) (q9 : (∃ t, m "rest" = some (.int ((leftN i z).fmod (baseZ i)) t))) (q10 : (∃ t, m "left" = some (.int (leftN (i + 1) z) t))) : LayP s w z x dx l L' tok tl own oc i I s'
inductive LayW (w : World) (z : Int) (x dx l L' : Addr) (tok : Tok) (own tl2 : List (Addr × Obj)) (oc : Obj) (i : Nat) (kk : Nat) (m : Str → Option Value) (nx : List (Addr × Obj)) : Prop
  | mk (p : Nat) (cs : Cells) (tups : List (Addr × Obj)) (n : Nat) (tsp : Tok) (q1 : kk = 9 - p) (q2 : p ≤ 9) (q3 : (∀ c ∈ cs, CellOk c)) (q4 : cs.length ≤ 10 + p) (q5 : spotC i (9 - p) p cs = spotC i 9 0 (csN i z)) (q6 : TupsAre tups (rowsOf cs)) (q7 : nx = (x, instObj 218 dx) :: (dx, dictOf (hdrE w tok l) 1) :: (l, listOf (refsOf tups).toArray n) :: (L' + 1, oc) :: (tups ++ (tl2 ++ own))) (q8 : m "spot" = some (.int (p : Nat) tsp)) (q9 : (∃ t, m "small" = some (.str (sgn i) t))) (q10 : (∃ t, m "rest" = some (.int ((leftN i z).fmod (baseZ i)) t))) (q11 : (∃ t, m "left" = some (.int (leftN (i + 1) z) t))) : LayW w z x dx l L' tok own tl2 oc i kk m nx
theorem lay_spec {w : World} {s : Shared} {B : Heap} {loose mean mg mb} {z : Int} {t : Tok} {tl : List (Addr × Obj)}
    (G : Gd (Mine.hd01.heap_39 w.params) loose mean mg mb B) (hB : B.StaysIn s.heap) (hS : TabS S1 S2 tl) (htl : ∀ p ∈ tl, s.heap.get? p.1 = some p.2 ∧ B.get? p.1 = none) (hz : z.natAbs < 2 ^ 100) :
    Does (model PySem.Challenge.rw_pg0310_01.row.prog w) 300 1500 (call (.ref 234) [.int z t]) s (fun v h' => TabPost S1 S2 tl s.heap h' ∧ ∃ T x dx l tok tups n nT tz, v = .ref T ∧ TupsAre tups (rowsOf (csN 5 z)) ∧
      ∀ p ∈ (T, ({ cls := .type "tuple", data := .seq #[.ref x, .int (leftN 5 z) tz] nT } : Obj)) :: (x, instObj 218 dx) :: (dx, dictOf (hdrE w tok l) 1) :: (l, listOf (refsOf tups).toArray n) :: tups, h'.get? p.1 = some p.2 ∧ s.heap.get? p.1 = none) := by
  intro d0 u0 fr gs hd hu
  revert G
  k_fill
  intro G
  refine' enterC (binds := [("number", .int z t)]) G hB tl htl ?k6 ?k7 ?k8 ?k9 ?kB ?kD ?_ ?c2 ?c3 ?c4; (case k6 => k_is); (case k7 => k_is); (case k8 => k_room); (case k9 => exact BindsTo.of_eq rfl);  (case kB => exact rfl); (case kD => decide +kernel); (case c2 => exact rfl); (case c3 => exact rfl); (case c4 => exact rfl)
  intro g' L' h' tk' cells' hg' F' N' Y' hlow X' T'
  k_cells Y'
  have hlow : Low L' tl := hlow
  subst hg'
  (try simp only [List.cons_append, List.nil_append] at N')
  (try dsimp only)
  (try k_fold)
  k_steps
  rename Fr _ _ _ _ => F
  rename News _ _ _ _ => Nw
  rename Addr => l
  refine make_spec (tups := []) (rows := []) (n := 0) ⟨X', T'⟩ (by exact F) (by exact Nw) (by exact List.mem_cons_self ..) .nil (List.forall_mem_nil _) ⟨List.forall_mem_nil _, by decide⟩ rfl (by first | exact room1 hd (Nat.le_of_ble_eq_true rfl) | exact room3 hu (Nat.le_of_ble_eq_true rfl) | (simp only [Around.deeper]; (first | lia | omega))) (by first | exact room1 hd (Nat.le_of_ble_eq_true rfl) | exact room3 hu (Nat.le_of_ble_eq_true rfl) | (simp only [Around.deeper]; (first | lia | omega))) ?_
  intro x dx tok h1 tk1 F1 N1 l1 l2
  clear F Nw
  rename _ < _ ∧ AllLt _ _ => l0
  have q0 : @LT.lt Nat _ _ _ := l0.1
  have q1 : @LT.lt Nat _ _ dx := l1 _ (List.mem_cons_self ..)
  have q2 : @LT.lt Nat _ dx x := l2
  clear l1 l2
  (try dsimp only)
  k_steps
  rename Fr _ _ _ _ => F
  rename News _ _ _ _ => Nw

  refine iter_range (n := 5) (LayJ w z x dx l L' tok tl)
    rfl (by assumption) (by decide) (by decide) (by exact F) (by exact Nw) ⟨_, [], 0, tl, t, by assumption, .nil, hS, fun a h => h, by simp [refsOf], rfl⟩ ?_ ?_
  · clear F Nw
    rintro i t0 m₁ nx h tk I own hi ⟨oc, tups, n, tl', tz, hoc, hT, hS', hsub, rfl, m1⟩ hI hown ⟨oI, hoI, hoc2⟩ F Nw
    have hfac := lay_facts z i hi
    unfold okS at hfac
    simp only [Bool.and_eq_true, decide_eq_true_eq] at hfac
    obtain ⟨⟨ok0, ok1⟩, hr⟩ := hfac
    obtain ⟨rest, hrest⟩ : ∃ r, r = tl' ++ (tups ++ own) := ⟨_, rfl⟩
    have Nw : News (hideAll s.heap (tl.map (·.1))) L' h ((x, instObj 218 dx) :: (dx, dictOf (hdrE w tok l) 1) :: (l, listOf (refsOf tups).toArray n) :: (L' + 1, oc) :: rest) := by
      rw [hrest]; exact fun p hp => Nw p (by simpa only [List.cons_append, List.append_assoc] using hp)
    (try dsimp only)
    walk1
    walk1
    clear F Nw
    rename Fr _ _ _ _ => F
    rename News _ _ _ _ => Nw
    refine cutK 4 (LayP s w z x dx l L' tok tl own oc i I) ?_ ?_
    rotate_left
    · clear F Nw
      rintro _ ⟨h2, tk2, m2, tups2, n2, tl2, rfl, F, Nw, hT2, hS2, hsub2, hI2, ⟨ts, m1⟩, ⟨tr, m2⟩, ⟨tq, m3⟩⟩
      dsimp only [List.drop]
      obtain ⟨rest2, hrest2⟩ : ∃ r, r = tups2 ++ (tl2 ++ own) := ⟨_, rfl⟩
      rw [← hrest2] at Nw
      (try k_fold)
      k_steps
      refine Halt.go ?_
      rename Fr _ _ _ _ => F
      rename News _ _ _ _ => Nw
      refine LCt.CompSrcT.range (n := 10) rfl F Nw (by assumption) (by decide) (by decide) (by decide) fun g => ?_
      refine compT_ind (fun j ys nx => nx = _ ∧ IntsAre ys (castL ((List.range j).filter fun p => (at' p (spotC i 9 0 (csN i z))).isNone))) ?_ ?_ _ 0 [] _ (Nat.zero_add _) ⟨rfl, .nil⟩
      · clear F Nw
        rintro j ys nx ⟨rfl, hys⟩ hj v I2 oI2 C oC D m₃ h6 tk6 E' ⟨tv, rfl⟩ hC hx F Nw off ne3
        (try dsimp only)
        k_steps
        rename Fr _ _ _ _ => F
        rename News _ _ _ _ => Nw
        obtain ⟨okc1, okl1⟩ := okC_cells ok1
        have eP : Str.ofString "P" ++ Str.ofString (toString (0 + (j : Int))) = Pn j := by rw [Int.zero_add]; exact Pn_eq j hj
        have N6 : News _ L' _ ((x, instObj 218 dx) :: (dx, dictOf (hdrE w tok l) 1) :: (l, listOf (refsOf tups2).toArray n2) :: (L' + 1, oc) :: rest2) := fun q hq => Nw q (List.mem_cons_of_mem _ (List.mem_cons_of_mem _ (List.mem_cons_of_mem _ hq)))
        refine Does.use (get_spec (df := .none) ⟨X', T'⟩ (by exact F.keep) (TabAt.news (by exact N6)) (TabAt.none (by exact N6)) (hT2.rowsAt (by exact fun q hq => (N6 q (by rw [hrest2]; first | ((repeat with_reducible refine List.mem_cons_of_mem _ ?_); first | exact hq | exact List.mem_append_left _ hq | exact List.mem_append_right _ hq | exact List.mem_append_right _ (List.mem_append_left _ hq) | exact List.mem_append_right _ (List.mem_append_right _ hq) | exact List.mem_append_left _ (List.mem_append_right _ hq) | exact List.mem_append_right _ (List.mem_append_right _ (List.mem_append_left _ hq))) | simp [hq])).1)) (rowsOk okc1 (by first | with_reducible assumption | with_reducible exact lt_num (by with_reducible assumption) (Nat.le_of_ble_eq_true rfl) | with_reducible exact le_num (by with_reducible assumption) (Nat.le_of_ble_eq_true rfl) | with_reducible exact le_le (by with_reducible assumption) (Nat.le_of_ble_eq_true rfl) | (first | lia | omega))) (by rw [eP]; exact nmOk_Pn hj) (.inr ⟨rfl, rfl⟩)) rfl (by first | exact room1 hd (Nat.le_of_ble_eq_true rfl) | exact room3 hu (Nat.le_of_ble_eq_true rfl) | (simp only [Around.deeper]; (first | lia | omega))) (by first | exact room1 hd (Nat.le_of_ble_eq_true rfl) | exact room3 hu (Nat.le_of_ble_eq_true rfl) | (simp only [Around.deeper]; (first | lia | omega))) ?_
        rintro v h7 tk7 ⟨keep, got⟩
        rw [eP, getR_cells (lower_Pn j hj) hj okc1] at got
        have F7 := F.keeps keep.stays
        have N7 := Nw.grown keep.stays
        clear F Nw N6 keep
        (try dsimp only)
        cases hat : at' j (spotC i 9 0 (csN i z)) with
        | none =>
          rw [hat] at got
          cases got
          k_steps
          rename Fr _ _ _ _ => F
          rename News _ _ _ _ => Nw
          refine LCg.CompEnd.intro F Nw _ (fun p hp => hp) off trivial ⟨rfl, ?_⟩
          rw [List.range_succ, List.filter_append, List.filter_cons_of_pos (p := fun p => (at' p (spotC i 9 0 (csN i z))).isNone) (by rw [hat]; rfl), List.filter_nil]
          unfold castL at hys ⊢
          rw [List.map_append, Int.zero_add]
          exact hys.append (.cons _ _ .nil)
        | some r =>
          rw [hat] at got
          obtain ⟨tg, rfl⟩ := got
          k_steps
          rename Fr _ _ _ _ => F
          rename News _ _ _ _ => Nw
          refine LCg.CompEnd.intro F Nw _ (fun p hp => hp) off trivial ⟨rfl, ?_⟩
          rw [List.range_succ, List.filter_append, List.filter_cons_of_neg (p := fun p => (at' p (spotC i 9 0 (csN i z))).isNone) (by rw [hat]; simp), List.filter_nil, List.append_nil]
          exact hys
      · clear F Nw
        rintro ys nx ⟨rfl, hys⟩
        intro D h tk F Nw o1
        have hsl := (safe_sgn i (by first | with_reducible assumption | with_reducible exact lt_num (by with_reducible assumption) (Nat.le_of_ble_eq_true rfl) | with_reducible exact le_num (by with_reducible assumption) (Nat.le_of_ble_eq_true rfl) | with_reducible exact le_le (by with_reducible assumption) (Nat.le_of_ble_eq_true rfl) | (first | lia | omega))).2
        (try dsimp only)
        k_steps
        have hab : (if (leftN i z).fmod (baseZ i) < 0 then -(leftN i z).fmod (baseZ i) else (leftN i z).fmod (baseZ i)) = ((restN i z : Nat) : Int) := by unfold restN; split <;> (first | lia | omega)
        refine Halt.go ?_
        rw [hab]
        obtain ⟨pl, tpl, hpl, epl, hpl10⟩ := free_at (cs := spotC i 9 0 (csN i z)) hys hr
        have hr9 : restN i z < 2 ^ 60 := by
          have := hr
          unfold freeC at this
          have := Nat.lt_of_lt_of_le this (List.length_filter_le _ _)
          rw [List.length_range] at this
          (first | lia | omega)
        refine kim_list Nw (List.mem_cons_self ..) rfl rfl (by first | with_reducible assumption | with_reducible exact lt_num (by with_reducible assumption) (Nat.le_of_ble_eq_true rfl) | with_reducible exact le_num (by with_reducible assumption) (Nat.le_of_ble_eq_true rfl) | with_reducible exact le_le (by with_reducible assumption) (Nat.le_of_ble_eq_true rfl) | (first | lia | omega)) (by first | with_reducible assumption | with_reducible exact lt_num (by with_reducible assumption) (Nat.le_of_ble_eq_true rfl) | with_reducible exact le_num (by with_reducible assumption) (Nat.le_of_ble_eq_true rfl) | with_reducible exact le_le (by with_reducible assumption) (Nat.le_of_ble_eq_true rfl) | (first | lia | omega)) (by rw [Int.toNat_natCast]; exact hpl) ?_
        (try dsimp only)
        k_steps
        rename Fr _ _ _ _ => F
        rename News _ _ _ _ => Nw
        obtain ⟨okc1, okl1⟩ := okC_cells ok1
        have N6 : News (hideAll s.heap (tl.map (·.1))) L' _ ((x, instObj 218 dx) :: (dx, dictOf (hdrE w tok l) 1) :: (l, listOf (refsOf tups2).toArray n2) :: (tups2 ++ ((L' + 1, oc) :: (tl2 ++ own)))) := fun q hq => Nw q (by
          rw [hrest2]
          simp only [List.mem_cons, List.mem_append] at hq ⊢
          rcases hq with h | h | h | h | h | h | h <;> (first | exact Or.inl h | exact Or.inr (Or.inl h) | exact Or.inr (Or.inr (Or.inl h)) | exact Or.inr (Or.inr (Or.inr (Or.inl h))) | exact Or.inr (Or.inr (Or.inr (Or.inr (Or.inl h)))) | exact Or.inr (Or.inr (Or.inr (Or.inr (Or.inr (Or.inl h))))) | exact Or.inr (Or.inr (Or.inr (Or.inr (Or.inr (Or.inr (Or.inl h)))))) | exact Or.inr h | exact Or.inr (Or.inr h) | exact Or.inr (Or.inr (Or.inr h)) | exact Or.inr (Or.inr (Or.inr (Or.inr h))) | exact Or.inr (Or.inr (Or.inr (Or.inr (Or.inr h)))) | exact Or.inr (Or.inr (Or.inr (Or.inr (Or.inr (Or.inr h))))) | exact Or.inr (Or.inr (Or.inr (Or.inr (Or.inr (Or.inr (Or.inr h)))))) | simp [h]))
        have hne : ∀ q ∈ (L' + 1, oc) :: (tl2 ++ own), q.1 ≠ l := by
          intro q hq
          rcases List.mem_cons.mp hq with rfl | hq
          · exact Nat.ne_of_lt q0
          · rcases List.mem_append.mp hq with hq | hq
            · exact tail_ne (d := l) (o := listOf (refsOf tups2).toArray n2) N6 hS2 (fun p hp => by first | ((repeat with_reducible refine List.mem_cons_of_mem _ ?_); first | exact hp | exact List.mem_append_left _ hp | exact List.mem_append_right _ hp | exact List.mem_append_right _ (List.mem_append_left _ hp) | exact List.mem_append_right _ (List.mem_append_right _ hp) | exact List.mem_append_left _ (List.mem_append_right _ hp) | exact List.mem_append_right _ (List.mem_append_right _ (List.mem_append_left _ hp))) | simp [hp]) (by first | ((repeat (first | with_reducible exact List.mem_cons_self .. | with_reducible refine List.mem_cons_of_mem _ ?_)); done) | simp) notFld_list q hq
            · rw [hown q hq]; exact (hI (l, listOf (refsOf tups).toArray n) (by first | ((repeat (first | with_reducible exact List.mem_cons_self .. | with_reducible refine List.mem_cons_of_mem _ ?_)); done) | simp)).symm
        rw [upper_sgn i hi]
        refine Does.use (sit_spec ⟨X', T'⟩ (by exact F.keep) (TabAt.news (by exact N6)) (TabAt.none (by exact N6)) hT2 (by exact fun q hq => (N6 q (by first | ((repeat with_reducible refine List.mem_cons_of_mem _ ?_); first | exact hq | exact List.mem_append_left _ hq | exact List.mem_append_right _ hq | exact List.mem_append_right _ (List.mem_append_left _ hq) | exact List.mem_append_right _ (List.mem_append_right _ hq) | exact List.mem_append_left _ (List.mem_append_right _ hq) | exact List.mem_append_right _ (List.mem_append_right _ (List.mem_append_left _ hq))) | simp [hq])).1) (rowsOk okc1 (by first | with_reducible assumption | with_reducible exact lt_num (by with_reducible assumption) (Nat.le_of_ble_eq_true rfl) | with_reducible exact le_num (by with_reducible assumption) (Nat.le_of_ble_eq_true rfl) | with_reducible exact le_le (by with_reducible assumption) (Nat.le_of_ble_eq_true rfl) | (first | lia | omega))) (nmOk_Pn hpl10) (safe_sgn (i + 5) (by first | with_reducible assumption | with_reducible exact lt_num (by with_reducible assumption) (Nat.le_of_ble_eq_true rfl) | with_reducible exact le_num (by with_reducible assumption) (Nat.le_of_ble_eq_true rfl) | with_reducible exact le_le (by with_reducible assumption) (Nat.le_of_ble_eq_true rfl) | (first | lia | omega))).1 (by rw [(safe_sgn (i + 5) (by first | with_reducible assumption | with_reducible exact lt_num (by with_reducible assumption) (Nat.le_of_ble_eq_true rfl) | with_reducible exact le_num (by with_reducible assumption) (Nat.le_of_ble_eq_true rfl) | with_reducible exact le_le (by with_reducible assumption) (Nat.le_of_ble_eq_true rfl) | (first | lia | omega))).2]; decide)) rfl (by first | exact room1 hd (Nat.le_of_ble_eq_true rfl) | exact room3 hu (Nat.le_of_ble_eq_true rfl) | (simp only [Around.deeper]; (first | lia | omega))) (by first | exact room1 hd (Nat.le_of_ble_eq_true rfl) | exact room3 hu (Nat.le_of_ble_eq_true rfl) | (simp only [Around.deeper]; (first | lia | omega))) ?_
        rintro v h5 tk5 ⟨rfl, M⟩
        rw [putR_cells hpl10 okc1] at M
        obtain ⟨tups3, n3, hT3, F7, N7⟩ := M.back F N6 hne
        clear F Nw N6 M
        obtain ⟨rest4, hrest4⟩ : ∃ r, r = tups3 ++ ((L' + 1, oc) :: (tl2 ++ own)) := ⟨_, rfl⟩
        rw [← hrest4] at N7
        (try dsimp only)
        k_steps
        rename Fr _ _ _ _ => F
        rename News _ _ _ _ => Nw
        rw [hrest4] at Nw
        refine OurTurn.next (nx := (x, instObj 218 dx) :: (dx, dictOf (hdrE w tok l) 1) :: (l, listOf (refsOf tups3).toArray n3) :: (L' + 1, oc) :: (tl2 ++ tups3)) F (fun q hq => Nw q ?_) ?_ ⟨oc, tups3, n3, tl2, _, hoc, ?_, hS2, hsub2, rfl, m3⟩
        · simp only [List.cons_append, List.append_assoc, List.mem_cons, List.mem_append] at hq ⊢
          rcases hq with h | h | h | h | h | h | h <;> (first | exact Or.inl h | exact Or.inr (Or.inl h) | exact Or.inr (Or.inr (Or.inl h)) | exact Or.inr (Or.inr (Or.inr (Or.inl h))) | exact Or.inr (Or.inr (Or.inr (Or.inr (Or.inl h)))) | exact Or.inr (Or.inr (Or.inr (Or.inr (Or.inr (Or.inl h))))) | exact Or.inr (Or.inr (Or.inr (Or.inr (Or.inr (Or.inr (Or.inl h)))))) | exact Or.inr h | exact Or.inr (Or.inr h) | exact Or.inr (Or.inr (Or.inr h)) | exact Or.inr (Or.inr (Or.inr (Or.inr h))) | exact Or.inr (Or.inr (Or.inr (Or.inr (Or.inr h)))) | exact Or.inr (Or.inr (Or.inr (Or.inr (Or.inr (Or.inr h))))) | exact Or.inr (Or.inr (Or.inr (Or.inr (Or.inr (Or.inr (Or.inr h)))))) | simp [h])
        · have hIz := (Nw (I, oI) (by simp [hoI])).1
          intro q hq
          simp only [List.mem_cons, List.mem_append] at hq
          rcases hq with h | h | h | h | h | h
          · rw [h]; exact hI (x, instObj 218 dx) (by first | ((repeat (first | with_reducible exact List.mem_cons_self .. | with_reducible refine List.mem_cons_of_mem _ ?_)); done) | simp)
          · rw [h]; exact hI (dx, dictOf (hdrE w tok l) 1) (by first | ((repeat (first | with_reducible exact List.mem_cons_self .. | with_reducible refine List.mem_cons_of_mem _ ?_)); done) | simp)
          · rw [h]; exact hI (l, listOf (refsOf tups).toArray n) (by first | ((repeat (first | with_reducible exact List.mem_cons_self .. | with_reducible refine List.mem_cons_of_mem _ ?_)); done) | simp)
          · rw [h]; exact hI (L' + 1, oc) (by first | ((repeat (first | with_reducible exact List.mem_cons_self .. | with_reducible refine List.mem_cons_of_mem _ ?_)); done) | simp)
          · exact hI2 q h
          · obtain ⟨j, hj⟩ := List.getElem?_of_mem h
            obtain ⟨r, _, kk, t1, t2, e2⟩ := hT3.at j q hj
            exact ne_at (Nw q (by first | ((repeat with_reducible refine List.mem_cons_of_mem _ ?_); first | exact h | exact List.mem_append_left _ h | exact List.mem_append_right _ h | exact List.mem_append_right _ (List.mem_append_left _ h) | exact List.mem_append_right _ (List.mem_append_right _ h) | exact List.mem_append_left _ (List.mem_append_right _ h) | exact List.mem_append_right _ (List.mem_append_right _ (List.mem_append_left _ h))) | simp [h])).1 hIz (fun e => by rw [e2] at e; dsimp only at e; rw [← e] at hoc2; simp at hoc2)
        · rw [epl] at hT3; exact hT3
    intro K hK
    dsimp only [List.take]
    (try k_fold)
    k_steps
    (try clear F Nw)
    rename Fr _ _ _ _ => F
    rename News _ _ _ _ => Nw
    refine Does.use (base_one (k := i) (0 + (i : Int)) (by first | with_reducible assumption | with_reducible exact lt_num (by with_reducible assumption) (Nat.le_of_ble_eq_true rfl) | with_reducible exact le_num (by with_reducible assumption) (Nat.le_of_ble_eq_true rfl) | with_reducible exact le_le (by with_reducible assumption) (Nat.le_of_ble_eq_true rfl) | (first | lia | omega)) ⟨X', T'⟩ (by exact F.keep) hi) rfl (by first | exact room1 hd (Nat.le_of_ble_eq_true rfl) | exact room3 hu (Nat.le_of_ble_eq_true rfl) | (simp only [Around.deeper]; (first | lia | omega))) (by first | exact room1 hd (Nat.le_of_ble_eq_true rfl) | exact room3 hu (Nat.le_of_ble_eq_true rfl) | (simp only [Around.deeper]; (first | lia | omega))) ?_
    rintro v h2 tk2 ⟨keep, tb, rfl⟩
    have F2 := F.keeps keep.stays
    have N2 := Nw.grown keep.stays
    clear F Nw keep
    (try dsimp only)
    k_steps
    rename Fr _ _ _ _ => F
    rename News _ _ _ _ => Nw
    have hbz := baseZ_ne hi
    have hls := leftN_small z i (by first | with_reducible assumption | with_reducible exact lt_num (by with_reducible assumption) (Nat.le_of_ble_eq_true rfl) | with_reducible exact le_num (by with_reducible assumption) (Nat.le_of_ble_eq_true rfl) | with_reducible exact le_le (by with_reducible assumption) (Nat.le_of_ble_eq_true rfl) | (first | lia | omega))
    refine Does.use (idm_spec _ ⟨X', T'⟩ (by exact F.keep) hS' (tabs_at (by exact Nw) (by intro p hp; rw [hrest]; first | ((repeat with_reducible refine List.mem_cons_of_mem _ ?_); first | exact hp | exact List.mem_append_left _ hp | exact List.mem_append_right _ hp | exact List.mem_append_right _ (List.mem_append_left _ hp) | exact List.mem_append_right _ (List.mem_append_right _ hp) | exact List.mem_append_left _ (List.mem_append_right _ hp) | exact List.mem_append_right _ (List.mem_append_right _ (List.mem_append_left _ hp))) | simp [hp])) (by first | with_reducible assumption | with_reducible exact lt_num (by with_reducible assumption) (Nat.le_of_ble_eq_true rfl) | with_reducible exact le_num (by with_reducible assumption) (Nat.le_of_ble_eq_true rfl) | with_reducible exact le_le (by with_reducible assumption) (Nat.le_of_ble_eq_true rfl) | (first | lia | omega)) hbz.1 hbz.2 rfl) rfl ?qd ?qu ?_
    case qd => have : idmM (leftN i z) (baseZ i) ≤ 3 := (by unfold idmM; split <;> split <;> (first | lia | omega)); simp only [Around.deeper]; (first | lia | omega)
    case qu => have : idmM (leftN i z) (baseZ i) ≤ 3 := (by unfold idmM; split <;> split <;> (first | lia | omega)); simp only [Around.deeper]; (first | lia | omega)
    rintro v h3 tk3 ⟨hP, Tq, n0, tq, tr, rfl, hTq, hTq0⟩
    rw [hrest] at Nw
    have hap : ∀ p ∈ tups ++ own, ∀ q ∈ tl', p.1 ≠ q.1 := by
      intro p hp q hq
      rcases List.mem_append.mp hp with hp | hp
      · intro e
        have h1 := (Nw p (by first | ((repeat with_reducible refine List.mem_cons_of_mem _ ?_); first | exact hp | exact List.mem_append_left _ hp | exact List.mem_append_right _ hp | exact List.mem_append_right _ (List.mem_append_left _ hp) | exact List.mem_append_right _ (List.mem_append_right _ hp) | exact List.mem_append_left _ (List.mem_append_right _ hp) | exact List.mem_append_right _ (List.mem_append_right _ (List.mem_append_left _ hp))) | simp [hp])).1
        have h2 := (Nw q (by first | ((repeat with_reducible refine List.mem_cons_of_mem _ ?_); first | exact hq | exact List.mem_append_left _ hq | exact List.mem_append_right _ hq | exact List.mem_append_right _ (List.mem_append_left _ hq) | exact List.mem_append_right _ (List.mem_append_right _ hq) | exact List.mem_append_left _ (List.mem_append_right _ hq) | exact List.mem_append_right _ (List.mem_append_right _ (List.mem_append_left _ hq))) | simp [hq])).1
        rw [e, h2] at h1
        obtain ⟨vs, hv⟩ := hS'.fld q hq
        rw [Option.some.inj h1] at hv
        exact hT.seq p hp vs hv
      · rw [hown p hp]; exact (hI q (by first | ((repeat with_reducible refine List.mem_cons_of_mem _ ?_); first | exact hq | exact List.mem_append_left _ hq | exact List.mem_append_right _ hq | exact List.mem_append_right _ (List.mem_append_left _ hq) | exact List.mem_append_right _ (List.mem_append_right _ hq) | exact List.mem_append_left _ (List.mem_append_right _ hq) | exact List.mem_append_right _ (List.mem_append_right _ (List.mem_append_left _ hq))) | simp [hq])).symm
    obtain ⟨tl2, hS2, F3, N3, hsub2, _, hfr2⟩ := hP.back2 hS' F Nw fun tl2 => ⟨_, .cons notFld_plain (.cons notFld_dict (.cons notFld_list (.cons (notFld_cell hoc) (.here hap))))⟩
    have N4 := N3 _ (.cons notFld_plain (.cons notFld_dict (.cons notFld_list (.cons (notFld_cell hoc) (.here hap)))))
    have N5 := news_new F hTq0 hTq N4
    have hI2 : ∀ p ∈ tl2, p.1 ≠ I := by
      intro p hp e
      rcases hfr2 p hp with h1 | h1
      · obtain ⟨q, hq, e2⟩ := List.mem_map.mp h1
        exact hI q (by first | ((repeat with_reducible refine List.mem_cons_of_mem _ ?_); first | exact hq | exact List.mem_append_left _ hq | exact List.mem_append_right _ hq | exact List.mem_append_right _ (List.mem_append_left _ hq) | exact List.mem_append_right _ (List.mem_append_right _ hq) | exact List.mem_append_left _ (List.mem_append_right _ hq) | exact List.mem_append_right _ (List.mem_append_right _ (List.mem_append_left _ hq))) | simp [hq]) (e2.trans e)
      · rw [e, (Nw (I, oI) (by simp [hoI])).1] at h1; cases h1
    clear F Nw N3 N4 hP
    obtain ⟨rest2, hrest2⟩ : ∃ r, r = tl2 ++ (tups ++ own) := ⟨_, rfl⟩
    rw [← hrest2] at N5
    (try dsimp only)
    k_steps
    refine Halt.go ?_
    rename Fr _ _ _ _ => F
    rename News _ _ _ _ => Nw
    obtain ⟨okc0, okl0⟩ := okC_cells ok0
    refine while_any (LayW w z x dx l L' tok own tl2 oc i) 9 F ?hN ⟨0, csN i z, tups, n, _, rfl, by (first | lia | omega), okc0, by (first | lia | omega), rfl, hT, rfl, rfl, ⟨_, by rw [← item_abc i hi]; rfl⟩, ⟨_, rfl⟩, ⟨_, rfl⟩⟩ ?_
    case hN =>
      intro p hp
      refine Nw p ?_
      rw [hrest2]
      simp only [List.mem_cons, List.mem_append] at hp ⊢
      rcases hp with h | h | h | h | h | h | h <;> (first | exact Or.inl h | exact Or.inr (Or.inl h) | exact Or.inr (Or.inr (Or.inl h)) | exact Or.inr (Or.inr (Or.inr (Or.inl h))) | exact Or.inr (Or.inr (Or.inr (Or.inr (Or.inl h)))) | exact Or.inr (Or.inr (Or.inr (Or.inr (Or.inr (Or.inl h))))) | exact Or.inr (Or.inr (Or.inr (Or.inr (Or.inr (Or.inr (Or.inl h)))))) | exact Or.inr h | exact Or.inr (Or.inr h) | exact Or.inr (Or.inr (Or.inr h)) | exact Or.inr (Or.inr (Or.inr (Or.inr h))) | exact Or.inr (Or.inr (Or.inr (Or.inr (Or.inr h)))) | exact Or.inr (Or.inr (Or.inr (Or.inr (Or.inr (Or.inr h))))) | exact Or.inr (Or.inr (Or.inr (Or.inr (Or.inr (Or.inr (Or.inr h)))))) | simp [h])
    · clear F Nw m1 hr
      rintro kk m₂ nx h4 tk4 ⟨p, cs, tups2, n2, tsp, rfl, hp9, hcs, hcl, hsp, hT2, rfl, m1, ⟨ts, m2⟩, m3, m4⟩ F Nw
      obtain ⟨rest3, hrest3⟩ : ∃ r, r = tups2 ++ (tl2 ++ own) := ⟨_, rfl⟩
      rw [← hrest3] at Nw
      (try dsimp only)
      (try k_fold)
      k_steps
      · have hp10 : p < 9 := by (first | lia | omega)
        rw [hrest3] at Nw
        have N6 : News (hideAll s.heap (tl.map (·.1))) L' _ ((x, instObj 218 dx) :: (dx, dictOf (hdrE w tok l) 1) :: (l, listOf (refsOf tups2).toArray n2) :: (tups2 ++ ((L' + 1, oc) :: (tl2 ++ own)))) := fun q hq => Nw q (by
          simp only [List.mem_cons, List.mem_append] at hq ⊢
          rcases hq with h | h | h | h | h | h | h <;> (first | exact Or.inl h | exact Or.inr (Or.inl h) | exact Or.inr (Or.inr (Or.inl h)) | exact Or.inr (Or.inr (Or.inr (Or.inl h))) | exact Or.inr (Or.inr (Or.inr (Or.inr (Or.inl h)))) | exact Or.inr (Or.inr (Or.inr (Or.inr (Or.inr (Or.inl h))))) | exact Or.inr (Or.inr (Or.inr (Or.inr (Or.inr (Or.inr (Or.inl h)))))) | exact Or.inr h | exact Or.inr (Or.inr h) | exact Or.inr (Or.inr (Or.inr h)) | exact Or.inr (Or.inr (Or.inr (Or.inr h))) | exact Or.inr (Or.inr (Or.inr (Or.inr (Or.inr h)))) | exact Or.inr (Or.inr (Or.inr (Or.inr (Or.inr (Or.inr h))))) | exact Or.inr (Or.inr (Or.inr (Or.inr (Or.inr (Or.inr (Or.inr h)))))) | simp [h]))
        have hne : ∀ q ∈ (L' + 1, oc) :: (tl2 ++ own), q.1 ≠ l := by
          intro q hq
          rcases List.mem_cons.mp hq with rfl | hq
          · exact Nat.ne_of_lt q0
          · rcases List.mem_append.mp hq with hq | hq
            · exact tail_ne (d := l) (o := listOf (refsOf tups2).toArray n2) N6 hS2 (fun p hp => by first | ((repeat with_reducible refine List.mem_cons_of_mem _ ?_); first | exact hp | exact List.mem_append_left _ hp | exact List.mem_append_right _ hp | exact List.mem_append_right _ (List.mem_append_left _ hp) | exact List.mem_append_right _ (List.mem_append_right _ hp) | exact List.mem_append_left _ (List.mem_append_right _ hp) | exact List.mem_append_right _ (List.mem_append_right _ (List.mem_append_left _ hp))) | simp [hp]) (by first | ((repeat (first | with_reducible exact List.mem_cons_self .. | with_reducible refine List.mem_cons_of_mem _ ?_)); done) | simp) notFld_list q hq
            · rw [hown q hq]; exact (hI (l, listOf (refsOf tups).toArray n) (by first | ((repeat (first | with_reducible exact List.mem_cons_self .. | with_reducible refine List.mem_cons_of_mem _ ?_)); done) | simp)).symm
        refine Does.use (setdefault_spec ⟨X', T'⟩ (by exact F.keep) (TabAt.news (by exact N6)) (TabAt.none (by exact N6)) hT2 (by exact fun q hq => (N6 q (by first | ((repeat with_reducible refine List.mem_cons_of_mem _ ?_); first | exact hq | exact List.mem_append_left _ hq | exact List.mem_append_right _ hq | exact List.mem_append_right _ (List.mem_append_left _ hq) | exact List.mem_append_right _ (List.mem_append_right _ hq) | exact List.mem_append_left _ (List.mem_append_right _ hq) | exact List.mem_append_right _ (List.mem_append_right _ (List.mem_append_left _ hq))) | simp [hq])).1) (rowsOk hcs (by first | with_reducible assumption | with_reducible exact lt_num (by with_reducible assumption) (Nat.le_of_ble_eq_true rfl) | with_reducible exact le_num (by with_reducible assumption) (Nat.le_of_ble_eq_true rfl) | with_reducible exact le_le (by with_reducible assumption) (Nat.le_of_ble_eq_true rfl) | (first | lia | omega))) (nmOk_pn (by first | with_reducible assumption | with_reducible exact lt_num (by with_reducible assumption) (Nat.le_of_ble_eq_true rfl) | with_reducible exact le_num (by with_reducible assumption) (Nat.le_of_ble_eq_true rfl) | with_reducible exact le_le (by with_reducible assumption) (Nat.le_of_ble_eq_true rfl) | (first | lia | omega))) (safe_sgn i (by first | with_reducible assumption | with_reducible exact lt_num (by with_reducible assumption) (Nat.le_of_ble_eq_true rfl) | with_reducible exact le_num (by with_reducible assumption) (Nat.le_of_ble_eq_true rfl) | with_reducible exact le_le (by with_reducible assumption) (Nat.le_of_ble_eq_true rfl) | (first | lia | omega))).1 (by rw [(safe_sgn i (by first | with_reducible assumption | with_reducible exact lt_num (by with_reducible assumption) (Nat.le_of_ble_eq_true rfl) | with_reducible exact le_num (by with_reducible assumption) (Nat.le_of_ble_eq_true rfl) | with_reducible exact le_le (by with_reducible assumption) (Nat.le_of_ble_eq_true rfl) | (first | lia | omega))).2]; decide)) rfl (by first | exact room1 hd (Nat.le_of_ble_eq_true rfl) | exact room3 hu (Nat.le_of_ble_eq_true rfl) | (simp only [Around.deeper]; (first | lia | omega))) (by first | exact room1 hd (Nat.le_of_ble_eq_true rfl) | exact room3 hu (Nat.le_of_ble_eq_true rfl) | (simp only [Around.deeper]; (first | lia | omega))) ?_
        rintro v h5 tk5 ⟨M, tv, hv⟩
        rw [setD_cells (by first | with_reducible assumption | with_reducible exact lt_num (by with_reducible assumption) (Nat.le_of_ble_eq_true rfl) | with_reducible exact le_num (by with_reducible assumption) (Nat.le_of_ble_eq_true rfl) | with_reducible exact le_le (by with_reducible assumption) (Nat.le_of_ble_eq_true rfl) | (first | lia | omega)) hi hcs] at M
        rw [getR_cells (lower_pn p (by first | with_reducible assumption | with_reducible exact lt_num (by with_reducible assumption) (Nat.le_of_ble_eq_true rfl) | with_reducible exact le_num (by with_reducible assumption) (Nat.le_of_ble_eq_true rfl) | with_reducible exact le_le (by with_reducible assumption) (Nat.le_of_ble_eq_true rfl) | (first | lia | omega))) (by first | with_reducible assumption | with_reducible exact lt_num (by with_reducible assumption) (Nat.le_of_ble_eq_true rfl) | with_reducible exact le_num (by with_reducible assumption) (Nat.le_of_ble_eq_true rfl) | with_reducible exact le_le (by with_reducible assumption) (Nat.le_of_ble_eq_true rfl) | (first | lia | omega)) hcs, show ((at' p cs).map sgn).getD (sgn i) = sgn ((at' p cs).getD i) by cases at' p cs <;> rfl] at hv
        have hr10 : (at' p cs).getD i < 10 := by
          cases e : at' p cs with
          | none => show i < 10; (first | lia | omega)
          | some r => exact at_ok hcs e
        rw [spotC_step hp10] at hsp
        generalize (at' p cs).getD i = r at hv hr10 hsp
        subst hv
        obtain ⟨tups3, n3, hT3, F7, N7⟩ := M.back F N6 hne
        have hcs3 := setC_ok (i := p) (k := i) (by first | with_reducible assumption | with_reducible exact lt_num (by with_reducible assumption) (Nat.le_of_ble_eq_true rfl) | with_reducible exact le_num (by with_reducible assumption) (Nat.le_of_ble_eq_true rfl) | with_reducible exact le_le (by with_reducible assumption) (Nat.le_of_ble_eq_true rfl) | (first | lia | omega)) (by first | with_reducible assumption | with_reducible exact lt_num (by with_reducible assumption) (Nat.le_of_ble_eq_true rfl) | with_reducible exact le_num (by with_reducible assumption) (Nat.le_of_ble_eq_true rfl) | with_reducible exact le_le (by with_reducible assumption) (Nat.le_of_ble_eq_true rfl) | (first | lia | omega)) hcs
        have hcl3 := setC_length (i := p) (k := i) (cs := cs)
        clear F Nw N6 M
        obtain ⟨rest4, hrest4⟩ : ∃ r, r = tups3 ++ ((L' + 1, oc) :: (tl2 ++ own)) := ⟨_, rfl⟩
        rw [← hrest4] at N7
        (try dsimp only)
        k_steps
        · rename (_ != _) = true => hq
          have hq2 : (r == i) = false := by
            rw [← sgn_inj r hr10 i (by first | with_reducible assumption | with_reducible exact lt_num (by with_reducible assumption) (Nat.le_of_ble_eq_true rfl) | with_reducible exact le_num (by with_reducible assumption) (Nat.le_of_ble_eq_true rfl) | with_reducible exact le_le (by with_reducible assumption) (Nat.le_of_ble_eq_true rfl) | (first | lia | omega))]
            simpa [bne] using hq
          rw [hq2] at hsp
          (try clear F7 N7)
          rename Fr _ _ _ _ => F
          rename News _ _ _ _ => Nw
          rw [hrest4] at Nw
          refine WTurn.next (k' := 9 - (p + 1)) (by first | with_reducible assumption | with_reducible exact lt_num (by with_reducible assumption) (Nat.le_of_ble_eq_true rfl) | with_reducible exact le_num (by with_reducible assumption) (Nat.le_of_ble_eq_true rfl) | with_reducible exact le_le (by with_reducible assumption) (Nat.le_of_ble_eq_true rfl) | (first | lia | omega)) F (fun q hq => Nw q ?_) ⟨p + 1, _, tups3, n3, _, rfl, by (first | lia | omega), hcs3, by (first | lia | omega), hsp, hT3, rfl, rfl, ⟨_, m2⟩, m3, m4⟩
          simp only [List.mem_cons, List.mem_append] at hq ⊢
          rcases hq with h | h | h | h | h | h | h <;> (first | exact Or.inl h | exact Or.inr (Or.inl h) | exact Or.inr (Or.inr (Or.inl h)) | exact Or.inr (Or.inr (Or.inr (Or.inl h))) | exact Or.inr (Or.inr (Or.inr (Or.inr (Or.inl h)))) | exact Or.inr (Or.inr (Or.inr (Or.inr (Or.inr (Or.inl h))))) | exact Or.inr (Or.inr (Or.inr (Or.inr (Or.inr (Or.inr (Or.inl h)))))) | exact Or.inr h | exact Or.inr (Or.inr h) | exact Or.inr (Or.inr (Or.inr h)) | exact Or.inr (Or.inr (Or.inr (Or.inr h))) | exact Or.inr (Or.inr (Or.inr (Or.inr (Or.inr h)))) | exact Or.inr (Or.inr (Or.inr (Or.inr (Or.inr (Or.inr h))))) | exact Or.inr (Or.inr (Or.inr (Or.inr (Or.inr (Or.inr (Or.inr h)))))) | simp [h])
        · rename (_ != _) = false => hq
          have hq2 : (r == i) = true := by
            rw [← sgn_inj r hr10 i (by first | with_reducible assumption | with_reducible exact lt_num (by with_reducible assumption) (Nat.le_of_ble_eq_true rfl) | with_reducible exact le_num (by with_reducible assumption) (Nat.le_of_ble_eq_true rfl) | with_reducible exact le_le (by with_reducible assumption) (Nat.le_of_ble_eq_true rfl) | (first | lia | omega))]
            simpa [bne] using hq
          rw [hq2] at hsp
          rw [if_pos rfl] at hsp
          rw [hsp] at hT3
          rw [hrest4] at N7
          refine hK _ ⟨_, _, _, tups3, n3, tl2, rfl, F7, fun q hq => N7 q ?_, hT3, hS2, fun a ha => hsub2 a (hsub a ha), hI2, ⟨_, m2⟩, m3, m4⟩
          simp only [List.mem_cons, List.mem_append] at hq ⊢
          rcases hq with h | h | h | h | h | h | h <;> (first | exact Or.inl h | exact Or.inr (Or.inl h) | exact Or.inr (Or.inr (Or.inl h)) | exact Or.inr (Or.inr (Or.inr (Or.inl h))) | exact Or.inr (Or.inr (Or.inr (Or.inr (Or.inl h)))) | exact Or.inr (Or.inr (Or.inr (Or.inr (Or.inr (Or.inl h))))) | exact Or.inr (Or.inr (Or.inr (Or.inr (Or.inr (Or.inr (Or.inl h)))))) | exact Or.inr h | exact Or.inr (Or.inr h) | exact Or.inr (Or.inr (Or.inr h)) | exact Or.inr (Or.inr (Or.inr (Or.inr h))) | exact Or.inr (Or.inr (Or.inr (Or.inr (Or.inr h)))) | exact Or.inr (Or.inr (Or.inr (Or.inr (Or.inr (Or.inr h))))) | exact Or.inr (Or.inr (Or.inr (Or.inr (Or.inr (Or.inr (Or.inr h)))))) | simp [h])
      · have e9 : p = 9 := by (first | lia | omega)
        subst e9
        rw [show spotC i (9 - 9) 9 cs = cs from rfl] at hsp
        rw [hsp] at hT2
        rw [hrest3] at Nw
        refine hK _ ⟨_, _, _, tups2, n2, tl2, rfl, F, Nw, hT2, hS2, fun a ha => hsub2 a (hsub a ha), hI2, ⟨_, m2⟩, m3, m4⟩
  · clear F Nw
    rintro m₁ nx h tk ⟨oc, tups, n, tl', tz, hoc, hT, hS', hsub, rfl, m1⟩ F Nw
    obtain ⟨rest, hrest⟩ : ∃ r, r = tl' ++ tups := ⟨_, rfl⟩
    rw [← hrest] at Nw
    (try dsimp only)
    (try k_fold)
    k_steps
    (first | (k_unmd; k_unfold; try dsimp only) | (try dsimp only))
    rename Fr _ _ _ _ => F
    rename News _ _ _ _ => Nw
    rw [hrest] at Nw
    refine Done.mk ⟨TabPost.of hS' (by exact F) (by exact Nw) (fun p hp => by first | ((repeat with_reducible refine List.mem_cons_of_mem _ ?_); first | exact hp | exact List.mem_append_left _ hp | exact List.mem_append_right _ hp | exact List.mem_append_right _ (List.mem_append_left _ hp) | exact List.mem_append_right _ (List.mem_append_right _ hp) | exact List.mem_append_left _ (List.mem_append_right _ hp) | exact List.mem_append_right _ (List.mem_append_right _ (List.mem_append_left _ hp))) | simp [hp]) hsub, _, x, dx, l, tok, tups, n, 0, tz, rfl, hT, ?_⟩
    intro p hp
    have hp2 : p ∈ (_ : List (Addr × Obj)) := hp
    rcases List.mem_cons.mp hp2 with e | hp2
    · subst e
      exact ⟨(Nw _ (List.mem_cons_self ..)).1, new_none hS' (by exact Nw) (fun p hp => by first | ((repeat with_reducible refine List.mem_cons_of_mem _ ?_); first | exact hp | exact List.mem_append_left _ hp | exact List.mem_append_right _ hp | exact List.mem_append_right _ (List.mem_append_left _ hp) | exact List.mem_append_right _ (List.mem_append_right _ hp) | exact List.mem_append_left _ (List.mem_append_right _ hp) | exact List.mem_append_right _ (List.mem_append_right _ (List.mem_append_left _ hp))) | simp [hp]) hsub (List.mem_cons_self ..) notFld_seq⟩
    rcases List.mem_cons.mp hp2 with e | hp2
    · subst e
      exact ⟨(Nw (x, instObj 218 dx) (by first | ((repeat (first | with_reducible exact List.mem_cons_self .. | with_reducible refine List.mem_cons_of_mem _ ?_)); done) | simp)).1, new_none hS' (by exact Nw) (fun p hp => by first | ((repeat with_reducible refine List.mem_cons_of_mem _ ?_); first | exact hp | exact List.mem_append_left _ hp | exact List.mem_append_right _ hp | exact List.mem_append_right _ (List.mem_append_left _ hp) | exact List.mem_append_right _ (List.mem_append_right _ hp) | exact List.mem_append_left _ (List.mem_append_right _ hp) | exact List.mem_append_right _ (List.mem_append_right _ (List.mem_append_left _ hp))) | simp [hp]) hsub (o := instObj 218 dx) (by first | ((repeat (first | with_reducible exact List.mem_cons_self .. | with_reducible refine List.mem_cons_of_mem _ ?_)); done) | simp) notFld_plain⟩
    rcases List.mem_cons.mp hp2 with e | hp2
    · subst e
      exact ⟨(Nw (dx, dictOf (hdrE w tok l) 1) (by first | ((repeat (first | with_reducible exact List.mem_cons_self .. | with_reducible refine List.mem_cons_of_mem _ ?_)); done) | simp)).1, new_none hS' (by exact Nw) (fun p hp => by first | ((repeat with_reducible refine List.mem_cons_of_mem _ ?_); first | exact hp | exact List.mem_append_left _ hp | exact List.mem_append_right _ hp | exact List.mem_append_right _ (List.mem_append_left _ hp) | exact List.mem_append_right _ (List.mem_append_right _ hp) | exact List.mem_append_left _ (List.mem_append_right _ hp) | exact List.mem_append_right _ (List.mem_append_right _ (List.mem_append_left _ hp))) | simp [hp]) hsub (o := dictOf (hdrE w tok l) 1) (by first | ((repeat (first | with_reducible exact List.mem_cons_self .. | with_reducible refine List.mem_cons_of_mem _ ?_)); done) | simp) notFld_dict⟩
    rcases List.mem_cons.mp hp2 with e | hp2
    · subst e
      exact ⟨(Nw (l, listOf (refsOf tups).toArray n) (by first | ((repeat (first | with_reducible exact List.mem_cons_self .. | with_reducible refine List.mem_cons_of_mem _ ?_)); done) | simp)).1, new_none hS' (by exact Nw) (fun p hp => by first | ((repeat with_reducible refine List.mem_cons_of_mem _ ?_); first | exact hp | exact List.mem_append_left _ hp | exact List.mem_append_right _ hp | exact List.mem_append_right _ (List.mem_append_left _ hp) | exact List.mem_append_right _ (List.mem_append_right _ hp) | exact List.mem_append_left _ (List.mem_append_right _ hp) | exact List.mem_append_right _ (List.mem_append_right _ (List.mem_append_left _ hp))) | simp [hp]) hsub (o := listOf (refsOf tups).toArray n) (by first | ((repeat (first | with_reducible exact List.mem_cons_self .. | with_reducible refine List.mem_cons_of_mem _ ?_)); done) | simp) notFld_list⟩
    · exact ⟨(Nw p (by simp [hp2])).1, new_none hS' (by exact Nw) (fun p hp => by first | ((repeat with_reducible refine List.mem_cons_of_mem _ ?_); first | exact hp | exact List.mem_append_left _ hp | exact List.mem_append_right _ hp | exact List.mem_append_right _ (List.mem_append_left _ hp) | exact List.mem_append_right _ (List.mem_append_right _ hp) | exact List.mem_append_left _ (List.mem_append_right _ hp) | exact List.mem_append_right _ (List.mem_append_right _ (List.mem_append_left _ hp))) | simp [hp]) hsub (o := p.2) (by simp [hp2]) (hT.seq p hp2)⟩
end Mine

end
section
-- Com
theorem Mine.fresh_Com : True := by
  w_top off
  trivial
open PySem PySem.W PyProof.Rows PySem.Calls PySem.Builtin PySem.Builtin.Str
set_option maxRecDepth 100000
namespace Mine
section
variable {prog : Program} {w : World} {A : Around} {E : Value → Shared → Prop} {s : Shared} {h₀ : Heap} {L : Addr} {m : Str → Option Value} {env : Env}
/-- a block over pairs, as many as there are -/
theorem compP_ind {elt : Expr} {x x₂ : Str} {scope : Scope} {cl : List (Str × Addr)} {S : List (Addr × Obj) → Prop} {P : Nat → Value → Prop} {Fin : List Value → List (Addr × Obj) → Prop} (J : Nat → List Value → List (Addr × Obj) → Prop) {n : Nat}
    (step : ∀ i ys news, J i ys news → i < n → ∀ v, P i v → ∃ (t : Addr) (ot : Obj) (v₁ v₂ : Value) (nt : Nat), v = .ref t ∧ (t, ot) ∈ news ∧ ot.cls = .type "tuple" ∧ ot.data = .seq #[v₁, v₂] nt ∧
      ∀ I oI C oC D m₂ h tk (E' : Value → Shared → Prop), LCg.NsObj oC m₂ → m₂ x = some v₁ → m₂ x₂ = some v₂ → Fr h₀ L h m → News h₀ L h ((I, oI) :: (C, oC) :: (D, LCg.lst ys) :: news) → LCg.Off3 I C D news → ((@Ne Nat I C) ∧ (@Ne Nat I D) ∧ (@Ne Nat C D)) →
      wpAny (model prog w) A (eval elt (compEnvC scope cl C env)) (LCg.CompEnd h₀ L m { s with heap := h, toks := tk } I oI C oC D (LCg.lst ys) S (fun y news' => J (i + 1) (ys ++ [y]) news')) E' { s with heap := h, toks := tk })
    (fin : ∀ ys news, J n ys news → Fin ys news) : ∀ k i ys news, i + k = n → J i ys news → LCp.CompRestP prog w A h₀ L m env elt x x₂ scope cl s S P Fin k i ys news
  | 0, i, ys, news, e, hJ => LCp.CompRestP.zero (fin ys news (by rw [← e]; exact hJ))
  | k + 1, i, ys, news, e, hJ => by
    refine LCp.CompRestP.succ fun v hv => ?_
    obtain ⟨t, ot, v₁, v₂, nt, e1, e2, e3, e4, turn⟩ := step i ys news hJ (by (first | lia | omega)) v hv
    refine ⟨t, ot, v₁, v₂, nt, e1, e2, e3, e4, fun I oI C oC D m₂ h tk E' a b c d f g o => wpAny_mono (turn I oI C oC D m₂ h tk E' a b c d f g o) (fun y s' q => ?_) fun _ _ z => z⟩
    exact compEnd_mono q fun n' hn => compP_ind J step fin k (i + 1) _ _ (by (first | lia | omega)) hn

/-- a block over a text's signs: what it wants of the text -/
def SrcS (prog : Program) (w : World) (A : Around) (h₀ : Heap) (L : Addr) (m : Str → Option Value) (env : Env) (elt : Expr) (x : Str) (scope : Scope) (cl : List (Str × Addr)) (Fin : Shared → List Value → List (Addr × Obj) → Prop) (xv : Value) (s₁ : Shared) : Prop :=
  ∃ (y : Str) (t : Tok) (news : List (Addr × Obj)), xv = .str y t ∧ A.handled = none ∧ Fr h₀ L s₁.heap m ∧ News h₀ L s₁.heap news ∧ y.cps.all (· < 128) = true ∧ y.cps.size ≤ sizeLine ∧
    ∀ s₂ : Shared, (∃ h, s₂ = { s₁ with heap := h }) → LCg.CompRest prog w A h₀ L m env elt x scope cl s₂ (fun _ => True) (SignAt y) (Fin s₂) y.cps.size 0 [] news
theorem SrcS.intro {elt : Expr} {x : Str} {scope : Scope} {cl : List (Str × Addr)} {Fin : Shared → List Value → List (Addr × Obj) → Prop} {y : Str} {t : Tok} {news : List (Addr × Obj)} {s₁ : Shared}
    (hh : A.handled = none) (F : Fr h₀ L s₁.heap m) (N : News h₀ L s₁.heap news) (ha : y.cps.all (· < 128) = true) (hsz : y.cps.size ≤ sizeLine)
    (h : ∀ g, LCg.CompRest prog w A h₀ L m env elt x scope cl { s₁ with heap := g } (fun _ => True) (SignAt y) (Fin { s₁ with heap := g }) y.cps.size 0 [] news) :
    SrcS prog w A h₀ L m env elt x scope cl Fin (.str y t) s₁ := ⟨y, t, news, rfl, hh, F, N, ha, hsz, fun _ ⟨g, e⟩ => e ▸ h g⟩
theorem strIter_st {I : Addr} {y : Str} {t : Tok} : ∀ i (h h' : Heap) (o : Obj) (nw : List (Addr × Obj)), h.IsStrIter I "str_ascii_iterator" y t i → h.get? I = some o → h'.get? I = some o → (∀ b o, h₀.get? b = some o → h'.get? b = some o) → News h₀ L h' nw → True → h'.IsStrIter I "str_ascii_iterator" y t i :=
  fun i h h' o nw st e e' _ _ _ => by
    obtain ⟨o', q, r⟩ := st
    rw [e] at q
    cases q
    exact ⟨o, e', r⟩
theorem ListComp_S {elt iter : Expr} {x : Str} {px : Pos} {scope : Scope} {cl : List (Str × Addr)} {pos : Pos} {Q : Value → Shared → Prop} (F₀ : Fr h₀ L s.heap m)
    (hclos : closureFor scope env = pure cl) (hcell : ∀ y ∈ scope.names, y.2 ≠ .cell) (hkind : scope.kind = .function)
    (hnames : ∀ y ∈ scope.names, y.2 = .local → scope.names.lookup y.1 = some .local) (hx : scope.names.lookup x = some .local)
    (h : wpAny (model prog w) A (eval iter env) (SrcS prog w A h₀ L m env elt x scope cl (fun s₂ => LCg.FinE h₀ L m s₂ Q)) E s)
    (hs : ∀ x, foldedSetIterable iter env x = pure x := by intro _; rfl) :
    wpAny (model prog w) A (eval (.ListComp elt [⟨.Name x px, iter, [], 0⟩] scope pos) env) Q E s := by
  rw [eval_ListComp]
  refine wpAny_comprehension_free (use := none) rfl hs hclos hkind hnames (wpAny_mono h (fun xv s₁ h₁ => ?_) fun _ _ e => e)
  obtain ⟨y, t, news, rfl, hh, F, N, ha, hsz, R⟩ := h₁
  refine wpAny_pyIter_ascii ha ?_
  have up : ∀ b o, s₁.heap.get? b = some o → (s₁.heap.push { cls := .type "str_ascii_iterator", data := .fields #[.str y t, .int 0 0] }).get? b = some o := fun b o e => Heap.get?_push_of_some _ e
  refine LCg.block_U (Walks.strAscii hh s₁.heap.objs.size y t) hsz (fun i h st => by obtain ⟨o, e, _⟩ := st; exact ⟨o, e⟩) strIter_st hcell hkind hx ⟨_, Heap.get?_push_size _ rfl, rfl, rfl⟩ (fun b hb => ?_)
    (F.keeps up) (N.grown up) (Nat.ne_of_lt F.ns.lt) (next_is_new F) (fun p hp => Nat.ne_of_lt (Heap.lt_size (N p hp).1)) trivial (R _ ⟨_, rfl⟩) ?_
  · rw [List.mem_singleton.mp hb]
    show s₁.heap.objs.size < (s₁.heap.push _).objs.size
    rw [Heap.size_push]; exact Nat.lt_succ_self _
  · intro D C h tk m' ys news' F' N' o1 hn hC₀ hD₀ hCL hDL hCD offC fin
    refine ⟨m', hn, fun h'' hs'' => fin D h'' tk (F'.change hs'' hCL hC₀) (fun p hp => ?_) o1⟩
    refine ⟨hs''.extBut _ _ ?_ (N' p hp).1, (N' p hp).2⟩
    rcases List.mem_cons.mp hp with rfl | hp
    · exact Ne.symm hCD
    · exact offC p hp
end
section
variable {prog : Program} {w : World} {A : Around} {E : Value → Shared → Prop} {s : Shared} {env : Env} {h₀ : Heap} {Q : Flow → Shared → Prop}
/-- over a text's signs -/
theorem iter_str {target : Expr} {body : List Stmt} {y : Str} {t : Tok} {m₀ : Str → Option Value} {news : List (Addr × Obj)} (J : Nat → (Str → Option Value) → List (Addr × Obj) → Prop)
    (hh : A.handled = none) (ha : y.cps.all (· < 128) = true) (F : Fr h₀ env.locals s.heap m₀) (N : News h₀ env.locals s.heap news) (hj : J 0 m₀ news)
    (turn : ∀ (i : Nat) (c : Nat) (t : Tok) m₁ news₁ h tk I own, i < y.cps.size → y.cps[i]? = some c → J i m₁ news₁ → (∀ p ∈ news₁, p.1 ≠ I) → (∀ p ∈ own, p.1 = I) → (∃ o, (I, o) ∈ own ∧ o.cls = .type "str_ascii_iterator") → Fr h₀ env.locals h m₁ → News h₀ env.locals h (news₁ ++ own) →
      wpAny (model prog w) A (assign target env (.str ⟨#[c]⟩ t)) (fun _ s₄ => wpAny (model prog w) A (execs body env) (OurTurn h₀ env.locals I own (J (i + 1)) s Q) E s₄) E { s with heap := h, toks := tk })
    (done : ∀ m₁ news₁ h tk, J y.cps.size m₁ news₁ → Fr h₀ env.locals h m₁ → News h₀ env.locals h news₁ → Q .next { s with heap := h, toks := tk })
    (ht : ∀ a v, letOwnedTupleGo target a v = pure () := by intro _ _; rfl) :
    wpAny (model prog w) A (pyIter (.str y t)) (fun it s₂ => LoopOwn prog w A h₀ env target body Q E it s₂) E s := by
  refine wpAny_pyIter_ascii ha ?_
  refine ⟨_, _, _, _, _, m₀, news, J, rfl, ht _, Walks.strAscii hh s.heap.objs.size y t, ?_, fresh_none F, fun p hp => Nat.ne_of_lt (Heap.lt_size (N p hp).1), ⟨_, Heap.get?_push_size _ rfl, rfl, rfl⟩, F.push _, (fun p hp => ⟨Heap.get?_push_of_some _ (N p hp).1, (N p hp).2⟩), hj, ?_, ?_⟩
  · intro hm
    exact absurd F.ns.lt (List.mem_singleton.mp hm ▸ Nat.lt_irrefl _)
  · intro i v m₁ news₁ h tk own hi hP hJ hnx hown hoe hst F₁ N₁
    obtain ⟨c, t', hc, rfl⟩ := hP
    obtain ⟨o, ho, hcl, _⟩ := hst
    exact turn i c t' m₁ news₁ h tk _ own hi hc hJ hnx (fun p hp => List.mem_singleton.mp (hown p hp)) ⟨o, by rw [hoe]; exact mem_ownOf (List.mem_singleton.mpr rfl) (fresh_none F) ho, hcl⟩ F₁ N₁
  · intro m₁ news₁ h tk hJ F₁ N₁
    exact done m₁ news₁ h tk hJ F₁ N₁
end
theorem joinOk_small {texts : List Str} {k : Nat} (h : ∀ x ∈ texts, x.length ≤ k) (hk : k ≤ 1000) (hl : texts.length ≤ 1000) : JoinOk (Str.ofString "") texts = true := by
  unfold JoinOk
  rw [StrLaws.joinTotal, show (Str.ofString "").length = 0 from rfl, Nat.mul_zero, Nat.add_zero]
  have key : ∀ l : List Str, (∀ x ∈ l, x.length ≤ k) → (l.map (·.length)).sum ≤ l.length * k := by
    intro l
    induction l with
    | nil => intro _; simp
    | cons a r ih =>
      intro h
      have h1 := h a (List.mem_cons_self ..)
      have h2 := ih fun x hx => h x (List.mem_cons_of_mem _ hx)
      simp only [List.map_cons, List.sum_cons, List.length_cons, Nat.succ_mul]
      (first | lia | omega)
  have h1 := key texts h
  have h2 : texts.length * k ≤ 1000 * 1000 := Nat.mul_le_mul hl hk
  have h3 : (texts.map (·.length)).sum ≤ sizeLine := by rw [sizeLine_eq]; (first | lia | omega)
  unfold tooLong
  simp only [Bool.not_eq_true', decide_eq_false_iff_not]
  (first | lia | omega)
end Mine

end
section
-- Rng
theorem Mine.fresh_Rng : True := by
  w_top off
  trivial
open PySem PySem.W PyProof.Rows PySem.Calls PySem.Builtin PySem.Builtin.Str
set_option maxRecDepth 100000
namespace Mine
section
variable {prog : Program} {w : World} {A : Around} {E : Value → Shared → Prop} {s : Shared} {env : Env} {h₀ : Heap} {Q : Flow → Shared → Prop}
/-- over a range by any step -/
theorem iter_rangeS {target : Expr} {body : List Stmt} {r : Addr} {a b c : Int} {t u v : Tok} {n : Nat} {m₀ : Str → Option Value} {news : List (Addr × Obj)} (J : Nat → (Str → Option Value) → List (Addr × Obj) → Prop)
    (hh : A.handled = none) (hr : IsRange s.heap r a b c t u v) (hsm : Builtin.Range.small a b c = true) (hn : Builtin.Range.rangeSize a b c = ((n : Nat) : Int)) (F : Fr h₀ env.locals s.heap m₀) (N : News h₀ env.locals s.heap news) (hj : J 0 m₀ news)
    (turn : ∀ (i : Nat) (t : Tok) m₁ news₁ h tk I own, i < n → J i m₁ news₁ → (∀ p ∈ news₁, p.1 ≠ I) → (∀ p ∈ own, p.1 = I) → Fr h₀ env.locals h m₁ → News h₀ env.locals h (news₁ ++ own) →
      wpAny (model prog w) A (assign target env (.int (a + (i : Int) * c) t)) (fun _ s₄ => wpAny (model prog w) A (execs body env) (OurTurn h₀ env.locals I own (J (i + 1)) s Q) E s₄) E { s with heap := h, toks := tk })
    (done : ∀ m₁ news₁ h tk, J n m₁ news₁ → Fr h₀ env.locals h m₁ → News h₀ env.locals h news₁ → Q .next { s with heap := h, toks := tk })
    (ht : ∀ a v, letOwnedTupleGo target a v = pure () := by intro _ _; rfl) :
    wpAny (model prog w) A (pyIter (.ref r)) (fun it s₂ => LoopOwn prog w A h₀ env target body Q E it s₂) E s := by
  refine wpAny_pyIter_range hr hsm ?_
  refine ⟨_, _, _, _, _, m₀, news, J, rfl, ht _, Walks.range hh _ a c n, ?_, fresh_none F, fun p hp => Nat.ne_of_lt (Heap.lt_size (N p hp).1), (by show IsRangeIter _ _ _ _ _; rw [hn]; simpa using Heap.get?_push_size _ rfl), F.push _, (fun p hp => ⟨Heap.get?_push_of_some _ (N p hp).1, (N p hp).2⟩), hj, ?_, ?_⟩
  · intro hm
    exact absurd F.ns.lt (List.mem_singleton.mp hm ▸ Nat.lt_irrefl _)
  · intro i v m₁ news₁ h tk own hi hP hJ hnx hown hoe hst F₁ N₁
    obtain ⟨t', rfl⟩ := hP
    exact turn i t' m₁ news₁ h tk _ own hi hJ hnx (fun p hp => List.mem_singleton.mp (hown p hp)) F₁ N₁
  · intro m₁ news₁ h tk hJ F₁ N₁
    exact done m₁ news₁ h tk hJ F₁ N₁
end
section
variable {prog : Program} {w : World} {A : Around} {E : Value → Shared → Prop} {s : Shared} {env : Env} {h₀ : Heap} {Q : Flow → Shared → Prop}
/-- the same, of turns that leave by no return: what comes behind is out of sight -/
theorem iter_rangeA {target : Expr} {body : List Stmt} {r : Addr} {a b c : Int} {t u v : Tok} {n : Nat} {m₀ : Str → Option Value} {news : List (Addr × Obj)} (J : Nat → (Str → Option Value) → List (Addr × Obj) → Prop)
    (hh : A.handled = none) (hr : IsRange s.heap r a b c t u v) (hsm : Builtin.Range.small a b c = true) (hn : Builtin.Range.rangeSize a b c = ((n : Nat) : Int)) (F : Fr h₀ env.locals s.heap m₀) (N : News h₀ env.locals s.heap news) (hj : J 0 m₀ news)
    (turn : ∀ (J' : (Str → Option Value) → List (Addr × Obj) → Prop) (Q : Flow → Shared → Prop) (E : Value → Shared → Prop) (i : Nat) (t : Tok) m₁ news₁ h tk I own, (∀ m nx, J (i + 1) m nx → J' m nx) → i < n → J i m₁ news₁ → (∀ p ∈ news₁, p.1 ≠ I) → (∀ p ∈ own, p.1 = I) → Fr h₀ env.locals h m₁ → News h₀ env.locals h (news₁ ++ own) →
      wpAny (model prog w) A (assign target env (.int (a + (i : Int) * c) t)) (fun _ s₄ => wpAny (model prog w) A (execs body env) (OurTurn h₀ env.locals I own J' s Q) E s₄) E { s with heap := h, toks := tk })
    (done : ∀ m₁ news₁ h tk, J n m₁ news₁ → Fr h₀ env.locals h m₁ → News h₀ env.locals h news₁ → Q .next { s with heap := h, toks := tk })
    (ht : ∀ a v, letOwnedTupleGo target a v = pure () := by intro _ _; rfl) :
    wpAny (model prog w) A (pyIter (.ref r)) (fun it s₂ => LoopOwn prog w A h₀ env target body Q E it s₂) E s :=
  iter_rangeS J hh hr hsm hn F N hj (fun i t m₁ news₁ h tk I own => turn (J (i + 1)) Q E i t m₁ news₁ h tk I own fun _ _ h => h) done ht
end
theorem countP_bool (k : Bool) : ∀ bs : List Bool, (bs.map Value.bool).countP (isBoolOf k) = bs.count k
  | [] => rfl
  | b :: bs => by
    rw [List.map_cons, List.countP_cons, List.count_cons, countP_bool k bs]
    rfl
section
variable {prog : Program} {w : World} {A : Around} {E : Value → Shared → Prop} {s : Shared} {h₀ : Heap} {L D : Addr} {news : List (Addr × Obj)} {n : Nat} {bs : List Bool} {arr : Array Value} {k : Bool}
theorem countB {Q : Value → Shared → Prop} (N : News h₀ L s.heap news) (hm : (D, listOf arr n) ∈ news) (ha : arr = (bs.map Value.bool).toArray) (h : ∀ tk k', Q (.int (bs.count k : Nat) tk) { s with toks := k' }) :
    wpAny (model prog w) A (call (.builtin "list.count") [.ref D, .bool k]) Q E s := by
  subst ha
  have ho := (N _ hm).1
  refine call_meets PySem.F.slot_list_count ⟨_, ho, rfl⟩ PySem.F.entry_list_count (PySem.F.args_list_count_2 _ _) (SeqAt.list_countAt D _ n none #[] (.bool k) (isBoolOf k)) ⟨ho, fun y hy => ?_, ?_⟩
  · obtain ⟨b, _, rfl⟩ := List.mem_map.mp (Array.mem_toList_iff.mpr hy)
    exact SeqAt.EqAt.bool_bool b k
  · rw [show (List.toArray (bs.map Value.bool)).toList = bs.map Value.bool from rfl, countP_bool]
    exact h _ _
end
theorem slice_in {bs : List Bool} (h : bs.length = 10) : ∀ k : Nat, k < 5 → (slicePick ((bs.map Value.bool).toArray) (some ((k : Int) + 1)) (some 5) none = (((bs.drop (k + 1)).take (4 - k)).map Value.bool).toArray) ∧ slicePick ((bs.map Value.bool).toArray) (some ((k : Int) + 6)) none none = ((bs.drop (k + 6)).map Value.bool).toArray := by
  match bs, h with
  | [b0, b1, b2, b3, b4, b5, b6, b7, b8, b9], _ =>
    intro k hk
    rcases k with _ | _ | _ | _ | _ | k
    case succ.succ.succ.succ.succ => (first | lia | omega)
    all_goals exact ⟨by kernel_rfl, by kernel_rfl⟩
end Mine

end
section
-- HolP
theorem Mine.fresh_HolP : True := by
  w_top off
  trivial
open PySem PySem.W PyProof.Rows PySem.Calls PySem.Builtin.Str
set_option maxRecDepth 100000
set_option maxHeartbeats 2000000
set_option pp.deepTerms false
namespace Mine
theorem news_more {g h h' : Heap} {L : Addr} {m : Str → Option Value} {nw n : List (Addr × Obj)} (F : Fr g L h m) (hn : ∀ p ∈ nw, h'.get? p.1 = some p.2 ∧ h.get? p.1 = none) (N : News g L h' n) : News g L h' (nw ++ n) := by
  induction nw with
  | nil => exact N
  | cons p r ih => exact news_new F (hn p (List.mem_cons_self ..)).2 (hn p (List.mem_cons_self ..)).1 (ih fun q hq => hn q (List.mem_cons_of_mem _ hq))
theorem csN_ok (z : Int) : okC (csN 5 z) = true := by
  have h0 : restN 0 z < 9 := rest_lt _ 9 (by decide)
  have h1 : restN 1 z < 7 := rest_lt _ (-7) (by decide)
  have h2 : restN 2 z < 5 := rest_lt _ 5 (by decide)
  have h3 : restN 3 z < 3 := rest_lt _ (-3) (by decide)
  rw [csN_lay]
  have := all4_at chkS_all h0 h1 h2 h3
  unfold chkS at this
  simp only [Bool.and_eq_true] at this
  exact this.2
def wlC (cs : Cells) : List Str := (List.range 10).map fun p => ((at' p cs).map sgn).getD (Str.ofString "-")
def rowsT (cs : Cells) : List (Str × Str) := cs.map fun c => (sgn c.2, pn c.1)
def posC (cs : Cells) (c : Nat) : Nat := ((cs.find? fun q => q.2 == c).map (·.1)).getD 99
def inC (cs : Cells) (k c : Nat) : Bool := decide (posC cs k < posC cs c) && decide (posC cs c < posC cs (k + 5))
def insRow (cs : Cells) (k : Nat) : List Bool := (List.range 10).map (inC cs k)
def InsAre (cs : Cells) (i : Nat) (ins : List (Addr × Obj)) : Prop := ins.length = i ∧ ∀ (j : Nat) p, ins[j]? = some p → ∃ n, p.2 = listOf ((insRow cs j).map Value.bool).toArray n
def SpsAre (cs : Cells) (i : Nat) (sps : List (Addr × Obj)) : Prop := sps.length = i ∧ ∀ (j : Nat) p, sps[j]? = some p → ∃ n t1 t2, p.2 = listOf #[.int (posC cs j : Nat) t1, .int (posC cs (j + 5) : Nat) t2] n
theorem InsAre.nil {cs : Cells} : InsAre cs 0 [] := ⟨rfl, fun j p h => by simp at h⟩
theorem SpsAre.nil {cs : Cells} : SpsAre cs 0 [] := ⟨rfl, fun j p h => by simp at h⟩
theorem sgn_at : ∀ k, k < 5 → ∀ c, (Str.ofString "abcde").cps[k]? = some c → (⟨#[c]⟩ : Str) = sgn k := by
  intro k hk c hc
  have h : ∀ k, k < 5 → (Str.ofString "abcde").cps[k]?.map (fun c => (⟨#[c]⟩ : Str)) = some (sgn k) := by decide +kernel
  have := h k hk
  rw [hc] at this
  exact Option.some.inj this
theorem cell_ne {g h : Heap} {L a b : Addr} {n : List (Addr × Obj)} {o ob : Obj} {v : Option Value} (N : News g L h n) (h1 : (a, o) ∈ n) (h2 : (b, ob) ∈ n) (hb : ob.data = .cell v) (ho : ∀ v, o.data ≠ .cell v) : @Ne Nat a b :=
  ne_at (N _ h1).1 (N _ h2).1 fun e => ho v (by rw [show o = ob from e]; exact hb)
theorem TupsAre.nc {ps : List (Addr × Obj)} {rs : List (Str × Str)} (T : TupsAre ps rs) : ∀ p ∈ ps, ∀ v, p.2.data ≠ .cell v := fun p hp v => by
  obtain ⟨i, hi⟩ := List.getElem?_of_mem hp
  obtain ⟨r, _, n, t1, t2, e⟩ := T.at i p hi
  rw [e]; exact fun z => by cases z
theorem TabS.nc {S T : TabSpec} {t : List (Addr × Obj)} (h : TabS S T t) : ∀ p ∈ t, ∀ v, p.2.data ≠ .cell v := fun p hp v => by
  obtain ⟨vs, e⟩ := h.fld p hp
  rw [e]; exact fun z => by cases z
theorem InsAre.nc {cs : Cells} {i : Nat} {t : List (Addr × Obj)} (h : InsAre cs i t) : ∀ p ∈ t, ∀ v, p.2.data ≠ .cell v := fun p hp v => by
  obtain ⟨i, hi⟩ := List.getElem?_of_mem hp
  obtain ⟨n, e⟩ := h.2 i p hi
  rw [e]; exact fun z => by cases z
theorem SpsAre.nc {cs : Cells} {i : Nat} {t : List (Addr × Obj)} (h : SpsAre cs i t) : ∀ p ∈ t, ∀ v, p.2.data ≠ .cell v := fun p hp v => by
  obtain ⟨i, hi⟩ := List.getElem?_of_mem hp
  obtain ⟨n, t1, t2, e⟩ := h.2 i p hi
  rw [e]; exact fun z => by cases z
theorem nmOk_sgn {i : Nat} (h : i < 10) : NmOk (sgn i) := ⟨(safe_sgn i h).1, (by unfold Safe; decide +kernel : ∀ i, i < 10 → Safe (Txt.lower (sgn i))) i h, by rw [(safe_sgn i h).2]; decide⟩
theorem two_texts {ps : List (Str × Tok)} {a b : Str} (h : ps.map (·.1) = [a, b]) : ∃ t1 t2, ps = [(a, t1), (b, t2)] := by
  match ps, h with
  | [(x, t1), (y, t2)], h =>
    simp only [List.map_cons, List.map_nil, List.cons.injEq, and_true] at h
    obtain ⟨rfl, rfl⟩ := h
    exact ⟨t1, t2, rfl⟩
theorem int_pn : ∀ i, i < 10 → PySem.intText? (Txt.slice (pn i) (some 1) none) = some ((i : Nat) : Int) := by decide +kernel
theorem int_pn_len : ∀ i, i < 10 → (Txt.slice (pn i) (some 1) none).length ≤ 640 := by decide +kernel
theorem pick9 {H h : Heap} {L : Addr} {a b c d e1 e2 e3 f g : Addr × Obj} {rs rs2 : List (Addr × Obj)} (N : News H L h (a :: b :: c :: d :: e1 :: e2 :: e3 :: f :: g :: rs)) (e : rs2 = e1 :: e2 :: e3 :: rs) : News H L h (a :: c :: d :: f :: g :: rs2) := by
  subst e
  intro p hp
  refine N p ?_
  simp only [List.mem_cons] at hp ⊢
  rcases hp with h | h | h | h | h | h | h | h | h <;> simp only [h, true_or, or_true]
theorem sgn_at10 : ∀ k, k < 10 → ∀ c, (Str.ofString "abcdeABCDE").cps[k]? = some c → (⟨#[c]⟩ : Str) = sgn k := by
  intro k hk c hc
  have h : ∀ k, k < 10 → (Str.ofString "abcdeABCDE").cps[k]?.map (fun c => (⟨#[c]⟩ : Str)) = some (sgn k) := by decide +kernel
  have := h k hk
  rw [hc] at this
  exact Option.some.inj this
/-- what _ellipsis_match tells of two short texts -/
structure EllIs (want got : Str) (b : Bool) : Prop where
  e : ellip want got = b
  hw : want.length ≤ 1000
  hg : got.length ≤ 1000
theorem ell_use {w : World} {A : Around} {E : Value → Shared → Prop} {s : Shared} {h₀ : Heap} {loose mean mg mb} {L : Addr} {m : Str → Option Value} {news : List (Addr × Obj)} {want got : Str} {t1 t2 : Tok} {b : Bool} {Q : Value → Shared → Prop}
    (X : (Mine.hd01.heap_39 w.params).In h₀) (T : Top topProg loose mean mg mb h₀) (F : Fr h₀ L s.heap m) (N : News h₀ L s.heap news) (e : EllIs want got b) (hh : A.handled = none) (hd : A.depth + 5 < recursionLimit) (hu : A.units + 20 < cLine)
    (h : ∀ h' tk, Fr h₀ L h' m → News h₀ L h' news → Q (.bool b) { s with heap := h', toks := tk }) :
    wpAny (model PySem.Challenge.rw_pg0310_01.row.prog w) A (call (.ref 45) [.str want t1, .str got t2]) Q E s := by
  refine Does.use (ell_spec ⟨X, T⟩ F.keep e.hw e.hg) hh hd hu ?_
  rintro v h' tk ⟨rfl, keep⟩
  rw [e.e]
  exact h _ _ (F.keeps keep) (N.grown keep)
theorem InsAre.snoc {cs : Cells} {i : Nat} {ins : List (Addr × Obj)} {D : Addr} {row : List Value} {n : Nat} (h : InsAre cs i ins) (hr : True ∧ row = (insRow cs i).map Value.bool) : InsAre cs (i + 1) (ins ++ [(D, listOf row.toArray n)]) := by
  refine ⟨by simp [h.1], fun j p hp => ?_⟩
  by_cases hj : j < ins.length
  · rw [List.getElem?_append_left hj] at hp
    exact h.2 j p hp
  · rw [List.getElem?_append_right (by first | with_reducible assumption | with_reducible exact lt_num (by with_reducible assumption) (Nat.le_of_ble_eq_true rfl) | with_reducible exact le_num (by with_reducible assumption) (Nat.le_of_ble_eq_true rfl) | with_reducible exact le_le (by with_reducible assumption) (Nat.le_of_ble_eq_true rfl) | omega)] at hp
    have hj2 : j - ins.length = 0 := by
      rcases Nat.eq_zero_or_pos (j - ins.length) with h | h
      · exact h
      · rw [List.getElem?_eq_none (by simp; omega)] at hp; cases hp
    rw [hj2] at hp
    simp only [List.getElem?_cons_zero, Option.some.injEq] at hp
    subst hp
    have : j = i := by have := h.1; omega
    exact ⟨n, by rw [this, hr.2]⟩
theorem SpsAre.snoc {cs : Cells} {i : Nat} {sps : List (Addr × Obj)} {D : Addr} {t1 t2 : Tok} {n : Nat} (h : SpsAre cs i sps) : SpsAre cs (i + 1) (sps ++ [(D, listOf #[.int (posC cs i : Nat) t1, .int (posC cs (i + 5) : Nat) t2] n)]) := by
  refine ⟨by simp [h.1], fun j p hp => ?_⟩
  by_cases hj : j < sps.length
  · rw [List.getElem?_append_left hj] at hp
    exact h.2 j p hp
  · rw [List.getElem?_append_right (by first | with_reducible assumption | with_reducible exact lt_num (by with_reducible assumption) (Nat.le_of_ble_eq_true rfl) | with_reducible exact le_num (by with_reducible assumption) (Nat.le_of_ble_eq_true rfl) | with_reducible exact le_le (by with_reducible assumption) (Nat.le_of_ble_eq_true rfl) | omega)] at hp
    have hj2 : j - sps.length = 0 := by
      rcases Nat.eq_zero_or_pos (j - sps.length) with h | h
      · exact h
      · rw [List.getElem?_eq_none (by simp; omega)] at hp; cases hp
    rw [hj2] at hp
    simp only [List.getElem?_cons_zero, Option.some.injEq] at hp
    subst hp
    have : j = i := by have := h.1; omega
    exact ⟨n, t1, t2, by rw [this]⟩
/-- what the walk wants of a chord -/
structure TurnFacts (cs : Cells) (wd : Str) (k : Nat) : Prop where
  all : allR (sgn (k + 5)) (rowsT cs) = [pn (posC cs k), pn (posC cs (k + 5))]
  lt : posC cs k < posC cs (k + 5)
  b10 : posC cs (k + 5) < 10
  e1 : ∀ c, c < 10 → EllIs (sgn k ++ Str.ofString "..." ++ sgn c ++ Str.ofString "..." ++ Txt.upper (sgn k)) (Txt.slice wd (some ((posC cs k : Nat) : Int)) (some (((posC cs (k + 5) : Nat) : Int) + 1))) (inC cs k c)
  e2 : EllIs (sgn k ++ Str.ofString "..." ++ sgn k) (sgn k) false
  e3 : EllIs (Str.ofString "..." ++ sgn k ++ Str.ofString "..." ++ sgn k ++ Str.ofString "...") wd false
  e4 : EllIs (Str.ofString "..." ++ Txt.upper (sgn k) ++ Str.ofString "..." ++ sgn k ++ Str.ofString "...") wd false
  e5 : EllIs (Txt.slice wd (some ((posC cs k : Nat) : Int)) (some (((posC cs (k + 5) : Nat) : Int) + 1))) (Txt.slice wd (some ((posC cs k : Nat) : Int)) (some (((posC cs (k + 5) : Nat) : Int) + 1))) true
  e6 : EllIs (sgn k ++ Str.ofString "...") wd (((posC cs k : Nat) : Int) == 0)
  e7 : EllIs (Txt.slice wd (some ((posC cs k : Nat) : Int)) (some (((posC cs (k + 5) : Nat) : Int) + 1))) wd (Txt.slice wd (some ((posC cs k : Nat) : Int)) (some (((posC cs (k + 5) : Nat) : Int) + 1)) == wd)
  e8 : EllIs (Str.ofString "..." ++ Txt.upper (sgn k)) wd (((posC cs (k + 5) : Nat) : Int) == 9)
theorem InsAre.at {cs : Cells} {i : Nat} {ins : List (Addr × Obj)} (h : InsAre cs i ins) (k : Nat) (hk : k < i) : ∃ D n, (refsOf ins)[k]? = some (Value.ref D) ∧ (D, listOf ((insRow cs k).map Value.bool).toArray n) ∈ ins := by
  have hl : k < ins.length := by rw [h.1]; exact hk
  obtain ⟨n, e⟩ := h.2 k _ (List.getElem?_eq_getElem hl)
  refine ⟨(ins[k]).1, n, ?_, ?_⟩
  · unfold refsOf; rw [List.getElem?_map, List.getElem?_eq_getElem hl]; rfl
  · rw [← e]; exact List.getElem_mem hl
theorem item_at {prog : Program} {w : World} {A : Around} {E : Value → Shared → Prop} {s : Shared} {h₀ : Heap} {L D : Addr} {news : List (Addr × Obj)} {n : Nat} {u : Tok} {value slice : Expr} {vs : List Value} {x : Value} {k : Nat} {Q : Value → Shared → Prop} (N : News h₀ L s.heap news) (hm : (D, listOf vs.toArray n) ∈ news) (hx : vs[k]? = some x) (hk : k < 2 ^ 60) (h : Q x s)
    (hs : subscripted slice false (.ref D) (.int ((k : Nat) : Int) u) = operate [.ref D, .int ((k : Nat) : Int) u] (getItem (.ref D) (.int ((k : Nat) : Int) u)) := by with_unfolding_all rfl) (hg : ∀ r, letTemporaryGo value (.ref D) r = pure () := by intro _; with_unfolding_all rfl) :
    wpAny (model prog w) A (subscriptTail value slice (.ref D) (.int ((k : Nat) : Int) u)) Q E s :=
  kim_list N hm rfl rfl (by first | with_reducible assumption | with_reducible exact lt_num (by with_reducible assumption) (Nat.le_of_ble_eq_true rfl) | with_reducible exact le_num (by with_reducible assumption) (Nat.le_of_ble_eq_true rfl) | with_reducible exact le_le (by with_reducible assumption) (Nat.le_of_ble_eq_true rfl) | omega) (by first | with_reducible assumption | with_reducible exact lt_num (by with_reducible assumption) (Nat.le_of_ble_eq_true rfl) | with_reducible exact le_num (by with_reducible assumption) (Nat.le_of_ble_eq_true rfl) | with_reducible exact le_le (by with_reducible assumption) (Nat.le_of_ble_eq_true rfl) | omega) (by rw [Int.toNat_natCast]; exact hx) h hs hg
theorem row_fits (cs : Cells) (k : Nat) : (((insRow cs k).map Value.bool).toArray).size ≤ sizeLine := by
  rw [sizeLine_eq]; simp [insRow]
theorem base_use {w : World} {A : Around} {E : Value → Shared → Prop} {s : Shared} {h₀ : Heap} {loose mean mg mb} {L : Addr} {m : Str → Option Value} {news : List (Addr × Obj)} {k : Nat} {t : Tok} {Q : Value → Shared → Prop}
    (X : (Mine.hd01.heap_39 w.params).In h₀) (T : Top topProg loose mean mg mb h₀) (F : Fr h₀ L s.heap m) (N : News h₀ L s.heap news) (h5 : k < 5) (hh : A.handled = none) (hd : A.depth + 5 < recursionLimit) (hu : A.units + 20 < cLine)
    (h : ∀ h' tb tk, Fr h₀ L h' m → News h₀ L h' news → Q (.int (baseZ k) tb) { s with heap := h', toks := tk }) :
    wpAny (model PySem.Challenge.rw_pg0310_01.row.prog w) A (call (.ref 229) [.int ((k : Nat) : Int) t]) Q E s := by
  refine Does.use (base_one (k := k) ((k : Nat) : Int) rfl ⟨X, T⟩ F.keep h5) hh hd hu ?_
  rintro v h' tk ⟨keep, tb, rfl⟩
  exact h _ _ _ (F.keeps keep.stays) (N.grown keep.stays)
theorem baseZ_nine (k : Nat) : -9 ≤ baseZ k ∧ baseZ k ≤ 9 := by
  rcases k with _ | _ | _ | _ | _ | k
  all_goals (first | decide | (unfold baseZ; simp))
theorem left_back (z : Int) {k a b : Nat} (hk : k < 5) (hf : a + b = restN k z) : leftN k z = leftN (k + 1) z * baseZ k + (if 0 < baseZ k then ((a : Nat) : Int) + ((b : Nat) : Int) else -(((a : Nat) : Int) + ((b : Nat) : Int))) := by
  have hb := (baseZ_ne hk).1
  have h1 : leftN (k + 1) z = (leftN k z).fdiv (baseZ k) := rfl
  have h2 := Int.fmod_def (leftN k z) (baseZ k)
  have h3 : ((restN k z : Nat) : Int) = ((leftN k z).fmod (baseZ k)).natAbs := rfl
  rw [h1, Int.mul_comm]
  by_cases h : 0 < baseZ k
  · rw [if_pos h]
    have h4 := Int.fmod_nonneg_of_pos (leftN k z) h
    omega
  · rw [if_neg h]
    have h4 : (leftN k z).fmod (baseZ k) ≤ 0 := by
      have e : (leftN k z).fmod (baseZ k) = -((-leftN k z).fmod (-baseZ k)) := by
        rw [Int.fmod_def, Int.fmod_def, Int.neg_fdiv_neg, Int.neg_mul]; omega
      have := Int.fmod_nonneg_of_pos (-leftN k z) (show 0 < -baseZ k by omega)
      omega
    omega
theorem row_at (cs : Cells) (k c : Nat) (hc : c < 10) : ((insRow cs k).map Value.bool)[c]? = some (Value.bool (inC cs k c)) := by
  unfold insRow
  rw [List.map_map, List.getElem?_map, List.getElem?_range hc]
  rfl
def stepFS (cs : Cells) (k c : Nat) (p : Int × Int) : Int × Int :=
  if c < k then (p.1 + (if inC cs c k then 1 else 2), p.2 + (if inC cs c (k + 5) then 1 else 2))
  else if c = k then p else (p.1, p.2 + ((if inC cs k c then 1 else 0) + (if inC cs k (c + 5) then 1 else 0)))
def fsN (cs : Cells) (k : Nat) : Nat → Int × Int
  | 0 => (0, 1)
  | c + 1 => stepFS cs k c (fsN cs k c)
/-- what the answers tell, chord by chord -/
def PairFacts (cs : Cells) (k c : Nat) : Prop :=
  (c < k → inC cs k c = false ∧ inC cs k (c + 5) = (inC cs c k && !inC cs c (k + 5))) ∧ (c = k → inC cs k c = false ∧ inC cs k (c + 5) = false)
theorem item_at5 {prog : Program} {w : World} {A : Around} {E : Value → Shared → Prop} {s : Shared} {h₀ : Heap} {L D : Addr} {news : List (Addr × Obj)} {n : Nat} {u : Tok} {value slice : Expr} {vs : List Value} {x : Value} {k : Nat} {Q : Value → Shared → Prop} (N : News h₀ L s.heap news) (hm : (D, listOf vs.toArray n) ∈ news) (hx : vs[k + 5]? = some x) (hk : k < 2 ^ 60) (h : Q x s)
    (hs : subscripted slice false (.ref D) (.int (((k : Nat) : Int) + 5) u) = operate [.ref D, .int (((k : Nat) : Int) + 5) u] (getItem (.ref D) (.int (((k : Nat) : Int) + 5) u)) := by with_unfolding_all rfl) (hg : ∀ r, letTemporaryGo value (.ref D) r = pure () := by intro _; with_unfolding_all rfl) :
    wpAny (model prog w) A (subscriptTail value slice (.ref D) (.int (((k : Nat) : Int) + 5) u)) Q E s :=
  kim_list N hm rfl rfl (by first | with_reducible assumption | with_reducible exact lt_num (by with_reducible assumption) (Nat.le_of_ble_eq_true rfl) | with_reducible exact le_num (by with_reducible assumption) (Nat.le_of_ble_eq_true rfl) | with_reducible exact le_le (by with_reducible assumption) (Nat.le_of_ble_eq_true rfl) | omega) (by first | with_reducible assumption | with_reducible exact lt_num (by with_reducible assumption) (Nat.le_of_ble_eq_true rfl) | with_reducible exact le_num (by with_reducible assumption) (Nat.le_of_ble_eq_true rfl) | with_reducible exact le_le (by with_reducible assumption) (Nat.le_of_ble_eq_true rfl) | omega) (by rw [show (((k : Nat) : Int) + 5).toNat = k + 5 by omega]; exact hx) h hs hg
theorem SpsAre.at {cs : Cells} {i : Nat} {sps : List (Addr × Obj)} (h : SpsAre cs i sps) (k : Nat) (hk : k < i) : ∃ D n t1 t2, (refsOf sps)[k]? = some (Value.ref D) ∧ (D, listOf #[.int (posC cs k : Nat) t1, .int (posC cs (k + 5) : Nat) t2] n) ∈ sps := by
  have hl : k < sps.length := by rw [h.1]; exact hk
  obtain ⟨n, t1, t2, e⟩ := h.2 k _ (List.getElem?_eq_getElem hl)
  refine ⟨(sps[k]).1, n, t1, t2, ?_, ?_⟩
  · unfold refsOf; rw [List.getElem?_map, List.getElem?_eq_getElem hl]; rfl
  · rw [← e]; exact List.getElem_mem hl
theorem rowsT_ok {cs : Cells} (h : ∀ c ∈ cs, CellOk c) (hl : cs.length ≤ 1000) : RowsOk (rowsT cs) := by
  refine ⟨fun r hr => ?_, by rw [rowsT, List.length_map]; exact hl⟩
  obtain ⟨c, hc, rfl⟩ := List.mem_map.mp hr
  have h2 := h c hc
  have h3 := safe_sgn c.2 h2.2
  have h4 := safe_pn c.1 h2.1
  exact ⟨h3.1, h4.1, by show (sgn c.2).length ≤ 1000; rw [h3.2]; decide, by show (pn c.1).length ≤ 1000; rw [h4.2]; decide⟩
theorem wlC_one {cs : Cells} (h : ∀ c ∈ cs, CellOk c) : ∀ x ∈ wlC cs, x.length ≤ 1 := by
  intro x hx
  obtain ⟨p, hp, rfl⟩ := List.mem_map.mp hx
  cases e : at' p cs with
  | none => exact (by decide : (Str.ofString "-").length ≤ 1)
  | some r => exact Nat.le_of_eq (safe_sgn r (at_ok h e)).2
theorem wd_len {cs : Cells} (h : ∀ c ∈ cs, CellOk c) : (Txt.join (Str.ofString "") (wlC cs)).length ≤ 10 := by
  show (PySem.Builtin.Str.glued _ _).length ≤ 10
  rw [StrLaws.glued_eq_join]
  refine Nat.le_trans (StrLaws.join_length_le _ _) ?_
  rw [show (Str.ofString "").length = 0 from rfl, Nat.mul_zero, Nat.add_zero]
  have h1 := wlC_one h
  have key : ∀ l : List Str, (∀ x ∈ l, x.length ≤ 1) → (l.map (·.length)).sum ≤ l.length := by
    intro l
    induction l with
    | nil => intro _; simp
    | cons a r ih =>
      intro h
      have h1 := h a (List.mem_cons_self ..)
      have h2 := ih fun x hx => h x (List.mem_cons_of_mem _ hx)
      simp only [List.map_cons, List.sum_cons, List.length_cons]
      omega
  refine Nat.le_trans (key _ h1) ?_
  simp [wlC]
theorem new_ne {h : Heap} {a b : Addr} {o : Obj} (hb : h.get? b = none) (ha : h.get? a = some o) : @Ne Nat b a := fun e => by
  have e' : b = a := e
  rw [e', ha] at hb; cases hb

theorem fits_one {a b : Str} (ha : a.length = 1) (hb : b.length = 1) :
    (a.length + (Str.ofString "...").length ≤ sizeLine ∧ (a ++ Str.ofString "...").length + a.length ≤ sizeLine ∧ (Str.ofString "...").length + a.length ≤ sizeLine ∧ (Str.ofString "..." ++ a).length + (Str.ofString "...").length ≤ sizeLine ∧
    (Str.ofString "..." ++ a ++ Str.ofString "...").length + a.length ≤ sizeLine ∧ (Str.ofString "..." ++ a ++ Str.ofString "..." ++ a).length + (Str.ofString "...").length ≤ sizeLine) ∧
    (Str.ofString "...").length + b.length ≤ sizeLine ∧ (Str.ofString "..." ++ b).length + (Str.ofString "...").length ≤ sizeLine ∧ (Str.ofString "..." ++ b ++ Str.ofString "...").length + a.length ≤ sizeLine ∧ (Str.ofString "..." ++ b ++ Str.ofString "..." ++ a).length + (Str.ofString "...").length ≤ sizeLine := by
  have hd : (Str.ofString "...").length = 3 := by decide +kernel
  simp only [Str.length_append, ha, hb, hd, sizeLine_eq]
  omega
theorem fits_two {a b c : Str} (ha : a.length = 1) (hb : b.length = 1) (hc : c.length = 1) :
    a.length + (Str.ofString "...").length ≤ sizeLine ∧ (a ++ Str.ofString "...").length + c.length ≤ sizeLine ∧ (a ++ Str.ofString "..." ++ c).length + (Str.ofString "...").length ≤ sizeLine ∧ (a ++ Str.ofString "..." ++ c ++ Str.ofString "...").length + b.length ≤ sizeLine := by
  have hd : (Str.ofString "...").length = 3 := by decide +kernel
  simp only [Str.length_append, ha, hb, hc, hd, sizeLine_eq]
  omega
end Mine

end
section
-- Pur01
theorem Mine.fresh_Pur01 : True := by
  w_top off
  trivial
open PySem PySem.W PyProof.Rows PySem.Calls PySem.Builtin.Str
set_option maxRecDepth 100000
namespace Mine
noncomputable def posN (cs : Cells) (c : Nat) : Nat := @List.rec _ (fun _ => Nat) 99 (fun q _ ih => @Bool.rec (fun _ => Nat) ih q.1 (Nat.beq q.2 c)) cs
noncomputable def atN (cs : Cells) (p : Nat) : Nat := @List.rec _ (fun _ => Nat) 15 (fun q _ ih => @Bool.rec (fun _ => Nat) ih q.2 (Nat.beq q.1 p)) cs
noncomputable def allN (n : Nat) (f : Nat → Bool) : Bool := @Nat.rec (fun _ => Bool) true (fun i ih => @Bool.rec (fun _ => Bool) false ih (f i)) n
noncomputable def bAnd (a b : Bool) : Bool := @Bool.rec (fun _ => Bool) false b a
noncomputable def bN (a : Bool) (x y : Nat) : Nat := @Bool.rec (fun _ => Nat) y x a
noncomputable def inN (cs : Cells) (k c : Nat) : Bool := bAnd (Nat.blt (posN cs k) (posN cs c)) (Nat.blt (posN cs c) (posN cs (k + 5)))
noncomputable def chkA (cs : Cells) : Bool := bAnd (allN 10 fun p => bAnd (Nat.blt (atN cs p) 10) (Nat.beq (posN cs (atN cs p)) p)) (allN 10 fun c => bAnd (Nat.blt (posN cs c) 10) (Nat.beq (atN cs (posN cs c)) c))
noncomputable def chkB (cs : Cells) : Bool := allN 5 fun k => bAnd (Nat.blt (posN cs k) (posN cs (k + 5))) ((cs.filter fun c => Nat.beq (c.2 % 5) k).map (·.1) == [posC cs k, posC cs (k + 5)])
noncomputable def sumN (n : Nat) (f : Nat → Nat) : Nat := @Nat.rec (fun _ => Nat) 0 (fun i ih => Nat.add (f i) ih) n
noncomputable def fstN (cs : Cells) (k : Nat) : Nat := sumN k fun c => bN (inN cs c k) 1 2
noncomputable def sndN (cs : Cells) (k : Nat) : Nat := sumN 5 fun c => bN (Nat.blt c k) (bN (inN cs c (k + 5)) 1 2) (bN (Nat.beq c k) 0 (Nat.add (bN (inN cs k c) 1 0) (bN (inN cs k (c + 5)) 1 0)))
noncomputable def chkE (cs : Cells) : Bool := allN 5 fun k => bAnd (Nat.beq (fstN cs k) (posN cs k)) (Nat.beq (Nat.succ (sndN cs k)) (posN cs (k + 5)))
noncomputable def figN (cs : Cells) (k : Nat) : Nat := sumN 5 fun c => bN (Nat.blt k c) (Nat.add (bN (inN cs k c) 1 0) (bN (inN cs k (c + 5)) 1 0)) 0
noncomputable def chkF (cs : Cells) (r0 r1 r2 r3 : Nat) : Bool := bAnd (Nat.beq (figN cs 0) r0) (bAnd (Nat.beq (figN cs 1) r1) (bAnd (Nat.beq (figN cs 2) r2) (Nat.beq (figN cs 3) r3)))
noncomputable def chkQ (cs : Cells) : Bool := allN 5 fun k => allN k fun c => bAnd (Nat.beq (bN (inN cs k c) 1 0) 0) (Nat.beq (bN (inN cs k (c + 5)) 1 0) (bN (inN cs c k) (bN (inN cs c (k + 5)) 0 1) 0))
noncomputable def chkX (cs : Cells) (r0 r1 r2 r3 : Nat) : Bool := bAnd (chkA cs) (bAnd (chkB cs) (bAnd (chkE cs) (bAnd (chkF cs r0 r1 r2 r3) (chkQ cs))))
noncomputable def n4 (c : Cells) (r0 r1 r2 r3 : Nat) : Bool := chkX (stepC 4 0 c) r0 r1 r2 r3
noncomputable def n3 (c : Cells) (r0 r1 r2 : Nat) : Bool := allN 3 fun r => n4 (stepC 3 r c) r0 r1 r2 r
noncomputable def n2 (c : Cells) (r0 r1 : Nat) : Bool := allN 5 fun r => n3 (stepC 2 r c) r0 r1 r
noncomputable def n1 (c : Cells) (r0 : Nat) : Bool := allN 7 fun r => n2 (stepC 1 r c) r0 r
noncomputable def n0 (r0 : Nat) : Bool := n1 (stepC 0 r0 []) r0
theorem n0_0 : n0 0 = true := by decide +kernel
theorem n0_1 : n0 1 = true := by decide +kernel
theorem n0_2 : n0 2 = true := by decide +kernel
theorem n0_3 : n0 3 = true := by decide +kernel
theorem n0_4 : n0 4 = true := by decide +kernel
theorem n0_5 : n0 5 = true := by decide +kernel
theorem n0_6 : n0 6 = true := by decide +kernel
theorem n0_7 : n0 7 = true := by decide +kernel
theorem n0_8 : n0 8 = true := by decide +kernel
theorem bAnd_iff {a b : Bool} : bAnd a b = true ↔ a = true ∧ b = true := by cases a <;> cases b <;> decide
theorem allN_at {n : Nat} {f : Nat → Bool} (h : allN n f = true) : ∀ i, i < n → f i = true := by
  induction n with
  | zero => intro i hi; omega
  | succ n ih =>
    have h' : bAnd (f n) (allN n f) = true := h
    rw [bAnd_iff] at h'
    intro i hi
    by_cases e : i = n
    · rw [e]; exact h'.1
    · exact ih h'.2 i (by omega)
theorem chkX_at {r0 r1 r2 r3 : Nat} (h0 : r0 < 9) (h1 : r1 < 7) (h2 : r2 < 5) (h3 : r3 < 3) : chkX (layC r0 r1 r2 r3) r0 r1 r2 r3 = true := by
  have h : n0 r0 = true := by
    match r0, h0 with
    | 0, _ => exact n0_0
    | 1, _ => exact n0_1
    | 2, _ => exact n0_2
    | 3, _ => exact n0_3
    | 4, _ => exact n0_4
    | 5, _ => exact n0_5
    | 6, _ => exact n0_6
    | 7, _ => exact n0_7
    | 8, _ => exact n0_8
  have a1 : allN 7 (fun r => n2 (stepC 1 r (stepC 0 r0 [])) r0 r) = true := h
  have a2 : allN 5 (fun r => n3 (stepC 2 r (stepC 1 r1 (stepC 0 r0 []))) r0 r1 r) = true := allN_at a1 r1 h1
  have a3 : allN 3 (fun r => n4 (stepC 3 r (stepC 2 r2 (stepC 1 r1 (stepC 0 r0 [])))) r0 r1 r2 r) = true := allN_at a2 r2 h2
  exact allN_at a3 r3 h3
theorem beqN (a b : Nat) : (a == b) = Nat.beq a b := by rw [Bool.eq_iff_iff, beq_iff_eq, Nat.beq_eq]
theorem posN_eq (cs : Cells) (c : Nat) : posC cs c = posN cs c := by
  unfold posC
  induction cs with
  | nil => rfl
  | cons q r ih =>
    rw [show posN (q :: r) c = bN (Nat.beq q.2 c) q.1 (posN r c) from rfl, List.find?_cons, beqN]
    cases Nat.beq q.2 c with
    | true => rfl
    | false => exact ih
theorem atN_eq (cs : Cells) (p : Nat) : (at' p cs).getD 15 = atN cs p := by
  unfold at'
  induction cs with
  | nil => rfl
  | cons q r ih =>
    rw [show atN (q :: r) p = bN (Nat.beq q.1 p) q.2 (atN r p) from rfl, List.find?_cons, beqN]
    cases Nat.beq q.1 p with
    | true => rfl
    | false => exact ih
theorem blt_iff {a b : Nat} : Nat.blt a b = true ↔ a < b := by rw [Nat.blt_eq]
theorem bAnd_eq (a b : Bool) : bAnd a b = (a && b) := by cases a <;> rfl
theorem bN_eq (a : Bool) (x y : Nat) : bN a x y = if a then x else y := by cases a <;> rfl
theorem inN_eq (cs : Cells) (k c : Nat) : inC cs k c = inN cs k c := by
  unfold inC inN
  rw [posN_eq, posN_eq, posN_eq, bAnd_eq, Bool.eq_iff_iff, Bool.and_eq_true, Bool.and_eq_true, blt_iff, blt_iff, decide_eq_true_iff, decide_eq_true_iff]
/-- what is known of a layout -/
structure LayFacts (cs : Cells) (R : Nat → Nat) : Prop where
  at_of : ∀ p, p < 10 → ∃ r, at' p cs = some r ∧ r < 10 ∧ posC cs r = p
  of_at : ∀ c, c < 10 → posC cs c < 10 ∧ at' (posC cs c) cs = some c
  lt : ∀ k, k < 5 → posC cs k < posC cs (k + 5)
  two : ∀ k, k < 5 → (cs.filter fun c => Nat.beq (c.2 % 5) k).map (·.1) = [posC cs k, posC cs (k + 5)]
  ends : ∀ k, k < 5 → fstN cs k = posC cs k ∧ Nat.succ (sndN cs k) = posC cs (k + 5)
  figs : ∀ k, k < 5 → figN cs k = R k
  pairs : ∀ k, k < 5 → ∀ c, c < k → inC cs k c = false ∧ inC cs k (c + 5) = (inC cs c k && !inC cs c (k + 5))
theorem lay_facts2 (z : Int) : LayFacts (csN 5 z) (fun k => restN k z) := by
  have h0 : restN 0 z < 9 := rest_lt _ 9 (by decide)
  have h1 : restN 1 z < 7 := rest_lt _ (-7) (by decide)
  have h2 : restN 2 z < 5 := rest_lt _ 5 (by decide)
  have h3 : restN 3 z < 3 := rest_lt _ (-3) (by decide)
  have h4 : restN 4 z < 1 := rest_lt _ 1 (by decide)
  have h := chkX_at h0 h1 h2 h3
  rw [← csN_lay z] at h
  generalize csN 5 z = cs at h
  unfold chkX at h
  rw [bAnd_iff, bAnd_iff, bAnd_iff, bAnd_iff] at h
  obtain ⟨hA, hB, hE, hF, hQ⟩ := h
  unfold chkA at hA
  rw [bAnd_iff] at hA
  have some_of : ∀ p, atN cs p < 10 → at' p cs = some (atN cs p) := by
    intro p hp
    rw [← atN_eq] at hp ⊢
    cases e : at' p cs with
    | none => rw [e] at hp; exact absurd hp (by decide)
    | some r => rfl
  constructor
  · intro p hp
    have := allN_at hA.1 p hp
    rw [bAnd_iff, blt_iff] at this
    exact ⟨atN cs p, some_of p this.1, this.1, by rw [posN_eq]; exact Nat.eq_of_beq_eq_true this.2⟩
  · intro c hc
    have := allN_at hA.2 c hc
    rw [bAnd_iff, blt_iff] at this
    have e := Nat.eq_of_beq_eq_true this.2
    rw [posN_eq]
    refine ⟨this.1, ?_⟩
    rw [some_of _ (by rw [e]; exact hc), e]
  · intro k hk
    have := allN_at hB k hk
    rw [bAnd_iff, blt_iff] at this
    rw [posN_eq, posN_eq]; exact this.1
  · intro k hk
    have := allN_at hB k hk
    rw [bAnd_iff] at this
    exact eq_of_beq this.2
  · intro k hk
    have := allN_at hE k hk
    rw [bAnd_iff] at this
    rw [posN_eq, posN_eq]
    exact ⟨Nat.eq_of_beq_eq_true this.1, Nat.eq_of_beq_eq_true this.2⟩
  · unfold chkF at hF
    rw [bAnd_iff, bAnd_iff, bAnd_iff] at hF
    intro k hk
    match k, hk with
    | 0, _ => exact Nat.eq_of_beq_eq_true hF.1
    | 1, _ => exact Nat.eq_of_beq_eq_true hF.2.1
    | 2, _ => exact Nat.eq_of_beq_eq_true hF.2.2.1
    | 3, _ => exact Nat.eq_of_beq_eq_true hF.2.2.2
    | 4, _ => show (0 : Nat) = restN 4 z; omega
  · intro k hk c hc
    have := allN_at (allN_at hQ k hk) c hc
    rw [bAnd_iff] at this
    have e1 := Nat.eq_of_beq_eq_true this.1
    have e2 := Nat.eq_of_beq_eq_true this.2
    rw [inN_eq, inN_eq, inN_eq, inN_eq]
    revert e1 e2
    cases inN cs k c <;> cases inN cs k (c + 5) <;> cases inN cs c k <;> cases inN cs c (k + 5) <;> decide
end Mine

end
section
-- PurT
theorem Mine.fresh_PurT : True := by
  w_top off
  trivial
open PySem PySem.W PyProof.Rows PySem.Calls PySem.Builtin.Str
set_option maxRecDepth 100000
namespace Mine
def tx (l : List Nat) : Str := ⟨l.toArray⟩
theorem tx_len (l : List Nat) : (tx l).length = l.length := by simp [tx, Str.length]
theorem tx_list (l : List Nat) : (tx l).cps.toList = l := by simp [tx]
theorem at_one (l : List Nat) (c i hi : Nat) (hh : hi ≤ l.length) : StrLaws.At (tx l) (tx [c]) hi i ↔ i < hi ∧ l[i]? = some c := by
  have h := StrLaws.subAt_one (tx l) c i
  rw [tx_list, tx_len] at h
  unfold StrLaws.At
  constructor
  · rintro ⟨h1, h2⟩
    have h1' : i + 1 ≤ hi := h1
    exact ⟨h1', h.mp ⟨by show i + 1 ≤ _; (first | lia | omega), h2⟩⟩
  · rintro ⟨h1, h2⟩
    exact ⟨h1, (h.mpr h2).2⟩
theorem at_nil (x : Str) (hi i : Nat) (h : i ≤ hi) : StrLaws.At x (tx []) hi i := by
  refine ⟨h, ?_⟩
  rw [StrLaws.subAt_eq]
  show (List.take 0 _ == []) = true
  rw [List.take_zero]; rfl
theorem occ_head_to (x y : Str) (lo hi limit : Nat) (hl : 1 ≤ limit) :
    (occurrences x y lo hi limit = [] ∧ ∀ i, lo ≤ i → ¬ StrLaws.At x y hi i) ∨
    ∃ i r, occurrences x y lo hi limit = i :: r ∧ lo ≤ i ∧ StrLaws.At x y hi i ∧ ∀ k, lo ≤ k → k < i → ¬ StrLaws.At x y hi k := by
  rw [StrLaws.occ_eq]
  rcases StrLaws.occ_first x y hi limit hl (List.range' lo (hi + 1 - lo)) lo (fun i h => (List.mem_range'_1.mp h).1) with ⟨h0, hn⟩ | ⟨pre, a, post, e, h0, ha, hn⟩
  · refine .inl ⟨by rw [h0], fun i hlo h => ?_⟩
    exact hn i (by have := h.1; rw [List.mem_range'_1]; (first | lia | omega)) h
  · have hs := StrLaws.range'_split_from e
    refine .inr ⟨a, ((forIn (List.range' lo (hi + 1 - lo)) ((#[] : Array Nat), lo) (StrLaws.occBody x y hi limit)).run.fst.toList).tail, ?_, hs.1, ha, fun k hk0 hk => hn k (hs.2 k hk0 hk)⟩
    generalize (forIn (List.range' lo (hi + 1 - lo)) ((#[] : Array Nat), lo) (StrLaws.occBody x y hi limit)).run.fst = arr at h0
    have h1 : arr.toList[0]? = some a := by simpa using h0
    cases hL : arr.toList with
    | nil => rw [hL] at h1; cases h1
    | cons b t => rw [hL] at h1; simp at h1; rw [h1]; rfl
theorem fromIndex_nat (n a : Nat) : fromIndex n ((a : Nat) : Int) = a := by
  unfold fromIndex
  rw [if_neg (by (first | lia | omega))]
  (first | lia | omega)
theorem find4_spec (x y : Str) (p e : Nat) (he : e ≤ x.length) :
    (find4 x y (p : Int) (e : Int) = -1 ∧ ∀ i, p ≤ i → ¬ StrLaws.At x y e i) ∨ ∃ i : Nat, find4 x y (p : Int) (e : Int) = (i : Int) ∧ p ≤ i ∧ StrLaws.At x y e i ∧ ∀ k, p ≤ k → k < i → ¬ StrLaws.At x y e k := by
  unfold find4
  rw [fromIndex_nat, fromIndex_nat, Nat.min_eq_left he]
  rcases occ_head_to x y p e 1 (Nat.le_refl _) with ⟨h0, hn⟩ | ⟨i, r, h0, h1, h2, h3⟩
  · rw [h0]; exact .inl ⟨rfl, hn⟩
  · rw [h0]; exact .inr ⟨i, rfl, h1, h2, h3⟩
theorem find4_one {l : List Nat} {c p e : Nat} (he : e ≤ l.length) :
    (find4 (tx l) (tx [c]) (p : Int) (e : Int) = -1 ∧ ∀ i, p ≤ i → i < e → l[i]? ≠ some c) ∨ ∃ i : Nat, find4 (tx l) (tx [c]) (p : Int) (e : Int) = (i : Int) ∧ p ≤ i ∧ i < e ∧ l[i]? = some c ∧ ∀ k, p ≤ k → k < i → l[k]? ≠ some c := by
  rcases find4_spec (tx l) (tx [c]) p e (by rw [tx_len]; exact he) with ⟨h0, hn⟩ | ⟨i, h0, h1, h2, h3⟩
  · exact .inl ⟨h0, fun i h1 h2 h3 => hn i h1 ((at_one l c i e he).mpr ⟨h2, h3⟩)⟩
  · have h4 := (at_one l c i e he).mp h2
    exact .inr ⟨i, h0, h1, h4.1, h4.2, fun k k1 k2 k3 => h3 k k1 k2 ((at_one l c k e he).mpr ⟨by (first | lia | omega), k3⟩)⟩
theorem find4_nil {x : Str} {p e : Nat} (he : e ≤ x.length) (hp : p ≤ e) : find4 x (tx []) (p : Int) (e : Int) = (p : Int) := by
  rcases find4_spec x (tx []) p e he with ⟨_, hn⟩ | ⟨i, h0, h1, h2, h3⟩
  · exact absurd (at_nil x e p hp) (hn p (Nat.le_refl _))
  · rcases Nat.lt_or_ge p i with h | h
    · exact absurd (at_nil x e p hp) (h3 p (Nat.le_refl _) h)
    · rw [h0]; congr 1; (first | lia | omega)
theorem starts_one (l : List Nat) (c : Nat) : Txt.startswith (tx l) (tx [c]) = (l[0]? == some c) := by
  have h := at_one l c 0 l.length (Nat.le_refl _)
  unfold StrLaws.At at h
  unfold Txt.startswith
  rw [Bool.eq_iff_iff, Bool.and_eq_true, decide_eq_true_iff, tx_len l, h, beq_iff_eq]
  refine ⟨fun x => x.2, fun x => ⟨?_, x⟩⟩
  rcases l with _ | ⟨a, l⟩
  · cases x
  · simp
theorem ends_one (l : List Nat) (c : Nat) : Txt.endswith (tx l) (tx [c]) = (l[l.length - 1]? == some c) := by
  have h := at_one l c (l.length - 1) l.length (Nat.le_refl _)
  unfold StrLaws.At at h
  unfold Txt.endswith
  rw [Bool.eq_iff_iff, Bool.and_eq_true, decide_eq_true_iff, tx_len l, beq_iff_eq]
  have e1 : (tx [c]).length = 1 := rfl
  rw [e1] at h ⊢
  constructor
  · rintro ⟨h1, h2⟩
    exact (h.mp ⟨by (first | lia | omega), h2⟩).2
  · intro x
    have hl : l.length - 1 < l.length := by
      rcases Nat.lt_or_ge (l.length - 1) l.length with h | h
      · exact h
      · rw [List.getElem?_eq_none h] at x; cases x
    exact ⟨by (first | lia | omega), (h.mpr ⟨hl, x⟩).2⟩
/-- a, c and z, with three dots between -/
theorem ell_aca {g : List Nat} {a c z : Nat} (h2 : 2 ≤ g.length) (ha : g[0]? = some a) (hz : g[g.length - 1]? = some z) :
    ell1 (tx g) (tx [a]) [tx [c]] (tx [z]) = true ↔ ∃ i, 1 ≤ i ∧ i < g.length - 1 ∧ g[i]? = some c := by
  unfold ell1
  rw [if_pos (by exact (by decide : ((1 : Nat) : Int) != 0)), starts_one, if_pos (by rw [ha]; exact beq_self_eq_true _)]
  unfold ell2
  rw [if_pos (by exact (by decide : ((1 : Nat) : Int) != 0)), ends_one, if_pos (by rw [hz]; exact beq_self_eq_true _)]
  unfold ell3
  have e1 : ((tx g).length : Int) - ((tx [z]).length : Int) = ((g.length - 1 : Nat) : Int) := by
    rw [tx_len]; show (g.length : Int) - ((1 : Nat) : Int) = _; (first | lia | omega)
  have e2 : (((tx [a]).length : Nat) : Int) = ((1 : Nat) : Int) := rfl
  rw [e1, e2, if_neg (by (first | lia | omega))]
  unfold ellGo
  rcases find4_one (l := g) (c := c) (p := 1) (e := g.length - 1) (by (first | lia | omega)) with ⟨h0, hn⟩ | ⟨i, h0, h1, h3, h4, h5⟩
  · rw [h0, if_pos (by decide)]
    exact ⟨fun h => (by cases h), fun ⟨i, a1, a2, a3⟩ => absurd a3 (hn i a1 a2)⟩
  · rw [h0, if_neg (by (first | lia | omega))]
    exact ⟨fun _ => ⟨i, h1, h3, h4⟩, fun _ => rfl⟩
theorem ell_first {g : List Nat} {a : Nat} : ell1 (tx g) (tx [a]) [] (tx []) = (g[0]? == some a) := by
  unfold ell1
  rw [if_pos (by exact (by decide : ((1 : Nat) : Int) != 0)), starts_one]
  cases h : (g[0]? == some a) with
  | false => rfl
  | true =>
    rw [if_pos rfl]
    unfold ell2
    rw [if_neg (by exact (by decide : ¬ ((((0 : Nat) : Int) != 0) = true)))]
    have hl : 1 ≤ g.length := by
      rcases g with _ | ⟨b, g⟩
      · cases h
      · simp
    unfold ell3
    have e2 : (((tx [a]).length : Nat) : Int) = ((1 : Nat) : Int) := rfl
    rw [tx_len g, e2, if_neg (by (first | lia | omega))]
    show ellGo _ _ [tx []] _ = true
    unfold ellGo
    rw [find4_nil (by rw [tx_len]; exact Nat.le_refl _) hl, if_neg (by (first | lia | omega))]
    rfl
theorem ell_last {g : List Nat} {a : Nat} : ell1 (tx g) (tx []) [] (tx [a]) = (g[g.length - 1]? == some a) := by
  unfold ell1
  rw [if_neg (by exact (by decide : ¬ ((((0 : Nat) : Int) != 0) = true)))]
  unfold ell2
  rw [if_pos (by exact (by decide : ((1 : Nat) : Int) != 0)), ends_one]
  cases h : (g[g.length - 1]? == some a) with
  | false => rfl
  | true =>
    rw [if_pos rfl]
    have hl : 1 ≤ g.length := by
      rcases g with _ | ⟨b, g⟩
      · cases h
      · simp
    unfold ell3
    have e1 : ((tx g).length : Int) - ((tx [a]).length : Int) = ((g.length - 1 : Nat) : Int) := by
      rw [tx_len]; show (g.length : Int) - ((1 : Nat) : Int) = _; (first | lia | omega)
    rw [e1, if_neg (by (first | lia | omega))]
    show ellGo _ _ [tx []] ((0 : Nat) : Int) = true
    unfold ellGo
    rw [find4_nil (by rw [tx_len]; (first | lia | omega)) (by (first | lia | omega)), if_neg (by (first | lia | omega))]
    rfl
/-- two signs in a row somewhere -/
theorem ell_two {g : List Nat} {a b : Nat} : ell1 (tx g) (tx []) [tx [a], tx [b]] (tx []) = true ↔ ∃ i j : Nat, g[i]? = some a ∧ i < j ∧ g[j]? = some b := by
  unfold ell1
  rw [if_neg (by exact (by decide : ¬ ((((0 : Nat) : Int) != 0) = true)))]
  unfold ell2
  rw [if_neg (by exact (by decide : ¬ ((((0 : Nat) : Int) != 0) = true)))]
  unfold ell3
  rw [tx_len, if_neg (by (first | lia | omega))]
  show ellGo (tx g) _ [tx [], tx [a], tx [b], tx []] ((0 : Nat) : Int) = true ↔ _
  have e0 : ∀ q : Nat, ((q : Nat) : Int) + (((tx []).length : Nat) : Int) = ((q : Nat) : Int) := fun q => by show ((q : Nat) : Int) + ((0 : Nat) : Int) = _; (first | lia | omega)
  have e1 : ∀ q c : Nat, ((q : Nat) : Int) + (((tx [c]).length : Nat) : Int) = ((q + 1 : Nat) : Int) := fun q c => by show ((q : Nat) : Int) + ((1 : Nat) : Int) = _; (first | lia | omega)
  unfold ellGo
  rw [find4_nil (p := 0) (by rw [tx_len]; (first | lia | omega)) (by (first | lia | omega)), if_neg (by (first | lia | omega)), e0]
  unfold ellGo
  rcases find4_one (l := g) (c := a) (p := 0) (e := g.length) (Nat.le_refl _) with ⟨h0, hn⟩ | ⟨i, h0, h1, h3, h4, h5⟩
  · rw [h0, if_pos (by decide)]
    refine ⟨fun h => (by cases h), fun ⟨i, j, a1, a2, a3⟩ => absurd a1 (hn i (Nat.zero_le _) ?_)⟩
    rcases Nat.lt_or_ge i g.length with h | h
    · exact h
    · rw [List.getElem?_eq_none h] at a1; cases a1
  · rw [h0, if_neg (by (first | lia | omega)), e1]
    unfold ellGo
    rcases find4_one (l := g) (c := b) (p := i + 1) (e := g.length) (Nat.le_refl _) with ⟨k0, kn⟩ | ⟨j, k0, k1, k3, k4, k5⟩
    · rw [k0, if_pos (by decide)]
      refine ⟨fun h => (by cases h), fun ⟨i', j', a1, a2, a3⟩ => absurd a3 (kn j' ?_ ?_)⟩
      · rcases Nat.lt_or_ge i' i with h | h
        · exact absurd a1 (h5 i' (Nat.zero_le _) h)
        · (first | lia | omega)
      · rcases Nat.lt_or_ge j' g.length with h | h
        · exact h
        · rw [List.getElem?_eq_none h] at a3; cases a3
    · rw [k0, if_neg (by (first | lia | omega)), e1]
      unfold ellGo
      rw [find4_nil (by rw [tx_len]; exact Nat.le_refl _) (by (first | lia | omega)), if_neg (by (first | lia | omega))]
      exact ⟨fun _ => ⟨i, j, h4, by (first | lia | omega), k4⟩, fun _ => rfl⟩
/-- a text without dots takes itself alone -/
theorem ell_plain {g : List Nat} {got : Str} (h : 46 ∉ g) : ellip (tx g) got = (tx g == got) := by
  unfold ellip
  rw [if_pos]
  have e := StrLaws.found_iff (tx g) dots
  cases hq : (occurrences (tx g) dots 0 (tx g).length 1).isEmpty with
  | true => rfl
  | false =>
    rw [hq] at e
    obtain ⟨i, h1, h2⟩ := e.mp rfl
    rw [StrLaws.subAt_eq, tx_list] at h2
    have h3 := eq_of_beq h2
    have h4 : (46 : Nat) ∈ (List.drop i g).take dots.length := by rw [h3]; decide +kernel
    exact absurd (List.mem_of_mem_drop (List.mem_of_mem_take h4)) h
theorem join_ones (l : List Nat) : Txt.join (Str.ofString "") (l.map fun c => tx [c]) = tx l := by
  show PySem.Builtin.Str.glued _ _ = _
  rw [StrLaws.glued_eq_join]
  induction l with
  | nil => rfl
  | cons a r ih =>
    cases r with
    | nil => rfl
    | cons b r =>
      show tx [a] ++ Str.ofString "" ++ Str.join _ ((b :: r).map fun c => tx [c]) = _
      rw [ih]
      apply Str.ext'
      rw [Str.cps_append, Str.cps_append]
      simp [tx, show (Str.ofString "").cps = #[] from rfl]
theorem slice_tx (l : List Nat) {a b : Nat} (hab : a ≤ b) (hb : b ≤ l.length) : Txt.slice (tx l) (some ((a : Nat) : Int)) (some ((b : Nat) : Int)) = tx ((l.drop a).take (b - a)) := by
  have := StrLaws.sliceText_nat (tx l) hab (by rw [tx_len]; exact hb)
  rw [tx_list] at this
  exact this
end Mine

end
section
-- Tur01
theorem Mine.fresh_Tur01 : True := by
  w_top off
  trivial
open PySem PySem.W PyProof.Rows PySem.Calls PySem.Builtin.Str
set_option maxRecDepth 100000
set_option maxHeartbeats 1000000
set_option linter.unusedSimpArgs false
namespace Mine
def cd (r : Nat) : Nat := [97, 98, 99, 100, 101, 65, 66, 67, 68, 69].getD r 45
def wl (cs : Cells) : List Nat := (List.range 10).map fun p => ((at' p cs).map cd).getD 45
theorem sgn_cd : ∀ c, c < 10 → sgn c = tx [cd c] := by decide +kernel
theorem cd_inj : ∀ c, c < 10 → ∀ r, r < 10 → cd c = cd r → c = r := by decide +kernel
theorem wl_len (cs : Cells) : (wl cs).length = 10 := by simp [wl]
theorem wlC_wl {cs : Cells} (h : ∀ c ∈ cs, CellOk c) : wlC cs = (wl cs).map fun c => tx [c] := by
  unfold wlC wl
  rw [List.map_map]
  refine List.map_congr_left fun p _ => ?_
  show ((at' p cs).map sgn).getD (Str.ofString "-") = tx [((at' p cs).map cd).getD 45]
  cases e : at' p cs with
  | none => decide +kernel
  | some r => exact sgn_cd r (at_ok h e)
theorem wl_get {cs : Cells} {R : Nat → Nat} (L : LayFacts cs R) {p c : Nat} (hc : c < 10) : (wl cs)[p]? = some (cd c) ↔ posC cs c = p := by
  unfold wl
  constructor
  · intro h
    have hp : p < 10 := by
      rcases Nat.lt_or_ge p 10 with h1 | h1
      · exact h1
      · rw [List.getElem?_eq_none (by simp; (first | lia | omega))] at h; cases h
    rw [List.getElem?_map, List.getElem?_range hp] at h
    obtain ⟨r, h1, h2, h3⟩ := L.at_of p hp
    rw [Option.map_some, h1] at h
    have := cd_inj r h2 c hc (Option.some.inj h)
    rw [← this]; exact h3
  · rintro rfl
    obtain ⟨h1, h2⟩ := L.of_at c hc
    rw [List.getElem?_map, List.getElem?_range h1, Option.map_some, h2]; rfl
theorem wl_nodot (cs : Cells) (h : ∀ c ∈ cs, CellOk c) : 46 ∉ wl cs := by
  intro hm
  obtain ⟨p, _, e⟩ := List.mem_map.mp hm
  cases ha : at' p cs with
  | none => rw [ha] at e; exact absurd e (by decide)
  | some r =>
    rw [ha] at e
    exact (by decide : ∀ r, r < 10 → cd r ≠ 46) r (at_ok h ha) e
theorem upper_cd : ∀ k, k < 5 → Txt.upper (sgn k) = tx [cd (k + 5)] := by decide +kernel
theorem lower_five : ∀ k, k < 5 → ∀ c, c < 10 → (Txt.lower (sgn c) == Txt.lower (sgn (k + 5))) = Nat.beq (c % 5) k := by decide +kernel
theorem want_e1 : ∀ k, k < 5 → ∀ c, c < 10 → (occurrences (tx [cd k] ++ Str.ofString "..." ++ tx [cd c] ++ Str.ofString "..." ++ tx [cd (k + 5)]) dots 0 (tx [cd k] ++ Str.ofString "..." ++ tx [cd c] ++ Str.ofString "..." ++ tx [cd (k + 5)]).length 1).isEmpty = false ∧
    Txt.split (tx [cd k] ++ Str.ofString "..." ++ tx [cd c] ++ Str.ofString "..." ++ tx [cd (k + 5)]) dots = [tx [cd k], tx [cd c], tx [cd (k + 5)]] := by decide +kernel
theorem want_e2 : ∀ k, k < 5 → ellip (sgn k ++ Str.ofString "..." ++ sgn k) (sgn k) = false := by decide +kernel
theorem want_e3 : ∀ b, b < 10 → ∀ k, k < 5 → (occurrences (Str.ofString "..." ++ tx [cd b] ++ Str.ofString "..." ++ tx [cd k] ++ Str.ofString "...") dots 0 (Str.ofString "..." ++ tx [cd b] ++ Str.ofString "..." ++ tx [cd k] ++ Str.ofString "...").length 1).isEmpty = false ∧
    Txt.split (Str.ofString "..." ++ tx [cd b] ++ Str.ofString "..." ++ tx [cd k] ++ Str.ofString "...") dots = [tx [], tx [cd b], tx [cd k], tx []] := by decide +kernel
theorem want_e6 : ∀ k, k < 5 → (occurrences (tx [cd k] ++ Str.ofString "...") dots 0 (tx [cd k] ++ Str.ofString "...").length 1).isEmpty = false ∧ Txt.split (tx [cd k] ++ Str.ofString "...") dots = [tx [cd k], tx []] := by decide +kernel
theorem want_e8 : ∀ k, k < 10 → (occurrences (Str.ofString "..." ++ tx [cd k]) dots 0 (Str.ofString "..." ++ tx [cd k]).length 1).isEmpty = false ∧ Txt.split (Str.ofString "..." ++ tx [cd k]) dots = [tx [], tx [cd k]] := by decide +kernel
theorem ell_parts {want got a z : Str} {mid : List Str} (h : (occurrences want dots 0 want.length 1).isEmpty = false ∧ Txt.split want dots = a :: (mid ++ [z])) : ellip want got = ell1 got a mid z := by
  unfold ellip
  rw [h.1, h.2]
  simp
theorem turn_facts {cs : Cells} {R : Nat → Nat} (L : LayFacts cs R) (ok : ∀ c ∈ cs, CellOk c) {k : Nat} (hk : k < 5) : TurnFacts cs (tx (wl cs)) k := by
  have hlt := L.lt k hk
  have hb := (L.of_at (k + 5) (by first | with_reducible assumption | with_reducible exact lt_num (by with_reducible assumption) (Nat.le_of_ble_eq_true rfl) | with_reducible exact le_num (by with_reducible assumption) (Nat.le_of_ble_eq_true rfl) | with_reducible exact le_le (by with_reducible assumption) (Nat.le_of_ble_eq_true rfl) | (first | lia | omega))).1
  have gk : (wl cs)[posC cs k]? = some (cd k) := (wl_get L (by first | with_reducible assumption | with_reducible exact lt_num (by with_reducible assumption) (Nat.le_of_ble_eq_true rfl) | with_reducible exact le_num (by with_reducible assumption) (Nat.le_of_ble_eq_true rfl) | with_reducible exact le_le (by with_reducible assumption) (Nat.le_of_ble_eq_true rfl) | (first | lia | omega))).mpr rfl
  have gK : (wl cs)[posC cs (k + 5)]? = some (cd (k + 5)) := (wl_get L (by first | with_reducible assumption | with_reducible exact lt_num (by with_reducible assumption) (Nat.le_of_ble_eq_true rfl) | with_reducible exact le_num (by with_reducible assumption) (Nat.le_of_ble_eq_true rfl) | with_reducible exact le_le (by with_reducible assumption) (Nat.le_of_ble_eq_true rfl) | (first | lia | omega))).mpr rfl
  have hl := wl_len cs
  have hsl : Txt.slice (tx (wl cs)) (some ((posC cs k : Nat) : Int)) (some (((posC cs (k + 5) : Nat) : Int) + 1)) = tx (((wl cs).drop (posC cs k)).take (posC cs (k + 5) + 1 - posC cs k)) := by
    have := slice_tx (wl cs) (a := posC cs k) (b := posC cs (k + 5) + 1) (by first | with_reducible assumption | with_reducible exact lt_num (by with_reducible assumption) (Nat.le_of_ble_eq_true rfl) | with_reducible exact le_num (by with_reducible assumption) (Nat.le_of_ble_eq_true rfl) | with_reducible exact le_le (by with_reducible assumption) (Nat.le_of_ble_eq_true rfl) | (first | lia | omega)) (by first | with_reducible assumption | with_reducible exact lt_num (by with_reducible assumption) (Nat.le_of_ble_eq_true rfl) | with_reducible exact le_num (by with_reducible assumption) (Nat.le_of_ble_eq_true rfl) | with_reducible exact le_le (by with_reducible assumption) (Nat.le_of_ble_eq_true rfl) | (first | lia | omega))
    rw [← this]; rfl
  have hal : (((wl cs).drop (posC cs k)).take (posC cs (k + 5) + 1 - posC cs k)).length = posC cs (k + 5) + 1 - posC cs k := by
    rw [List.length_take, List.length_drop, hl]; (first | lia | omega)
  have hag : ∀ i, i < posC cs (k + 5) + 1 - posC cs k → (((wl cs).drop (posC cs k)).take (posC cs (k + 5) + 1 - posC cs k))[i]? = (wl cs)[posC cs k + i]? := by
    intro i hi
    rw [List.getElem?_take_of_lt hi, List.getElem?_drop]
  have hnd : 46 ∉ ((wl cs).drop (posC cs k)).take (posC cs (k + 5) + 1 - posC cs k) := fun h => wl_nodot cs ok (List.mem_of_mem_drop (List.mem_of_mem_take h))
  have hwl : (tx (wl cs)).length = 10 := by rw [tx_len, hl]
  have short : ∀ a b c d e : Str, a.length ≤ 10 → b.length ≤ 10 → c.length ≤ 10 → d.length ≤ 10 → e.length ≤ 10 → (a ++ b ++ c ++ d ++ e).length ≤ 1000 := by
    intro a b c d e h1 h2 h3 h4 h5
    rw [Str.length_append, Str.length_append, Str.length_append, Str.length_append]; (first | lia | omega)
  have one : ∀ c, (tx [c]).length ≤ 10 := fun c => by show 1 ≤ 10; (first | lia | omega)
  have dt : (Str.ofString "...").length ≤ 10 := by decide +kernel
  refine ⟨?_, hlt, hb, ?_, ?_, ?_, ?_, ?_, ?_, ?_, ?_⟩
  · have h := L.two k hk
    unfold allR rowsT
    rw [List.filter_map, List.map_map]
    have e : cs.filter ((fun r : Str × Str => Txt.lower r.1 == Txt.lower (sgn (k + 5))) ∘ fun c : Nat × Nat => (sgn c.2, pn c.1)) = cs.filter fun c => Nat.beq (c.2 % 5) k := by
      refine List.filter_congr fun c hc => ?_
      exact lower_five k hk c.2 (ok c hc).2
    rw [e]
    have := congrArg (List.map pn) h
    rw [List.map_map] at this
    exact this
  · intro c hc
    rw [hsl, upper_cd k hk, sgn_cd k (by first | with_reducible assumption | with_reducible exact lt_num (by with_reducible assumption) (Nat.le_of_ble_eq_true rfl) | with_reducible exact le_num (by with_reducible assumption) (Nat.le_of_ble_eq_true rfl) | with_reducible exact le_le (by with_reducible assumption) (Nat.le_of_ble_eq_true rfl) | (first | lia | omega)), sgn_cd c hc]
    refine ⟨?_, short _ _ _ _ _ (one _) dt (one _) dt (one _), by rw [tx_len, hal]; (first | lia | omega)⟩
    rw [ell_parts (mid := [tx [cd c]]) (want_e1 k hk c hc), Bool.eq_iff_iff, ell_aca (by rw [hal]; (first | lia | omega)) (by rw [hag 0 (by first | with_reducible assumption | with_reducible exact lt_num (by with_reducible assumption) (Nat.le_of_ble_eq_true rfl) | with_reducible exact le_num (by with_reducible assumption) (Nat.le_of_ble_eq_true rfl) | with_reducible exact le_le (by with_reducible assumption) (Nat.le_of_ble_eq_true rfl) | (first | lia | omega))]; exact gk) (by rw [hal, hag _ (by first | with_reducible assumption | with_reducible exact lt_num (by with_reducible assumption) (Nat.le_of_ble_eq_true rfl) | with_reducible exact le_num (by with_reducible assumption) (Nat.le_of_ble_eq_true rfl) | with_reducible exact le_le (by with_reducible assumption) (Nat.le_of_ble_eq_true rfl) | (first | lia | omega))]; rw [← gK]; congr 1; (first | lia | omega))]
    unfold inC
    rw [Bool.and_eq_true, decide_eq_true_iff, decide_eq_true_iff]
    constructor
    · rintro ⟨i, h1, h2, h3⟩
      rw [hal] at h2
      rw [hag i (by first | with_reducible assumption | with_reducible exact lt_num (by with_reducible assumption) (Nat.le_of_ble_eq_true rfl) | with_reducible exact le_num (by with_reducible assumption) (Nat.le_of_ble_eq_true rfl) | with_reducible exact le_le (by with_reducible assumption) (Nat.le_of_ble_eq_true rfl) | (first | lia | omega)), wl_get L hc] at h3
      (first | lia | omega)
    · rintro ⟨h1, h2⟩
      refine ⟨posC cs c - posC cs k, by (first | lia | omega), by rw [hal]; (first | lia | omega), ?_⟩
      rw [hag _ (by first | with_reducible assumption | with_reducible exact lt_num (by with_reducible assumption) (Nat.le_of_ble_eq_true rfl) | with_reducible exact le_num (by with_reducible assumption) (Nat.le_of_ble_eq_true rfl) | with_reducible exact le_le (by with_reducible assumption) (Nat.le_of_ble_eq_true rfl) | (first | lia | omega)), wl_get L hc]; (first | lia | omega)
  · exact ⟨want_e2 k hk, by rw [sgn_cd k (by first | with_reducible assumption | with_reducible exact lt_num (by with_reducible assumption) (Nat.le_of_ble_eq_true rfl) | with_reducible exact le_num (by with_reducible assumption) (Nat.le_of_ble_eq_true rfl) | with_reducible exact le_le (by with_reducible assumption) (Nat.le_of_ble_eq_true rfl) | (first | lia | omega)), Str.length_append, Str.length_append]; exact Nat.le_trans (Nat.add_le_add (Nat.add_le_add (one _) dt) (one _)) (by decide), by rw [sgn_cd k (by first | with_reducible assumption | with_reducible exact lt_num (by with_reducible assumption) (Nat.le_of_ble_eq_true rfl) | with_reducible exact le_num (by with_reducible assumption) (Nat.le_of_ble_eq_true rfl) | with_reducible exact le_le (by with_reducible assumption) (Nat.le_of_ble_eq_true rfl) | (first | lia | omega))]; exact Nat.le_trans (one _) (by decide)⟩
  · rw [sgn_cd k (by first | with_reducible assumption | with_reducible exact lt_num (by with_reducible assumption) (Nat.le_of_ble_eq_true rfl) | with_reducible exact le_num (by with_reducible assumption) (Nat.le_of_ble_eq_true rfl) | with_reducible exact le_le (by with_reducible assumption) (Nat.le_of_ble_eq_true rfl) | (first | lia | omega))]
    refine ⟨?_, short _ _ _ _ _ dt (one _) dt (one _) dt, by rw [hwl]; (first | lia | omega)⟩
    rw [ell_parts (mid := [tx [cd k], tx [cd k]]) (want_e3 k (by first | with_reducible assumption | with_reducible exact lt_num (by with_reducible assumption) (Nat.le_of_ble_eq_true rfl) | with_reducible exact le_num (by with_reducible assumption) (Nat.le_of_ble_eq_true rfl) | with_reducible exact le_le (by with_reducible assumption) (Nat.le_of_ble_eq_true rfl) | (first | lia | omega)) k hk), ← Bool.not_eq_true, ell_two]
    rintro ⟨i, j, h1, h2, h3⟩
    rw [wl_get L (by first | with_reducible assumption | with_reducible exact lt_num (by with_reducible assumption) (Nat.le_of_ble_eq_true rfl) | with_reducible exact le_num (by with_reducible assumption) (Nat.le_of_ble_eq_true rfl) | with_reducible exact le_le (by with_reducible assumption) (Nat.le_of_ble_eq_true rfl) | (first | lia | omega))] at h1 h3
    (first | lia | omega)
  · rw [upper_cd k hk, sgn_cd k (by first | with_reducible assumption | with_reducible exact lt_num (by with_reducible assumption) (Nat.le_of_ble_eq_true rfl) | with_reducible exact le_num (by with_reducible assumption) (Nat.le_of_ble_eq_true rfl) | with_reducible exact le_le (by with_reducible assumption) (Nat.le_of_ble_eq_true rfl) | (first | lia | omega))]
    refine ⟨?_, short _ _ _ _ _ dt (one _) dt (one _) dt, by rw [hwl]; (first | lia | omega)⟩
    rw [ell_parts (mid := [tx [cd (k + 5)], tx [cd k]]) (want_e3 (k + 5) (by first | with_reducible assumption | with_reducible exact lt_num (by with_reducible assumption) (Nat.le_of_ble_eq_true rfl) | with_reducible exact le_num (by with_reducible assumption) (Nat.le_of_ble_eq_true rfl) | with_reducible exact le_le (by with_reducible assumption) (Nat.le_of_ble_eq_true rfl) | (first | lia | omega)) k hk), ← Bool.not_eq_true, ell_two]
    rintro ⟨i, j, h1, h2, h3⟩
    rw [wl_get L (by first | with_reducible assumption | with_reducible exact lt_num (by with_reducible assumption) (Nat.le_of_ble_eq_true rfl) | with_reducible exact le_num (by with_reducible assumption) (Nat.le_of_ble_eq_true rfl) | with_reducible exact le_le (by with_reducible assumption) (Nat.le_of_ble_eq_true rfl) | (first | lia | omega))] at h1 h3
    (first | lia | omega)
  · rw [hsl]
    refine ⟨by rw [ell_plain hnd]; exact beq_self_eq_true _, by rw [tx_len, hal]; (first | lia | omega), by rw [tx_len, hal]; (first | lia | omega)⟩
  · rw [sgn_cd k (by first | with_reducible assumption | with_reducible exact lt_num (by with_reducible assumption) (Nat.le_of_ble_eq_true rfl) | with_reducible exact le_num (by with_reducible assumption) (Nat.le_of_ble_eq_true rfl) | with_reducible exact le_le (by with_reducible assumption) (Nat.le_of_ble_eq_true rfl) | (first | lia | omega))]
    refine ⟨?_, by rw [Str.length_append]; exact Nat.le_trans (Nat.add_le_add (one _) dt) (by decide), by rw [hwl]; (first | lia | omega)⟩
    rw [ell_parts (mid := []) (want_e6 k hk), ell_first, Bool.eq_iff_iff, beq_iff_eq, beq_iff_eq, wl_get L (by first | with_reducible assumption | with_reducible exact lt_num (by with_reducible assumption) (Nat.le_of_ble_eq_true rfl) | with_reducible exact le_num (by with_reducible assumption) (Nat.le_of_ble_eq_true rfl) | with_reducible exact le_le (by with_reducible assumption) (Nat.le_of_ble_eq_true rfl) | (first | lia | omega))]
    (first | lia | omega)
  · rw [hsl]
    exact ⟨ell_plain hnd, by rw [tx_len, hal]; (first | lia | omega), by rw [hwl]; (first | lia | omega)⟩
  · rw [upper_cd k hk]
    refine ⟨?_, by rw [Str.length_append]; exact Nat.le_trans (Nat.add_le_add dt (one _)) (by decide), by rw [hwl]; (first | lia | omega)⟩
    rw [ell_parts (mid := []) (want_e8 (k + 5) (by first | with_reducible assumption | with_reducible exact lt_num (by with_reducible assumption) (Nat.le_of_ble_eq_true rfl) | with_reducible exact le_num (by with_reducible assumption) (Nat.le_of_ble_eq_true rfl) | with_reducible exact le_le (by with_reducible assumption) (Nat.le_of_ble_eq_true rfl) | (first | lia | omega))), ell_last, Bool.eq_iff_iff, beq_iff_eq, beq_iff_eq, wl_get L (by first | with_reducible assumption | with_reducible exact lt_num (by with_reducible assumption) (Nat.le_of_ble_eq_true rfl) | with_reducible exact le_num (by with_reducible assumption) (Nat.le_of_ble_eq_true rfl) | with_reducible exact le_le (by with_reducible assumption) (Nat.le_of_ble_eq_true rfl) | (first | lia | omega)), hl]
    (first | lia | omega)
theorem bN12 (b : Bool) : (if b = true then (1 : Int) else 2) = ((bN b 1 2 : Nat) : Int) := by cases b <;> rfl
theorem bN10 (b : Bool) : (if b = true then (1 : Int) else 0) = ((bN b 1 0 : Nat) : Int) := by cases b <;> rfl
theorem bN10n (b : Bool) : (if b = true then 1 else 0) = bN b 1 0 := by cases b <;> rfl
theorem fs_ends {cs : Cells} {R : Nat → Nat} (L : LayFacts cs R) : ∀ k, k < 5 → (fsN cs k 5).1 = ((posC cs k : Nat) : Int) ∧ (fsN cs k 5).2 = ((posC cs (k + 5) : Nat) : Int) := by
  intro k hk
  obtain ⟨h1, h2⟩ := L.ends k hk
  match k, hk with
  | 0, _ =>
    have h1 : 0 = posC cs 0 := h1
    have h2 : Nat.succ (Nat.add (Nat.add (bN (inN cs 0 4) 1 0) (bN (inN cs 0 9) 1 0)) (Nat.add (Nat.add (bN (inN cs 0 3) 1 0) (bN (inN cs 0 8) 1 0)) (Nat.add (Nat.add (bN (inN cs 0 2) 1 0) (bN (inN cs 0 7) 1 0)) (Nat.add (Nat.add (bN (inN cs 0 1) 1 0) (bN (inN cs 0 6) 1 0)) 0)))) = posC cs 5 := h2
    simp only [Nat.add_eq, Nat.succ_eq_add_one] at h1 h2
    (simp [fsN, stepFS, bN12, bN10, inN_eq])
    (first | lia | omega)
  | 1, _ =>
    have h1 : Nat.add (bN (inN cs 0 1) 1 2) 0 = posC cs 1 := h1
    have h2 : Nat.succ (Nat.add (Nat.add (bN (inN cs 1 4) 1 0) (bN (inN cs 1 9) 1 0)) (Nat.add (Nat.add (bN (inN cs 1 3) 1 0) (bN (inN cs 1 8) 1 0)) (Nat.add (Nat.add (bN (inN cs 1 2) 1 0) (bN (inN cs 1 7) 1 0)) (Nat.add 0 (Nat.add (bN (inN cs 0 6) 1 2) 0))))) = posC cs 6 := h2
    simp only [Nat.add_eq, Nat.succ_eq_add_one] at h1 h2
    (simp [fsN, stepFS, bN12, bN10, inN_eq])
    (first | lia | omega)
  | 2, _ =>
    have h1 : Nat.add (bN (inN cs 1 2) 1 2) (Nat.add (bN (inN cs 0 2) 1 2) 0) = posC cs 2 := h1
    have h2 : Nat.succ (Nat.add (Nat.add (bN (inN cs 2 4) 1 0) (bN (inN cs 2 9) 1 0)) (Nat.add (Nat.add (bN (inN cs 2 3) 1 0) (bN (inN cs 2 8) 1 0)) (Nat.add 0 (Nat.add (bN (inN cs 1 7) 1 2) (Nat.add (bN (inN cs 0 7) 1 2) 0))))) = posC cs 7 := h2
    simp only [Nat.add_eq, Nat.succ_eq_add_one] at h1 h2
    (simp [fsN, stepFS, bN12, bN10, inN_eq])
    (first | lia | omega)
  | 3, _ =>
    have h1 : Nat.add (bN (inN cs 2 3) 1 2) (Nat.add (bN (inN cs 1 3) 1 2) (Nat.add (bN (inN cs 0 3) 1 2) 0)) = posC cs 3 := h1
    have h2 : Nat.succ (Nat.add (Nat.add (bN (inN cs 3 4) 1 0) (bN (inN cs 3 9) 1 0)) (Nat.add 0 (Nat.add (bN (inN cs 2 8) 1 2) (Nat.add (bN (inN cs 1 8) 1 2) (Nat.add (bN (inN cs 0 8) 1 2) 0))))) = posC cs 8 := h2
    simp only [Nat.add_eq, Nat.succ_eq_add_one] at h1 h2
    (simp [fsN, stepFS, bN12, bN10, inN_eq])
    (first | lia | omega)
  | 4, _ =>
    have h1 : Nat.add (bN (inN cs 3 4) 1 2) (Nat.add (bN (inN cs 2 4) 1 2) (Nat.add (bN (inN cs 1 4) 1 2) (Nat.add (bN (inN cs 0 4) 1 2) 0))) = posC cs 4 := h1
    have h2 : Nat.succ (Nat.add 0 (Nat.add (bN (inN cs 3 9) 1 2) (Nat.add (bN (inN cs 2 9) 1 2) (Nat.add (bN (inN cs 1 9) 1 2) (Nat.add (bN (inN cs 0 9) 1 2) 0))))) = posC cs 9 := h2
    simp only [Nat.add_eq, Nat.succ_eq_add_one] at h1 h2
    (simp [fsN, stepFS, bN12, bN10, inN_eq])
    (first | lia | omega)
theorem fig_facts {cs : Cells} {R : Nat → Nat} (L : LayFacts cs R) : ∀ k, k < 5 → (((insRow cs k).drop (k + 1)).take (4 - k)).count true + ((insRow cs k).drop (k + 6)).count true = R k := by
  intro k hk
  have h := L.figs k hk
  rw [← h]
  match k, hk with
  | 0, _ =>
    show List.count true [inC cs 0 1, inC cs 0 2, inC cs 0 3, inC cs 0 4] + List.count true [inC cs 0 6, inC cs 0 7, inC cs 0 8, inC cs 0 9] = Nat.add (Nat.add (bN (inN cs 0 4) 1 0) (bN (inN cs 0 9) 1 0)) (Nat.add (Nat.add (bN (inN cs 0 3) 1 0) (bN (inN cs 0 8) 1 0)) (Nat.add (Nat.add (bN (inN cs 0 2) 1 0) (bN (inN cs 0 7) 1 0)) (Nat.add (Nat.add (bN (inN cs 0 1) 1 0) (bN (inN cs 0 6) 1 0)) 0)))
    simp only [List.count_cons, List.count_nil, beq_true, bN10n, inN_eq, Nat.add_eq]
    (first | lia | omega)
  | 1, _ =>
    show List.count true [inC cs 1 2, inC cs 1 3, inC cs 1 4] + List.count true [inC cs 1 7, inC cs 1 8, inC cs 1 9] = Nat.add (Nat.add (bN (inN cs 1 4) 1 0) (bN (inN cs 1 9) 1 0)) (Nat.add (Nat.add (bN (inN cs 1 3) 1 0) (bN (inN cs 1 8) 1 0)) (Nat.add (Nat.add (bN (inN cs 1 2) 1 0) (bN (inN cs 1 7) 1 0)) 0))
    simp only [List.count_cons, List.count_nil, beq_true, bN10n, inN_eq, Nat.add_eq]
    (first | lia | omega)
  | 2, _ =>
    show List.count true [inC cs 2 3, inC cs 2 4] + List.count true [inC cs 2 8, inC cs 2 9] = Nat.add (Nat.add (bN (inN cs 2 4) 1 0) (bN (inN cs 2 9) 1 0)) (Nat.add (Nat.add (bN (inN cs 2 3) 1 0) (bN (inN cs 2 8) 1 0)) 0)
    simp only [List.count_cons, List.count_nil, beq_true, bN10n, inN_eq, Nat.add_eq]
    (first | lia | omega)
  | 3, _ =>
    show List.count true [inC cs 3 4] + List.count true [inC cs 3 9] = Nat.add (Nat.add (bN (inN cs 3 4) 1 0) (bN (inN cs 3 9) 1 0)) 0
    simp only [List.count_cons, List.count_nil, beq_true, bN10n, inN_eq, Nat.add_eq]
    (first | lia | omega)
  | 4, _ => rfl
theorem hol_facts {z lf : Int} {cs : Cells} {wd : Str} (hpure : cs = csN 5 z ∧ lf = leftN 5 z) (hpw : True ∧ wd = Txt.join (Str.ofString "") (wlC cs)) :
    (∀ k, k < 5 → TurnFacts cs wd k) ∧ (∀ k, k < 5 → (fsN cs k 5).1 = ((posC cs k : Nat) : Int) ∧ (fsN cs k 5).2 = ((posC cs (k + 5) : Nat) : Int)) ∧
    (∀ k, k < 5 → ∀ c, c < 5 → PairFacts cs k c) ∧ (∀ k, k < 5 → (((insRow cs k).drop (k + 1)).take (4 - k)).count true + ((insRow cs k).drop (k + 6)).count true = restN k z) ∧ RowsOk (rowsT cs) := by
  obtain ⟨okc, okl⟩ := okC_cells (csN_ok z)
  have L := lay_facts2 z
  rw [← hpure.1] at okc okl L
  have hw : wd = tx (wl cs) := by rw [hpw.2, wlC_wl okc, join_ones]
  refine ⟨fun k hk => ?_, fs_ends L, ?_, fig_facts L, rowsT_ok okc (by first | with_reducible assumption | with_reducible exact lt_num (by with_reducible assumption) (Nat.le_of_ble_eq_true rfl) | with_reducible exact le_num (by with_reducible assumption) (Nat.le_of_ble_eq_true rfl) | with_reducible exact le_le (by with_reducible assumption) (Nat.le_of_ble_eq_true rfl) | (first | lia | omega))⟩
  · rw [hw]; exact turn_facts L okc hk
  · intro k hk c hc
    refine ⟨fun h => L.pairs k hk c h, ?_⟩
    rintro rfl
    have := L.lt c hk
    unfold inC
    simp
end Mine

end
section
-- HolN
theorem Mine.fresh_HolN : True := by
  w_top off
  trivial
open PySem PySem.W PyProof.Rows PySem.Calls PySem.Builtin.Str
set_option maxRecDepth 100000
set_option maxHeartbeats 20000000
set_option pp.deepTerms false
namespace Mine
local macro_rules | `(tactic| k_room) => `(tactic| ((try simp only [Around.deeper, recursionLimit] at *); omega))
local macro_rules | `(tactic| k_units) => `(tactic| ((try simp only [Around.deeper, Around.in1, cLine] at *); omega))
local macro_rules | `(tactic| k_all) => `(tactic| first | with_reducible assumption | exact allLt_ne (by with_reducible assumption) | exact Low.ne (by with_reducible assumption) (by omega) | (exact Low.ne (by assumption) (by omega)))
local macro_rules | `(tactic| walk_at "eval Name") => `(tactic| (k_here; k_dflt (refine' nameX_L ?F ?v ?_ ?a ?b; (case F => k_asm); (case a => rfl); (case b => rfl); (case v => first | exact rfl | assumption); k_whole)))
local macro_rules | `(tactic| walk_at "loadName") => `(tactic| (k_here; k_dflt (refine' loadX ?F ?v ?_ ?a ?b; (case F => k_asm); (case a => rfl); (case b => rfl); (case v => first | exact rfl | assumption); k_whole)))
local macro_rules | `(tactic| walk_at "exec For Name Call cons nil") => `(tactic| (k_here; k_dflt (refine' for_ownF ?k1 ?_ ?k2 ?k3; (case k1 => k_asm); (case k2 => (intro _; rfl)); (case k3 => passes_own))))
local macro_rules | `(tactic| walk_at "call ref") => `(tactic| (k_here; refine Halt.mk ?_))
local macro_rules | `(tactic| walk_at "eval ListComp") => `(tactic| (k_here; refine Halt.mk ?_))
local macro_rules | `(tactic| walk_at "pyIter str") => `(tactic| (k_here; refine Halt.mk ?_))
local macro_rules | `(tactic| walk_at "subscriptTail Name UnaryOp ref int") => `(tactic| (k_here; k_dflt (refine' item_last (r := refsOf _) ?k1 ?k2 ?_; (case k1 => k_asm); (case k2 => k_mem); k_whole)))
local macro_rules | `(tactic| walk_at "SrcS") => `(tactic| (refine Halt.mk ?_))
local macro_rules | `(tactic| walk_at "CompSrcT") => `(tactic| (refine Halt.mk ?_))
local macro_rules | `(tactic| walk_at "subscriptTail") => `(tactic| (k_here; (fail_if_success (with_reducible show wpAny _ _ (subscriptTail (Expr.Name _ _) _ _ _) _ _ _)); k_dflt (refine kba_turn (value' := Expr.Name (Str.ofString "_") ⟨0, 0, 0, 0⟩) (fun _ => rfl) ?_)))
local macro_rules | `(tactic| walk_at "CompSrc") => `(tactic| (refine Halt.mk ?_))
local macro_rules | `(tactic| walk_at "SrcLP") => `(tactic| (refine Halt.mk ?_))
local macro_rules | `(tactic| walk_at "binaryOp Mod str int") => `(tactic| (k_here; (with_reducible show wpAny _ _ (binaryOp Operator.Mod (Value.str (Str.ofString "p%d") _) (Value.int _ _)) _ _ _); refine' modP ?a ?b ?_; (case a => rfl); (case b => omega); intro _ _))
local macro_rules | `(tactic| walk_at "call type:int") => `(tactic| (k_here; (with_reducible show wpAny _ _ (call (Value.type "int") [Value.str (Txt.slice (pn _) (some 1) none) _]) _ _ _); (refine KIN.call_text (int_pn _ (by omega)) (int_pn_len _ (by omega)) ?_)))
local macro_rules | `(tactic| walk_at "call ref") => `(tactic| (k_here; k_dflt ((show wpAny _ _ (call (Value.ref 45) [Value.str _ _, Value.str _ _]) _ _ _); refine' ell_use ?gx ?gt ?gf ?gn ?ge ?gh ?gd ?gu ?_; (case gx => with_reducible assumption); (case gt => with_reducible assumption); (case gf => k_asm); (case gn => k_asm); (case ge => with_reducible assumption); (case gh => rfl); (case gd => first | exact room1 (by with_reducible assumption) (Nat.le_of_ble_eq_true rfl) | ((try simp only [Around.deeper]); omega)); (case gu => first | exact room3 (by with_reducible assumption) (Nat.le_of_ble_eq_true rfl) | ((try simp only [Around.deeper]); omega))); intro h' tk' F' N'; (try k_sweep)))
local macro_rules | `(tactic| walk_at "pyIter ref") => `(tactic| (k_here; refine Halt.mk ?_))
local macro_rules | `(tactic| walk_at "subscriptTail Name Name ref int") => `(tactic| (k_here; (with_reducible show wpAny _ _ (subscriptTail _ _ (Value.ref _) (Value.int (Nat.cast _) _)) _ _ _); k_dflt (refine' item_at (vs := _) ?k1 ?k2 ?k3 ?k4 ?_; (case k1 => k_asm); (case k2 => k_mem); (case k3 => with_reducible assumption); (case k4 => omega); k_whole)))
local macro_rules | `(tactic| walk_at "subscriptTail Name Slice ref ref") => `(tactic| (k_here; (with_reducible show wpAny _ _ (subscriptTail _ (PySem.Expr.Slice _ _ none _) (Value.ref _) (Value.ref _)) _ _ _); k_dflt (refine' kmk_slice_lit ?F ?N ?l ?p ?q ?e ?_ ?s ?t ?z; (case F => k_asm); (case N => k_asm); (case l => kmk_list); (case p => kmk_part); (case q => kmk_part); (case e => with_reducible assumption); (case s => with_unfolding_all rfl); (case t => kmk_pure); (case z => with_reducible assumption)); intro D' h' F' N' l1; (try k_lt l1); (try k_sweep)))
local macro_rules | `(tactic| walk_at "call builtin:list.count") => `(tactic| (k_here; k_dflt (refine' countB (k := true) ?N ?m ?a ?_; (case N => k_asm); (case m => k_mem); (case a => exact rfl)); intro _ _))
local macro_rules | `(tactic| walk_at "call ref") => `(tactic| (k_here; k_dflt ((show wpAny _ _ (call (Value.ref 229) [Value.int _ _]) _ _ _); refine' base_use ?gx ?gt ?gf ?gn ?ge ?gh ?gd ?gu ?_; (case gx => with_reducible assumption); (case gt => with_reducible assumption); (case gf => k_asm); (case gn => k_asm); (case ge => with_reducible assumption); (case gh => rfl); (case gd => first | exact room1 (by with_reducible assumption) (Nat.le_of_ble_eq_true rfl) | ((try simp only [Around.deeper]); omega)); (case gu => first | exact room3 (by with_reducible assumption) (Nat.le_of_ble_eq_true rfl) | ((try simp only [Around.deeper]); omega))); intro h' tb' tk' F' N'; (try k_sweep)))
local macro_rules | `(tactic| walk_at "subscriptTail Name BinOp ref int") => `(tactic| (k_here; (with_reducible show wpAny _ _ (subscriptTail _ _ (Value.ref _) (Value.int (Nat.cast _ + 5) _)) _ _ _); k_dflt (refine' item_at5 (vs := _) ?k1 ?k2 ?k3 ?k4 ?_; (case k1 => k_asm); (case k2 => k_mem); (case k3 => with_reducible assumption); (case k4 => omega); k_whole)))
inductive HolA (s : Shared) (w : World) (L' : Addr) (tl : List (Addr × Obj)) (z : Int) (t : Tok) (s' : Shared) : Prop
  | mk (h : Heap) (tk : Nat) (m : Str → Option Value) (xt : Addr) (dxt : Addr) (lt : Addr) (tokt : Tok) (tupst : List (Addr × Obj)) (nt : Nat) (tl2 : List (Addr × Obj)) (cs : Cells) (lf : Int) (wd : Str) (tw : Tok) (tz : Tok) (oA : Obj) (oS : Obj) (vA : Option Value) (vS : Option Value) (q1 : s' = { s with heap := h, toks := tk }) (q2 : (cs = csN 5 z ∧ lf = leftN 5 z)) (q3 : Fr (hideAll s.heap (tl.map (·.1))) L' h m) (q4 : News (hideAll s.heap (tl.map (·.1))) L' h ((xt, instObj 218 dxt) :: (dxt, dictOf (hdrE w tokt lt) 1) :: (lt, listOf (refsOf tupst).toArray nt) :: (L' + 1 + 1 + 1, oA) :: (L' + 1 + 1, oS) :: (tupst ++ tl2))) (q5 : TupsAre tupst (rowsT cs)) (q6 : TabS S1 S2 tl2) (q7 : (∀ a ∈ tl.map (·.1), a ∈ tl2.map (·.1))) (q8 : wd.length ≤ 10) (q9 : (True ∧ wd = Txt.join (Str.ofString "") (wlC cs))) (q10 : oA.data = .cell vA) (q11 : oS.data = .cell vS) (q12 : m "word" = some (.str wd tw)) (q13 : m "left" = some (.int lf tz)) (q14 : m "number" = some (.int z t)) (q15 : m "turned" = some (.ref xt)) : HolA s w L' tl z t s'
inductive HolBB (s : Shared) (L' : Addr) (tl tl2 : List (Addr × Obj)) (cs : Cells) (lf : Int) (tz : Tok) (z : Int) (t : Tok) (s' : Shared) : Prop
  | mk (h : Heap) (tk : Nat) (m : Str → Option Value) (Sp : Addr) (In : Addr) (ins : List (Addr × Obj)) (sps : List (Addr × Obj)) (ni : Nat) (ns : Nat) (q1 : s' = { s with heap := h, toks := tk }) (q2 : InsAre cs 5 ins) (q3 : SpsAre cs 5 sps) (q4 : Fr (hideAll s.heap (tl.map (·.1))) L' h m) (q5 : News (hideAll s.heap (tl.map (·.1))) L' h ((Sp, listOf (refsOf sps).toArray ns) :: (In, listOf (refsOf ins).toArray ni) :: (ins ++ (sps ++ tl2)))) (q6 : m (Str.ofString "left") = some (.int lf tz)) (q7 : m (Str.ofString "number") = some (.int z t)) (q8 : m (Str.ofString "inside") = some (.ref In)) (q9 : m (Str.ofString "spots") = some (.ref Sp)) : HolBB s L' tl tl2 cs lf tz z t s'
inductive HolC (w : World) (L' : Addr) (cs : Cells) (xt dxt lt : Addr) (tokt : Tok) (tupst : List (Addr × Obj)) (nt : Nat) (rest : List (Addr × Obj)) (wd : Str) (tw : Tok) (lf : Int) (tz : Tok) (z : Int) (t : Tok) (Sp In : Addr) (i : Nat) (m : Str → Option Value) (nx : List (Addr × Obj)) : Prop
  | mk (ins : List (Addr × Obj)) (sps : List (Addr × Obj)) (ni : Nat) (ns : Nat) (oA : Obj) (oS : Obj) (vA : Option Value) (vS : Option Value) (q1 : InsAre cs i ins) (q2 : SpsAre cs i sps) (q3 : oA.data = .cell vA) (q4 : oS.data = .cell vS) (q5 : (∀ p ∈ ins ++ sps, p.1 ≠ Sp ∧ p.1 ≠ In)) (q6 : nx = (Sp, listOf (refsOf sps).toArray ns) :: (In, listOf (refsOf ins).toArray ni) :: (xt, instObj 218 dxt) :: (dxt, dictOf (hdrE w tokt lt) 1) :: (lt, listOf (refsOf tupst).toArray nt) :: (L' + 1 + 1 + 1, oA) :: (L' + 1 + 1, oS) :: (rest ++ (ins ++ sps))) (q7 : m (Str.ofString "word") = some (.str wd tw)) (q8 : m (Str.ofString "left") = some (.int lf tz)) (q9 : m (Str.ofString "number") = some (.int z t)) (q10 : m (Str.ofString "turned") = some (.ref xt)) (q11 : m (Str.ofString "inside") = some (.ref In)) (q12 : m (Str.ofString "spots") = some (.ref Sp)) : HolC w L' cs xt dxt lt tokt tupst nt rest wd tw lf tz z t Sp In i m nx
inductive HolDD (s : Shared) (L' : Addr) (tl : List (Addr × Obj)) (cs : Cells) (k : Nat) (Sp : Addr) (sps : List (Addr × Obj)) (In : Addr) (ins : List (Addr × Obj)) (ni : Nat) (oA oS2 : Obj) (rs2 : List (Addr × Obj)) (wd : Str) (tw : Tok) (lf : Int) (tz : Tok) (z : Int) (t : Tok) (xt : Addr) (s' : Shared) : Prop
  | mk (h : Heap) (tk : Nat) (m : Str → Option Value) (Sn : Addr) (ta : Tok) (tb : Tok) (nS : Nat) (q1 : s' = { s with heap := h, toks := tk }) (q2 : Fr (hideAll s.heap (tl.map (·.1))) L' h m) (q3 : News (hideAll s.heap (tl.map (·.1))) L' h ((Sn, listOf #[.int (posC cs k : Nat) ta, .int (posC cs (k + 5) : Nat) tb] 0) :: (Sp, listOf (refsOf sps ++ [Value.ref Sn]).toArray nS) :: (In, listOf (refsOf ins).toArray ni) :: (L' + 1 + 1 + 1, oA) :: (L' + 1 + 1, oS2) :: rs2)) (q4 : @LT.lt Nat _ Sp Sn) (q5 : (∀ p ∈ rs2, @LT.lt Nat _ p.1 Sn)) (q6 : m (Str.ofString "word") = some (.str wd tw)) (q7 : m (Str.ofString "left") = some (.int lf tz)) (q8 : m (Str.ofString "number") = some (.int z t)) (q9 : m (Str.ofString "turned") = some (.ref xt)) (q10 : m (Str.ofString "inside") = some (.ref In)) (q11 : m (Str.ofString "spots") = some (.ref Sp)) : HolDD s L' tl cs k Sp sps In ins ni oA oS2 rs2 wd tw lf tz z t xt s'
theorem holds_spec {w : World} {s : Shared} {B : Heap} {loose mean mg mb} {z : Int} {t : Tok} {tl : List (Addr × Obj)}
    (G : Gd (Mine.hd01.heap_39 w.params) loose mean mg mb B) (hB : B.StaysIn s.heap) (hS : TabS S1 S2 tl) (htl : ∀ p ∈ tl, s.heap.get? p.1 = some p.2 ∧ B.get? p.1 = none) (hz : z.natAbs < 2 ^ 100) :
    Does (model PySem.Challenge.rw_pg0310_01.row.prog w) 400 2000 (call (.ref 239) [.int z t]) s (fun v h' => TabPost S1 S2 tl s.heap h' ∧ v = .bool true) := by
  intro d0 u0 fr gs hd hu
  revert G
  k_fill
  intro G
  refine' enterC (binds := [("number", .int z t)]) G hB tl htl ?k6 ?k7 ?k8 ?k9 ?kB ?kD ?_ ?c2 ?c3 ?c4; (case k6 => k_is); (case k7 => k_is); (case k8 => k_room); (case k9 => exact BindsTo.of_eq rfl);  (case kB => exact rfl); (case kD => decide +kernel); (case c2 => exact rfl); (case c3 => exact rfl); (case c4 => exact rfl)
  intro g' L' h' tk' cells' hg' F' N' Y' hlow X' T'
  k_cells Y'
  rename_i oA oS oT dA dS dT
  obtain ⟨vA, hoA⟩ : ∃ v, oA.data = .cell v := ⟨_, dA⟩
  obtain ⟨vS, hoS⟩ : ∃ v, oS.data = .cell v := ⟨_, dS⟩
  obtain ⟨vT, hoT⟩ : ∃ v, oT.data = .cell v := ⟨_, dT⟩
  clear dA dS dT
  have hlow : Low L' tl := hlow
  subst hg'
  (try simp only [List.cons_append, List.nil_append] at N')
  obtain ⟨m0, F', hm0⟩ : ∃ m0, Fr (hideAll s.heap (tl.map (·.1))) L' h' m0 ∧ m0 (Str.ofString "number") = some (.int z t) := ⟨_, F', rfl⟩
  (try dsimp only)
  refine cutN 3 (HolA s w L' tl z t) ?_ ?_
  rotate_left
  · clear hS htl F' N' hoA hoS hoT hm0
    rintro _ ⟨h2, tk2, m, xt, dxt, lt, tokt, tupst, nt, tl2, cs, lf, wd, tw, tz, oA, oS, vA, vS, rfl, hpure, F, Nw, hT, hS2, hsub2, hwl, hpw, hoA, hoS, m1, m2, m3, m4⟩
    obtain ⟨rest, hrest⟩ : ∃ r, r = tupst ++ tl2 := ⟨_, rfl⟩
    rw [← hrest] at Nw
    obtain ⟨hturn, hends, hpairs, hfigs, okT⟩ := hol_facts hpure hpw
    dsimp only [List.drop]
    refine cutN 3 (HolBB s L' tl tl2 cs lf tz z t) ?_ ?_
    rotate_left
    · --LAST
      clear F Nw m1 m2 m3 m4 hoA hoS hT hwl hpw hturn okT
      rintro _ ⟨h3, tk3, m, Sp, In, ins, sps, ni, ns, rfl, hIn, hSp, F, Nw, m2, m3, m5, m6⟩
      obtain ⟨rs, hrs⟩ : ∃ r, r = ins ++ (sps ++ tl2) := ⟨_, rfl⟩
      rw [← hrs] at Nw
      (try k_fold)
      k_steps
      refine Halt.go ?_
      rename Fr _ _ _ _ => F
      rename News _ _ _ _ => Nw
      refine iter_rangeS (n := 5) (fun i m nx => nx = (Sp, listOf (refsOf sps).toArray ns) :: (In, listOf (refsOf ins).toArray ni) :: rs ∧ (∃ t, m (Str.ofString "whole") = some (.int (leftN (5 - i) z) t)) ∧ m (Str.ofString "number") = some (.int z t) ∧ m (Str.ofString "inside") = some (.ref In) ∧ m (Str.ofString "spots") = some (.ref Sp)) rfl (by with_reducible assumption) (by decide) (by decide) F Nw ⟨rfl, ⟨_, by rw [← hpure.2]; rfl⟩, m3, m5, m6⟩ ?_ ?_
      · clear F Nw m2 m3 m5 m6
        rintro i tk0 m nx h tk I own hi ⟨rfl, ⟨tw, m1⟩, m2, m3, m4⟩ hI hown F Nw
        obtain ⟨k, hk⟩ : ∃ k, k = 4 - i := ⟨_, rfl⟩
        have hk5 : k < 5 := by (first | lia | omega)
        rw [show (4 : Int) + (i : Int) * (-1) = ((k : Nat) : Int) by (first | lia | omega)]
        rw [show 5 - i = k + 1 by (first | lia | omega)] at m1
        obtain ⟨Dk, nk, hDk, hDm⟩ := hIn.at k hk5
        obtain ⟨rso, hrso⟩ : ∃ r, r = rs ++ own := ⟨_, rfl⟩
        have Nw : News (hideAll s.heap (tl.map (·.1))) L' h ((Dk, listOf ((insRow cs k).map Value.bool).toArray nk) :: (In, listOf (refsOf ins).toArray ni) :: (Sp, listOf (refsOf sps).toArray ns) :: rso) := fun p hp => by
          rcases List.mem_cons.mp hp with rfl | hp
          · exact Nw _ (by rw [hrs]; simp [hDm])
          · rcases List.mem_cons.mp hp with rfl | hp
            · exact Nw _ (by first | ((repeat (first | with_reducible exact List.mem_cons_self .. | with_reducible refine List.mem_cons_of_mem _ ?_)); done) | simp)
            · refine Nw p ?_
              rw [hrso] at hp
              simp only [List.cons_append, List.mem_cons, List.mem_append] at hp ⊢
              rcases hp with h | h | h <;> simp only [h, true_or, or_true]
        have hx : (refsOf ins)[k]? = some (Value.ref Dk) := hDk
        obtain ⟨bz1, bz2⟩ := baseZ_nine k
        have hrow10 : (insRow cs k).length = 10 := by simp [insRow]
        have hs1 := congrArg Array.toList (slice_in hrow10 k hk5).1
        have hs2 := congrArg Array.toList (slice_in hrow10 k hk5).2
        rw [List.toList_toArray] at hs1 hs2
        have hfig : (((insRow cs k).drop (k + 1)).take (4 - k)).count true + ((insRow cs k).drop (k + 6)).count true = restN k z := hfigs k hk5
        have hlb := left_back z hk5 hfig
        have hrf := row_fits cs k
        generalize ((insRow cs k).drop (k + 1)).take (4 - k) = fr1 at hs1 hs2 hlb
        generalize (insRow cs k).drop (k + 6) = fr2 at hs1 hs2 hlb
        generalize (insRow cs k).map Value.bool = rowk at hs1 hs2 Nw hrf
        clear hfig hrow10
        (try dsimp only)
        k_steps
        all_goals (try clear Nw)
        all_goals rename Fr _ _ _ _ => F
        all_goals rename News _ _ _ _ => Nw
        · rename 0 < baseZ k => hpos
          rw [if_pos hpos] at hlb
          refine OurTurn.next F (fun p hp => Nw p ?_) (by exact hI) ⟨rfl, ?_, m2, m3, m4⟩
          · rw [hrso]
            simp only [List.cons_append, List.mem_cons, List.mem_append] at hp ⊢
            rcases hp with h | h | h | h <;> simp only [h, true_or, or_true]
          · rw [show 5 - (i + 1) = k by (first | lia | omega), hlb]
            exact ⟨_, rfl⟩
        · rename ¬ 0 < baseZ k => hpos
          rw [if_neg hpos] at hlb
          refine OurTurn.next F (fun p hp => Nw p ?_) (by exact hI) ⟨rfl, ?_, m2, m3, m4⟩
          · rw [hrso]
            simp only [List.cons_append, List.mem_cons, List.mem_append] at hp ⊢
            rcases hp with h | h | h | h <;> simp only [h, true_or, or_true]
          · rw [show 5 - (i + 1) = k by (first | lia | omega), hlb]
            exact ⟨_, rfl⟩
      · clear F Nw m2 m3 m5 m6
        rintro m nx h tk ⟨rfl, ⟨tw, m1⟩, m2, m3, m4⟩ F Nw
        rw [show leftN (5 - 5) z = z from rfl] at m1
        (try k_fold)
        k_steps
        all_goals first
          | (exfalso; rename (_ ≠ _) => hq; exact hq rfl; done)
          | skip
        refine Halt.go ?_
        rename Fr _ _ _ _ => F
        rename News _ _ _ _ => Nw
        refine iter_range (n := 5) (fun i m nx => nx = (Sp, listOf (refsOf sps).toArray ns) :: (In, listOf (refsOf ins).toArray ni) :: rs ∧ m (Str.ofString "inside") = some (.ref In) ∧ m (Str.ofString "spots") = some (.ref Sp)) rfl (by with_reducible assumption) (by decide) (by decide) F Nw ⟨rfl, m3, m4⟩ ?_ ?_
        · clear F Nw m1 m2 m3 m4
          rintro k tk0 m nx h tk I own hk5 ⟨rfl, m3, m4⟩ hI hown _ F Nw
          rw [Int.zero_add]
          obtain ⟨rso, hrso⟩ : ∃ r, r = rs ++ own := ⟨_, rfl⟩
          have Nw : News (hideAll s.heap (tl.map (·.1))) L' h ((Sp, listOf (refsOf sps).toArray ns) :: (In, listOf (refsOf ins).toArray ni) :: rso) := fun p hp => Nw p (by rw [hrso] at hp; exact hp)
          (try dsimp only)
          k_steps
          refine Halt.go ?_
          (try clear F Nw)
          (try clear Nw)
          rename Fr _ _ _ _ => F
          rename News _ _ _ _ => Nw
          refine iter_rangeA (n := 5) (fun c m nx => nx = (Sp, listOf (refsOf sps).toArray ns) :: (In, listOf (refsOf ins).toArray ni) :: rso ∧ m (Str.ofString "inside") = some (.ref In) ∧ m (Str.ofString "spots") = some (.ref Sp) ∧ m (Str.ofString "k") = some (.int ((k : Nat) : Int) tk0) ∧ (∃ t, m (Str.ofString "first") = some (.int (fsN cs k c).1 t)) ∧ (∃ t, m (Str.ofString "second") = some (.int (fsN cs k c).2 t))) rfl (by with_reducible assumption) (by decide) (by decide) F Nw ⟨rfl, m3, m4, rfl, ⟨_, rfl⟩, ⟨_, rfl⟩⟩ ?_ ?_
          · clear F Nw m3 m4
            rintro J' Qx Ex c tc m nx h tk I2 own2 hJ' hc5 ⟨rfl, m3, m4, m5, ⟨tf, m6⟩, ⟨ts, m7⟩⟩ hI2 hown2 F Nw
            rw [Int.mul_one, Int.zero_add]
            obtain ⟨Dk, nk, hDk, hDkm⟩ := hIn.at k hk5
            obtain ⟨Dc, nc, hDc, hDcm⟩ := hIn.at c hc5
            obtain ⟨rsp, hrsp⟩ : ∃ r, r = rso ++ own2 := ⟨_, rfl⟩
            have Nw : News (hideAll s.heap (tl.map (·.1))) L' h ((Dk, listOf ((insRow cs k).map Value.bool).toArray nk) :: (Dc, listOf ((insRow cs c).map Value.bool).toArray nc) :: (Sp, listOf (refsOf sps).toArray ns) :: (In, listOf (refsOf ins).toArray ni) :: rsp) := fun p hp => by
              refine Nw p ?_
              rw [hrsp] at hp
              rw [hrso, hrs]
              simp only [List.cons_append, List.mem_cons, List.mem_append] at hp ⊢
              rcases hp with h | h | h | h | h | h
              · rw [h]; simp [hDkm]
              · rw [h]; simp [hDcm]
              · simp [h]
              · simp [h]
              · rw [hrso, hrs] at h
                simp only [List.mem_append] at h
                rcases h with (h | h | h) | h <;> simp only [h, true_or, or_true]
              · simp only [h, true_or, or_true]
            have hx1 : ((insRow cs k).map Value.bool)[c]? = some (Value.bool (inC cs k c)) := row_at cs k c (by first | with_reducible assumption | with_reducible exact lt_num (by with_reducible assumption) (Nat.le_of_ble_eq_true rfl) | with_reducible exact le_num (by with_reducible assumption) (Nat.le_of_ble_eq_true rfl) | with_reducible exact le_le (by with_reducible assumption) (Nat.le_of_ble_eq_true rfl) | (first | lia | omega))
            have hx2 : ((insRow cs k).map Value.bool)[c + 5]? = some (Value.bool (inC cs k (c + 5))) := row_at cs k (c + 5) (by first | with_reducible assumption | with_reducible exact lt_num (by with_reducible assumption) (Nat.le_of_ble_eq_true rfl) | with_reducible exact le_num (by with_reducible assumption) (Nat.le_of_ble_eq_true rfl) | with_reducible exact le_le (by with_reducible assumption) (Nat.le_of_ble_eq_true rfl) | (first | lia | omega))
            have hx3 : ((insRow cs c).map Value.bool)[k]? = some (Value.bool (inC cs c k)) := row_at cs c k (by first | with_reducible assumption | with_reducible exact lt_num (by with_reducible assumption) (Nat.le_of_ble_eq_true rfl) | with_reducible exact le_num (by with_reducible assumption) (Nat.le_of_ble_eq_true rfl) | with_reducible exact le_le (by with_reducible assumption) (Nat.le_of_ble_eq_true rfl) | (first | lia | omega))
            have hx4 : ((insRow cs c).map Value.bool)[k + 5]? = some (Value.bool (inC cs c (k + 5))) := row_at cs c (k + 5) (by first | with_reducible assumption | with_reducible exact lt_num (by with_reducible assumption) (Nat.le_of_ble_eq_true rfl) | with_reducible exact le_num (by with_reducible assumption) (Nat.le_of_ble_eq_true rfl) | with_reducible exact le_le (by with_reducible assumption) (Nat.le_of_ble_eq_true rfl) | (first | lia | omega))
            have hP := hpairs k hk5 c hc5
            generalize (insRow cs k).map Value.bool = rowk at Nw hx1 hx2
            generalize (insRow cs c).map Value.bool = rowc at Nw hx3 hx4
            rcases Nat.lt_trichotomy c k with hlt | heq | hgt
            · obtain ⟨p1, p2⟩ := hP.1 hlt
              rw [p1] at hx1
              rw [p2] at hx2
              have hst : fsN cs k (c + 1) = ((fsN cs k c).1 + (if inC cs c k then 1 else 2), (fsN cs k c).2 + (if inC cs c (k + 5) then 1 else 2)) := by show stepFS _ _ _ _ = _; unfold stepFS; rw [if_pos hlt]
              generalize inC cs c k = b1 at hx2 hx3 hst
              generalize inC cs c (k + 5) = b2 at hx2 hx4 hst
              clear hP p1 p2
              cases b1 <;> cases b2
              · change _ = some (Value.bool false) at hx2
                (try dsimp only)
                k_steps
                all_goals first
                  | (exfalso; (first | lia | omega); done)
                  | skip
                rename Fr _ _ _ _ => F
                rename News _ _ _ _ => Nw
                refine OurTurn.next (nx := (Sp, listOf (refsOf sps).toArray ns) :: (In, listOf (refsOf ins).toArray ni) :: rso) F (fun p hp => Nw p ?_) (by exact hI2) (hJ' _ _ ⟨rfl, m3, m4, m5, ?_, ?_⟩)
                · rw [hrsp]
                  simp only [List.cons_append, List.mem_cons, List.mem_append] at hp ⊢
                  rcases hp with h | h | h | h <;> simp only [h, true_or, or_true]
                · rw [hst]; first | exact ⟨_, rfl⟩ | exact ⟨_, m6⟩ | exact ⟨_, m7⟩
                · rw [hst]; first | exact ⟨_, rfl⟩ | exact ⟨_, m6⟩ | exact ⟨_, m7⟩
              · change _ = some (Value.bool false) at hx2
                (try dsimp only)
                k_steps
                all_goals first
                  | (exfalso; (first | lia | omega); done)
                  | skip
                rename Fr _ _ _ _ => F
                rename News _ _ _ _ => Nw
                refine OurTurn.next (nx := (Sp, listOf (refsOf sps).toArray ns) :: (In, listOf (refsOf ins).toArray ni) :: rso) F (fun p hp => Nw p ?_) (by exact hI2) (hJ' _ _ ⟨rfl, m3, m4, m5, ?_, ?_⟩)
                · rw [hrsp]
                  simp only [List.cons_append, List.mem_cons, List.mem_append] at hp ⊢
                  rcases hp with h | h | h | h <;> simp only [h, true_or, or_true]
                · rw [hst]; first | exact ⟨_, rfl⟩ | exact ⟨_, m6⟩ | exact ⟨_, m7⟩
                · rw [hst]; first | exact ⟨_, rfl⟩ | exact ⟨_, m6⟩ | exact ⟨_, m7⟩
              · change _ = some (Value.bool true) at hx2
                (try dsimp only)
                k_steps
                all_goals first
                  | (exfalso; (first | lia | omega); done)
                  | skip
                rename Fr _ _ _ _ => F
                rename News _ _ _ _ => Nw
                refine OurTurn.next (nx := (Sp, listOf (refsOf sps).toArray ns) :: (In, listOf (refsOf ins).toArray ni) :: rso) F (fun p hp => Nw p ?_) (by exact hI2) (hJ' _ _ ⟨rfl, m3, m4, m5, ?_, ?_⟩)
                · rw [hrsp]
                  simp only [List.cons_append, List.mem_cons, List.mem_append] at hp ⊢
                  rcases hp with h | h | h | h <;> simp only [h, true_or, or_true]
                · rw [hst]; first | exact ⟨_, rfl⟩ | exact ⟨_, m6⟩ | exact ⟨_, m7⟩
                · rw [hst]; first | exact ⟨_, rfl⟩ | exact ⟨_, m6⟩ | exact ⟨_, m7⟩
              · change _ = some (Value.bool false) at hx2
                (try dsimp only)
                k_steps
                all_goals first
                  | (exfalso; (first | lia | omega); done)
                  | skip
                rename Fr _ _ _ _ => F
                rename News _ _ _ _ => Nw
                refine OurTurn.next (nx := (Sp, listOf (refsOf sps).toArray ns) :: (In, listOf (refsOf ins).toArray ni) :: rso) F (fun p hp => Nw p ?_) (by exact hI2) (hJ' _ _ ⟨rfl, m3, m4, m5, ?_, ?_⟩)
                · rw [hrsp]
                  simp only [List.cons_append, List.mem_cons, List.mem_append] at hp ⊢
                  rcases hp with h | h | h | h <;> simp only [h, true_or, or_true]
                · rw [hst]; first | exact ⟨_, rfl⟩ | exact ⟨_, m6⟩ | exact ⟨_, m7⟩
                · rw [hst]; first | exact ⟨_, rfl⟩ | exact ⟨_, m6⟩ | exact ⟨_, m7⟩
            · obtain ⟨p1, p2⟩ := hP.2 heq
              rw [p1] at hx1
              rw [p2] at hx2
              have hst : fsN cs k (c + 1) = fsN cs k c := by show stepFS _ _ _ _ = _; unfold stepFS; rw [if_neg (by first | with_reducible assumption | with_reducible exact lt_num (by with_reducible assumption) (Nat.le_of_ble_eq_true rfl) | with_reducible exact le_num (by with_reducible assumption) (Nat.le_of_ble_eq_true rfl) | with_reducible exact le_le (by with_reducible assumption) (Nat.le_of_ble_eq_true rfl) | (first | lia | omega)), if_pos heq]
              clear hP p1 p2 hx3 hx4
              (try dsimp only)
              k_steps
              all_goals first
                | (exfalso; (first | lia | omega); done)
                | skip
              rename Fr _ _ _ _ => F
              rename News _ _ _ _ => Nw
              refine OurTurn.next (nx := (Sp, listOf (refsOf sps).toArray ns) :: (In, listOf (refsOf ins).toArray ni) :: rso) F (fun p hp => Nw p ?_) (by exact hI2) (hJ' _ _ ⟨rfl, m3, m4, m5, ?_, ?_⟩)
              · rw [hrsp]
                simp only [List.cons_append, List.mem_cons, List.mem_append] at hp ⊢
                rcases hp with h | h | h | h <;> simp only [h, true_or, or_true]
              · rw [hst]; first | exact ⟨_, rfl⟩ | exact ⟨_, m6⟩ | exact ⟨_, m7⟩
              · rw [hst]; first | exact ⟨_, rfl⟩ | exact ⟨_, m6⟩ | exact ⟨_, m7⟩
            · have hst : fsN cs k (c + 1) = ((fsN cs k c).1, (fsN cs k c).2 + ((if inC cs k c then 1 else 0) + (if inC cs k (c + 5) then 1 else 0))) := by show stepFS _ _ _ _ = _; unfold stepFS; rw [if_neg (by first | with_reducible assumption | with_reducible exact lt_num (by with_reducible assumption) (Nat.le_of_ble_eq_true rfl) | with_reducible exact le_num (by with_reducible assumption) (Nat.le_of_ble_eq_true rfl) | with_reducible exact le_le (by with_reducible assumption) (Nat.le_of_ble_eq_true rfl) | (first | lia | omega)), if_neg (by first | with_reducible assumption | with_reducible exact lt_num (by with_reducible assumption) (Nat.le_of_ble_eq_true rfl) | with_reducible exact le_num (by with_reducible assumption) (Nat.le_of_ble_eq_true rfl) | with_reducible exact le_le (by with_reducible assumption) (Nat.le_of_ble_eq_true rfl) | (first | lia | omega))]
              generalize inC cs k c = b1 at hx1 hst
              generalize inC cs k (c + 5) = b2 at hx2 hst
              clear hP hx3 hx4
              cases b1 <;> cases b2
              · skip
                (try dsimp only)
                k_steps
                all_goals first
                  | (exfalso; (first | lia | omega); done)
                  | skip
                rename Fr _ _ _ _ => F
                rename News _ _ _ _ => Nw
                refine OurTurn.next (nx := (Sp, listOf (refsOf sps).toArray ns) :: (In, listOf (refsOf ins).toArray ni) :: rso) F (fun p hp => Nw p ?_) (by exact hI2) (hJ' _ _ ⟨rfl, m3, m4, m5, ?_, ?_⟩)
                · rw [hrsp]
                  simp only [List.cons_append, List.mem_cons, List.mem_append] at hp ⊢
                  rcases hp with h | h | h | h <;> simp only [h, true_or, or_true]
                · rw [hst]; first | exact ⟨_, rfl⟩ | exact ⟨_, m6⟩ | exact ⟨_, m7⟩
                · rw [hst]; first | exact ⟨_, rfl⟩ | exact ⟨_, m6⟩ | exact ⟨_, m7⟩
              · skip
                (try dsimp only)
                k_steps
                all_goals first
                  | (exfalso; (first | lia | omega); done)
                  | skip
                rename Fr _ _ _ _ => F
                rename News _ _ _ _ => Nw
                refine OurTurn.next (nx := (Sp, listOf (refsOf sps).toArray ns) :: (In, listOf (refsOf ins).toArray ni) :: rso) F (fun p hp => Nw p ?_) (by exact hI2) (hJ' _ _ ⟨rfl, m3, m4, m5, ?_, ?_⟩)
                · rw [hrsp]
                  simp only [List.cons_append, List.mem_cons, List.mem_append] at hp ⊢
                  rcases hp with h | h | h | h <;> simp only [h, true_or, or_true]
                · rw [hst]; first | exact ⟨_, rfl⟩ | exact ⟨_, m6⟩ | exact ⟨_, m7⟩
                · rw [hst]; first | exact ⟨_, rfl⟩ | exact ⟨_, m6⟩ | exact ⟨_, m7⟩
              · skip
                (try dsimp only)
                k_steps
                all_goals first
                  | (exfalso; (first | lia | omega); done)
                  | skip
                rename Fr _ _ _ _ => F
                rename News _ _ _ _ => Nw
                refine OurTurn.next (nx := (Sp, listOf (refsOf sps).toArray ns) :: (In, listOf (refsOf ins).toArray ni) :: rso) F (fun p hp => Nw p ?_) (by exact hI2) (hJ' _ _ ⟨rfl, m3, m4, m5, ?_, ?_⟩)
                · rw [hrsp]
                  simp only [List.cons_append, List.mem_cons, List.mem_append] at hp ⊢
                  rcases hp with h | h | h | h <;> simp only [h, true_or, or_true]
                · rw [hst]; first | exact ⟨_, rfl⟩ | exact ⟨_, m6⟩ | exact ⟨_, m7⟩
                · rw [hst]; first | exact ⟨_, rfl⟩ | exact ⟨_, m6⟩ | exact ⟨_, m7⟩
              · skip
                (try dsimp only)
                k_steps
                all_goals first
                  | (exfalso; (first | lia | omega); done)
                  | skip
                rename Fr _ _ _ _ => F
                rename News _ _ _ _ => Nw
                refine OurTurn.next (nx := (Sp, listOf (refsOf sps).toArray ns) :: (In, listOf (refsOf ins).toArray ni) :: rso) F (fun p hp => Nw p ?_) (by exact hI2) (hJ' _ _ ⟨rfl, m3, m4, m5, ?_, ?_⟩)
                · rw [hrsp]
                  simp only [List.cons_append, List.mem_cons, List.mem_append] at hp ⊢
                  rcases hp with h | h | h | h <;> simp only [h, true_or, or_true]
                · rw [hst]; first | exact ⟨_, rfl⟩ | exact ⟨_, m6⟩ | exact ⟨_, m7⟩
                · rw [hst]; first | exact ⟨_, rfl⟩ | exact ⟨_, m6⟩ | exact ⟨_, m7⟩
          · clear F Nw m3 m4
            rintro m nx h tk ⟨rfl, m3, m4, m5, ⟨tf, m6⟩, ⟨ts, m7⟩⟩ F N0
            have F : Fr (hideAll s.heap (tl.map (·.1))) L' h m := F
            obtain ⟨e1, e2⟩ := hends k hk5
            rw [e1] at m6
            rw [e2] at m7
            obtain ⟨Sk, nk, u1, u2, hSk, hSkm⟩ := hSp.at k hk5
            have Nw : News (hideAll s.heap (tl.map (·.1))) L' h ((Sk, listOf #[.int (posC cs k : Nat) u1, .int (posC cs (k + 5) : Nat) u2] nk) :: (Sp, listOf (refsOf sps).toArray ns) :: (In, listOf (refsOf ins).toArray ni) :: rso) := fun p hp => by
              rcases List.mem_cons.mp hp with rfl | hp
              · exact N0 _ (by rw [hrso, hrs]; simp [hSkm])
              · exact N0 p hp
            clear N0
            generalize ((posC cs k : Nat) : Int) = av at Nw m6
            generalize ((posC cs (k + 5) : Nat) : Int) = bv at Nw m7
            clear e1 e2
            (try dsimp only)
            (try k_fold)
            k_steps
            (try clear F)
            rename Fr _ _ _ _ => F
            rename News _ _ _ _ => Nw
            refine OurTurn.next (nx := (Sp, listOf (refsOf sps).toArray ns) :: (In, listOf (refsOf ins).toArray ni) :: rs) F (fun p hp => Nw p ?_) (by exact hI) ⟨rfl, m3, m4⟩
            rw [hrso]
            simp only [List.cons_append, List.mem_cons, List.mem_append] at hp ⊢
            rcases hp with h | h | h | h <;> simp only [h, true_or, or_true]
        · clear F Nw m1 m2 m3 m4
          rintro m nx h tk ⟨rfl, m3, m4⟩ F Nw
          (try k_fold)
          k_steps
          (first | (k_unmd; k_unfold; try dsimp only) | (try dsimp only))
          refine Done.mk ⟨TabPost.of hS2 (by exact F) (by exact Nw) (fun p hp => by rw [hrs]; first | ((repeat with_reducible refine List.mem_cons_of_mem _ ?_); first | exact hp | exact List.mem_append_left _ hp | exact List.mem_append_right _ hp | exact List.mem_append_right _ (List.mem_append_left _ hp) | exact List.mem_append_right _ (List.mem_append_right _ hp) | exact List.mem_append_left _ (List.mem_append_right _ hp) | exact List.mem_append_right _ (List.mem_append_right _ (List.mem_append_left _ hp))) | simp [hp]) hsub2, rfl⟩
      --ENDLAST
    dsimp only [List.take]
    (try k_fold)
    k_steps
    all_goals first
      | (exfalso; (first | lia | omega); done)
      | skip
    rename Fr _ _ _ _ => F
    rename News _ _ _ _ => Nw
    refine for_ownF F ?_
    k_steps
    refine Halt.go ?_
    rename _ ∧ _ ∧ _ ∧ _ ∧ _ ∧ AllLt _ _ => l1a
    rename _ ∧ _ ∧ _ ∧ _ ∧ _ ∧ _ ∧ AllLt _ _ => l2a
    obtain ⟨Sp, In, F0, Nw0, l1, l2, l3, l5, l6, l7, l8⟩ : ∃ Sp In, Fr (hideAll s.heap (tl.map (·.1))) L' _ (fun y => if y = Str.ofString "spots" then some (Value.ref Sp) else if y = Str.ofString "inside" then some (Value.ref In) else m y) ∧
      News (hideAll s.heap (tl.map (·.1))) L' _ ((Sp, listOf #[] 0) :: (In, listOf #[] 0) :: _) ∧ @LT.lt Nat _ In Sp ∧ (@LT.lt Nat _ (L' + 1 + 1 + 1) In) ∧ (@LT.lt Nat _ (L' + 1 + 1) In) ∧ @LT.lt Nat _ xt In ∧ @LT.lt Nat _ dxt In ∧ @LT.lt Nat _ lt In ∧ (∀ p ∈ rest, @LT.lt Nat _ p.1 In) := ⟨_, _, F, Nw, l2a.1, l1a.2.2.2.1, l1a.2.2.2.2.1, l1a.1, l1a.2.1, l1a.2.2.1, allLt_all l1a.2.2.2.2.2⟩
    clear F Nw l1a l2a
    refine iter_str (HolC w L' cs xt dxt lt tokt tupst nt rest wd tw lf tz z t Sp In) rfl (by decide +kernel) F0 Nw0 ⟨[], [], 0, 0, oA, oS, vA, vS, InsAre.nil, SpsAre.nil, hoA, hoS, List.forall_mem_nil _, by rw [List.append_nil, List.append_nil]; rfl, m1, m2, m3, m4, rfl, rfl⟩ ?_ ?_
    · clear F0 Nw0 m1 m2 m3 m4 hoA hoS
      rintro k c0 t0 m₁ nx h tk I own hk hc0 ⟨ins, sps, ni, ns, oA, oS, vA, vS, hIn, hSp, hoA, hoS, hup, rfl, m1, m2, m3, m4, m5, m6⟩ hI hown ⟨oI, hoI, hoc2⟩ F Nw
      have hk5 : k < 5 := hk
      rw [sgn_at k hk5 c0 hc0]
      obtain ⟨rs, hrs⟩ : ∃ r, r = rest ++ (ins ++ (sps ++ own)) := ⟨_, rfl⟩
      have Nw : News (hideAll s.heap (tl.map (·.1))) L' h ((Sp, listOf (refsOf sps).toArray ns) :: (In, listOf (refsOf ins).toArray ni) :: (xt, instObj 218 dxt) :: (dxt, dictOf (hdrE w tokt lt) 1) :: (lt, listOf (refsOf tupst).toArray nt) :: (L' + 1 + 1 + 1, oA) :: (L' + 1 + 1, oS) :: rs) := by
        rw [hrs]; exact fun p hp => Nw p (by simpa only [List.cons_append, List.append_assoc] using hp)
      have cn : ∀ p ∈ rs, (∀ v, p.2.data ≠ .cell v) ∨ p.1 = I := by
        rw [hrs, hrest]
        intro p hp
        simp only [List.mem_append] at hp
        rcases hp with (hp | hp) | hp | hp | hp
        · exact .inl (hT.nc p hp)
        · exact .inl (hS2.nc p hp)
        · exact .inl (hIn.nc p hp)
        · exact .inl (hSp.nc p hp)
        · exact .inr (hown p hp)
      have nA : ∀ p ∈ rs, p.1 ≠ L' + 1 + 1 + 1 := fun p hp => (cn p hp).elim (fun h1 => cell_ne (o := p.2) Nw (by first | ((repeat with_reducible refine List.mem_cons_of_mem _ ?_); first | exact hp | exact List.mem_append_left _ hp | exact List.mem_append_right _ hp | exact List.mem_append_right _ (List.mem_append_left _ hp) | exact List.mem_append_right _ (List.mem_append_right _ hp) | exact List.mem_append_left _ (List.mem_append_right _ hp) | exact List.mem_append_right _ (List.mem_append_right _ (List.mem_append_left _ hp))) | simp [hp]) (by k_mem) hoA h1) (fun e => by rw [e]; exact (hI (L' + 1 + 1 + 1, oA) (by first | ((repeat (first | with_reducible exact List.mem_cons_self .. | with_reducible refine List.mem_cons_of_mem _ ?_)); done) | simp)).symm)
      have nS : ∀ p ∈ rs, p.1 ≠ L' + 1 + 1 := fun p hp => (cn p hp).elim (fun h1 => cell_ne (o := p.2) Nw (by first | ((repeat with_reducible refine List.mem_cons_of_mem _ ?_); first | exact hp | exact List.mem_append_left _ hp | exact List.mem_append_right _ hp | exact List.mem_append_right _ (List.mem_append_left _ hp) | exact List.mem_append_right _ (List.mem_append_right _ hp) | exact List.mem_append_left _ (List.mem_append_right _ hp) | exact List.mem_append_right _ (List.mem_append_right _ (List.mem_append_left _ hp))) | simp [hp]) (by k_mem) hoS h1) (fun e => by rw [e]; exact (hI (L' + 1 + 1, oS) (by first | ((repeat (first | with_reducible exact List.mem_cons_self .. | with_reducible refine List.mem_cons_of_mem _ ?_)); done) | simp)).symm)
      have nx1 : @Ne Nat xt (L' + 1 + 1 + 1) := cell_ne (o := instObj 218 dxt) Nw (by first | ((repeat (first | with_reducible exact List.mem_cons_self .. | with_reducible refine List.mem_cons_of_mem _ ?_)); done) | simp) (by k_mem) hoA (fun _ e => by cases e)
      have nx2 : @Ne Nat xt (L' + 1 + 1) := cell_ne (o := instObj 218 dxt) Nw (by first | ((repeat (first | with_reducible exact List.mem_cons_self .. | with_reducible refine List.mem_cons_of_mem _ ?_)); done) | simp) (by k_mem) hoS (fun _ e => by cases e)
      have nd1 : @Ne Nat dxt (L' + 1 + 1 + 1) := cell_ne (o := dictOf (hdrE w tokt lt) 1) Nw (by first | ((repeat (first | with_reducible exact List.mem_cons_self .. | with_reducible refine List.mem_cons_of_mem _ ?_)); done) | simp) (by k_mem) hoA (fun _ e => by cases e)
      have nd2 : @Ne Nat dxt (L' + 1 + 1) := cell_ne (o := dictOf (hdrE w tokt lt) 1) Nw (by first | ((repeat (first | with_reducible exact List.mem_cons_self .. | with_reducible refine List.mem_cons_of_mem _ ?_)); done) | simp) (by k_mem) hoS (fun _ e => by cases e)
      have nl1 : @Ne Nat lt (L' + 1 + 1 + 1) := cell_ne (o := listOf (refsOf tupst).toArray nt) Nw (by first | ((repeat (first | with_reducible exact List.mem_cons_self .. | with_reducible refine List.mem_cons_of_mem _ ?_)); done) | simp) (by k_mem) hoA (fun _ e => by cases e)
      have nl2 : @Ne Nat lt (L' + 1 + 1) := cell_ne (o := listOf (refsOf tupst).toArray nt) Nw (by first | ((repeat (first | with_reducible exact List.mem_cons_self .. | with_reducible refine List.mem_cons_of_mem _ ?_)); done) | simp) (by k_mem) hoS (fun _ e => by cases e)
      clear cn
      have apart : ∀ p ∈ rs, p.1 ≠ Sp ∧ p.1 ≠ In := by
        rw [hrs]
        intro p hp
        simp only [List.mem_append] at hp
        rcases hp with hp | hp | hp | hp
        · have := l8 p hp; exact ⟨Nat.ne_of_lt (Nat.lt_trans this l1), Nat.ne_of_lt this⟩
        · exact hup p (by first | ((repeat with_reducible refine List.mem_cons_of_mem _ ?_); first | exact hp | exact List.mem_append_left _ hp | exact List.mem_append_right _ hp | exact List.mem_append_right _ (List.mem_append_left _ hp) | exact List.mem_append_right _ (List.mem_append_right _ hp) | exact List.mem_append_left _ (List.mem_append_right _ hp) | exact List.mem_append_right _ (List.mem_append_right _ (List.mem_append_left _ hp))) | simp [hp])
        · exact hup p (by first | ((repeat with_reducible refine List.mem_cons_of_mem _ ?_); first | exact hp | exact List.mem_append_left _ hp | exact List.mem_append_right _ hp | exact List.mem_append_right _ (List.mem_append_left _ hp) | exact List.mem_append_right _ (List.mem_append_right _ hp) | exact List.mem_append_left _ (List.mem_append_right _ hp) | exact List.mem_append_right _ (List.mem_append_right _ (List.mem_append_left _ hp))) | simp [hp])
        · rw [hown p hp]; exact ⟨(hI (Sp, listOf (refsOf sps).toArray ns) (by first | ((repeat (first | with_reducible exact List.mem_cons_self .. | with_reducible refine List.mem_cons_of_mem _ ?_)); done) | simp)).symm, (hI (In, listOf (refsOf ins).toArray ni) (by first | ((repeat (first | with_reducible exact List.mem_cons_self .. | with_reducible refine List.mem_cons_of_mem _ ?_)); done) | simp)).symm⟩
      have nSp : ∀ p ∈ rs, p.1 ≠ Sp := fun p hp => (apart p hp).1
      have nIn : ∀ p ∈ rs, p.1 ≠ In := fun p hp => (apart p hp).2
      clear apart
      have hszS : (refsOf sps).length ≤ 1000 := by rw [refsOf_length, hSp.1]; (first | lia | omega)
      have hszI : (refsOf ins).length ≤ 1000 := by rw [refsOf_length, hIn.1]; (first | lia | omega)
      have hall := (hturn k hk5).all
      have hab := (hturn k hk5).lt
      have hb10 := (hturn k hk5).b10
      have hsl := (safe_sgn k (by first | with_reducible assumption | with_reducible exact lt_num (by with_reducible assumption) (Nat.le_of_ble_eq_true rfl) | with_reducible exact le_num (by with_reducible assumption) (Nat.le_of_ble_eq_true rfl) | with_reducible exact le_le (by with_reducible assumption) (Nat.le_of_ble_eq_true rfl) | (first | lia | omega))).2
      clear hc0
      (try dsimp only)
      walk1
      walk1
      (try clear F)
      (try clear Nw)
      (try clear Nw)
      rename Fr _ _ _ _ => F
      rename News _ _ _ _ => Nw
      rename (Obj.data _ = Data.cell (some (Value.str (sgn k) t0))) => hoS2
      rename Obj => oS2
      obtain ⟨rs2, hrs2⟩ : ∃ r, r = (xt, instObj 218 dxt) :: (dxt, dictOf (hdrE w tokt lt) 1) :: (lt, listOf (refsOf tupst).toArray nt) :: rs := ⟨_, rfl⟩
      have nA2 : ∀ p ∈ rs2, p.1 ≠ L' + 1 + 1 + 1 := by rw [hrs2]; exact List.forall_mem_cons.mpr ⟨nx1, List.forall_mem_cons.mpr ⟨nd1, List.forall_mem_cons.mpr ⟨nl1, nA⟩⟩⟩
      have nS2 : ∀ p ∈ rs2, p.1 ≠ L' + 1 + 1 := by rw [hrs2]; exact List.forall_mem_cons.mpr ⟨nx2, List.forall_mem_cons.mpr ⟨nd2, List.forall_mem_cons.mpr ⟨nl2, nS⟩⟩⟩
      have nSp2 : ∀ p ∈ rs2, p.1 ≠ Sp := by rw [hrs2]; exact List.forall_mem_cons.mpr ⟨Nat.ne_of_lt (Nat.lt_trans l5 l1), List.forall_mem_cons.mpr ⟨Nat.ne_of_lt (Nat.lt_trans l6 l1), List.forall_mem_cons.mpr ⟨Nat.ne_of_lt (Nat.lt_trans l7 l1), nSp⟩⟩⟩
      have nIn2 : ∀ p ∈ rs2, p.1 ≠ In := by rw [hrs2]; exact List.forall_mem_cons.mpr ⟨Nat.ne_of_lt l5, List.forall_mem_cons.mpr ⟨Nat.ne_of_lt l6, List.forall_mem_cons.mpr ⟨Nat.ne_of_lt l7, nIn⟩⟩⟩
      refine cutN 3 (HolDD s L' tl cs k Sp sps In ins ni oA oS2 rs2 wd tw lf tz z t xt) ?_ ?_
      rotate_left
      · clear F Nw m1 m2 m3 m4 m5 m6
        rintro _ ⟨h2, tk2, m, Sn, ta, tb, nS, rfl, F, Nw, l9, l10, m1, m2, m3, m4, m5, m6⟩
        dsimp only [List.drop]
        (try k_fold)
        k_steps
        refine Halt.go ?_
        (try clear F)
        (try clear Nw)
        rename Fr _ _ _ _ => F
        rename News _ _ _ _ => Nw
        rename (Str.length _ ≤ Str.length wd) => harl
        rename (Obj.data _ = Data.cell (some (Value.str (Txt.slice _ _ _) _))) => hoA2
        rename Obj => oA2
        obtain ⟨arc, harc⟩ : ∃ arc, arc = Txt.slice wd (some ((posC cs k : Nat) : Int)) (some (((posC cs (k + 5) : Nat) : Int) + 1)) := ⟨_, rfl⟩
        change (Txt.slice wd (some ((posC cs k : Nat) : Int)) (some (((posC cs (k + 5) : Nat) : Int) + 1))).length ≤ wd.length at harl
        change Obj.data _ = Data.cell (some (Value.str (Txt.slice wd (some ((posC cs k : Nat) : Int)) (some (((posC cs (k + 5) : Nat) : Int) + 1))) _)) at hoA2
        rw [← harc] at harl hoA2
        have hpa : True ∧ arc = Txt.slice wd (some ((posC cs k : Nat) : Int)) (some (((posC cs (k + 5) : Nat) : Int) + 1)) := ⟨trivial, harc⟩
        have harl10 : arc.length ≤ 10 := by (first | lia | omega)
        clear harc
        have E1 := (hturn k hk5).e1
        rw [← hpa.2] at E1
        k_dflt (refine ListComp_S (F₀ := by k_asm) (by with_unfolding_all rfl) (by decide) (by rfl) (by decide) (by rfl) ?_)
        k_steps
        refine Halt.go ?_
        refine SrcS.intro rfl F Nw (by decide +kernel) (by decide +kernel) fun g => ?_
        refine compU_ind (fun j ys nx => nx = _ ∧ ys = ((List.range j).map (inC cs k)).map Value.bool) ?_ ?_ _ 0 [] _ (Nat.zero_add _) ⟨rfl, rfl⟩
        · clear F Nw
          rintro j ys nx ⟨rfl, rfl⟩ hj v I2 oI2 C oC D m₃ h6 tk6 E' ⟨c1, u1, hc1, rfl⟩ hC hx F Nw off ne3
          have hj10 : j < 10 := hj
          rw [sgn_at10 j hj10 c1 hc1] at hx
          clear hc1
          have hjl := (safe_sgn j hj10).2
          have hjs := (safe_sgn k (by first | with_reducible assumption | with_reducible exact lt_num (by with_reducible assumption) (Nat.le_of_ble_eq_true rfl) | with_reducible exact le_num (by with_reducible assumption) (Nat.le_of_ble_eq_true rfl) | with_reducible exact le_le (by with_reducible assumption) (Nat.le_of_ble_eq_true rfl) | (first | lia | omega))).2
          have hulq : (Txt.upper (sgn k)).length = 1 := by rw [upper_sgn k hk5]; exact (safe_sgn (k + 5) (by (first | lia | omega))).2
          obtain ⟨ft1, ft2, ft3, ft4⟩ := fits_two hjs hulq hjl
          have E1j := E1 j hj10
          (try dsimp only)
          k_steps
          (first | (k_unmd; k_unfold; try dsimp only) | (try dsimp only))
          rename Fr _ _ _ _ => F
          rename News _ _ _ _ => Nw
          refine LCg.CompEnd.intro F Nw _ (fun p hp => hp) off trivial ⟨rfl, ?_⟩
          rw [List.range_succ, List.map_append, List.map_append]
          rfl
        · clear F Nw
          rintro ys nx ⟨rfl, rfl⟩
          intro D h tk F Nw o1
          obtain ⟨row, hrow⟩ : ∃ r, r = ((List.range (Str.ofString "abcdeABCDE").cps.size).map (inC cs k)).map Value.bool := ⟨_, rfl⟩
          rw [← hrow] at Nw
          have hrow2 : True ∧ row = (insRow cs k).map Value.bool := ⟨trivial, hrow⟩
          clear hrow
          have hul := (safe_sgn (k + 5) (by first | with_reducible assumption | with_reducible exact lt_num (by with_reducible assumption) (Nat.le_of_ble_eq_true rfl) | with_reducible exact le_num (by with_reducible assumption) (Nat.le_of_ble_eq_true rfl) | with_reducible exact le_le (by with_reducible assumption) (Nat.le_of_ble_eq_true rfl) | (first | lia | omega))).2
          rw [← upper_sgn k hk5] at hul
          have hjs := (safe_sgn k (by first | with_reducible assumption | with_reducible exact lt_num (by with_reducible assumption) (Nat.le_of_ble_eq_true rfl) | with_reducible exact le_num (by with_reducible assumption) (Nat.le_of_ble_eq_true rfl) | with_reducible exact le_le (by with_reducible assumption) (Nat.le_of_ble_eq_true rfl) | (first | lia | omega))).2
          obtain ⟨⟨ft1, ft2, ft3, ft4, ft5, ft6⟩, ft7, ft8, ft9, ft10⟩ := fits_one hjs hul
          have dD : @Ne Nat D In := fun e => by simp only [LCg.Off1] at o1; exact o1.2.2.1 e.symm
          have dSp : @Ne Nat D Sp := fun e => by simp only [LCg.Off1] at o1; exact o1.2.1 e.symm
          have dA : @Ne Nat D (L' + 1 + 1 + 1) := fun e => by simp only [LCg.Off1] at o1; exact o1.2.2.2.1 e.symm
          have dS : @Ne Nat D (L' + 1 + 1) := fun e => by simp only [LCg.Off1] at o1; exact o1.2.2.2.2.1 e.symm
          have dSn : @Ne Nat D Sn := fun e => by simp only [LCg.Off1] at o1; exact o1.1 e.symm
          clear o1
          have E2 := (hturn k hk5).e2
          have E3 := (hturn k hk5).e3
          have E4 := (hturn k hk5).e4
          have E5 := (hturn k hk5).e5
          rw [← hpa.2] at E5
          have E6 := (hturn k hk5).e6
          have E7 := (hturn k hk5).e7
          rw [← hpa.2] at E7
          have E8 := (hturn k hk5).e8
          (try dsimp only)
          k_steps
          all_goals first
            | (exfalso; rename (_ != _) = true => hq; simp at hq; done)
            | skip
          (first | (k_unmd; k_unfold; try dsimp only) | (try dsimp only))
          rename Fr _ _ _ _ => F
          rename News _ _ _ _ => Nw
          try rw [List.push_toArray] at Nw
          have hIz := (Nw (I, oI) (by rw [hrs2, hrs]; simp [hoI])).1
          have zD := (Nw _ (List.mem_cons_self ..)).1
          have zSn := (Nw _ (List.mem_cons_of_mem _ (List.mem_cons_self ..))).1
          have iD : @Ne Nat D I := ne_at zD hIz (fun e => by have := congrArg Obj.cls e; dsimp only at this; rw [hoc2] at this; simp at this)
          have iSn : @Ne Nat Sn I := ne_at zSn hIz (fun e => by have := congrArg Obj.cls e; dsimp only at this; rw [hoc2] at this; simp at this)
          refine OurTurn.next (nx := (Sp, listOf (refsOf (sps ++ [(Sn, listOf #[.int (posC cs k : Nat) ta, .int (posC cs (k + 5) : Nat) tb] 0)])).toArray nS) :: (In, listOf (refsOf (ins ++ [(D, LCg.lst row)])).toArray (ni + 1)) :: (xt, instObj 218 dxt) :: (dxt, dictOf (hdrE w tokt lt) 1) :: (lt, listOf (refsOf tupst).toArray nt) :: (L' + 1 + 1 + 1, oA2) :: (L' + 1 + 1, oS2) :: (rest ++ ((ins ++ [(D, LCg.lst row)]) ++ (sps ++ [(Sn, listOf #[.int (posC cs k : Nat) ta, .int (posC cs (k + 5) : Nat) tb] 0)])))) F (fun p hp => Nw p ?_) ?_
            ⟨ins ++ [(D, LCg.lst row)], sps ++ [(Sn, _)], _, _, oA2, oS2, _, _, ?_, ?_, hoA2, hoS2, ?_, rfl, m1, m2, m3, m4, m5, m6⟩
          · rw [refsOf_snoc, refsOf_snoc] at hp
            rw [hrs2, hrs]
            simp only [List.cons_append, List.append_assoc, List.mem_cons, List.mem_append, List.not_mem_nil, or_false, false_or] at hp ⊢
            rcases hp with h | h | h | h | h | h | h | h | h | h | h | h | h <;> simp only [h, true_or, or_true]
          · intro p hp
            simp only [List.mem_cons, List.mem_append, List.not_mem_nil, or_false] at hp
            rcases hp with h | h | h | h | h | h | h | h | (h | h) | h | h
            · rw [h]; exact hI (Sp, listOf (refsOf sps).toArray ns) (by first | ((repeat (first | with_reducible exact List.mem_cons_self .. | with_reducible refine List.mem_cons_of_mem _ ?_)); done) | simp)
            · rw [h]; exact hI (In, listOf (refsOf ins).toArray ni) (by first | ((repeat (first | with_reducible exact List.mem_cons_self .. | with_reducible refine List.mem_cons_of_mem _ ?_)); done) | simp)
            · rw [h]; exact hI (xt, instObj 218 dxt) (by first | ((repeat (first | with_reducible exact List.mem_cons_self .. | with_reducible refine List.mem_cons_of_mem _ ?_)); done) | simp)
            · rw [h]; exact hI (dxt, dictOf (hdrE w tokt lt) 1) (by first | ((repeat (first | with_reducible exact List.mem_cons_self .. | with_reducible refine List.mem_cons_of_mem _ ?_)); done) | simp)
            · rw [h]; exact hI (lt, listOf (refsOf tupst).toArray nt) (by first | ((repeat (first | with_reducible exact List.mem_cons_self .. | with_reducible refine List.mem_cons_of_mem _ ?_)); done) | simp)
            · rw [h]; exact hI (L' + 1 + 1 + 1, oA) (by first | ((repeat (first | with_reducible exact List.mem_cons_self .. | with_reducible refine List.mem_cons_of_mem _ ?_)); done) | simp)
            · rw [h]; exact hI (L' + 1 + 1, oS) (by first | ((repeat (first | with_reducible exact List.mem_cons_self .. | with_reducible refine List.mem_cons_of_mem _ ?_)); done) | simp)
            · exact hI p (by first | ((repeat with_reducible refine List.mem_cons_of_mem _ ?_); first | exact h | exact List.mem_append_left _ h | exact List.mem_append_right _ h | exact List.mem_append_right _ (List.mem_append_left _ h) | exact List.mem_append_right _ (List.mem_append_right _ h) | exact List.mem_append_left _ (List.mem_append_right _ h) | exact List.mem_append_right _ (List.mem_append_right _ (List.mem_append_left _ h))) | simp [h])
            · exact hI p (by first | ((repeat with_reducible refine List.mem_cons_of_mem _ ?_); first | exact h | exact List.mem_append_left _ h | exact List.mem_append_right _ h | exact List.mem_append_right _ (List.mem_append_left _ h) | exact List.mem_append_right _ (List.mem_append_right _ h) | exact List.mem_append_left _ (List.mem_append_right _ h) | exact List.mem_append_right _ (List.mem_append_right _ (List.mem_append_left _ h))) | simp [h])
            · rw [h]; exact iD
            · exact hI p (by first | ((repeat with_reducible refine List.mem_cons_of_mem _ ?_); first | exact h | exact List.mem_append_left _ h | exact List.mem_append_right _ h | exact List.mem_append_right _ (List.mem_append_left _ h) | exact List.mem_append_right _ (List.mem_append_right _ h) | exact List.mem_append_left _ (List.mem_append_right _ h) | exact List.mem_append_right _ (List.mem_append_right _ (List.mem_append_left _ h))) | simp [h])
            · rw [h]; exact iSn
          · exact hIn.snoc hrow2
          · exact hSp.snoc
          · intro p hp
            simp only [List.mem_append, List.mem_cons, List.not_mem_nil, or_false] at hp
            rcases hp with (h | h) | h | h
            · exact hup p (by first | ((repeat with_reducible refine List.mem_cons_of_mem _ ?_); first | exact h | exact List.mem_append_left _ h | exact List.mem_append_right _ h | exact List.mem_append_right _ (List.mem_append_left _ h) | exact List.mem_append_right _ (List.mem_append_right _ h) | exact List.mem_append_left _ (List.mem_append_right _ h) | exact List.mem_append_right _ (List.mem_append_right _ (List.mem_append_left _ h))) | simp [h])
            · rw [h]; exact ⟨dSp, dD⟩
            · exact hup p (by first | ((repeat with_reducible refine List.mem_cons_of_mem _ ?_); first | exact h | exact List.mem_append_left _ h | exact List.mem_append_right _ h | exact List.mem_append_right _ (List.mem_append_left _ h) | exact List.mem_append_right _ (List.mem_append_right _ h) | exact List.mem_append_left _ (List.mem_append_right _ h) | exact List.mem_append_right _ (List.mem_append_right _ (List.mem_append_left _ h))) | simp [h])
            · rw [h]; exact ⟨Nat.ne_of_gt l9, Nat.ne_of_gt (Nat.lt_trans l1 l9)⟩
      --FIRST
      dsimp only [List.take]
      (try k_fold)
      k_steps
      refine Halt.go ?_
      rename Fr _ _ _ _ => F
      rename News _ _ _ _ => Nw
      have N6 : News (hideAll s.heap (tl.map (·.1))) L' _ ((xt, instObj 218 dxt) :: (dxt, dictOf (hdrE w tokt lt) 1) :: (lt, listOf (refsOf tupst).toArray nt) :: _) := fun q hq => Nw q (List.mem_cons_of_mem _ (List.mem_cons_of_mem _ hq))
      rw [upper_sgn k hk5]
      refine Does.use (all_spec ⟨X', T'⟩ (by exact F.keep) (TabAt.news (by exact N6)) (TabAt.none (by exact N6)) (hT.rowsAt (by exact fun q hq => (N6 q (by rw [hrs, hrest]; first | ((repeat with_reducible refine List.mem_cons_of_mem _ ?_); first | exact hq | exact List.mem_append_left _ hq | exact List.mem_append_right _ hq | exact List.mem_append_right _ (List.mem_append_left _ hq) | exact List.mem_append_right _ (List.mem_append_right _ hq) | exact List.mem_append_left _ (List.mem_append_right _ hq) | exact List.mem_append_right _ (List.mem_append_right _ (List.mem_append_left _ hq))) | simp [hq])).1)) okT (nmOk_sgn (by first | with_reducible assumption | with_reducible exact lt_num (by with_reducible assumption) (Nat.le_of_ble_eq_true rfl) | with_reducible exact le_num (by with_reducible assumption) (Nat.le_of_ble_eq_true rfl) | with_reducible exact le_le (by with_reducible assumption) (Nat.le_of_ble_eq_true rfl) | (first | lia | omega)))) rfl (by first | exact room1 hd (Nat.le_of_ble_eq_true rfl) | exact room3 hu (Nat.le_of_ble_eq_true rfl) | (simp only [Around.deeper]; (first | lia | omega))) (by first | exact room1 hd (Nat.le_of_ble_eq_true rfl) | exact room3 hu (Nat.le_of_ble_eq_true rfl) | (simp only [Around.deeper]; (first | lia | omega))) ?_
      rintro v h3 tk3 ⟨keep, D2, k2, ps, rfl, hD2, hD20, hps⟩
      rw [hall] at hps
      clear hall
      obtain ⟨t1, t2, rfl⟩ := two_texts hps
      have F7 := F.keeps keep.stays
      have N7 := news_new F hD20 hD2 (Nw.grown keep.stays)
      have e1 : @Ne Nat D2 Sp := new_ne hD20 (Nw (Sp, listOf (refsOf sps).toArray ns) (by first | ((repeat (first | with_reducible exact List.mem_cons_self .. | with_reducible refine List.mem_cons_of_mem _ ?_)); done) | simp)).1
      have e2 : @Ne Nat D2 In := new_ne hD20 (Nw (In, listOf (refsOf ins).toArray ni) (by first | ((repeat (first | with_reducible exact List.mem_cons_self .. | with_reducible refine List.mem_cons_of_mem _ ?_)); done) | simp)).1
      have e3 : @Ne Nat D2 (L' + 1 + 1 + 1) := new_ne hD20 (Nw (L' + 1 + 1 + 1, oA) (by first | ((repeat (first | with_reducible exact List.mem_cons_self .. | with_reducible refine List.mem_cons_of_mem _ ?_)); done) | simp)).1
      clear hD2 hD20
      clear F Nw N6 keep hps
      have hpa := (safe_pn (posC cs k) (by first | with_reducible assumption | with_reducible exact lt_num (by with_reducible assumption) (Nat.le_of_ble_eq_true rfl) | with_reducible exact le_num (by with_reducible assumption) (Nat.le_of_ble_eq_true rfl) | with_reducible exact le_le (by with_reducible assumption) (Nat.le_of_ble_eq_true rfl) | (first | lia | omega))).2
      have hpb := (safe_pn (posC cs (k + 5)) (by first | with_reducible assumption | with_reducible exact lt_num (by with_reducible assumption) (Nat.le_of_ble_eq_true rfl) | with_reducible exact le_num (by with_reducible assumption) (Nat.le_of_ble_eq_true rfl) | with_reducible exact le_le (by with_reducible assumption) (Nat.le_of_ble_eq_true rfl) | (first | lia | omega))).2
      unfold strValues at N7
      dsimp only [List.map] at N7
      (try dsimp only)
      k_steps
      rename Fr _ _ _ _ => F
      rename News _ _ _ _ => Nw
      rename _ ∧ _ ∧ _ ∧ _ ∧ _ ∧ _ ∧ _ ∧ _ ∧ AllLt _ rs => l1a
      rw [List.push_toArray] at Nw
      refine ⟨_, _, _, _, _, _, _, rfl, F, pick9 Nw hrs2, l1a.2.1, ?_, m1, m2, m3, m4, m5, m6⟩
      · rw [hrs2]
        exact List.forall_mem_cons.mpr ⟨l1a.2.2.2.1, List.forall_mem_cons.mpr ⟨l1a.2.2.2.2.1, List.forall_mem_cons.mpr ⟨l1a.2.2.2.2.2.1, allLt_all l1a.2.2.2.2.2.2.2.2⟩⟩⟩
      --ENDFIRST
    · clear F0 Nw0 m1 m2 m3 m4 hoA hoS
      rintro m₁ nx h tk ⟨ins, sps, ni, ns, oA, oS, vA, vS, hIn, hSp, hoA, hoS, hup, rfl, m1, m2, m3, m4, m5, m6⟩ F Nw
      (try k_fold)
      k_steps
      refine ⟨_, _, _, Sp, In, ins, sps, ni, ns, rfl, hIn, hSp, F, fun p hp => Nw p ?_, m2, m3, m5, m6⟩
      rw [hrest]
      simp only [List.mem_cons, List.mem_append] at hp ⊢
      rcases hp with h | h | h | h | h <;> simp only [h, true_or, or_true]
  --PARTA
  dsimp only [List.take]
  (try k_fold)
  k_steps
  rename Fr _ _ _ _ => F
  rename News _ _ _ _ => Nw
  refine Does.use (lay_spec ⟨X', T'⟩ (by exact F.keep) hS (tabs_at (by exact Nw) (by intro p hp; first | ((repeat with_reducible refine List.mem_cons_of_mem _ ?_); first | exact hp | exact List.mem_append_left _ hp | exact List.mem_append_right _ hp | exact List.mem_append_right _ (List.mem_append_left _ hp) | exact List.mem_append_right _ (List.mem_append_right _ hp) | exact List.mem_append_left _ (List.mem_append_right _ hp) | exact List.mem_append_right _ (List.mem_append_right _ (List.mem_append_left _ hp))) | simp [hp])) hz) rfl (by first | exact room1 hd (Nat.le_of_ble_eq_true rfl) | exact room3 hu (Nat.le_of_ble_eq_true rfl) | (simp only [Around.deeper]; (first | lia | omega))) (by first | exact room1 hd (Nat.le_of_ble_eq_true rfl) | exact room3 hu (Nat.le_of_ble_eq_true rfl) | (simp only [Around.deeper]; (first | lia | omega))) ?_
  rintro v h2 tk2 ⟨hP, T, x, dx, l, tok, tups, n, nT, tz, rfl, hT, hnew⟩
  have hcsOk : okC (csN 5 z) = true := csN_ok z
  obtain ⟨cs, hcs⟩ : ∃ cs, cs = csN 5 z := ⟨_, rfl⟩
  obtain ⟨lf, hlf⟩ : ∃ lf, lf = leftN 5 z := ⟨_, rfl⟩
  rw [← hcs] at hT hcsOk
  rw [← hlf] at hnew
  have hpure : cs = csN 5 z ∧ lf = leftN 5 z := ⟨hcs, hlf⟩
  clear hcs hlf
  obtain ⟨okc, okl⟩ := okC_cells hcsOk
  have cA := (Nw _ (List.mem_cons_self ..)).1
  have cB := (Nw _ (List.mem_cons_of_mem _ (List.mem_cons_self ..))).1
  have cC := (Nw _ (List.mem_cons_of_mem _ (List.mem_cons_of_mem _ (List.mem_cons_self ..)))).1
  obtain ⟨tl2, hS2, F2, N2, hsub2, _⟩ := hP.back hS F Nw fun tl' => ⟨_, .cons (notFld_cell (by assumption)) (.cons (notFld_cell (by assumption)) (.cons (notFld_cell (by assumption)) .nil))⟩
  have N3 := news_more F hnew (N2 _ (.cons (notFld_cell (by assumption)) (.cons (notFld_cell (by assumption)) (.cons (notFld_cell (by assumption)) .nil))))
  clear F Nw N2 hP
  have ne1 : ∀ p ∈ (T, ({ cls := .type "tuple", data := .seq #[.ref x, .int (lf) tz] nT } : Obj)) :: (x, instObj 218 dx) :: (dx, dictOf (hdrE w tok l) 1) :: (l, listOf (refsOf tups).toArray n) :: tups, @Ne Nat p.1 (L' + 1 + 1 + 1) ∧ @Ne Nat p.1 (L' + 1 + 1) ∧ @Ne Nat p.1 (L' + 1) :=
    fun p hp => ⟨new_ne (hnew p hp).2 (by exact cA), new_ne (hnew p hp).2 (by exact cB), new_ne (hnew p hp).2 (by exact cC)⟩
  have t1 := tail_ne (d := L' + 1 + 1 + 1) N3 hS2 (fun p hp => by first | ((repeat with_reducible refine List.mem_cons_of_mem _ ?_); first | exact hp | exact List.mem_append_left _ hp | exact List.mem_append_right _ hp | exact List.mem_append_right _ (List.mem_append_left _ hp) | exact List.mem_append_right _ (List.mem_append_right _ hp) | exact List.mem_append_left _ (List.mem_append_right _ hp) | exact List.mem_append_right _ (List.mem_append_right _ (List.mem_append_left _ hp))) | simp [hp]) (by k_mem) (notFld_cell (by assumption))
  have t2 := tail_ne (d := L' + 1 + 1) N3 hS2 (fun p hp => by first | ((repeat with_reducible refine List.mem_cons_of_mem _ ?_); first | exact hp | exact List.mem_append_left _ hp | exact List.mem_append_right _ hp | exact List.mem_append_right _ (List.mem_append_left _ hp) | exact List.mem_append_right _ (List.mem_append_right _ hp) | exact List.mem_append_left _ (List.mem_append_right _ hp) | exact List.mem_append_right _ (List.mem_append_right _ (List.mem_append_left _ hp))) | simp [hp]) (by k_mem) (notFld_cell (by assumption))
  have t3 := tail_ne (d := L' + 1) N3 hS2 (fun p hp => by first | ((repeat with_reducible refine List.mem_cons_of_mem _ ?_); first | exact hp | exact List.mem_append_left _ hp | exact List.mem_append_right _ hp | exact List.mem_append_right _ (List.mem_append_left _ hp) | exact List.mem_append_right _ (List.mem_append_right _ hp) | exact List.mem_append_left _ (List.mem_append_right _ hp) | exact List.mem_append_right _ (List.mem_append_right _ (List.mem_append_left _ hp))) | simp [hp]) (by k_mem) (notFld_cell (by assumption))
  obtain ⟨rest, hrest⟩ : ∃ r, r = tups ++ tl2 := ⟨_, rfl⟩
  have r1 : ∀ p ∈ rest, p.1 ≠ L' + 1 + 1 + 1 := by
    rw [hrest]; intro p hp
    exact (List.mem_append.mp hp).elim (fun h => (ne1 p (by first | ((repeat with_reducible refine List.mem_cons_of_mem _ ?_); first | exact h | exact List.mem_append_left _ h | exact List.mem_append_right _ h | exact List.mem_append_right _ (List.mem_append_left _ h) | exact List.mem_append_right _ (List.mem_append_right _ h) | exact List.mem_append_left _ (List.mem_append_right _ h) | exact List.mem_append_right _ (List.mem_append_right _ (List.mem_append_left _ h))) | simp [h])).1) (t1 p)
  have r2 : ∀ p ∈ rest, p.1 ≠ L' + 1 + 1 := by
    rw [hrest]; intro p hp
    exact (List.mem_append.mp hp).elim (fun h => (ne1 p (by first | ((repeat with_reducible refine List.mem_cons_of_mem _ ?_); first | exact h | exact List.mem_append_left _ h | exact List.mem_append_right _ h | exact List.mem_append_right _ (List.mem_append_left _ h) | exact List.mem_append_right _ (List.mem_append_right _ h) | exact List.mem_append_left _ (List.mem_append_right _ h) | exact List.mem_append_right _ (List.mem_append_right _ (List.mem_append_left _ h))) | simp [h])).2.1) (t2 p)
  have r3 : ∀ p ∈ rest, p.1 ≠ L' + 1 := by
    rw [hrest]; intro p hp
    exact (List.mem_append.mp hp).elim (fun h => (ne1 p (by first | ((repeat with_reducible refine List.mem_cons_of_mem _ ?_); first | exact h | exact List.mem_append_left _ h | exact List.mem_append_right _ h | exact List.mem_append_right _ (List.mem_append_left _ h) | exact List.mem_append_right _ (List.mem_append_right _ h) | exact List.mem_append_left _ (List.mem_append_right _ h) | exact List.mem_append_right _ (List.mem_append_right _ (List.mem_append_left _ h))) | simp [h])).2.2) (t3 p)
  obtain ⟨nT1, nT2, nT3⟩ := ne1 _ (List.mem_cons_self ..)
  obtain ⟨nx1, nx2, nx3⟩ := ne1 (x, instObj 218 dx) (by first | ((repeat (first | with_reducible exact List.mem_cons_self .. | with_reducible refine List.mem_cons_of_mem _ ?_)); done) | simp)
  obtain ⟨nd1, nd2, nd3⟩ := ne1 (dx, dictOf (hdrE w tok l) 1) (by first | ((repeat (first | with_reducible exact List.mem_cons_self .. | with_reducible refine List.mem_cons_of_mem _ ?_)); done) | simp)
  obtain ⟨nl1, nl2, nl3⟩ := ne1 (l, listOf (refsOf tups).toArray n) (by first | ((repeat (first | with_reducible exact List.mem_cons_self .. | with_reducible refine List.mem_cons_of_mem _ ?_)); done) | simp)
  have N4 : News (hideAll s.heap (tl.map (·.1))) L' h2 (_ :: _ :: _ :: _ :: _ :: _ :: _ :: rest) := fun p hp => N3 p (by
    rw [hrest] at hp
    simp only [List.cons_append, List.mem_cons, List.mem_append] at hp ⊢
    rcases hp with h | h | h | h | h | h | h | h | h
    · exact .inl h
    · exact .inr (.inl h)
    · exact .inr (.inr (.inl h))
    · exact .inr (.inr (.inr (.inl h)))
    · exact .inr (.inr (.inr (.inr (.inr (.inl h)))))
    · exact .inr (.inr (.inr (.inr (.inr (.inr (.inl h))))))
    · exact .inr (.inr (.inr (.inr (.inr (.inr (.inr (.inl h)))))))
    · exact .inr (.inr (.inr (.inr (.inl h))))
    · exact .inr (.inr (.inr (.inr (.inr (.inr (.inr (.inr h))))))))
  clear N3 t1 t2 t3 ne1 hnew
  (try dsimp only at nT1 nT2 nT3 nx1 nx2 nx3 nd1 nd2 nd3 nl1 nl2 nl3)
  (try dsimp only)
  k_steps
  refine Halt.go ?_
  k_dflt (refine LCg.ListComp_U (F₀ := by k_asm) (by with_unfolding_all rfl) (by decide) (by rfl) (by decide) (by rfl) ?_)
  k_steps
  refine Halt.go ?_
  rename Fr _ _ _ _ => F
  rename News _ _ _ _ => Nw
  refine LCg.CompSrc.range (n := 10) rfl F Nw (by with_reducible assumption) (by decide) (by decide) (by decide) fun g => ?_
  refine compU_ind (fun j ys nx => nx = _ ∧ ∃ ps, ys = strValues ps ∧ ps.map (·.1) = (List.range j).map fun p => ((at' p (cs)).map sgn).getD (Str.ofString "-")) ?_ ?_ _ 0 [] _ (Nat.zero_add _) ⟨rfl, [], rfl, rfl⟩
  · clear F Nw
    rintro j ys nx ⟨rfl, ps, rfl, hps⟩ hj v I2 oI2 C oC D m₃ h6 tk6 E' ⟨tv, rfl⟩ hC hx F Nw off ne3
    (try dsimp only)
    k_steps
    rename Fr _ _ _ _ => F
    rename News _ _ _ _ => Nw
    have eP : Str.ofString "p" ++ Str.ofString (toString (0 + (j : Int))) = pn j := by rw [Int.zero_add]; exact pn_eq j hj
    have N6 : News _ L' _ ((x, instObj 218 dx) :: (dx, dictOf (hdrE w tok l) 1) :: (l, listOf (refsOf tups).toArray n) :: _) := fun q hq => Nw q (List.mem_cons_of_mem _ (List.mem_cons_of_mem _ (List.mem_cons_of_mem _ (List.mem_cons_of_mem _ hq))))
    refine Does.use (get_spec (df := .str (Str.ofString "-") _) ⟨X', T'⟩ (by exact F.keep) (TabAt.news (by exact N6)) (TabAt.none (by exact N6)) (hT.rowsAt (by exact fun q hq => (N6 q (by rw [hrest]; first | ((repeat with_reducible refine List.mem_cons_of_mem _ ?_); first | exact hq | exact List.mem_append_left _ hq | exact List.mem_append_right _ hq | exact List.mem_append_right _ (List.mem_append_left _ hq) | exact List.mem_append_right _ (List.mem_append_right _ hq) | exact List.mem_append_left _ (List.mem_append_right _ hq) | exact List.mem_append_right _ (List.mem_append_right _ (List.mem_append_left _ hq))) | simp [hq])).1)) (rowsOk okc (by first | with_reducible assumption | with_reducible exact lt_num (by with_reducible assumption) (Nat.le_of_ble_eq_true rfl) | with_reducible exact le_num (by with_reducible assumption) (Nat.le_of_ble_eq_true rfl) | with_reducible exact le_le (by with_reducible assumption) (Nat.le_of_ble_eq_true rfl) | (first | lia | omega))) (by rw [eP]; exact nmOk_pn hj) (.inl rfl)) rfl (by first | exact room1 hd (Nat.le_of_ble_eq_true rfl) | exact room3 hu (Nat.le_of_ble_eq_true rfl) | (simp only [Around.deeper]; (first | lia | omega))) (by first | exact room1 hd (Nat.le_of_ble_eq_true rfl) | exact room3 hu (Nat.le_of_ble_eq_true rfl) | (simp only [Around.deeper]; (first | lia | omega))) ?_
    rintro v h7 tk7 ⟨keep, got⟩
    rw [eP, getR_cells (lower_pn j hj) hj okc] at got
    obtain ⟨tg, rfl⟩ : ∃ tg, v = .str (((at' j cs).map sgn).getD (Str.ofString "-")) tg := by
      cases hat : at' j cs with
      | none => rw [hat] at got; exact ⟨_, got⟩
      | some r => rw [hat] at got; exact got
    have F7 := F.keeps keep.stays
    have N7 := Nw.grown keep.stays
    clear F Nw N6 keep
    (try dsimp only)
    k_steps
    rename Fr _ _ _ _ => F
    rename News _ _ _ _ => Nw
    refine LCg.CompEnd.intro F Nw _ (fun p hp => hp) off trivial ⟨rfl, ps ++ [(_, tg)], (strValues_snoc _ _ _).symm, ?_⟩
    rw [List.range_succ, List.map_append, List.map_append, hps]
    rfl
  · clear F Nw
    rintro ys nx ⟨rfl, ps, rfl, hps⟩
    intro D h tk F Nw o1
    (try dsimp only)
    k_steps
    refine SC.join (x := Str.ofString "") (texts := wlC cs) ⟨_, (Nw _ (List.mem_cons_self ..)).1, rfl, _, rfl⟩ hps (joinOk_small (k := 1) (wlC_one okc) (by decide) (by simp [wlC])) ?_
    intro tw kw
    have hwl : (Txt.join (Str.ofString "") (wlC cs)).length ≤ 10 := wd_len okc
    obtain ⟨wd, hwd⟩ : ∃ wd, wd = Txt.join (Str.ofString "") (wlC cs) := ⟨_, rfl⟩
    rw [← hwd] at hwl
    rw [← hwd]
    have hpw : True ∧ wd = Txt.join (Str.ofString "") (wlC cs) := ⟨trivial, hwd⟩
    clear hwd hps
    have Nw : News (hideAll s.heap (tl.map (·.1))) L' h ((x, instObj 218 dx) :: (dx, dictOf (hdrE w tok l) 1) :: (l, listOf (refsOf tups).toArray n) :: _) := fun q hq => Nw q (List.mem_cons_of_mem _ (List.mem_cons_of_mem _ hq))
    (try dsimp only)
    k_steps
    refine Halt.go ?_
    k_dflt (refine LCp.ListComp_P (F₀ := by k_asm) (by with_unfolding_all rfl) (by decide) (by rfl) (by decide) (by rfl) (by rfl) (by decide) ?_)
    k_steps
    refine Halt.go ?_
    (try clear F Nw)
    rename Fr _ _ _ _ => F
    rename News _ _ _ _ => Nw
    have hrl : (refsOf tups).length ≤ 10 := by rw [refsOf_length, hT.length]; simpa [rowsOf] using okl
    refine Does.use (items_spec ⟨X', T'⟩ (by exact F.keep) (TabAt.news (by exact Nw)) (TabAt.none (by exact Nw)) (by first | with_reducible assumption | with_reducible exact lt_num (by with_reducible assumption) (Nat.le_of_ble_eq_true rfl) | with_reducible exact le_num (by with_reducible assumption) (Nat.le_of_ble_eq_true rfl) | with_reducible exact le_le (by with_reducible assumption) (Nat.le_of_ble_eq_true rfl) | (first | lia | omega))) rfl (by first | exact room1 hd (Nat.le_of_ble_eq_true rfl) | exact room3 hu (Nat.le_of_ble_eq_true rfl) | (simp only [Around.deeper]; (first | lia | omega))) (by first | exact room1 hd (Nat.le_of_ble_eq_true rfl) | exact room3 hu (Nat.le_of_ble_eq_true rfl) | (simp only [Around.deeper]; (first | lia | omega))) ?_
    rintro v h7 tk7 ⟨keep, D1, k1, rfl, hD1, hD0⟩
    have F7 := F.keeps keep.stays
    have N7 := news_new F hD0 hD1 (Nw.grown keep.stays)
    have g7 : h7.get? D1 = some (listOf (refsOf tups).toArray k1) := hD1
    clear F Nw keep
    (try dsimp only)
    k_steps
    refine Halt.go ?_
    rename Fr _ _ _ _ => F
    rename News _ _ _ _ => Nw
    obtain ⟨base, Nw, hbt, hbase⟩ : ∃ base, News (hideAll s.heap (tl.map (·.1))) L' h7 ((D1, listOf (refsOf tups).toArray k1) :: base) ∧ (∀ p ∈ tups, p ∈ base) ∧ base = _ := ⟨_, Nw, fun p hp => by rw [hrest]; simp [hp], rfl⟩
    refine LCp.SrcLP.ledger (its := (refsOf tups).toArray) (k := k1) (news := (D1, listOf (refsOf tups).toArray k1) :: (base ++ [])) rfl F (by rw [List.append_nil]; exact Nw) (List.mem_cons_self ..) (by rw [List.size_toArray, sizeLine_eq]; (first | lia | omega)) (fun g => ?_)
    refine compP_ind (fun j ys nx => ∃ tp, nx = (D1, listOf (refsOf tups).toArray k1) :: (base ++ tp) ∧ ys = refsOf tp ∧ TupsAre tp ((rowsT cs).take j)) ?_ ?_ _ 0 [] _ (Nat.zero_add _) ⟨[], rfl, rfl, .nil⟩
    · clear F Nw g7
      clear Nw
      rintro j ys nx ⟨tp, rfl, rfl, hTp⟩ hj v hv
      obtain ⟨p, hp, rfl⟩ := refsOf_at hv
      obtain ⟨r, hr1, pk, t1, t2, hpo⟩ := hT.at j p hp
      obtain ⟨c, hc1, rfl⟩ : ∃ c, cs[j]? = some c ∧ r = rowOf c := by
        unfold rowsOf at hr1
        rw [List.getElem?_map] at hr1
        cases hc : cs[j]? with
        | none => rw [hc] at hr1; cases hr1
        | some c => rw [hc] at hr1; exact ⟨c, rfl, (Option.some.inj hr1).symm⟩
      have hcok := okc c (List.mem_of_getElem? hc1)
      refine ⟨p.1, p.2, _, _, pk, rfl, ?_, by rw [hpo], by rw [hpo], ?_⟩
      · simp [hbt p (List.mem_of_getElem? hp)]
      intro I oI C oC D m₂ h8 tk8 E' hC hx1 hx2 F Nw off ne3
      have hlen : (rowOf c).1.length ≤ 1000000 := by
        unfold rowOf
        dsimp only
        split
        · rw [(safe_pn _ hcok.1).2]; (first | lia | omega)
        · rw [(safe_Pn _ hcok.1).2]; (first | lia | omega)
      obtain ⟨rt, hrt⟩ : ∃ r, r = base ++ tp := ⟨_, rfl⟩
      rw [← hrt] at Nw off
      clear hbase
      (try dsimp only)
      k_steps
      rename Fr _ _ _ _ => F
      rename News _ _ _ _ => Nw
      (first | (k_unmd; k_unfold; try dsimp only) | (try dsimp only))
      rw [lower_row hcok, show (rowOf c).2 = sgn c.2 from rfl] at Nw
      rename _ ∧ _ ∧ _ ∧ _ ∧ AllLt _ rt => l1
      rename Addr => Dn
      refine LCg.CompEnd.intro F Nw ((D1, listOf (refsOf tups).toArray k1) :: (base ++ (tp ++ [(Dn, tupObj (.str (sgn c.2) t2) (.str (pn c.1) tk8) 0)]))) (fun p hp => ?_) ?_ (.inr ⟨listOf (refsOf tups).toArray k1, by simp, rfl, _, rfl⟩) ⟨tp ++ [(Dn, tupObj (.str (sgn c.2) t2) (.str (pn c.1) tk8) 0)], rfl, (refsOf_snoc tp (Dn, _)).symm, ?_⟩
      · rw [hrt]
        simp only [List.mem_cons, List.mem_append, List.not_mem_nil, or_false] at hp ⊢
        rcases hp with h | h | h | h | h | h | h <;> (first | exact Or.inl h | exact Or.inr (Or.inl h) | exact Or.inr (Or.inr (Or.inl h)) | exact Or.inr (Or.inr (Or.inr (Or.inl h))) | exact Or.inr (Or.inr (Or.inr (Or.inr (Or.inl h)))) | exact Or.inr (Or.inr (Or.inr (Or.inr (Or.inr (Or.inl h))))) | exact Or.inr (Or.inr (Or.inr (Or.inr (Or.inr (Or.inr (Or.inl h)))))) | exact Or.inr h | exact Or.inr (Or.inr h) | exact Or.inr (Or.inr (Or.inr h)) | exact Or.inr (Or.inr (Or.inr (Or.inr h))) | exact Or.inr (Or.inr (Or.inr (Or.inr (Or.inr h)))) | exact Or.inr (Or.inr (Or.inr (Or.inr (Or.inr (Or.inr h))))) | exact Or.inr (Or.inr (Or.inr (Or.inr (Or.inr (Or.inr (Or.inr h)))))) | simp [h])
      · rw [hrt] at off
        have off' := off.mem
        refine LCg.Off3.of fun p hp => ?_
        simp only [List.mem_cons, List.mem_append, List.not_mem_nil, or_false] at hp
        rcases hp with h | h | h | h
        · exact off' p (by first | ((repeat with_reducible refine List.mem_cons_of_mem _ ?_); first | exact h | exact List.mem_append_left _ h | exact List.mem_append_right _ h | exact List.mem_append_right _ (List.mem_append_left _ h) | exact List.mem_append_right _ (List.mem_append_right _ h) | exact List.mem_append_left _ (List.mem_append_right _ h) | exact List.mem_append_right _ (List.mem_append_right _ (List.mem_append_left _ h))) | simp [h])
        · exact off' p (by first | ((repeat with_reducible refine List.mem_cons_of_mem _ ?_); first | exact h | exact List.mem_append_left _ h | exact List.mem_append_right _ h | exact List.mem_append_right _ (List.mem_append_left _ h) | exact List.mem_append_right _ (List.mem_append_right _ h) | exact List.mem_append_left _ (List.mem_append_right _ h) | exact List.mem_append_right _ (List.mem_append_right _ (List.mem_append_left _ h))) | simp [h])
        · exact off' p (by first | ((repeat with_reducible refine List.mem_cons_of_mem _ ?_); first | exact h | exact List.mem_append_left _ h | exact List.mem_append_right _ h | exact List.mem_append_right _ (List.mem_append_left _ h) | exact List.mem_append_right _ (List.mem_append_right _ h) | exact List.mem_append_left _ (List.mem_append_right _ h) | exact List.mem_append_right _ (List.mem_append_right _ (List.mem_append_left _ h))) | simp [h])
        · rw [h]; exact ⟨Nat.ne_of_gt l1.1, Nat.ne_of_gt l1.2.1, Nat.ne_of_gt l1.2.2.1⟩
      · rw [take_at (a := (sgn c.2, pn c.1)) (by unfold rowsT; rw [List.getElem?_map, hc1]; rfl)]
        exact hTp.snoc ⟨_, _, _, rfl⟩
    · clear F Nw g7
      clear Nw
      rintro ys nx ⟨tp, rfl, rfl, hTp⟩
      rw [List.take_of_length_le (by rw [List.size_toArray, refsOf_length, hT.length]; simp [rowsOf, rowsT])] at hTp
      intro D h tk F Nw o2
      have hcsl : (rowsT cs).length ≤ 10 := by simpa [rowsT] using okl
      have okT : RowsOk (rowsT cs) := rowsT_ok okc (by first | with_reducible assumption | with_reducible exact lt_num (by with_reducible assumption) (Nat.le_of_ble_eq_true rfl) | with_reducible exact le_num (by with_reducible assumption) (Nat.le_of_ble_eq_true rfl) | with_reducible exact le_le (by with_reducible assumption) (Nat.le_of_ble_eq_true rfl) | (first | lia | omega))
      have N9 : News (hideAll s.heap (tl.map (·.1))) L' h ((D, LCg.lst (refsOf tp)) :: ((L' + 1 + 1 + 1, oA) :: (L' + 1 + 1, oS) :: (tp ++ tl2))) := fun q hq => Nw q (by
        rw [hbase, hrest]
        simp only [List.mem_cons, List.mem_append] at hq ⊢
        rcases hq with h | h | h | h | h
        · simp [h]
        · simp [h]
        · simp [h]
        · simp [h]
        · simp [h])
      clear Nw hbase o2
      (try dsimp only)
      obtain ⟨rest2, hrest2⟩ : ∃ r, r = tp ++ tl2 := ⟨_, rfl⟩
      rw [← hrest2] at N9
      k_steps
      refine Halt.go ?_
      refine make_spec (tups := tp) (rows := rowsT cs) ⟨X', T'⟩ (by exact F) (by exact N9) (by exact List.mem_cons_self ..) hTp (fun p hp => by rw [hrest2]; first | ((repeat with_reducible refine List.mem_cons_of_mem _ ?_); first | exact hp | exact List.mem_append_left _ hp | exact List.mem_append_right _ hp | exact List.mem_append_right _ (List.mem_append_left _ hp) | exact List.mem_append_right _ (List.mem_append_right _ hp) | exact List.mem_append_left _ (List.mem_append_right _ hp) | exact List.mem_append_right _ (List.mem_append_right _ (List.mem_append_left _ hp))) | simp [hp]) okT rfl (by first | exact room1 hd (Nat.le_of_ble_eq_true rfl) | exact room3 hu (Nat.le_of_ble_eq_true rfl) | (simp only [Around.deeper]; (first | lia | omega))) (by first | exact room1 hd (Nat.le_of_ble_eq_true rfl) | exact room3 hu (Nat.le_of_ble_eq_true rfl) | (simp only [Around.deeper]; (first | lia | omega))) ?_
      intro xt dxt tokt h9 tk9 F9 N10 l91 l92
      clear F
      clear N9
      (try dsimp only)
      k_steps
      rename Fr _ _ _ _ => F
      rename News _ _ _ _ => Nw
      refine ⟨_, _, _, xt, dxt, D, tokt, tp, (refsOf tp).length, tl2, cs, lf, wd, tw, tz, oA, oS, vA, vS, rfl, hpure, F, ?_, hTp, hS2, hsub2, hwl, hpw, hoA, hoS, rfl, rfl, hm0, rfl⟩
      rw [hrest2] at Nw
      exact Nw
end Mine


end
section
-- Law01
theorem Mine.fresh_Law01 : True := by
  w_top off
  trivial
open PySem PySem.W PyProof.Rows PySem.Calls PySem.Builtin.Str
set_option maxRecDepth 100000
set_option maxHeartbeats 800000
set_option pp.deepTerms false
namespace Mine
section
variable {prog : Program} {w : World} {A : Around} {E : Value → Shared → Prop} {s : Shared} {env : Env} {h₀ : Heap} {Q : Flow → Shared → Prop}
theorem TabOne.ni {S : TabSpec} {t : List (Addr × Obj)} (h : TabOne S t) {l : Addr} {k : Int} {u : Tok} : ∀ q ∈ t, q.2.data ≠ .fields #[.ref l, .int k u] := by
  rcases h with rfl | ⟨c, oc, vs, tk, rfl, hd, hv⟩
  · intro q hq; rw [List.mem_singleton.mp hq]; exact fun e => by cases e
  · intro q hq
    rcases List.mem_cons.mp hq with rfl | hq
    · intro e
      have e : oc.data = .fields #[.ref l, .int k u] := e
      rw [hd] at e
      injection e with e
      rw [e] at hv
      cases hv
    · rw [List.mem_singleton.mp hq]; exact fun e => by cases e
theorem TabS.ni {S T : TabSpec} {t : List (Addr × Obj)} (h : TabS S T t) {l : Addr} {k : Int} {u : Tok} : ∀ q ∈ t, q.2.data ≠ .fields #[.ref l, .int k u] := by
  obtain ⟨t1, t2, rfl, h1, h2⟩ := h
  intro q hq
  exact (List.mem_append.mp hq).elim (h1.ni q) (h2.ni q)
theorem iter_ne {S T : TabSpec} {h₀ h : Heap} {L d : Addr} {tl n : List (Addr × Obj)} {o : Obj} {l : Addr} {k : Int} {u : Tok} (N : News h₀ L h n) (hS : TabS S T tl) (hsub : ∀ p ∈ tl, p ∈ n) (hm : (d, o) ∈ n) (hn : o.data = .fields #[.ref l, .int k u]) : ∀ p ∈ tl, p.1 ≠ d := by
  intro p hp e
  have h1 := (N p (hsub p hp)).1
  rw [e, (N _ hm).1] at h1
  exact hS.ni p hp (by rw [← Option.some.inj h1]; exact hn)
theorem iter_listO {target : Expr} {body : List Stmt} {l : Addr} {vs : List Value} {m₀ : Str → Option Value} {news : List (Addr × Obj)} (J : Nat → (Str → Option Value) → List (Addr × Obj) → Prop)
    (hh : A.handled = none) (hl : s.heap.IsList l vs.toArray) (hlL : l ≠ env.locals) (hl0 : h₀.get? l = none) (F : Fr h₀ env.locals s.heap m₀) (N : News h₀ env.locals s.heap news) (hj : J 0 m₀ news)
    (turn : ∀ i v m₁ news₁ h tk I own, vs[i]? = some v → J i m₁ news₁ → (∀ p ∈ news₁, p.1 ≠ I) → (∃ o k, (I, o) ∈ own ∧ o.data = .fields #[.ref l, .int k 0]) → (∃ o, (l, o) ∈ own ∧ NotFld o) → (∀ p ∈ own, p.1 = I ∨ p.1 = l) → Fr h₀ env.locals h m₁ → News h₀ env.locals h (news₁ ++ own) →
      wpAny (model prog w) A (assign target env v) (fun _ s₄ => wpAny (model prog w) A (execs body env) (OurTurn h₀ env.locals I own (J (i + 1)) s Q) E s₄) E { s with heap := h, toks := tk })
    (done : ∀ m₁ news₁ h tk, J vs.length m₁ news₁ → Fr h₀ env.locals h m₁ → News h₀ env.locals h news₁ → Q .next { s with heap := h, toks := tk })
    (ht : ∀ a v, letOwnedTupleGo target a v = pure () := by intro _ _; rfl) :
    wpAny (model prog w) A (pyIter (.ref l)) (fun it s₂ => LoopOwn prog w A h₀ env target body Q E it s₂) E s := by
  obtain ⟨ol, hol, _⟩ := id hl
  have hlt := Heap.lt_size hol
  refine wpAny_pyIter_list hl ?_
  have W := Walks.list (prog := prog) (w := w) hh s.heap.objs.size l (Nat.ne_of_lt hlt) vs.toArray
  refine ⟨_, _, _, _, _, m₀, news, J, rfl, ht _, W, ?_, fresh_none F, fun p hp => Nat.ne_of_lt (Heap.lt_size (N p hp).1), ⟨⟨_, Heap.get?_push_size _ rfl, rfl, rfl⟩, hl.at fun o e => Heap.get?_push_of_some _ e⟩, F.push _, (fun p hp => ⟨Heap.get?_push_of_some _ (N p hp).1, (N p hp).2⟩), hj, ?_, ?_⟩
  · intro hm
    rcases List.mem_cons.mp hm with e | hm
    · exact absurd F.ns.lt (e ▸ Nat.lt_irrefl _)
    · exact hlL (List.mem_singleton.mp hm).symm
  · intro i v m₁ news₁ h tk own hi hP hJ hnx hown hoe hst F₁ N₁
    obtain ⟨⟨o, ho, hc, hd⟩, o2, ho2, hd2⟩ := hst
    refine turn i v m₁ news₁ h tk _ own (by simpa using hP) hJ hnx ⟨o, _, by rw [hoe]; exact mem_ownOf (List.mem_cons_self ..) (fresh_none F) ho, hd⟩ ⟨o2, by rw [hoe]; exact mem_ownOf (List.mem_cons_of_mem _ (List.mem_cons_self ..)) hl0 ho2, fun vs e => ?_⟩ (fun p hp => ?_) F₁ N₁
    · obtain ⟨_, n, e2⟩ := hd2
      rw [e] at e2; cases e2
    rcases List.mem_cons.mp (hown p hp) with e | hm
    · exact .inl e
    · exact .inr (List.mem_singleton.mp hm)
  · intro m₁ news₁ h tk hJ F₁ N₁
    exact done m₁ news₁ h tk (by simpa using hJ) F₁ N₁
end
local macro_rules | `(tactic| k_room) => `(tactic| ((try simp only [Around.deeper, recursionLimit] at *); omega))
local macro_rules | `(tactic| k_units) => `(tactic| ((try simp only [Around.deeper, Around.in1, cLine] at *); omega))
local macro_rules | `(tactic| k_all) => `(tactic| first | with_reducible assumption | exact allLt_ne (by with_reducible assumption) | exact Low.ne (by with_reducible assumption) (by omega) | (exact Low.ne (by assumption) (by omega)))
local macro_rules | `(tactic| walk_at "eval Name") => `(tactic| (k_here; k_dflt (refine' ld ?k1 ?k2 ?_; (case k1 => k_asm); (case k2 => first | exact rfl | assumption); k_whole)))
local macro_rules | `(tactic| walk_at "loadName") => `(tactic| (k_here; k_dflt (refine' ldn ?k1 ?k2 ?_; (case k1 => k_asm); (case k2 => first | exact rfl | assumption); k_whole)))
local macro_rules | `(tactic| walk_at "GrownAll") => `(tactic| assumption)
local macro_rules | `(tactic| walk_at "exec For Name BoolOp cons nil") => `(tactic| (k_here; k_dflt (refine' for_ownF ?k1 ?_ ?k2 ?k3; (case k1 => k_asm); (case k2 => (intro _; rfl)); (case k3 => passes_own))))
local macro_rules | `(tactic| walk_at "pyIter ref") => `(tactic| (k_here; refine Halt.mk ?_))
local macro_rules | `(tactic| walk_at "call ref") => `(tactic| (k_here; refine Halt.mk ?_))
theorem law_01 : PySem.Challenge.rw_pg0310_01.Holds := hd01 (by
  k_go0
  (all_goals try k_fold)
  k_steps
  · rename IntsAre _ (List.take 2 _) => hIw
    rename Fr _ _ _ _ => F
    rename News _ _ _ _ => Nw
    have z1 := Nw _ (List.mem_cons_self ..)
    have N0 : News _ _ _ [(61, tabObj #[]), (68, tabObj #[])] := fun p hp => Nw p (by
      rcases List.mem_cons.mp hp with rfl | hp
      · simp
      · rw [List.mem_singleton.mp hp]; simp)
    refine iter_listO (vs := _) (fun i m nx => TabS S1 S2 nx) rfl ⟨_, z1.1, rfl, _, rfl⟩ z1.2.1 z1.2.2 F N0 ⟨[(61, tabObj #[])], [(68, tabObj #[])], rfl, .inl rfl, .inl rfl⟩ ?_ ?_ ?ht
    case ht => intro _ _; rfl
    · clear F Nw N0 z1
      rintro i v m₁ nx h tk I own hv hS hI ⟨oI, kI, hoI, hdI⟩ ⟨ol, hol, hnl⟩ hown F Nw
      obtain ⟨x, t, rfl, hx⟩ := hIw.at _ _ hv
      have F : Fr _ _ h m₁ := F
      have hb : ((if x < 0 then -x else x).fmod 1000000).natAbs < 2 ^ 100 := Nat.lt_trans (rest_lt _ 1000000 (by decide)) (by decide)
      have hln := tail_ne Nw hS (fun p hp => by first | ((repeat with_reducible refine List.mem_cons_of_mem _ ?_); first | exact hp | exact List.mem_append_left _ hp | exact List.mem_append_right _ hp | exact List.mem_append_right _ (List.mem_append_left _ hp) | exact List.mem_append_right _ (List.mem_append_right _ hp) | exact List.mem_append_left _ (List.mem_append_right _ hp) | exact List.mem_append_right _ (List.mem_append_right _ (List.mem_append_left _ hp))) | simp [hp]) (List.mem_append_right _ hol) hnl
      have hap : ∀ p ∈ own, ∀ q ∈ nx, p.1 ≠ q.1 := by
        intro p hp q hq
        rcases hown p hp with e | e
        · rw [e]; exact (hI q hq).symm
        · rw [e]; exact (hln q hq).symm
      (try k_fold)
      k_steps
      · clear F Nw
        rename Fr _ _ _ _ => F
        rename News _ _ _ _ => Nw
        refine Does.use (holds_spec (tl := nx) ⟨by with_reducible assumption, by with_reducible assumption⟩ (by exact F.keep) hS (tabs_at (by exact Nw) (by intro p hp; first | ((repeat with_reducible refine List.mem_cons_of_mem _ ?_); first | exact hp | exact List.mem_append_left _ hp | exact List.mem_append_right _ hp | exact List.mem_append_right _ (List.mem_append_left _ hp) | exact List.mem_append_right _ (List.mem_append_right _ hp) | exact List.mem_append_left _ (List.mem_append_right _ hp) | exact List.mem_append_right _ (List.mem_append_right _ (List.mem_append_left _ hp))) | simp [hp])) hb) rfl (by first | exact Nat.le_of_ble_eq_true rfl | simp only [Around.deeper, callerA, claimMargin, recursionLimit]; (first | lia | omega)) (by first | exact Nat.le_of_ble_eq_true rfl | simp only [Around.deeper, callerA, cLine]; (first | lia | omega)) ?_
        rintro v h2 tk2 ⟨hP, rfl⟩
        obtain ⟨tl2, hS2, F2, N2, hsub2, keep2⟩ := hP.back hS F Nw fun tl' => ⟨_, .here hap⟩
        have N3 := N2 _ (.here hap)
        clear F Nw hP keep2 N2
        (try dsimp only)
        k_steps
        rename Fr _ _ _ _ => F
        rename News _ _ _ _ => Nw
        exact OurTurn.next (nx := tl2) F Nw (iter_ne Nw hS2 (fun p hp => by first | ((repeat with_reducible refine List.mem_cons_of_mem _ ?_); first | exact hp | exact List.mem_append_left _ hp | exact List.mem_append_right _ hp | exact List.mem_append_right _ (List.mem_append_left _ hp) | exact List.mem_append_right _ (List.mem_append_right _ hp) | exact List.mem_append_left _ (List.mem_append_right _ hp) | exact List.mem_append_right _ (List.mem_append_right _ (List.mem_append_left _ hp))) | simp [hp]) (List.mem_append_right _ hoI) hdI) hS2
      · clear F Nw
        rename Fr _ _ _ _ => F
        rename News _ _ _ _ => Nw
        refine Does.use (holds_spec (tl := nx) ⟨by with_reducible assumption, by with_reducible assumption⟩ (by exact F.keep) hS (tabs_at (by exact Nw) (by intro p hp; first | ((repeat with_reducible refine List.mem_cons_of_mem _ ?_); first | exact hp | exact List.mem_append_left _ hp | exact List.mem_append_right _ hp | exact List.mem_append_right _ (List.mem_append_left _ hp) | exact List.mem_append_right _ (List.mem_append_right _ hp) | exact List.mem_append_left _ (List.mem_append_right _ hp) | exact List.mem_append_right _ (List.mem_append_right _ (List.mem_append_left _ hp))) | simp [hp])) (by rw [Int.natAbs_neg]; exact hb)) rfl (by first | exact Nat.le_of_ble_eq_true rfl | simp only [Around.deeper, callerA, claimMargin, recursionLimit]; (first | lia | omega)) (by first | exact Nat.le_of_ble_eq_true rfl | simp only [Around.deeper, callerA, cLine]; (first | lia | omega)) ?_
        rintro v h2 tk2 ⟨hP, rfl⟩
        obtain ⟨tl2, hS2, F2, N2, hsub2, keep2⟩ := hP.back hS F Nw fun tl' => ⟨_, .here hap⟩
        have N3 := N2 _ (.here hap)
        clear F Nw hP keep2 N2
        (try dsimp only)
        k_steps
        rename Fr _ _ _ _ => F
        rename News _ _ _ _ => Nw
        exact OurTurn.next (nx := tl2) F Nw (iter_ne Nw hS2 (fun p hp => by first | ((repeat with_reducible refine List.mem_cons_of_mem _ ?_); first | exact hp | exact List.mem_append_left _ hp | exact List.mem_append_right _ hp | exact List.mem_append_right _ (List.mem_append_left _ hp) | exact List.mem_append_right _ (List.mem_append_right _ hp) | exact List.mem_append_left _ (List.mem_append_right _ hp) | exact List.mem_append_right _ (List.mem_append_right _ (List.mem_append_left _ hp))) | simp [hp]) (List.mem_append_right _ hoI) hdI) hS2
    · clear F Nw N0 z1
      rintro m₁ nx h tk hS F Nw
      obtain ⟨t1, t2, rfl, ht1, ht2⟩ := hS
      obtain ⟨p1, hp1, _⟩ := tab_mem ht1
      obtain ⟨p2, hp2, _⟩ := tab_mem ht2
      have hgr : GrownAll [(72, 68), (65, 61)] h := ⟨⟨_, (Nw _ (List.mem_append_right _ hp2)).1⟩, ⟨_, (Nw _ (List.mem_append_left _ hp1)).1⟩, trivial⟩
      have F : Fr _ _ h m₁ := F
      (try dsimp only)
      k_steps
  · rename Fr _ _ _ _ => F
    rename News _ _ _ _ => Nw
    have z1 := Nw _ (List.mem_cons_self ..)
    have N0 : News _ _ _ [(61, tabObj #[]), (68, tabObj #[])] := fun p hp => Nw p (by
      rcases List.mem_cons.mp hp with rfl | hp
      · simp
      · rw [List.mem_singleton.mp hp]; simp)
    refine iter_listO (vs := _) (fun i m nx => TabS S1 S2 nx) rfl ⟨_, z1.1, rfl, _, rfl⟩ z1.2.1 z1.2.2 F N0 ⟨[(61, tabObj #[])], [(68, tabObj #[])], rfl, .inl rfl, .inl rfl⟩ ?_ ?_ ?ht
    case ht => intro _ _; rfl
    · clear F Nw N0 z1
      rintro i v m₁ nx h tk I own hv hS hI ⟨oI, kI, hoI, hdI⟩ ⟨ol, hol, hnl⟩ hown F Nw
      obtain ⟨x, t, rfl, hx⟩ := (IntsAre.cons 2026 _ .nil).at _ _ hv
      have F : Fr _ _ h m₁ := F
      have hb : ((if x < 0 then -x else x).fmod 1000000).natAbs < 2 ^ 100 := Nat.lt_trans (rest_lt _ 1000000 (by decide)) (by decide)
      have hln := tail_ne Nw hS (fun p hp => by first | ((repeat with_reducible refine List.mem_cons_of_mem _ ?_); first | exact hp | exact List.mem_append_left _ hp | exact List.mem_append_right _ hp | exact List.mem_append_right _ (List.mem_append_left _ hp) | exact List.mem_append_right _ (List.mem_append_right _ hp) | exact List.mem_append_left _ (List.mem_append_right _ hp) | exact List.mem_append_right _ (List.mem_append_right _ (List.mem_append_left _ hp))) | simp [hp]) (List.mem_append_right _ hol) hnl
      have hap : ∀ p ∈ own, ∀ q ∈ nx, p.1 ≠ q.1 := by
        intro p hp q hq
        rcases hown p hp with e | e
        · rw [e]; exact (hI q hq).symm
        · rw [e]; exact (hln q hq).symm
      (try k_fold)
      k_steps
      · clear F Nw
        rename Fr _ _ _ _ => F
        rename News _ _ _ _ => Nw
        refine Does.use (holds_spec (tl := nx) ⟨by with_reducible assumption, by with_reducible assumption⟩ (by exact F.keep) hS (tabs_at (by exact Nw) (by intro p hp; first | ((repeat with_reducible refine List.mem_cons_of_mem _ ?_); first | exact hp | exact List.mem_append_left _ hp | exact List.mem_append_right _ hp | exact List.mem_append_right _ (List.mem_append_left _ hp) | exact List.mem_append_right _ (List.mem_append_right _ hp) | exact List.mem_append_left _ (List.mem_append_right _ hp) | exact List.mem_append_right _ (List.mem_append_right _ (List.mem_append_left _ hp))) | simp [hp])) hb) rfl (by first | exact Nat.le_of_ble_eq_true rfl | simp only [Around.deeper, callerA, claimMargin, recursionLimit]; (first | lia | omega)) (by first | exact Nat.le_of_ble_eq_true rfl | simp only [Around.deeper, callerA, cLine]; (first | lia | omega)) ?_
        rintro v h2 tk2 ⟨hP, rfl⟩
        obtain ⟨tl2, hS2, F2, N2, hsub2, keep2⟩ := hP.back hS F Nw fun tl' => ⟨_, .here hap⟩
        have N3 := N2 _ (.here hap)
        clear F Nw hP keep2 N2
        (try dsimp only)
        k_steps
        rename Fr _ _ _ _ => F
        rename News _ _ _ _ => Nw
        exact OurTurn.next (nx := tl2) F Nw (iter_ne Nw hS2 (fun p hp => by first | ((repeat with_reducible refine List.mem_cons_of_mem _ ?_); first | exact hp | exact List.mem_append_left _ hp | exact List.mem_append_right _ hp | exact List.mem_append_right _ (List.mem_append_left _ hp) | exact List.mem_append_right _ (List.mem_append_right _ hp) | exact List.mem_append_left _ (List.mem_append_right _ hp) | exact List.mem_append_right _ (List.mem_append_right _ (List.mem_append_left _ hp))) | simp [hp]) (List.mem_append_right _ hoI) hdI) hS2
      · clear F Nw
        rename Fr _ _ _ _ => F
        rename News _ _ _ _ => Nw
        refine Does.use (holds_spec (tl := nx) ⟨by with_reducible assumption, by with_reducible assumption⟩ (by exact F.keep) hS (tabs_at (by exact Nw) (by intro p hp; first | ((repeat with_reducible refine List.mem_cons_of_mem _ ?_); first | exact hp | exact List.mem_append_left _ hp | exact List.mem_append_right _ hp | exact List.mem_append_right _ (List.mem_append_left _ hp) | exact List.mem_append_right _ (List.mem_append_right _ hp) | exact List.mem_append_left _ (List.mem_append_right _ hp) | exact List.mem_append_right _ (List.mem_append_right _ (List.mem_append_left _ hp))) | simp [hp])) (by rw [Int.natAbs_neg]; exact hb)) rfl (by first | exact Nat.le_of_ble_eq_true rfl | simp only [Around.deeper, callerA, claimMargin, recursionLimit]; (first | lia | omega)) (by first | exact Nat.le_of_ble_eq_true rfl | simp only [Around.deeper, callerA, cLine]; (first | lia | omega)) ?_
        rintro v h2 tk2 ⟨hP, rfl⟩
        obtain ⟨tl2, hS2, F2, N2, hsub2, keep2⟩ := hP.back hS F Nw fun tl' => ⟨_, .here hap⟩
        have N3 := N2 _ (.here hap)
        clear F Nw hP keep2 N2
        (try dsimp only)
        k_steps
        rename Fr _ _ _ _ => F
        rename News _ _ _ _ => Nw
        exact OurTurn.next (nx := tl2) F Nw (iter_ne Nw hS2 (fun p hp => by first | ((repeat with_reducible refine List.mem_cons_of_mem _ ?_); first | exact hp | exact List.mem_append_left _ hp | exact List.mem_append_right _ hp | exact List.mem_append_right _ (List.mem_append_left _ hp) | exact List.mem_append_right _ (List.mem_append_right _ hp) | exact List.mem_append_left _ (List.mem_append_right _ hp) | exact List.mem_append_right _ (List.mem_append_right _ (List.mem_append_left _ hp))) | simp [hp]) (List.mem_append_right _ hoI) hdI) hS2
    · clear F Nw N0 z1
      rintro m₁ nx h tk hS F Nw
      obtain ⟨t1, t2, rfl, ht1, ht2⟩ := hS
      obtain ⟨p1, hp1, _⟩ := tab_mem ht1
      obtain ⟨p2, hp2, _⟩ := tab_mem ht2
      have hgr : GrownAll [(72, 68), (65, 61)] h := ⟨⟨_, (Nw _ (List.mem_append_right _ hp2)).1⟩, ⟨_, (Nw _ (List.mem_append_left _ hp1)).1⟩, trivial⟩
      have F : Fr _ _ h m₁ := F
      (try dsimp only)
      k_steps
  )
end Mine

end
theorem PySem.Challenge.cw_pg0310_01_holds : PySem.Challenge.rw_pg0310_01.Holds := by
  exact Mine.law_01
