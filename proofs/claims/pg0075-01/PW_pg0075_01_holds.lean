import PyProof.Rows.All
import Wide.All
import OpenK.AllK
import Wide.FinOn
import PySem.Challenge.RW_pg0075_01
set_option Elab.async false

-- Head
namespace Mine
open PySem PySem.W PyProof.Rows
set_option maxRecDepth 100000 in
set_option maxHeartbeats 8000000 in
open_top hd for PySem.Challenge.rw_pg0075_01
end Mine

-- Base
namespace Mine
set_option maxRecDepth 100000
open PySem PySem.W PySem.Calls PyProof.Rows

abbrev Never : Value → Shared → Prop := fun _ _ => False

/-- a call of a plain def that raises nothing and leaves every elder object as it was -/
theorem callFn {prog : Program} {w : World} {A : Around} {s : Shared} {K : Frag} {name qual : Str} {params : Arguments} {body : List Stmt} {scope : Scope} {dV kV doc pm cdv ct oc : Value} {an od : Option Addr} {osl : Array (Option Value)} {f : Addr} {vals : List Value} {binds : List (Str × Value)} {Q E : Value → Shared → Prop}
    (X : K.In s.heap) (hlim : s.heap.NoLimit)
    (ho : K.lookup f = some ⟨oc, od, .func (fnOf name qual params body scope dV kV doc pm an cdv ct), osl⟩) (hcd : codeIn K cdv qual = true) (hroom : A.depth < recursionLimit)
    (hbind : BindsTo s (fnOf name qual params body scope dV kV doc pm an cdv ct) ⟨vals, []⟩ binds) (hloc : ∀ y ∈ binds, scope.names.lookup y.1 = some .local)
    (h : ∀ L h₁, Fr s.heap L h₁ (fun y => binds.reverse.lookup y) → News s.heap L h₁ [] →
      wpAny (model prog w) (A.deeper (envOf qual scope L f cdv)) (execs body (envOf qual scope L f cdv))
        (fun fl s' => Q (match fl with | .ret v => v | _ => .none) s') (fun _ _ => False)
        { s with heap := h₁, toks := s.toks + binds.length })
    (hco : scope.isCoroutine = false := by rfl) (hgen : scope.isGenerator = false := by rfl) (hk : scope.kind = .function := by rfl)
    (hcell : ∀ x ∈ scope.names, x.2 ≠ .cell := by decide) : wpAny (model prog w) A (call (.ref f) vals) Q E s := by
  refine wpAny_call (codeAny_call_def (fd := fnOf name qual params body scope dV kV doc pm an cdv ct) (body := body) (binds := binds) hroom (X _ _ ho) rfl hlim (codeRec_of X hcd) rfl hbind hcell hloc (fun h₁ hns hk₁ => ?_) hco hgen hk)
  exact wpAny_mono (h _ h₁ ⟨hns, hk₁, Nat.le_refl _⟩ News.nil) (fun _ _ x => x) fun _ _ x => x.elim

section
variable {prog : Program} {w : World} {A : Around} {s : Shared} {env : Env} {Q : Flow → Shared → Prop} {h₀ h h' : Heap} {L I : Addr} {m : Str → Option Value} {news : List (Addr × Obj)}

def WTurn (I : Nat → Shared → Prop) (Q : Flow → Shared → Prop) (n : Nat) (f : Flow) (s : Shared) : Prop :=
  match f with
  | .next => ∃ k, k < n ∧ I k s
  | .cont => ∃ k, k < n ∧ I k s
  | .brk => Q .next s
  | .ret v => Q (.ret v) s

def WTest (prog : Program) (w : World) (A : Around) (env : Env) (body orelse : List Stmt) (I : Nat → Shared → Prop) (Q : Flow → Shared → Prop) (n : Nat) (b : Bool) (s : Shared) : Prop :=
  (b = true → wpAny (model prog w) A (execs body env) (WTurn I Q n) Never s) ∧ (b = false → wpAny (model prog w) A (execs orelse env) Q Never s)

theorem whileRule {test : Expr} {body orelse : List Stmt} {pos : Pos} (I : Nat → Shared → Prop)
    (turn : ∀ n s, I n s → wpAny (model prog w) A (isTrue test env (eval test env)) (WTest prog w A env body orelse I Q n) Never s)
    (n : Nat) (hI : I n s) : wpAny (model prog w) A (exec (.While test body orelse pos) env) Q Never s := by
  refine whl_start 1 ?_
  have all : ∀ n s, I n s → WhlRest prog w A Never env test body orelse Q 1 s := by
    intro n
    induction n using Nat.strongRecOn with
    | _ n ih =>
      intro s hI
      refine whl_turn PassesOwn.never (wpAny_mono (turn n s hI) (fun b s₂ hb => ?_) fun _ _ x => x)
      cases b with
      | true =>
        refine WhlIf.yes rfl (wpAny_mono (hb.1 rfl) (fun f s₃ h₃ => ?_) fun _ _ x => x)
        cases f with
        | next => obtain ⟨k, hk, hI'⟩ := h₃; exact ih k hk s₃ hI'
        | cont => obtain ⟨k, hk, hI'⟩ := h₃; exact ih k hk s₃ hI'
        | brk => exact h₃
        | ret v => exact h₃
      | false => exact WhlIf.no rfl (hb.2 rfl)
  exact all n s hI

theorem frExt (F : Fr h₀ L h m) (he : Heap.ExtBut I h h') (hL : I ≠ L) (h0 : h₀.get? I = none) : Fr h₀ L h' m :=
  ⟨F.ns.extBut he (Ne.symm hL), fun b o e => he b o (fun q => by rw [q, h0] at e; cases e) (F.keep b o e), F.above⟩
theorem newsExt (N : News h₀ L h news) (he : Heap.ExtBut I h h') (hn : ∀ p ∈ news, p.1 ≠ I) : News h₀ L h' news :=
  fun p hp => ⟨he _ _ (hn p hp) (N p hp).1, (N p hp).2⟩

/-- a loop's turn comes to its end -/
def Turn (s : Shared) (h₀ : Heap) (L I : Addr) (o : Obj) (J : (Str → Option Value) → List (Addr × Obj) → Prop) (Q : Flow → Shared → Prop) (f : Flow) (s₂ : Shared) : Prop :=
  let E := ∃ m' news' h' tk, s₂ = { s with heap := h', toks := tk } ∧ Fr h₀ L h' m' ∧ News h₀ L h' ((I, o) :: news') ∧ (∀ p ∈ news', p.1 ≠ I) ∧ J m' news'
  match f with
  | .next => E
  | .cont => E
  | .brk => Q .next s₂
  | .ret v => Q (.ret v) s₂
theorem Turn.next {o : Obj} {J : (Str → Option Value) → List (Addr × Obj) → Prop} {all : List (Addr × Obj)} {tk : Nat} (F : Fr h₀ L h m) (N : News h₀ L h all) (news' : List (Addr × Obj)) (sub : ∀ p ∈ (I, o) :: news', p ∈ all) (hn : ∀ p ∈ news', p.1 ≠ I) (hj : J m news') :
    Turn s h₀ L I o J Q .next { s with heap := h, toks := tk } := ⟨m, news', h, tk, rfl, F, fun p hp => N p (sub p hp), hn, hj⟩

theorem Turn.brk {o : Obj} {J : (Str → Option Value) → List (Addr × Obj) → Prop} {s₂ : Shared} (hq : Q .next s₂) : Turn s h₀ L I o J Q .brk s₂ := hq
theorem Turn.ret {o : Obj} {J : (Str → Option Value) → List (Addr × Obj) → Prop} {s₂ : Shared} {v : Value} (hq : Q (.ret v) s₂) : Turn s h₀ L I o J Q (.ret v) s₂ := hq

theorem forRange {x : Str} {px : Pos} {body orelse : List Stmt} {r : Addr} {n : Nat} {t u v : Tok}
    (hh : A.handled = none) (hx : env.kindOf x = some .local)
    (hp : (env.scope.kind == .class || (env.scope.kind == .module && env.locals != env.globals)) = false)
    (hr : IsRange s.heap r 0 (n : Int) 1 t u v) (hn : n < 2 ^ 60)
    (F : Fr h₀ env.locals s.heap m) (N : News h₀ env.locals s.heap news)
    (J : Nat → (Str → Option Value) → List (Addr × Obj) → Prop) (h0 : J 0 m news)
    (turn : ∀ i tk₀ m₁ news₁ I o h tk, i < n → J i m₁ news₁ → (∀ p ∈ news₁, p.1 ≠ I) → Fr h₀ env.locals h (fun y => if y = x then some (.int (i : Int) tk₀) else m₁ y) → News h₀ env.locals h ((I, o) :: news₁) →
      wpAny (model prog w) A (execs body env) (Turn s h₀ env.locals I o (J (i + 1)) Q) Never { s with heap := h, toks := tk })
    (done : ∀ m₁ news₁ h tk, J n m₁ news₁ → Fr h₀ env.locals h m₁ → News h₀ env.locals h news₁ → wpAny (model prog w) A (execs orelse env) Q Never { s with heap := h, toks := tk }) :
    wpAny (model prog w) A (pyIter (.ref r)) (fun it s₂ => codeAny (model prog w) A (.forLoop (.Name x px) it body orelse env) (fun r s' => match r with | .ok f => Q f s' | .error e => cameBackBy (model prog w) A env Never e s') s₂) Never s := by
  have hsz : Builtin.Range.rangeSize 0 (n : Int) 1 = (n : Int) := by
    unfold Builtin.Range.rangeSize
    simp only [Int.sub_zero, Int.ediv_one]
    split <;> split <;> omega
  have hsm : Builtin.Range.small 0 (n : Int) 1 = true := by
    unfold Builtin.Range.small
    rw [hsz]
    have e1 : ∀ k : Int, 0 ≤ k → k < 2 ^ 61 → Builtin.Range.rangeFitsLong k = true := by
      intro k h1 h2
      unfold Builtin.Range.rangeFitsLong
      simp
      omega
    rw [e1 0 (by decide) (by decide), e1 n (by omega) (by omega), e1 1 (by decide) (by decide)]
    simp
    right
    exact e1 _ (by omega) (by omega)
  refine wpAny_pyIter_range hr hsm ?_
  rw [hsz]
  have hIL : s.heap.objs.size ≠ env.locals := Nat.ne_of_gt F.ns.lt
  have hI0 : h₀.get? s.heap.objs.size = none := next_is_new F
  have hNI : ∀ p ∈ news, p.1 ≠ s.heap.objs.size := fun p hp => Nat.ne_of_lt (Heap.lt_size (N p hp).1)
  refine codeAny_forLoop (fun k s' => ∃ h' tk m' news' i, s' = { s with heap := h', toks := tk } ∧ IsRangeIter h' s.heap.objs.size ((i : Nat) : Int) ((n : Int) - (i : Nat)) 1 ∧ Fr h₀ env.locals h' m' ∧ News h₀ env.locals h' news' ∧ (∀ p ∈ news', p.1 ≠ s.heap.objs.size) ∧ J i m' news' ∧ i ≤ n ∧ k = n + 1 - i) ?_ (n + 1)
    ⟨_, s.toks, m, news, 0, rfl, by simpa using Heap.get?_push_size _ rfl, F.push _, fun p hp => ⟨Heap.get?_push_of_some _ (N p hp).1, (N p hp).2⟩, hNI, h0, Nat.zero_le _, rfl⟩
  rintro k s' ⟨h', tk, m', news', i, rfl, hit, F', N', hN', hJ, hi, rfl⟩
  by_cases hlt : i < n
  · refine wpAny_pyNext_range_item hit (by omega) fun h₁ hit₁ hs₁ => ?_
    have F₁ := frExt F' hs₁.extBut hIL hI0
    have N₁ := newsExt N' hs₁.extBut hN'
    refine wpAny_assign_Name (wpAny_storeName_local hx F₁.ns (fun h₂ hn₂ hs₂ => ?_) hp)
    have F₂ := F₁.set hn₂ hs₂
    have N₂ := N₁.set hs₂
    have hit₂ := (hs₂.2 _ hIL).trans hit₁
    refine wpAny_mono (turn i _ m' news' s.heap.objs.size { cls := .type "range_iterator", dict := none, data := .fields #[rawInt ((i : Int) + 1), rawInt ((n : Int) - i - 1), rawInt 1], slots := #[] } h₂ _ hlt hJ hN' F₂ (fun p hp => ?_)) (fun f s₃ q₃ => ?_) fun _ _ x => x.elim
    · rcases List.mem_cons.mp hp with rfl | hp
      · exact ⟨hit₂, hIL, hI0⟩
      · exact N₂ p hp
    · have fin : (∃ m₂ news₂ h' tk, s₃ = { s with heap := h', toks := tk } ∧ Fr h₀ env.locals h' m₂ ∧ News h₀ env.locals h' ((s.heap.objs.size, ({ cls := .type "range_iterator", dict := none, data := .fields #[rawInt ((i : Int) + 1), rawInt ((n : Int) - i - 1), rawInt 1], slots := #[] } : Obj)) :: news₂) ∧ (∀ p ∈ news₂, p.1 ≠ s.heap.objs.size) ∧ J (i + 1) m₂ news₂) → ∃ k, k < n + 1 - i ∧ (∃ h' tk m' news' i, s₃ = { s with heap := h', toks := tk } ∧ IsRangeIter h' s.heap.objs.size ((i : Nat) : Int) ((n : Int) - (i : Nat)) 1 ∧ Fr h₀ env.locals h' m' ∧ News h₀ env.locals h' news' ∧ (∀ p ∈ news', p.1 ≠ s.heap.objs.size) ∧ J i m' news' ∧ i ≤ n ∧ k = n + 1 - i) := by
        rintro ⟨m₂, news₂, h₃, tk₃, rfl, F₃, N₃, hn₃, hJ₃⟩
        refine ⟨n + 1 - (i + 1), by omega, h₃, tk₃, m₂, news₂, i + 1, rfl, ?_, F₃, fun p hp => N₃ p (.tail _ hp), hn₃, hJ₃, hlt, rfl⟩
        have := (N₃ _ (.head _)).1
        have e2 : (n : Int) - ((i + 1 : Nat) : Int) = (n : Int) - (i : Int) - 1 := by push_cast; omega
        have e1 : ((i + 1 : Nat) : Int) = (i : Int) + 1 := by push_cast; rfl
        rw [e2, e1]
        exact this
      cases f with
      | next => exact fin q₃
      | cont => exact fin q₃
      | brk => exact q₃
      | ret v => exact q₃
  · have hin : i = n := by omega
    subst hin
    refine wpAny_pyNext_range_end hh hit (by omega) fun h₁ he₁ => ?_
    exact wpAny_mono (done m' news' h₁ tk hJ (frExt F' he₁ hIL hI0) (newsExt N' he₁ hN')) (fun _ _ x => x) fun _ _ x => x.elim

theorem forList {x : Str} {px : Pos} {body orelse : List Stmt} {l : Addr} {vs : List Value}
    (hh : A.handled = none) (hx : env.kindOf x = some .local)
    (hp : (env.scope.kind == .class || (env.scope.kind == .module && env.locals != env.globals)) = false)
    (hl : s.heap.IsList l vs.toArray)
    (F : Fr h₀ env.locals s.heap m) (N : News h₀ env.locals s.heap news)
    (J : Nat → (Str → Option Value) → List (Addr × Obj) → Prop) (h0 : J 0 m news)
    (hst : ∀ i m₁ news₁ h, J i m₁ news₁ → Fr h₀ env.locals h m₁ → News h₀ env.locals h news₁ → h.IsList l vs.toArray)
    (turn : ∀ i v m₁ news₁ I o h tk, i < vs.length → vs[i]? = some v → J i m₁ news₁ → (∀ p ∈ news₁, p.1 ≠ I) → Fr h₀ env.locals h (fun y => if y = x then some v else m₁ y) → News h₀ env.locals h ((I, o) :: news₁) →
      wpAny (model prog w) A (execs body env) (Turn s h₀ env.locals I o (J (i + 1)) Q) Never { s with heap := h, toks := tk })
    (done : ∀ m₁ news₁ h tk, J vs.length m₁ news₁ → Fr h₀ env.locals h m₁ → News h₀ env.locals h news₁ → wpAny (model prog w) A (execs orelse env) Q Never { s with heap := h, toks := tk }) :
    wpAny (model prog w) A (pyIter (.ref l)) (fun it s₂ => codeAny (model prog w) A (.forLoop (.Name x px) it body orelse env) (fun r s' => match r with | .ok f => Q f s' | .error e => cameBackBy (model prog w) A env Never e s') s₂) Never s := by
  refine wpAny_pyIter_list hl ?_
  have hIL : s.heap.objs.size ≠ env.locals := Nat.ne_of_gt F.ns.lt
  have hI0 : h₀.get? s.heap.objs.size = none := next_is_new F
  have hNI : ∀ p ∈ news, p.1 ≠ s.heap.objs.size := fun p hp => Nat.ne_of_lt (Heap.lt_size (N p hp).1)
  have hlI : l ≠ s.heap.objs.size := by obtain ⟨o, ho, _⟩ := hl; exact Nat.ne_of_lt (Heap.lt_size ho)
  refine codeAny_forLoop (fun k s' => ∃ h' tk m' news' i, s' = { s with heap := h', toks := tk } ∧ h'.IsListIter s.heap.objs.size l i ∧ Fr h₀ env.locals h' m' ∧ News h₀ env.locals h' news' ∧ (∀ p ∈ news', p.1 ≠ s.heap.objs.size) ∧ J i m' news' ∧ i ≤ vs.length ∧ k = vs.length + 1 - i) ?_ (vs.length + 1)
    ⟨_, s.toks, m, news, 0, rfl, ⟨_, Heap.get?_push_size _ rfl, rfl, rfl⟩, F.push _, fun p hp => ⟨Heap.get?_push_of_some _ (N p hp).1, (N p hp).2⟩, hNI, h0, Nat.zero_le _, rfl⟩
  rintro k s' ⟨h', tk, m', news', i, rfl, hit, F', N', hN', hJ, hi, rfl⟩
  have hl' := hst i m' news' h' hJ F' N'
  by_cases hlt : i < vs.length
  · refine wpAny_pyNext_list_item hit hl' (x := vs[i]) (by simp [hlt]) fun h₁ hit₁ hs₁ => ?_
    have F₁ := frExt F' hs₁.extBut hIL hI0
    have N₁ := newsExt N' hs₁.extBut hN'
    refine wpAny_assign_Name (wpAny_storeName_local hx F₁.ns (fun h₂ hn₂ hs₂ => ?_) hp)
    have F₂ := F₁.set hn₂ hs₂
    have N₂ := N₁.set hs₂
    obtain ⟨oI, hoI, hcI⟩ := hit₁
    have hit₂ := (hs₂.2 _ hIL).trans hoI
    refine wpAny_mono (turn i vs[i] m' news' s.heap.objs.size oI h₂ _ hlt (by simp [hlt]) hJ hN' F₂ (fun p hp => ?_)) (fun f s₃ q₃ => ?_) fun _ _ x => x.elim
    · rcases List.mem_cons.mp hp with rfl | hp
      · exact ⟨hit₂, hIL, hI0⟩
      · exact N₂ p hp
    · have fin : (∃ m₂ news₂ h' tk, s₃ = { s with heap := h', toks := tk } ∧ Fr h₀ env.locals h' m₂ ∧ News h₀ env.locals h' ((s.heap.objs.size, oI) :: news₂) ∧ (∀ p ∈ news₂, p.1 ≠ s.heap.objs.size) ∧ J (i + 1) m₂ news₂) → ∃ k, k < vs.length + 1 - i ∧ (∃ h' tk m' news' i, s₃ = { s with heap := h', toks := tk } ∧ h'.IsListIter s.heap.objs.size l i ∧ Fr h₀ env.locals h' m' ∧ News h₀ env.locals h' news' ∧ (∀ p ∈ news', p.1 ≠ s.heap.objs.size) ∧ J i m' news' ∧ i ≤ vs.length ∧ k = vs.length + 1 - i) := by
        rintro ⟨m₂, news₂, h₃, tk₃, rfl, F₃, N₃, hn₃, hJ₃⟩
        exact ⟨vs.length + 1 - (i + 1), by omega, h₃, tk₃, m₂, news₂, i + 1, rfl, ⟨oI, (N₃ _ (.head _)).1, hcI⟩, F₃, fun p hp => N₃ p (.tail _ hp), hn₃, hJ₃, hlt, rfl⟩
      cases f with
      | next => exact fin q₃
      | cont => exact fin q₃
      | brk => exact q₃
      | ret v => exact q₃
  · have hin : i = vs.length := by omega
    subst hin
    refine wpAny_pyNext_list_end hh hit hl' (by simp) fun h₁ he₁ => ?_
    exact wpAny_mono (done m' news' h₁ tk hJ (frExt F' he₁ hIL hI0) (newsExt N' he₁ hN')) (fun _ _ x => x) fun _ _ x => x.elim
theorem frStays (F : Fr h₀ L h m) (hs : h.StaysIn h') : Fr h₀ L h' m := ⟨F.ns.keeps hs, fun b o e => hs b o (F.keep b o e), F.above⟩
theorem newsStays (N : News h₀ L h news) (hs : h.StaysIn h') : News h₀ L h' news := fun p hp => ⟨hs _ _ (N p hp).1, (N p hp).2⟩
end

def Hold (P : Prop) : Prop := P
theorem execsJoin {M : Model} {A : Around} {s : Shared} {env : Env} {st : Stmt} {rest : List Stmt} {Q : Flow → Shared → Prop} {E : Value → Shared → Prop} (P : Flow → Shared → Prop) (h1 : wpAny M A (exec st env) P E s)
    (h2 : ∀ f s', P f s' → match f with | .next => wpAny M A (execs rest env) Q E s' | f => Q f s') : wpAny M A (execs (st :: rest) env) Q E s :=
  wpAny_execs_cons (wpAny_mono h1 h2 fun _ _ x => x)

theorem wpSplit {M : Model} {Γ : Ctx} {env : Env} {P Q : Flow → Pos → Shared → Prop} {E : Value → Pos → Shared → Prop} {ys : List Stmt}
    (h2 : ∀ f p s, P f p s → match f with | .next => Sem.wp M Γ (execs ys env) Q E p s | f => Q f p s) :
    ∀ (xs : List Stmt) (p : Pos) (s : Shared), Sem.wp M Γ (execs xs env) P E p s → Sem.wp M Γ (execs (xs ++ ys) env) Q E p s
  | [], p, s, h => h2 .next p s h
  | a :: xs, p, s, h => by
    rw [List.cons_append, execs_cons, Sem.wp_bind']
    rw [execs_cons, Sem.wp_bind'] at h
    refine Sem.wp_mono M Γ _ (fun f p' s' h' => ?_) (fun _ _ _ h' => h') _ _ h
    cases f with
    | next => exact wpSplit h2 xs p' s' h'
    | brk => exact h2 .brk p' s' h'
    | cont => exact h2 .cont p' s' h'
    | ret v => exact h2 (.ret v) p' s' h'
theorem execsSplit {M : Model} {A : Around} {env : Env} {Q : Flow → Shared → Prop} {E : Value → Shared → Prop} {s : Shared} {l : List Stmt} (n : Nat) (P : Flow → Shared → Prop)
    (h1 : wpAny M A (execs (l.take n) env) P E s) (h2 : ∀ f s', P f s' → match f with | .next => wpAny M A (execs (l.drop n) env) Q E s' | f => Q f s') : wpAny M A (execs l env) Q E s := fun Γ p hΓ => by
  have := wpSplit (M := M) (Γ := Γ) (env := env) (P := fun f _ s => P f s) (Q := fun f _ s => Q f s) (E := fun e _ s => E e s) (ys := l.drop n) (fun f p s hp => ?_) (l.take n) p s (h1 Γ p hΓ)
  · rwa [List.take_append_drop] at this
  · have h3 := h2 f s hp
    cases f with
    | next => exact h3 Γ p hΓ
    | brk => exact h3
    | cont => exact h3
    | ret v => exact h3

abbrev P75 : Program := PySem.Challenge.rw_pg0075_01.row.prog

/-- what every call finds: the text's own objects, the top -/
structure Gd (w : World) (h : Heap) : Prop where
  X : (Mine.hd.heap_39 w.params).In h
  T : ∃ mean mg mb, Top Mine.hd.view_39 (looseW Mine.hd.view_39 [Str.ofString "COMPILER_FLAG_NAMES"]) mean mg mb h
theorem Gd.keeps {w : World} {h h' : Heap} (G : Gd w h) (hk : ∀ b o, h.get? b = some o → h'.get? b = some o) : Gd w h' :=
  ⟨G.X.keeps hk, let ⟨a, b, c, T⟩ := G.T; ⟨a, b, c, T.keeps hk⟩⟩

/-- room for a call: k frames below the bound -/
structure Rm (A : Around) (k : Nat) : Prop where
  d : A.depth + k < 500
  u : A.units + 10 * k < 200
  h : A.handled = none
theorem Rm.deeper {A : Around} {k j : Nat} {env : Env} (r : Rm A k) (hj : j < k) : Rm (A.deeper env) j :=
  ⟨by have := r.d; show A.depth + 1 + j < 500; omega, by have := r.u; show A.units + 3 + 10 * j < 200; omega, r.h⟩
theorem Rm.hd {A : Around} {k : Nat} {env : Env} (r : Rm A k) : (A.deeper env).handled = none := r.h
theorem Rm.room {A : Around} {k : Nat} (r : Rm A k) : A.depth < recursionLimit := Nat.lt_trans (Nat.lt_of_le_of_lt (Nat.le_add_right _ k) r.d) (by decide)

/-- a call that gives back R of the heap it leaves, all elder objects as they were -/
def Gives (w : World) (k : Nat) (f : Value) (args : List Value) (s : Shared) (R : Value → Heap → Prop) : Prop :=
  ∀ (A : Around) (Q E : Value → Shared → Prop), Rm A k → (∀ v h' tk, s.heap.StaysIn h' → R v h' → Q v { s with heap := h', toks := tk }) → wpAny (model P75 w) A (call f args) Q E s

/-- a call seen from a frame -/
theorem Gives.at {w : World} {k : Nat} {f : Value} {args : List Value} {s : Shared} {R : Value → Heap → Prop} (g : Gives w k f args s R) {A : Around} {Q E : Value → Shared → Prop} {env : Env} {h₀ : Heap} {L : Addr} {m : Str → Option Value} {news : List (Addr × Obj)}
    (r : Rm A (k + 1)) (F : Fr h₀ L s.heap m) (N : News h₀ L s.heap news)
    (h : ∀ v h' tk, s.heap.StaysIn h' → Fr h₀ L h' m → News h₀ L h' news → R v h' → Q v { s with heap := h', toks := tk }) : wpAny (model P75 w) (A.deeper env) (call f args) Q E s :=
  g _ _ _ (r.deeper (Nat.lt_succ_self k)) fun v h' tk hs hR => h v h' tk hs (frStays F hs) (newsStays N hs) hR

end Mine

-- Plain
namespace Mine

/-- what _law_begins reckons -/
def begins (head whole : Int) : Bool :=
  if _h : 0 < head ∧ head < whole then begins head (whole / 16) else whole == head
termination_by whole.toNat
decreasing_by
  have h1 : whole / 16 < whole := by omega
  have h2 : 0 ≤ whole / 16 := by omega
  omega

/-- what _law_fits reckons -/
def fits (word other : Int) (left right : Bool) : Bool :=
  if word = other then true
  else if left && right then false
  else if !left && ((word == 32 && other == 512) || (word == 128 && other == 256)) then true
  else if right then decide (word > 512) && other == -word
  else if word > 512 then (decide (other > 0) || !left) && begins word other.natAbs
  else decide (word < 0) && decide (other < 0) && begins (-word) (-other)

/-- what _law_lies reckons -/
def lies (run row : List Int) (at_ : Nat) (left right : Bool) : Bool :=
  if (left && decide (0 < at_)) || (right && decide (at_ + run.length < row.length)) then false
  else (List.range run.length).all fun k => fits (run.getD k 0) (row.getD (at_ + k) 0) (left || decide (0 < k)) (right || decide (k + 1 < run.length))

/-- where _law_goes' inner loop ends -/
def seek (run row : List Int) (left right : Bool) (gone : Nat) : Nat :=
  if _h : gone + run.length ≤ row.length ∧ lies run row gone left right = false then seek run row left right (gone + 1) else gone
termination_by row.length + 1 - gone
decreasing_by omega

/-- what _law_goes reckons, from run k on -/
def goesFrom (front back : Bool) (row : List Int) (n : Nat) : Nat → List (List Int) → Nat → Bool
  | _, [], _ => true
  | k, run :: rest, gone =>
    let g := seek run row (k == 0 && !front) (k + 1 == n && !back) gone + run.length
    if row.length < g then false else goesFrom front back row n (k + 1) rest g
def goes (runs : List (List Int)) (front back : Bool) (row : List Int) : Bool := goesFrom front back row runs.length 0 runs 0

end Mine
namespace Mine
/-- what _law_worked reckons -/
def worked (n : Int) (place far : Nat) : Int :=
  if 32 ≤ place then n % 2 ^ 32 + ((place : Int) - 40) * 16 ^ far * 2 ^ 32
  else if n / 2 ^ place % 2 = 1 then n - 2 ^ place else n + 2 ^ place
def bit (n : Int) (p : Nat) : Bool := n / 2 ^ p % 2 == 1
def restOf (n : Int) : Int := n / 2 ^ 32 * 2 ^ 32
def bits (n : Int) : List Nat := (List.range 32).filter (bit n)
/-- what _law_worths reckons -/
def worthsL (n : Int) : List Int := (bits n).map (fun p => (2 : Int) ^ p) ++ (if restOf n ≠ 0 ∨ n = 0 then [restOf n] else [])
end Mine

-- PlainS
namespace Mine
open PySem
def nameTab : List String := ["OPTIMIZED", "NEWLOCALS", "VARARGS", "VARKEYWORDS", "NESTED", "GENERATOR", "NOFREE", "COROUTINE", "ITERABLE_COROUTINE", "ASYNC_GENERATOR"]
def hexS (i : Int) : Str := baseText "0x" 16 i
def flagName (p : Nat) : Str := match nameTab[p]? with | some x => Str.ofString x | none => hexS (2 ^ p)
/-- the words that pretty_flags joins -/
def wordsL (n : Int) : List Str := (bits n).map flagName ++ (if restOf n ≠ 0 ∨ n = 0 then [hexS (restOf n)] else [])
def pretty (n : Int) : Str := Str.join (Str.ofString ", ") (wordsL n)
end Mine

namespace Mine
set_option maxRecDepth 100000
open PySem PySem.W PySem.Calls PyProof.Rows
local macro_rules | `(tactic| walk_at "look") => `(tactic| first | exact rfl | assumption | (refine (if_neg (by decide)).trans ?_; walk_at "look") | exact (if_pos rfl).trans rfl)
local macro_rules | `(tactic| walk_at "eval Name") => `(tactic| (refine' ld ?k1 ?k2 ?_; (case k1 => k_asm); (case k2 => walk_at "look"); k_whole))
local macro_rules | `(tactic| walk_at "enter") => `(tactic| k_dflt (refine' callFn ?kX (Top.nolimit (by assumption)) ?k1 ?k2 ?k3 ?k4 ?k5 ?_ ?c1 ?c2 ?c3 ?c4; (case kX => assumption); (case k1 => k_is); (case k2 => k_is); (case k3 => exact Rm.room (by assumption)); (case k4 => exact BindsTo.of_eq rfl); (case k5 => exact locs rfl); (case c1 => exact rfl); (case c2 => exact rfl); (case c3 => exact rfl); (case c4 => decide); k_whole))
local macro_rules | `(tactic| walk_at "exec For Name Call cons nil") => `(tactic| k_dflt (refine wpAny_For ?_))
local macro_rules | `(tactic| walk_at "exec For Name Call cons cons") => `(tactic| k_dflt (refine wpAny_For ?_))
local macro_rules | `(tactic| walk_at "exec For Name Name cons nil") => `(tactic| k_dflt (refine wpAny_For ?_))
local macro_rules | `(tactic| walk_at "loadName") => `(tactic| (k_dflt (refine' ldn ?k1 ?k2 ?_; (case k1 => k_asm); (case k2 => walk_at "look"); k_whole)))
local macro_rules | `(tactic| walk_at "unpackItems ref") => `(tactic| (k_dflt (refine' unpackItemsN_ ?k1 ?k2 ?k3 ?k4 ?k5 ?_; (case k1 => k_asm); (case k2 => k_asm); (case k3 => kun_tup); (case k4 => exact Rm.hd (by assumption)); (case k5 => exact rfl); k_whole); intro h' F' N'; (try k_sweep)))

section -- Begins


theorem begins_step {head whole : Int} (h : 0 < head) (h2 : head < whole) : begins head (whole / 16) = begins head whole := by
  conv => rhs; rw [begins]
  rw [dif_pos ⟨h, h2⟩]
theorem begins_end {head whole : Int} (h2 : ¬ head < whole) : begins head whole = (whole == head) := by
  rw [begins, dif_neg (fun h => h2 h.2)]

set_option maxHeartbeats 4000000 in
theorem begins_c {w : World} {s : Shared} {head whole : Int} {t1 t2 : Tok} (G : Gd w s.heap) (hh : 0 < head) :
    Gives w 1 (.ref 48) [.int head t1, .int whole t2] s (fun v _ => v = .bool (begins head whole)) := by
  unfold Gives P75; obtain ⟨X, mean, mg, mb, T⟩ := id G; revert X; k_fill; intro X A Q E r h
  walk_at "enter"; intro L h₁ F N; dsimp only
  refine wpAny_execs_cons ?_
  refine whileRule (I := fun n s' => ∃ x tk h' m, s' = { s with heap := h', toks := tk } ∧ n = Int.toNat x ∧ Fr s.heap L h' m ∧ m (Str.ofString "head") = some (.int head t1) ∧ (∃ t, m (Str.ofString "whole") = some (.int x t)) ∧ begins head x = begins head whole) ?_ whole.toNat ⟨whole, _, h₁, _, rfl, rfl, F, rfl, ⟨t2, rfl⟩, rfl⟩
  rintro n s' ⟨x, tk, h', m, rfl, rfl, F', e1, ⟨t, e2⟩, e3⟩
  have N' : News s.heap L h' [] := News.nil
  clear N F
  iterate 5 walk1
  refine ⟨fun hb => ?_, fun hb => ?_⟩
  · have hb' : head < x := by simpa using hb
    repeat walk1
    dsimp only
    have hx : x.fdiv 16 = x / 16 := Int.fdiv_eq_ediv_of_nonneg _ (by decide)
    refine ⟨_, ?_, x.fdiv 16, _, _, _, rfl, rfl, by assumption, by walk_at "look", ⟨_, by walk_at "look"⟩, ?_⟩
    · rw [hx]; omega
    · rw [hx, begins_step hh hb']; exact e3
  · have hb' : ¬ head < x := by simpa using hb
    repeat walk1
    dsimp only
    rw [← begins_end hb', e3]
    exact h _ _ _ F'.keep rfl
end

section -- Fits


theorem deeper_units_lt {A : Around} {k : Nat} {env : Env} (r : Rm A k) : (A.deeper env).units + 64 < cLine :=
  Nat.lt_of_lt_of_le (by have := r.u; show A.units + 3 + 64 < 300; omega) (by decide)
open Classical in
theorem fits_mem {word other : Int} : (decide (Dat.tuple [Dat.int word, Dat.int other] ∈ [Dat.tuple [Dat.int 32, Dat.int 512], Dat.tuple [Dat.int 128, Dat.int 256]])) = ((word == 32 && other == 512) || (word == 128 && other == 256)) := by
  by_cases h : (word = 32 ∧ other = 512) ∨ (word = 128 ∧ other = 256)
  · rw [decide_eq_true (by simpa using h)]
    rcases h with ⟨rfl, rfl⟩ | ⟨rfl, rfl⟩ <;> rfl
  · rw [decide_eq_false (by simpa using h)]
    symm
    simpa using h

theorem fits_ok : ∀ d ∈ [Dat.tuple [Dat.int 32, Dat.int 512], Dat.tuple [Dat.int 128, Dat.int 256]], kqdOk 8 d = true := by
  intro d hd
  rcases List.mem_cons.mp hd with rfl | hd
  · rfl
  · rcases List.mem_cons.mp hd with rfl | hd
    · rfl
    · cases hd
local macro_rules | `(tactic| walk_at "compareOp In ref ref") => `(tactic| (k_dflt (refine' kqd_isIn ?kN ?ka ?kb ?kc ?kd (fun _ h => h) ?ke (fun _ h => h) ?kl ?km ?ku ?_; (case kN => k_asm); (case ka => k_mem); (case kb => exact rfl); (case kc => exact rfl); (case kd => kqd_all); (case ke => kqd_in); (case kl => exact fits_ok); (case km => exact rfl); (case ku => exact deeper_units_lt (by assumption)); k_whole); (rw [fits_mem])))
local macro_rules | `(tactic| walk_at "call ref") => `(tactic| ((refine' Gives.at (begins_c ?cG ?ch) (by assumption) ?cF ?cN ?_; (case cF => k_asm); (case cN => k_asm); (case cG => exact Gd.keeps (by assumption) (Fr.keep (by assumption))); (case ch => omega); k_whole); intro v hq tk hs F' N' hR; subst hR; (try k_sweep)))

set_option maxHeartbeats 4000000 in
theorem fits_c {w : World} {s : Shared} {word other : Int} {left right : Bool} {t1 t2 : Tok} (G : Gd w s.heap) :
    Gives w 2 (.ref 55) [.int word t1, .int other t2, .bool left, .bool right] s (fun v _ => v = .bool (fits word other left right)) := by
  unfold Gives P75; obtain ⟨X, mean, mg, mb, T⟩ := id G; revert X; k_fill; intro X A Q E r h
  walk_at "enter"; intro L h₁ F N; dsimp only
  obtain ⟨m, F, e1, e2, e3, e4⟩ : ∃ m, Fr s.heap L h₁ m ∧ m (Str.ofString "word") = some (.int word t1) ∧ m (Str.ofString "other") = some (.int other t2) ∧ m (Str.ofString "left") = some (.bool left) ∧ m (Str.ofString "right") = some (.bool right) := ⟨_, F, rfl, rfl, rfl, rfl⟩
  rename_i F₀; clear F₀
  k_fold
  have habs : ((other.natAbs : Nat) : Int) = if other < 0 then -other else other := by split <;> omega
  repeat' walk1
  all_goals dsimp only
  all_goals (refine h _ _ _ (Fr.keep (by assumption)) (congrArg Value.bool ?_); unfold fits; rw [habs])
  all_goals (clear h e1 e2 e3 e4 habs; simp only [*, gt_iff_lt, ite_true, ite_false, if_false, if_true, Bool.not_true, Bool.not_false, Bool.true_and, Bool.false_and, Bool.and_true, Bool.and_false, Bool.or_true, Bool.or_false, Bool.true_or, Bool.false_or, decide_true, decide_false, Bool.false_eq_true])
end

section -- Lies


local macro_rules | `(tactic| walk_at "call ref") => `(tactic| ((refine' Gives.at (fits_c ?cG) (by assumption) ?cF ?cN ?_; (case cF => k_asm); (case cN => k_asm); (case cG => exact Gd.keeps (by assumption) (Fr.keep (by assumption))); k_whole); intro v hq tk hs F' N' hR; subst hR; (try k_sweep)))

theorem lies_no {run row : List Int} {at_ : Nat} {left right : Bool} {i : Nat} (hi : i < run.length) (hf : fits (run.getD i 0) (row.getD (at_ + i) 0) (left || decide (0 < i)) (right || decide (i + 1 < run.length)) = false) : lies run row at_ left right = false := by
  unfold lies
  split
  · rfl
  · exact List.all_eq_false.mpr ⟨i, List.mem_range.mpr hi, by rw [hf]; exact Bool.false_ne_true⟩
theorem lies_yes {run row : List Int} {at_ : Nat} {left right : Bool} (hc : ((left && decide (0 < at_)) || (right && decide (at_ + run.length < row.length))) = false)
    (hall : ∀ k, k < run.length → fits (run.getD k 0) (row.getD (at_ + k) 0) (left || decide (0 < k)) (right || decide (k + 1 < run.length)) = true) : lies run row at_ left right = true := by
  unfold lies
  rw [if_neg (by rw [hc]; exact Bool.false_ne_true)]
  exact List.all_eq_true.mpr fun k hk => hall k (List.mem_range.mp hk)

set_option maxHeartbeats 4000000 in
theorem lies_c {w : World} {s : Shared} {a b : Addr} {rv wv : List Value} {run row : List Int} {at_ : Nat} {left right : Bool} {t1 : Tok} (G : Gd w s.heap)
    (hl1 : s.heap.IsList a rv.toArray) (hi1 : IntsAre rv run) (hl2 : s.heap.IsList b wv.toArray) (hi2 : IntsAre wv row) (hle : at_ + run.length ≤ row.length) (hsz : row.length < 2 ^ 40) :
    Gives w 3 (.ref 62) [.ref a, .ref b, .int (at_ : Int) t1, .bool left, .bool right] s (fun v _ => v = .bool (lies run row at_ left right)) := by
  unfold Gives P75; obtain ⟨X, mean, mg, mb, T⟩ := id G; revert X; k_fill; intro X A Q E r h
  walk_at "enter"; intro L h₁ F N; dsimp only
  obtain ⟨m, F, e1, e2, e3, e4, e5⟩ : ∃ m, Fr s.heap L h₁ m ∧ m (Str.ofString "run") = some (.ref a) ∧ m (Str.ofString "row") = some (.ref b) ∧ m (Str.ofString "at") = some (.int (at_ : Int) t1) ∧ m (Str.ofString "left") = some (.bool left) ∧ m (Str.ofString "right") = some (.bool right) := ⟨_, F, rfl, rfl, rfl, rfl, rfl⟩
  rename_i F₀; clear F₀
  k_fold
  have hlr := hi1.length
  have hlw := hi2.length
  refine execsJoin (fun f s' => Hold ((∃ tk', s' = { s with heap := h₁, toks := tk' }) ∧ ((f = .next ∧ ((left && decide (0 < at_)) || (right && decide (at_ + run.length < row.length))) = false) ∨ (f = .ret (.bool false) ∧ ((left && decide (0 < at_)) || (right && decide (at_ + run.length < row.length))) = true)))) ?_ ?_
  · repeat' walk1
    all_goals (refine ⟨⟨_, rfl⟩, ?_⟩)
    all_goals (first | (refine Or.inl ⟨rfl, ?_⟩; simp [*]; done) | (refine Or.inr ⟨rfl, ?_⟩; simp [*]; done) | (refine Or.inl ⟨rfl, ?_⟩; simp [*]; omega) | (refine Or.inr ⟨rfl, ?_⟩; simp [*]; omega))
  · rintro f s' ⟨⟨tk', rfl⟩, ⟨rfl, hc⟩ | ⟨rfl, hc⟩⟩
    · dsimp only
      repeat' walk1
      refine' forRange (n := run.length) r.h rfl rfl ?hr ?hn ?hF ?hN (fun i m' news' => news' = [] ∧ m' (Str.ofString "run") = some (.ref a) ∧ m' (Str.ofString "row") = some (.ref b) ∧ m' (Str.ofString "at") = some (.int (at_ : Int) t1) ∧ m' (Str.ofString "left") = some (.bool left) ∧ m' (Str.ofString "right") = some (.bool right) ∧ ∀ k, k < i → fits (run.getD k 0) (row.getD (at_ + k) 0) (left || decide (0 < k)) (right || decide (k + 1 < run.length)) = true) ?h0 ?turn ?done
      case hr => assumption
      case hn => omega
      case hF => assumption
      case hN => assumption
      case h0 => exact ⟨rfl, e1, e2, e3, e4, e5, fun k hk => absurd hk (Nat.not_lt_zero k)⟩
      case turn =>
        rintro i tk₀ m₁ news₁ I o hp₁ tk₁ hlt ⟨rfl, f1, f2, f3, f4, f5, hall⟩ hoff F₁ N₁
        obtain ⟨m₂, F₂, g0, g1, g2, g3, g4, g5⟩ : ∃ m₂, Fr s.heap L hp₁ m₂ ∧ m₂ (Str.ofString "k") = some (.int (i : Int) tk₀) ∧ m₂ (Str.ofString "run") = some (.ref a) ∧ m₂ (Str.ofString "row") = some (.ref b) ∧ m₂ (Str.ofString "at") = some (.int (at_ : Int) t1) ∧ m₂ (Str.ofString "left") = some (.bool left) ∧ m₂ (Str.ofString "right") = some (.bool right) := ⟨_, F₁, by walk_at "look", by walk_at "look", by walk_at "look", by walk_at "look", by walk_at "look", by walk_at "look"⟩
        clear F₁ f1 f2 f3 f4 f5 e1 e2 e3 e4 e5
        have E1 : ((at_ : Int) + (i : Int)).toNat = at_ + i := by omega
        have E2 : decide ((0 : Int) < (i : Int)) = decide (0 < i) := decide_eq_decide.mpr (by omega)
        have E3 : decide ((i : Int) + 1 < (run.length : Int)) = decide (i + 1 < run.length) := decide_eq_decide.mpr (by omega)
        repeat' walk1
        all_goals (rename left = _ => hL; rename right = _ => hR; rename fits _ _ _ _ = _ => hfit; subst hL hR; simp only [Int.toNat_natCast, E1, E2, E3] at hfit)
        all_goals first
          | (refine h _ _ _ (Fr.keep (by assumption)) (congrArg Value.bool (lies_no hlt ?_).symm); simpa only [Bool.true_or, Bool.false_or] using hfit)
          | (refine Turn.next (by assumption) (by assumption) [] (fun p hp => hp) (List.forall_mem_nil _) ⟨rfl, g1, g2, g3, g4, g5, fun k hk => ?_⟩
             rcases Nat.lt_succ_iff_lt_or_eq.mp hk with hk | rfl
             · exact hall k hk
             · simpa only [Bool.true_or, Bool.false_or] using hfit)
      case done =>
        rintro m₁ news₁ hp₁ tk₁ ⟨rfl, f1, f2, f3, f4, f5, hall⟩ F₁ N₁
        repeat' walk1
        exact h _ _ _ (Fr.keep (by assumption)) (congrArg Value.bool (lies_yes hc hall).symm)
    · dsimp only
      exact h _ _ _ F.keep (congrArg Value.bool (by unfold lies; rw [if_pos hc]))
end

section -- Goes


/-- a list of lists of ints -/
def RunsAt (h : Heap) (as : List Addr) (runs : List (List Int)) : Prop :=
  as.length = runs.length ∧ ∀ i a, as[i]? = some a → ∃ rv, h.IsList a rv.toArray ∧ IntsAre rv (runs.getD i [])
theorem RunsAt.keeps {h h' : Heap} {as : List Addr} {runs : List (List Int)} (R : RunsAt h as runs) (hk : ∀ b o, h.get? b = some o → h'.get? b = some o) : RunsAt h' as runs :=
  ⟨R.1, fun i a e => let ⟨rv, h1, h2⟩ := R.2 i a e; ⟨rv, stays_list hk h1, h2⟩⟩

theorem seek_step {run row : List Int} {left right : Bool} {g : Nat} (h1 : g + run.length ≤ row.length) (h2 : lies run row g left right = false) : seek run row left right (g + 1) = seek run row left right g := by
  conv => rhs; rw [seek]
  rw [dif_pos ⟨h1, h2⟩]
theorem seek_end {run row : List Int} {left right : Bool} {g : Nat} (h : ¬ (g + run.length ≤ row.length ∧ lies run row g left right = false)) : seek run row left right g = g := by
  rw [seek, dif_neg h]

theorem bz1 {i : Nat} {f : Bool} (h : (i : Int) = 0) : (!f) = (i == 0 && !f) := by
  have e : i = 0 := by omega
  subst e; rfl
theorem bz2 {i : Nat} {f : Bool} (h : (i : Int) ≠ 0) : ((i : Int) == 0) = (i == 0 && !f) := by
  have e : i ≠ 0 := by omega
  rw [beq_false_of_ne h, beq_false_of_ne e]; rfl
theorem bz3 {i n : Nat} {f : Bool} (h : (i : Int) + 1 = n) : (!f) = (i + 1 == n && !f) := by
  have e : i + 1 = n := by omega
  rw [beq_iff_eq.mpr e]; rfl
theorem bz4 {i n : Nat} {f : Bool} (h : (i : Int) + 1 ≠ n) : ((i : Int) + 1 == (n : Int)) = (i + 1 == n && !f) := by
  have e : i + 1 ≠ n := by omega
  rw [beq_false_of_ne h, beq_false_of_ne e]; rfl

local macro_rules | `(tactic| walk_at "call ref") => `(tactic| ((refine' Gives.at (lies_c ?cG (stays_list (Fr.keep (by assumption)) ?cl1) ?ci1 (stays_list (Fr.keep (by assumption)) ?cl2) ?ci2 ?cle ?csz) (by assumption) ?cF ?cN ?_; (case cl1 => assumption); (case ci1 => assumption); (case cl2 => assumption); (case ci2 => assumption); (case cF => k_asm); (case cN => k_asm); (case cG => exact Gd.keeps (by assumption) (Fr.keep (by assumption))); (case cle => omega); (case csz => omega); k_whole); intro v hq tk hs F' N' hR; subst hR; (try k_sweep)))

theorem len_at {prog : Program} {w : World} {A : Around} {E : Value → Shared → Prop} {s : Shared} {l : Addr} {vs : List Value} {n : Nat} {Q : Value → Shared → Prop}
    (hl : s.heap.IsList l vs.toArray) (hn : vs.length = n) (hfit : n < 2 ^ 60) (h : Q (.int (n : Int) (s.toks + 1)) { s with toks := s.toks + 1 + 1 }) : wpAny (model prog w) A (call (.builtin "len") [.ref l]) Q E s := by
  subst hn
  exact len_list hl (by rw [List.size_toArray]; omega) (by rw [List.size_toArray]; exact h)

local macro_rules | `(tactic| walk_at "call builtin:len") => `(tactic| ((with_reducible show wpAny _ _ (call (Value.builtin "len") [Value.ref _]) _ _ _); k_dflt (refine' len_at (stays_list (Fr.keep (by assumption)) ?cl) ?cn ?cf ?_; (case cl => assumption); (case cn => assumption); (case cf => omega); k_whole)))
local macro_rules | `(tactic| walk_at "subscriptTail Name Name ref int") => `(tactic| (k_dflt (refine' item_litK (stays_list (Fr.keep (by assumption)) ?cl) ?c0 ?c1 ?cx ?_; (case cl => assumption); (case c0 => omega); (case c1 => omega); (case cx => assumption); k_whole)))

set_option maxHeartbeats 4000000 in
theorem goes_c {w : World} {s : Shared} {c b : Addr} {as : List Addr} {wv : List Value} {runs : List (List Int)} {row : List Int} {front back : Bool} (G : Gd w s.heap)
    (hl1 : s.heap.IsList c (as.map Value.ref).toArray) (hi1 : RunsAt s.heap as runs) (hl2 : s.heap.IsList b wv.toArray) (hi2 : IntsAre wv row) (hsz : row.length < 2 ^ 39) (hsz2 : runs.length < 2 ^ 40) (hsz3 : ∀ r ∈ runs, r.length < 2 ^ 39) :
    Gives w 4 (.ref 69) [.ref c, .bool front, .bool back, .ref b] s (fun v _ => v = .bool (goes runs front back row)) := by
  unfold Gives P75; obtain ⟨X, mean, mg, mb, T⟩ := id G; revert X; k_fill; intro X A Q E r h
  walk_at "enter"; intro L h₁ F N; dsimp only; generalize s.toks + _ = tk0
  obtain ⟨m, F, e1, e2, e3, e4⟩ : ∃ m, Fr s.heap L h₁ m ∧ m (Str.ofString "runs") = some (.ref c) ∧ m (Str.ofString "front") = some (.bool front) ∧ m (Str.ofString "back") = some (.bool back) ∧ m (Str.ofString "row") = some (.ref b) := ⟨_, F, rfl, rfl, rfl, rfl⟩
  rename_i F₀; clear F₀
  k_fold
  have hlw := hi2.length
  have hlr := hi1.1
  have hlm : (as.map Value.ref).length = runs.length := by rw [List.length_map]; exact hlr
  repeat' walk1
  refine' forRange (n := runs.length) r.h rfl rfl ?hr ?hn ?hF ?hN (fun i m' news' => news' = [] ∧ m' (Str.ofString "runs") = some (.ref c) ∧ m' (Str.ofString "front") = some (.bool front) ∧ m' (Str.ofString "back") = some (.bool back) ∧ m' (Str.ofString "row") = some (.ref b) ∧ ∃ (g : Nat) (tg : Tok), m' (Str.ofString "gone") = some (.int (g : Int) tg) ∧ g ≤ row.length ∧ goesFrom front back row runs.length i (runs.drop i) g = goes runs front back row) ?h0 ?turn ?done
  case hr => assumption
  case hn => omega
  case hF => assumption
  case hN => assumption
  case h0 => exact ⟨rfl, by walk_at "look", by walk_at "look", by walk_at "look", by walk_at "look", 0, _, by walk_at "look", Nat.zero_le _, rfl⟩
  case turn =>
    rintro i tk₀ m₁ news₁ I o hp₁ tk₁ hlt ⟨rfl, f1, f2, f3, f4, g, tg, f5, hg, hgo⟩ hoff F₁ N₁
    obtain ⟨m₂, F₂, g0, g1, g2, g3, g4, g5⟩ : ∃ m₂, Fr s.heap L hp₁ m₂ ∧ m₂ (Str.ofString "k") = some (.int (i : Int) tk₀) ∧ m₂ (Str.ofString "runs") = some (.ref c) ∧ m₂ (Str.ofString "front") = some (.bool front) ∧ m₂ (Str.ofString "back") = some (.bool back) ∧ m₂ (Str.ofString "row") = some (.ref b) ∧ m₂ (Str.ofString "gone") = some (.int (g : Int) tg) := ⟨_, F₁, by walk_at "look", by walk_at "look", by walk_at "look", by walk_at "look", by walk_at "look", by walk_at "look"⟩
    clear F₁ f1 f2 f3 f4 f5 e1 e2 e3 e4
    have hai : ((as.map Value.ref))[(i : Int).toNat]? = some (.ref (as[i]'(by omega))) := by simp [hlr, hlt]
    obtain ⟨rv, hrl, hri⟩ := hi1.2 i (as[i]'(by omega)) (by simp)
    generalize (as[i]'(by omega)) = ra at hai hrl
    have hlr2 := hri.length
    have hrs : (runs.getD i []).length < 2 ^ 39 := by
      rw [List.getD_eq_getElem?_getD, List.getElem?_eq_getElem hlt]
      exact hsz3 _ (List.getElem_mem hlt)
    have hdr : runs.drop i = runs.getD i [] :: runs.drop (i + 1) := by
      rw [List.drop_eq_getElem_cons hlt, List.getD_eq_getElem?_getD, List.getElem?_eq_getElem hlt]; rfl
    rw [hdr] at hgo
    generalize runs.getD i [] = run at hri hlr2 hrs hgo
    refine execsSplit 3 (fun f s' => Hold (∃ h' tk' m' t9, f = .next ∧ s' = { s with heap := h', toks := tk' } ∧ Fr s.heap L h' m' ∧ News s.heap L h' [(I, o)] ∧ m' (Str.ofString "runs") = some (.ref c) ∧ m' (Str.ofString "front") = some (.bool front) ∧ m' (Str.ofString "back") = some (.bool back) ∧ m' (Str.ofString "row") = some (.ref b) ∧ m' (Str.ofString "gone") = some (.int (g : Int) tg) ∧ m' (Str.ofString "k") = some (.int (i : Int) t9) ∧ m' (Str.ofString "run") = some (.ref ra) ∧ (∃ l9 r9, m' (Str.ofString "left") = some (.bool l9) ∧ m' (Str.ofString "right") = some (.bool r9) ∧ l9 = (i == 0 && !front) ∧ r9 = (i + 1 == runs.length && !back)))) ?_ ?_
    · dsimp only [List.take]
      repeat' walk1
      all_goals (refine ⟨_, _, _, _, rfl, rfl, by assumption, by assumption, by walk_at "look", by walk_at "look", by walk_at "look", by walk_at "look", by walk_at "look", by walk_at "look", by walk_at "look", _, _, by walk_at "look", by walk_at "look", ?_, ?_⟩)
      all_goals (first | exact bz1 (by assumption) | exact bz2 (by assumption) | exact bz3 (by assumption) | exact bz4 (by assumption))
    · dsimp only [List.drop]
      rintro f s' ⟨h₂, tk₂, m₃, t9, rfl, rfl, F₃, N₃, k1, k2, k3, k4, k5, k6, k7, l9, r9, k8, k9, kl, kr⟩
      dsimp only
      clear F₂ N₁ g0 g1 g2 g3 g4 g5
      have hgo9 : (if row.length < seek run row l9 r9 g + run.length then false else goesFrom front back row runs.length (i + 1) (runs.drop (i + 1)) (seek run row l9 r9 g + run.length)) = goes runs front back row := by
        rw [kl, kr]; exact hgo
      refine wpAny_execs_cons ?_
      refine whileRule (I := fun n s' => ∃ g' tk' h' m' tg', s' = { s with heap := h', toks := tk' } ∧ n = row.length + 1 - g' ∧ Fr s.heap L h' m' ∧ News s.heap L h' [(I, o)] ∧ m' (Str.ofString "runs") = some (.ref c) ∧ m' (Str.ofString "front") = some (.bool front) ∧ m' (Str.ofString "back") = some (.bool back) ∧ m' (Str.ofString "row") = some (.ref b) ∧ m' (Str.ofString "run") = some (.ref ra) ∧ m' (Str.ofString "left") = some (.bool l9) ∧ m' (Str.ofString "right") = some (.bool r9) ∧ m' (Str.ofString "gone") = some (.int ((g' : Nat) : Int) tg') ∧ g' ≤ row.length + 1 ∧ seek run row l9 r9 g' = seek run row l9 r9 g) ?_ (row.length + 1 - g) ⟨g, _, _, _, tg, rfl, rfl, F₃, N₃, k1, k2, k3, k4, k7, k8, k9, k5, by omega, rfl⟩
      clear F₃ N₃ k1 k2 k3 k4 k5 k6 k7 k8 k9
      rintro n s' ⟨g', tk', h', m', tg', rfl, rfl, F₃, N₃, k1, k2, k3, k4, k7, k8, k9, k5, hg', hseek⟩
      refine wpAny_mono (Q := fun bb s' => Hold (∃ h'' tk'', s' = { s with heap := h'', toks := tk'' } ∧ Fr s.heap L h'' m' ∧ News s.heap L h'' [(I, o)] ∧ bb = (decide (g' + run.length ≤ row.length) && !lies run row g' l9 r9))) ?_ ?_ (fun _ _ x => x)
      · repeat' walk1
        all_goals (refine ⟨_, _, rfl, by assumption, by assumption, ?_⟩)
        · rename lies _ _ _ _ _ = _ => hli; rw [hli, Bool.not_true, Bool.and_false]
        · rename lies _ _ _ _ _ = _ => hli; rw [hli, decide_eq_true (by omega)]; rfl
        · rw [decide_eq_false (by omega), Bool.false_and]
      · rintro bb s' ⟨h'', tk'', rfl, F₄, N₄, hbb⟩
        clear F₃ N₃
        refine ⟨fun hb => ?_, fun hb => ?_⟩
        · rw [hb] at hbb
          have hb2 := (Bool.and_eq_true_iff.mp hbb.symm)
          have hb3 : g' + run.length ≤ row.length := of_decide_eq_true hb2.1
          have hb4 : lies run row g' l9 r9 = false := by simpa using hb2.2
          repeat' walk1
          refine ⟨row.length + 1 - (g' + 1), by omega, g' + 1, _, _, _, _, rfl, rfl, by assumption, by assumption, by walk_at "look", by walk_at "look", by walk_at "look", by walk_at "look", by walk_at "look", by walk_at "look", by walk_at "look", by walk_at "look", by omega, ?_⟩
          rw [seek_step hb3 hb4]; exact hseek
        · rw [hb] at hbb
          have hb2 : ¬ (g' + run.length ≤ row.length ∧ lies run row g' l9 r9 = false) := by
            rintro ⟨q1, q2⟩
            rw [decide_eq_true q1, q2] at hbb
            cases hbb
          have hge := seek_end hb2
          rw [← hseek, hge] at hgo9
          repeat' walk1
          · rw [if_pos (by omega)] at hgo9
            exact h _ _ _ (Fr.keep (by assumption)) (congrArg Value.bool hgo9)
          · rw [if_neg (by omega)] at hgo9
            exact Turn.next (by assumption) (by assumption) [] (fun p hp => hp) (List.forall_mem_nil _) ⟨rfl, by walk_at "look", by walk_at "look", by walk_at "look", by walk_at "look", g' + run.length, _, by walk_at "look", by omega, hgo9⟩
  case done =>
    rintro m₁ news₁ hp₁ tk₁ ⟨rfl, f1, f2, f3, f4, g, tg, f5, hg, hgo⟩ F₁ N₁
    repeat' walk1
    rw [List.drop_length] at hgo
    exact h _ _ _ (Fr.keep (by assumption)) (congrArg Value.bool hgo)
end

section -- Ints


theorem powK {prog : Program} {w : World} {A : Around} {E : Value → Shared → Prop} {s : Shared} {a n : Int} {t u : Tok} {Q : Value → Shared → Prop} (k : Nat) (hn : n = (k : Int)) (hk : k ≤ 1000) (ha : a.natAbs < 2 ^ 64)
    (h : Q (.int (a ^ k) s.toks) { s with toks := s.toks + 1 }) : wpAny (model prog w) A (binaryOp .Pow (.int a t) (.int n u)) Q E s := by
  subst hn
  exact pow_int_small (by omega) (by omega) ha (by simpa using h)
theorem noPyl {a b : Int} (hb : 0 < b) (hb2 : b ≤ 1180591620717411303424) : Builtin.divisionGoesByPylong a b = false := by
  refine PyProof.noPylong_of_log2 ?_
  have h1 : b.natAbs ≠ 0 := by omega
  have h2 : b.natAbs < 2 ^ 71 := by omega
  have := (Nat.log2_lt h1).mpr h2
  omega
theorem fdivK {prog : Program} {w : World} {A : Around} {E : Value → Shared → Prop} {s : Shared} {a b : Int} {t u : Tok} {Q : Value → Shared → Prop} (hb : 0 < b ∧ b ≤ 1180591620717411303424)
    (h : Q (.int (a / b) s.toks) { s with toks := s.toks + 1 }) : wpAny (model prog w) A (binaryOp .FloorDiv (.int a t) (.int b u)) Q E s :=
  floordiv_int (Int.ne_of_gt hb.1) (by rw [Int.fdiv_eq_ediv_of_nonneg _ (Int.le_of_lt hb.1)]; exact h) (Or.inl (noPyl hb.1 hb.2))
theorem fmodK {prog : Program} {w : World} {A : Around} {E : Value → Shared → Prop} {s : Shared} {a b : Int} {t u : Tok} {Q : Value → Shared → Prop} (hb : 0 < b ∧ b ≤ 1180591620717411303424)
    (h : Q (.int (a % b) s.toks) { s with toks := s.toks + 1 }) : wpAny (model prog w) A (binaryOp .Mod (.int a t) (.int b u)) Q E s :=
  mod_int' (Int.ne_of_gt hb.1) (by rw [Int.fmod_eq_emod_of_nonneg _ (Int.le_of_lt hb.1)]; exact h)
theorem pow2_pos (k : Nat) : (0 : Int) < 2 ^ k := Int.pow_pos (by decide)
theorem pow2_ok {k : Nat} (h : k ≤ 70) : (0 : Int) < 2 ^ k ∧ (2 : Int) ^ k ≤ 1180591620717411303424 :=
  ⟨pow2_pos k, by
    have : (2 : Int) ^ k ≤ 2 ^ 70 := by exact_mod_cast Nat.pow_le_pow_right (n := 2) (by decide) h
    omega⟩
theorem bits_pow {k : Nat} (h : k ≤ 60) : Builtin.Int.intBits ((2 : Int) ^ k) ≤ 64 :=
  intBits_le_64 (by have := pow2_pos k; omega) (by
    have : (2 : Int) ^ k ≤ 2 ^ 60 := by exact_mod_cast Nat.pow_le_pow_right (n := 2) (by decide) h
    omega)

theorem shlK {prog : Program} {w : World} {A : Around} {E : Value → Shared → Prop} {s : Shared} {t u : Tok} {Q : Value → Shared → Prop} (k : Nat) (hk : k ≤ 1000)
    (h : Q (.int (2 ^ k) s.toks) { s with toks := s.toks + 1 }) : wpAny (model prog w) A (binaryOp .LShift (.int 1 t) (.int (k : Int) u)) Q E s :=
  lshift_int_small (by omega) (by omega) (by decide) (by rw [Int.one_mul, Int.toNat_natCast]; exact h)
theorem andK {prog : Program} {w : World} {A : Around} {E : Value → Shared → Prop} {s : Shared} {x : Int} {k : Nat} {t u : Tok} {Q : Value → Shared → Prop}
    (h : Q (.int (x / 2 ^ k % 2 * 2 ^ k) s.toks) { s with toks := s.toks + 1 }) : wpAny (model prog w) A (binaryOp .BitAnd (.int x t) (.int (2 ^ k) u)) Q E s :=
  and_int (by rw [kbt_bit]; exact h)
theorem ixorK {prog : Program} {w : World} {A : Around} {E : Value → Shared → Prop} {s : Shared} {x : Int} {k : Nat} {t u : Tok} {Q : Value → Shared → Prop} (hb : x / 2 ^ k % 2 = 1)
    (h : Q (.int (x - 2 ^ k) s.toks) { s with toks := s.toks + 1 }) : wpAny (model prog w) A (inplaceOp .BitXor (.int x t) (.int (2 ^ k) u)) Q E s :=
  ixor_int (by
    have e : Builtin.bitXor x (2 ^ k) = x - 2 ^ k := by rw [bitXor_and, kbt_bit, hb]; omega
    rw [e]; exact h)
end

section -- Cells


/-- a call of a def some of whose parameters are captured -/
theorem callFnC {prog : Program} {w : World} {A : Around} {s : Shared} {K : Frag} {name qual : Str} {params : Arguments} {body : List Stmt} {scope : Scope} {dV kV doc pm cdv ct oc : Value} {an od : Option Addr} {osl : Array (Option Value)} {f : Addr} {vals : List Value} {binds : List (Str × Value)} {Q E : Value → Shared → Prop}
    (X : K.In s.heap) (hlim : s.heap.NoLimit)
    (ho : K.lookup f = some ⟨oc, od, .func (fnOf name qual params body scope dV kV doc pm an cdv ct), osl⟩) (hcd : codeIn K cdv qual = true) (hroom : A.depth < recursionLimit)
    (hbind : BindsTo s (fnOf name qual params body scope dV kV doc pm an cdv ct) ⟨vals, []⟩ binds)
    (hkind : (binds.all fun y => scope.names.lookup y.1 == some .local || scope.names.lookup y.1 == some .cell) = true)
    (hnd : ((cellsFrom 0 scope.names []).map (·.1)).Nodup)
    (h : ∀ L h₁ tk cells, Fr s.heap L h₁ (bindL (envOfC qual scope L f cdv).kindOf binds fun _ => none) → News s.heap L h₁ cells →
      CellsAre (bindC (envOfC qual scope L f cdv).kindOf binds fun _ => none) (cellsFrom (L + 1) scope.names []) cells →
      wpAny (model prog w) (A.deeper (envOfC qual scope L f cdv)) (execs body (envOfC qual scope L f cdv))
        (fun fl s' => Q (match fl with | .ret v => v | _ => .none) s') (fun _ _ => False) { s with heap := h₁, toks := tk })
    (hco : scope.isCoroutine = false := by rfl) (hgen : scope.isGenerator = false := by rfl) (hk : scope.kind = .function := by rfl) :
    wpAny (model prog w) A (call (.ref f) vals) Q E s := by
  refine wpAny_call (codeAny_call_function hroom (X _ _ ho) rfl hco hgen rfl (codeRec_of X hcd) (hbind _ _ _ _ ?_))
  refine wpAny_newFunctionEnv_cells hk (kindsX hkind _) fun env' he s' x => ?_
  subst he
  refine ⟨hlim.keeps x.toInCall.keep, codeAny_func ?_⟩
  obtain ⟨h₁, tk, rfl, _⟩ := x.done
  obtain ⟨cells, NC, Y⟩ := Cl.news (h₀ := s.heap) (Nat.le_refl _) fun n c hm => ⟨x.cell n c (lookup_of_mem_nodup (cellsFrom_names scope.names 0 (s.heap.objs.size + 1) [] [] rfl ▸ hnd) hm), x.above n c hm⟩
  exact wpAny_mono (h s.heap.objs.size h₁ tk cells ⟨x.toInCall.ns, x.toInCall.keep, Nat.le_refl _⟩ NC Y) (fun _ _ x => x) fun _ _ x => x.elim
end

section -- Hex


theorem hexS_len {i : Int} (h1 : -(2 ^ 60) < i) (h2 : i < 2 ^ 60) : (hexS i).length ≤ 19 := by
  unfold hexS baseText
  simp only [Str.length_append]
  have e1 : (Str.ofString (if i < 0 then "-" else "")).length ≤ 1 := by split <;> decide
  have e2 : (Str.ofString "0x").length = 2 := by decide
  have e3 : (Str.ofString (String.ofList (Nat.toDigits 16 i.natAbs))).length ≤ 16 := by
    rw [Str.ofString_eq_toList]
    show ((String.ofList (Nat.toDigits 16 i.natAbs)).toList.map Char.toNat).toArray.size ≤ 16
    rw [String.toList_ofList, List.size_toArray, List.length_map]
    exact PySem.StrLaws.toDigits_len (by decide) (by omega)
  omega
theorem hexK {prog : Program} {w : World} {A : Around} {E : Value → Shared → Prop} {s : Shared} {i : Int} {t : Tok} {Q : Value → Shared → Prop} (h1 : -(2 ^ 60) < i) (h2 : i < 2 ^ 60)
    (h : Q (.str (hexS i) s.toks) { s with toks := s.toks + 1 }) : wpAny (model prog w) A (call (.builtin "hex") [.int i t]) Q E s :=
  P.hex_of_int h (Nat.le_trans (hexS_len h1 h2) (by decide))
def flagD : List (Int × PyData) := [(1, .str (Str.ofString "OPTIMIZED")), (2, .str (Str.ofString "NEWLOCALS")), (4, .str (Str.ofString "VARARGS")), (8, .str (Str.ofString "VARKEYWORDS")), (16, .str (Str.ofString "NESTED")), (32, .str (Str.ofString "GENERATOR")), (64, .str (Str.ofString "NOFREE")), (128, .str (Str.ofString "COROUTINE")), (256, .str (Str.ofString "ITERABLE_COROUTINE")), (512, .str (Str.ofString "ASYNC_GENERATOR"))]
theorem flags_keyed {w : World} {h : Heap} (G : Gd w h) : KTD.Keyed h 22 flagD := kt_keyed_in G.X (by with_unfolding_all rfl)
theorem look_none {k : Int} (h : 512 < k) : PySem.Spec.lookup (.int k) (flagD.map fun p => (PyData.int p.1, p.2)) = none := by
  have e : ∀ a : Int, a ≤ 512 → PySem.Spec.same (PyData.int a) (.int k) = false := fun a ha => by
    unfold PySem.Spec.same
    simp
    omega
  unfold flagD
  simp only [List.map_cons, List.map_nil, PySem.Spec.lookup]
  rw [e 1 (by decide), e 2 (by decide), e 4 (by decide), e 8 (by decide), e 16 (by decide), e 32 (by decide), e 64 (by decide), e 128 (by decide), e 256 (by decide), e 512 (by decide)]
  rfl
theorem flag_look : ∀ i, (PySem.Spec.lookup (.int (2 ^ i)) (flagD.map fun p => (PyData.int p.1, p.2))).getD (PyData.str (hexS (2 ^ i))) = .str (flagName i)
  | 0 => rfl
  | 1 => rfl
  | 2 => rfl
  | 3 => rfl
  | 4 => rfl
  | 5 => rfl
  | 6 => rfl
  | 7 => rfl
  | 8 => rfl
  | 9 => rfl
  | i + 10 => by
    have h : (512 : Int) < 2 ^ (i + 10) := by
      have := pow2_pos i
      rw [Int.pow_add]
      have e : (2 : Int) ^ 10 = 1024 := by decide
      rw [e]; omega
    rw [look_none h]
    rfl
theorem flag_get {w : World} {A : Around} {E : Value → Shared → Prop} {s : Shared} {i : Nat} {t u : Tok} {Q : Value → Shared → Prop} (G : Gd w s.heap)
    (h : ∀ t', Q (.str (flagName i) t') { s with toks := s.toks + 1 }) : wpAny (model P75 w) A (call (.builtin "dict.get") [.ref 22, .int (2 ^ i) t, .str (hexS (2 ^ i)) u]) Q E s := by
  refine call_get2_intTab (flags_keyed G P75 w) (PyProof.V.Flat.str _ _) ?_
  intro v hv
  rw [flag_look] at hv
  cases hv s.heap
  exact h _
theorem appendK {prog : Program} {w : World} {A : Around} {E : Value → Shared → Prop} {s : Shared} {h₀ : Heap} {L D : Addr} {m : Str → Option Value} {news news' : List (Addr × Obj)} {vs : List Value} {ep : Nat} {x : Value} {Q : Value → Shared → Prop} (F : Fr h₀ L s.heap m) (N : News h₀ L s.heap news)
    (U : Upd D (W.listOf vs.toArray ep) (W.listOf (vs ++ [x]).toArray (ep + 1)) news news') (hsz : vs.length ≤ sizeLine)
    (h : ∀ h', Fr h₀ L h' m → News h₀ L h' news' → Q .none { s with heap := h' }) : wpAny (model prog w) A (call (.builtin "list.append") [.ref D, x]) Q E s :=
  append_K (its := vs.toArray) (n := ep) F N (by
    have e : vs.toArray.push x = (vs ++ [x]).toArray := by simp
    rw [e]; exact U) h (by rw [List.size_toArray]; exact hsz)
theorem strsSnoc : ∀ {vs : List Value} {ys : List Str} {y : Str} {t : Tok}, StrsAre vs ys → StrsAre (vs ++ [.str y t]) (ys ++ [y])
  | _, _, _, _, .nil => .cons _ _ .nil
  | _, _, _, _, .cons _ _ r => .cons _ _ (strsSnoc r)
theorem intsSnoc : ∀ {vs : List Value} {ys : List Int} {y : Int} {t : Tok}, IntsAre vs ys → IntsAre (vs ++ [.int y t]) (ys ++ [y])
  | _, _, _, _, .nil => .cons _ _ .nil
  | _, _, _, _, .cons _ _ r => .cons _ _ (intsSnoc r)
end

section -- Txts


section
variable {prog : Program} {w : World} {A : Around} {E : Value → Shared → Prop} {s : Shared} {h₀ : Heap} {L D : Addr} {m : Str → Option Value} {news : List (Addr × Obj)}
open Builtin Builtin.Str in
theorem gives_find4 (x y : Str) (i j : Nat) (t u v v' : Tok) : PySem.Gives («str.find» ⟨[.str x t, .str y u, .int (i : Int) v, .int (j : Int) v'], []⟩) (.int (match occurrences x y i (min j x.length) 1 with | k :: _ => (k : Int) | [] => -1)) := by
  have e1 : fromIndex x.length (i : Int) = i := by unfold fromIndex; rw [if_neg (by omega)]; omega
  have e2 : fromIndex x.length (j : Int) = j := by unfold fromIndex; rw [if_neg (by omega)]; omega
  show PySem.Gives (match occurrences x y (fromIndex x.length i) (min (fromIndex x.length j) x.length) 1 with | k :: _ => retInt k | [] => (do rule "str.find.not-found"; retInt (-1))) _
  rw [e1, e2]
  cases occurrences x y i (min j x.length) 1 with
  | nil => exact .rule (.of_eq rfl)
  | cons k _ => exact .of_eq rfl
theorem findK {x y : Str} {i j : Nat} {t u v v' : Tok} {Q : Value → Shared → Prop} (hj : j ≤ x.length)
    (hq : Q (.int (match Builtin.Str.occurrences x y i j 1 with | k :: _ => (k : Int) | [] => -1) s.toks) { s with toks := s.toks + 1 }) : wpAny (model prog w) A (call (.builtin "str.find") [.str x t, .str y u, .int (i : Int) v, .int (j : Int) v']) Q E s :=
  call_gives PySem.F.slot_str_find (typeIs_str _ _ _) PySem.F.entry_str_find (PySem.F.args_str_find_4 _ _ _ _) (gives_find4 x y i j t u v v') (by rw [Nat.min_eq_left hj]; exact hq)
theorem truthyS {x : Str} {t : Tok} {Q : Bool → Shared → Prop} (hl : x.length ≤ 100000000) (h : Q (decide (x.length ≠ 0)) { s with toks := s.toks + 1 + 1 }) : wpAny (model prog w) A (truthy (.str x t)) Q E s :=
  P.truthy_str (by omega) (by
    have e : ((x.length : Int) != 0) = decide (x.length ≠ 0) := by
      by_cases hx : x.length = 0
      · rw [hx]; rfl
      · rw [decide_eq_true hx, bne_iff_ne]; omega
    rw [e]; exact h)
theorem splitK {x y : Str} {t u : Tok} {Q : Value → Shared → Prop} (F : Fr h₀ L s.heap m) (N : News h₀ L s.heap news) (hy : (y.length == 0) = false) (hsz : x.length ≤ 1000000)
    (h : ∀ D vs h' k, StrsAre vs (Txt.split x y) → Fr h₀ L h' m → News h₀ L h' ((D, W.listOf vs.toArray 0) :: news) → (∀ p ∈ news, p.1 < D) → Q (.ref D) { s with heap := h', toks := k }) :
    wpAny (model prog w) A (call (.builtin "str.split") [.str x t, .str y u]) Q E s :=
  splitN1A F N hy (fun l h' k e hs _ _ F' N' => h _ _ h' k (e ▸ hs) F' N' fun p hp => Heap.lt_size (N p hp).1) (by rw [sizeLine_eq]; omega)
theorem item0 {value slice : PySem.Expr} {vs : List Value} {v : Value} {u : Tok} {Q : Value → Shared → Prop} (hl : s.heap.IsList D vs.toArray) (hx : vs[0]? = some v) (h : Q v s)
    (hs : subscripted slice false (.ref D) (.int 0 u) = operate [.ref D, .int 0 u] (getItem (.ref D) (.int 0 u)) := by with_unfolding_all rfl) :
    wpAny (model prog w) A (subscriptTail value slice (.ref D) (.int 0 u)) Q E s :=
  tail_any hl.typeIs slot_list_getitem.lookup (wpAny_getItem_list hl (by decide) (by decide) (by simpa using hx) h) hs
theorem itemLast {value slice : PySem.Expr} {vs : List Value} {v : Value} {u : Tok} {Q : Value → Shared → Prop} (hl : s.heap.IsList D vs.toArray) (hx : vs.getLast? = some v) (hlen : vs.length < 1000000000) (h : Q v s)
    (hs : subscripted slice false (.ref D) (.int (-1) u) = operate [.ref D, .int (-1) u] (getItem (.ref D) (.int (-1) u)) := by with_unfolding_all rfl) :
    wpAny (model prog w) A (subscriptTail value slice (.ref D) (.int (-1) u)) Q E s :=
  have h1 : 0 < vs.length := List.length_pos_iff.mpr (by rintro rfl; cases hx)
  have e : ((-1 : Int) + ((vs.toArray.size : Nat) : Int)).toNat = vs.length - 1 := by rw [List.size_toArray]; omega
  tail_any hl.typeIs slot_list_getitem.lookup (wpAny_getItem_list_neg (k := -1) hl (by decide) (by rw [List.size_toArray]; omega) (by decide) (by
    rw [List.getLast?_eq_getElem?] at hx
    rw [e]; simpa using hx) h) hs
end
open Builtin.Str in
/-- what the loop of _ellipsis_match reckons -/
def emLoop (got : Str) (hi : Nat) : List Str → Nat → Bool
  | [], _ => true
  | x :: r, lo => match occurrences got x lo hi 1 with
    | [] => false
    | p :: _ => emLoop got hi r (p + x.length)
def emLast (got : Str) (ws : List Str) (lo : Nat) : Bool :=
  let z := ws.getLastD Str.empty
  if z.length ≠ 0 then
    if Txt.endswith got z then (if got.length - z.length < lo then false else emLoop got (got.length - z.length) ws.dropLast lo) else false
  else if got.length < lo then false else emLoop got got.length ws lo
def emWs (got : Str) (ws : List Str) : Bool :=
  let z := ws.headD Str.empty
  if z.length ≠ 0 then (if Txt.startswith got z then emLast got ws.tail z.length else false) else emLast got ws 0
abbrev dots : Str := Str.ofString "..."
/-- what _ellipsis_match reckons -/
def em (want got : Str) : Bool := if (Builtin.Str.occurrences want dots 0 want.length 1).isEmpty then want == got else emWs got (Txt.split want dots)
theorem delK {prog : Program} {w : World} {A : Around} {E : Value → Shared → Prop} {s : Shared} {h₀ : Heap} {L D : Addr} {m : Str → Option Value} {vs : List Value} {ep : Nat} {i : Int} {u : Tok} {k : Nat} {Q : Unit → Shared → Prop}
    (F : Fr h₀ L s.heap m) (N : News h₀ L s.heap [(D, W.listOf vs.toArray ep)]) (hfit : Builtin.List.listFitsIndex i = true) (hk : seqIndex? i vs.length = some k) (hsz : vs.length ≤ 1000000)
    (h : ∀ h', Fr h₀ L h' m → News h₀ L h' [(D, W.listOf (vs.eraseIdx k).toArray (ep + 1))] → Q () { s with heap := h' }) :
    wpAny (model prog w) A (delItem (.ref D) (.int i u)) Q E s :=
  delItem_head F N (List.forall_mem_nil _) hfit (by rw [List.size_toArray]; exact hk) h (by rw [List.size_toArray, sizeLine_eq]; omega)
theorem strsErase : ∀ {vs : List Value} {ys : List Str} (k : Nat), StrsAre vs ys → StrsAre (vs.eraseIdx k) (ys.eraseIdx k)
  | _, _, _, .nil => .nil
  | _, _, 0, .cons _ _ r => r
  | _, _, k + 1, .cons _ _ r => .cons _ _ (strsErase k r)
theorem strsGet : ∀ {vs : List Value} {ys : List Str} (i : Nat), StrsAre vs ys → ∀ y, ys[i]? = some y → ∃ t, vs[i]? = some (.str y t)
  | _, _, i, .nil, y, h => by cases i <;> cases h
  | _, _, 0, .cons _ t _, y, h => ⟨t, by cases h; rfl⟩
  | _, _, i + 1, .cons _ _ r, y, h => by
    obtain ⟨t, e⟩ := strsGet i r y (by simpa using h)
    exact ⟨t, by simpa using e⟩
theorem findNone {prog : Program} {w : World} {A : Around} {E : Value → Shared → Prop} {s : Shared} {x y : Str} {i j : Nat} {t u v v' : Tok} {Q : Value → Shared → Prop} (ho : Builtin.Str.occurrences x y i j 1 = []) (hj : j ≤ x.length)
    (hq : Q (.int (-1) s.toks) { s with toks := s.toks + 1 }) : wpAny (model prog w) A (call (.builtin "str.find") [.str x t, .str y u, .int (i : Int) v, .int (j : Int) v']) Q E s :=
  findK hj (by rw [ho]; exact hq)
theorem findSome {prog : Program} {w : World} {A : Around} {E : Value → Shared → Prop} {s : Shared} {x y : Str} {i j p : Nat} {r : List Nat} {t u v v' : Tok} {Q : Value → Shared → Prop} (ho : Builtin.Str.occurrences x y i j 1 = p :: r) (hj : j ≤ x.length)
    (hq : Q (.int (p : Int) s.toks) { s with toks := s.toks + 1 }) : wpAny (model prog w) A (call (.builtin "str.find") [.str x t, .str y u, .int (i : Int) v, .int (j : Int) v']) Q E s :=
  findK hj (by rw [ho]; exact hq)
theorem strsItem : ∀ {vs : List Value} {ys : List Str} (i : Nat) (v : Value), StrsAre vs ys → vs[i]? = some v → ∃ y t, v = .str y t ∧ ys[i]? = some y
  | _, _, i, v, .nil, h => by cases i <;> cases h
  | _, _, 0, v, .cons y t _, h => ⟨y, t, by cases h; rfl, rfl⟩
  | _, _, i + 1, v, .cons _ _ r, h => by
    obtain ⟨y, t, e, e2⟩ := strsItem i v r (by simpa using h)
    exact ⟨y, t, e, by simpa using e2⟩
theorem endswith_le {x y : Str} (h : Txt.endswith x y = true) : y.length ≤ x.length := by
  unfold Txt.endswith at h
  simp at h
  exact h.1
end

section -- PlainB
open PySem
abbrev comma : Str := Str.ofString ", "
def cutB (x : Int) (k : Nat) : Bool := x / ((k : Int) + 3) % 2 == 0
/-- the pattern after k turns of _law_agrees' loop -/
def patT (x : Int) (front : Bool) (ws : List Str) : Nat → Str
  | 0 => if front then dots else Str.empty
  | k + 1 => patT x front ws k ++ ws.getD k Str.empty ++ (if k + 1 < ws.length then (if cutB x k then dots else comma) else Str.empty)
def snocLast (runs : List (List Int)) (n : Int) : List (List Int) := runs.dropLast ++ [runs.getLastD [] ++ [n]]
/-- the runs after k turns -/
def runsT (x : Int) (ns : List Int) : Nat → List (List Int)
  | 0 => [[]]
  | k + 1 => snocLast (runsT x ns k) (ns.getD k 0) ++ (if k + 1 < ns.length ∧ cutB x k = true then [[]] else [])
def pat (x : Int) (front back : Bool) (ws : List Str) : Str := patT x front ws ws.length ++ (if back then dots else Str.empty)
theorem patT_len {x : Int} {front : Bool} {ws : List Str} (h : ∀ w ∈ ws, w.length ≤ 19) : ∀ k, (patT x front ws k).length ≤ 3 + 22 * k
  | 0 => by
    unfold patT
    split <;> decide
  | k + 1 => by
    have ih := patT_len (x := x) (front := front) h k
    have hk : (ws.getD k Str.empty).length ≤ 19 := by
      rw [List.getD_eq_getElem?_getD]
      cases hq : ws[k]? with
      | none => decide
      | some w => exact h w (List.mem_of_getElem? hq)
    have hs : (if k + 1 < ws.length then (if cutB x k then dots else comma) else Str.empty).length ≤ 3 := by
      split
      · split <;> decide
      · decide
    rw [patT, Str.length_append, Str.length_append]
    omega
end

section -- Ell


local macro_rules | `(tactic| walk_at "call builtin:str.split") => `(tactic| (k_dflt (refine' splitK ?kF ?kN ?ky ?kz ?_; (case kF => k_asm); (case kN => k_asm); (case ky => decide); (case kz => omega); k_whole); intro D vs h' k hst F' N' hlt; (have hlen := StrsAre.len_eq hst); (try k_sweep)))
local macro_rules | `(tactic| walk_at "truthy str") => `(tactic| (k_dflt (refine' truthyS ?kz ?_; (case kz => omega); k_whole)))
local macro_rules | `(tactic| walk_at "call builtin:str.find") => `(tactic| (k_dflt (first | (refine' findNone ?ko ?kz ?_; (case ko => assumption); (case kz => omega); k_whole) | (refine' findSome ?ko ?kz ?_; (case ko => assumption); (case kz => omega); k_whole))))
local macro_rules | `(tactic| walk_at "call builtin:len") => `(tactic| ((with_reducible show wpAny _ _ (call (Value.builtin "len") [Value.ref _]) _ _ _); k_dflt (refine' len_list (News.isList ?cN ?cm) ?cf ?_; (case cN => k_asm); (case cm => k_mem); (case cf => (rw [List.size_toArray]; omega)); k_whole)))
local macro_rules | `(tactic| walk_at "subscriptTail Name Constant ref int") => `(tactic| (k_dflt (refine' item0 (News.isList ?cN ?cm) ?cx ?_; (case cN => k_asm); (case cm => k_mem); (case cx => assumption); k_whole)))

local macro_rules | `(tactic| walk_at "delItem ref int") => `(tactic| (k_dflt (refine' delK ?kF ?kN ?ki ?kk ?kz ?_; (case kF => k_asm); (case kN => k_asm); (case ki => decide); (case kk => assumption); (case kz => omega); k_whole); intro h' F' N'; (try k_sweep)))
local macro_rules | `(tactic| walk_at "subscriptTail Name UnaryOp ref int") => `(tactic| (k_dflt (refine' itemLast (News.isList ?cN ?cm) ?cx ?cz ?_; (case cN => k_asm); (case cm => k_mem); (case cx => assumption); (case cz => omega); k_whole)))
set_option maxHeartbeats 4000000 in
theorem ell_c {w : World} {s : Shared} {want got : Str} {t1 t2 : Tok} (G : Gd w s.heap) (hw : want.length ≤ 100000) (hg : got.length ≤ 100000)
    (h2 : (Builtin.Str.occurrences want dots 0 want.length 1).isEmpty = false → 2 ≤ (Txt.split want dots).length) :
    Gives w 1 (.ref 21) [.str want t1, .str got t2] s (fun v _ => v = .bool (em want got)) := by
  unfold Gives P75; obtain ⟨X, mean, mg, mb, T⟩ := id G; revert X; k_fill; intro X A Q E r h
  walk_at "enter"; intro L h₁ F N; dsimp only; generalize s.toks + _ = tk0
  obtain ⟨m, F, e1, e2⟩ : ∃ m, Fr s.heap L h₁ m ∧ m (Str.ofString "want") = some (.str want t1) ∧ m (Str.ofString "got") = some (.str got t2) := ⟨_, F, rfl, rfl⟩
  rename_i F₀; clear F₀
  k_fold
  have hwl : (Txt.split want (Str.ofString "...")).length ≤ 100002 := by have := split_le want (Str.ofString "..."); omega
  have hpl : ∀ x ∈ Txt.split want dots, x.length ≤ 100000 := fun x hx => by have := part_short hx; omega
  refine execsSplit 4 (fun f s' => Hold (∃ h' tk', s' = { s with heap := h', toks := tk' } ∧ ((f = .ret (.bool (want == got)) ∧ s.heap.StaysIn h' ∧ (Builtin.Str.occurrences want dots 0 want.length 1).isEmpty = true) ∨ (f = .next ∧ (Builtin.Str.occurrences want dots 0 want.length 1).isEmpty = false ∧ ∃ m' D vs ta tb, Fr s.heap L h' m' ∧ News s.heap L h' [(D, W.listOf (List.toArray vs) 0)] ∧ StrsAre vs (Txt.split want dots) ∧ m' (Str.ofString "got") = some (.str got t2) ∧ m' (Str.ofString "ws") = some (.ref D) ∧ m' (Str.ofString "startpos") = some (.int 0 ta) ∧ m' (Str.ofString "endpos") = some (.int (got.length : Int) tb))))) ?_ ?_
  · dsimp only [List.take]
    repeat' walk1
    · exact ⟨_, _, rfl, Or.inl ⟨rfl, Fr.keep (by assumption), by assumption⟩⟩
    · rename List.length _ = List.length _ => hlen
      have h3 : 2 ≤ (Txt.split want (Str.ofString "...")).length := h2 (by assumption)
      rw [List.size_toArray]
      exact decide_eq_true (by omega)
    · rename News _ _ _ _ => Nq
      exact ⟨_, _, rfl, Or.inr ⟨rfl, by assumption, _, _, _, _, _, by assumption, fun p hp => Nq p (.tail _ hp), by assumption, by walk_at "look", by walk_at "look", by walk_at "look", by walk_at "look"⟩⟩
  · dsimp only [List.drop]
    rintro f s' ⟨h₂, tk₂, rfl, ⟨rfl, hst, ho⟩ | ⟨rfl, ho, m₂, D, vs, ta, tb, F₂, N₂, hvs, k1, k2, k3, k4⟩⟩
    · exact h _ _ _ hst (congrArg Value.bool (by unfold em; rw [if_pos ho]))
    · dsimp only
      have hem : em want got = emWs got (Txt.split want dots) := by unfold em; rw [ho]; rfl
      have hl2 := h2 ho
      rw [hem] at h
      clear F N e1 e2 hem h2
      generalize Txt.split want dots = ws at *
      obtain ⟨z, hz⟩ : ∃ z, ws[0]? = some z := ⟨ws[0]'(by omega), by simp⟩
      obtain ⟨tz, hvz⟩ := strsGet 0 hvs z hz
      have hzl : z.length ≤ 100000 := hpl z (List.mem_of_getElem? hz)
      have hzd : ws.headD Str.empty = z := by cases ws with | nil => cases hz | cons a b => simpa using hz
      have hlv := StrsAre.len_eq hvs
      have hk0 := seqIndex?_zero (n := vs.length) (by omega)
      refine execsSplit 2 (fun f s' => Hold (∃ h' tk', s' = { s with heap := h', toks := tk' } ∧ ((f = .ret (.bool false) ∧ s.heap.StaysIn h' ∧ emWs got ws = false) ∨ (f = .next ∧ ∃ m' vs' ws' lo ep ta tb, Fr s.heap L h' m' ∧ News s.heap L h' [(D, W.listOf (List.toArray vs') ep)] ∧ StrsAre vs' ws' ∧ m' (Str.ofString "got") = some (.str got t2) ∧ m' (Str.ofString "ws") = some (.ref D) ∧ m' (Str.ofString "startpos") = some (.int ((lo : Nat) : Int) ta) ∧ m' (Str.ofString "endpos") = some (.int (got.length : Int) tb) ∧ ws' ≠ [] ∧ ws'.length ≤ 100002 ∧ (∀ x ∈ ws', x.length ≤ 100000) ∧ lo ≤ 100000 ∧ emWs got ws = emLast got ws' lo)))) ?_ ?_
      · dsimp only [List.take]
        repeat' walk1
        · rename z.length ≠ 0 => hz0
          rename Txt.startswith got z = true => hsw
          refine ⟨_, _, rfl, Or.inr ⟨rfl, _, _, _, z.length, _, _, _, by assumption, by assumption, strsErase 0 hvs, by walk_at "look", by walk_at "look", by walk_at "look", by walk_at "look", ?_, ?_, ?_, hzl, ?_⟩⟩
          · intro h0; have := congrArg List.length h0; rw [List.length_eraseIdx_of_lt (by omega), List.length_nil] at this; omega
          · rw [List.length_eraseIdx_of_lt (by omega)]; omega
          · intro x hx; exact hpl x (List.mem_of_mem_eraseIdx hx)
          · unfold emWs; rw [hzd, if_pos hz0, hsw, List.eraseIdx_zero]; rfl
        · rename z.length ≠ 0 => hz0
          rename Txt.startswith got z = false => hsw
          exact ⟨_, _, rfl, Or.inl ⟨rfl, Fr.keep (by assumption), by unfold emWs; rw [hzd, if_pos hz0, hsw]; rfl⟩⟩
        · rename ¬ z.length ≠ 0 => hz0
          exact ⟨_, _, rfl, Or.inr ⟨rfl, _, _, _, 0, _, _, _, by assumption, by assumption, hvs, by walk_at "look", by walk_at "look", by walk_at "look", by walk_at "look", (by rintro rfl; cases hz), hwl, hpl, by omega, by unfold emWs; rw [hzd, if_neg hz0]⟩⟩
      · dsimp only [List.drop]
        rintro f s' ⟨h₃, tk₃, rfl, ⟨rfl, hst, hf⟩ | ⟨rfl, m₃, vs', ws', lo, ep, ta', tb', F₃, N₃, hvs', j1, j2, j3, j4, hne, hwl', hpl', hlo, hem⟩⟩
        · exact h _ _ _ hst (congrArg Value.bool hf.symm)
        · dsimp only
          rw [hem] at h
          clear F₂ N₂ k1 k2 k3 k4 hvz hk0 hlv hzd hz hvs
          obtain ⟨y, hy⟩ : ∃ y, ws'.getLast? = some y := ⟨ws'.getLast hne, List.getLast?_eq_some_getLast hne⟩
          have hyd : ws'.getLastD Str.empty = y := by rw [List.getLastD_eq_getLast?, hy]; rfl
          have hlv := StrsAre.len_eq hvs'
          have hpos : 0 < vs'.length := by rw [hlv]; exact List.length_pos_iff.mpr hne
          obtain ⟨ty, hvy⟩ := strsGet (ws'.length - 1) hvs' y (by rw [← List.getLast?_eq_getElem?]; exact hy)
          rw [← hlv, ← List.getLast?_eq_getElem?] at hvy
          have hyl : y.length ≤ 100000 := hpl' y (List.mem_of_getLast? hy)
          have hk1 := seqIndex?_neg_one hpos
          refine execsSplit 2 (fun f s' => Hold (∃ h' tk', s' = { s with heap := h', toks := tk' } ∧ ((f = .ret (.bool false) ∧ s.heap.StaysIn h' ∧ emLast got ws' lo = false) ∨ (f = .next ∧ ∃ m' vs' ws'' hi ep ta tb, Fr s.heap L h' m' ∧ News s.heap L h' [(D, W.listOf (List.toArray vs') ep)] ∧ StrsAre vs' ws'' ∧ m' (Str.ofString "got") = some (.str got t2) ∧ m' (Str.ofString "ws") = some (.ref D) ∧ m' (Str.ofString "startpos") = some (.int ((lo : Nat) : Int) ta) ∧ m' (Str.ofString "endpos") = some (.int ((hi : Nat) : Int) tb) ∧ hi ≤ got.length ∧ ws''.length ≤ 100002 ∧ (∀ x ∈ ws'', x.length ≤ 100000) ∧ emLast got ws' lo = (if hi < lo then false else emLoop got hi ws'' lo))))) ?_ ?_
          · dsimp only [List.take]
            repeat' walk1
            · rename y.length ≠ 0 => hy0
              rename Txt.endswith got y = true => hew
              have hle := endswith_le hew
              have hcast : ((got.length : Int) - (y.length : Int)) = ((got.length - y.length : Nat) : Int) := by omega
              refine ⟨_, _, rfl, Or.inr ⟨rfl, _, _, ws'.dropLast, got.length - y.length, _, _, _, by assumption, by assumption, ?_, by walk_at "look", by walk_at "look", by walk_at "look", by rw [← hcast]; walk_at "look", by omega, ?_, ?_, ?_⟩⟩
              · have := strsErase (vs'.length - 1) hvs'
                rw [hlv] at this ⊢
                rw [List.eraseIdx_length_sub_one] at this
                exact this
              · rw [List.length_dropLast]; omega
              · intro x hx; exact hpl' x (List.dropLast_subset _ hx)
              · unfold emLast; rw [hyd, if_pos hy0, hew]; rfl
            · rename y.length ≠ 0 => hy0
              rename Txt.endswith got y = false => hew
              exact ⟨_, _, rfl, Or.inl ⟨rfl, Fr.keep (by assumption), by unfold emLast; rw [hyd, if_pos hy0, hew]; rfl⟩⟩
            · rename ¬ y.length ≠ 0 => hy0
              exact ⟨_, _, rfl, Or.inr ⟨rfl, _, _, ws', got.length, _, _, _, by assumption, by assumption, hvs', by walk_at "look", by walk_at "look", by walk_at "look", by walk_at "look", Nat.le_refl _, hwl', hpl', by unfold emLast; rw [hyd, if_neg hy0]⟩⟩
          · dsimp only [List.drop]
            rintro f s' ⟨h₄, tk₄, rfl, ⟨rfl, hst, hf⟩ | ⟨rfl, m₄, vs₄, ws₄, hi, ep₄, tc, td, F₄, N₄, hvs₄, i1, i2, i3, i4, hhi, hwl₄, hpl₄, hem₄⟩⟩
            · exact h _ _ _ hst (congrArg Value.bool hf.symm)
            · dsimp only
              rw [hem₄] at h
              clear F₃ N₃ j1 j2 j3 j4 hvy hk1 hlv hyd hy hvs'
              repeat' walk1
              · rename (hi : Int) < _ => hlt
                rw [if_pos (by omega)] at h
                exact h _ _ _ (Fr.keep (by assumption)) rfl
              · rename ¬ (hi : Int) < _ => hlt
                rw [if_neg (by omega)] at h
                have hlv₄ := StrsAre.len_eq hvs₄
                refine' forList (vs := vs₄) r.h rfl rfl ?hl ?hF ?hN (fun i m' news' => ∃ lo' tl, news' = [(D, W.listOf (List.toArray vs₄) ep₄)] ∧ m' (Str.ofString "got") = some (.str got t2) ∧ m' (Str.ofString "endpos") = some (.int ((hi : Nat) : Int) td) ∧ m' (Str.ofString "startpos") = some (.int ((lo' : Nat) : Int) tl) ∧ emLoop got hi (ws₄.drop i) lo' = emLoop got hi ws₄ lo) ?h0 ?hst ?turn ?done
                case hl => exact News.isList (by assumption) (List.Mem.head _)
                case hF => assumption
                case hN => assumption
                case h0 => exact ⟨lo, _, rfl, i1, i4, i3, rfl⟩
                case hst =>
                  rintro i m₁ news₁ h' ⟨lo', tl, rfl, _⟩ _ N₁
                  exact News.isList N₁ (List.Mem.head _)
                case turn =>
                  rintro i v m₁ news₁ I o hp₁ tk₁ hlt' hv ⟨lo', tl, rfl, q1, q2, q3, q4⟩ hoff F₁ N₁
                  obtain ⟨x, tx, rfl, hx⟩ := strsItem i v hvs₄ hv
                  have hxl : x.length ≤ 100000 := hpl₄ x (List.mem_of_getElem? hx)
                  have hdr : ws₄.drop i = x :: ws₄.drop (i + 1) := by
                    have hi' : i < ws₄.length := by omega
                    rw [List.drop_eq_getElem_cons hi']
                    rw [List.getElem?_eq_getElem hi'] at hx
                    injection hx with hx
                    rw [hx]
                  rw [hdr] at q4
                  obtain ⟨m₅, F₅, g0, g1, g2, g3⟩ : ∃ m₅, Fr s.heap L hp₁ m₅ ∧ m₅ (Str.ofString "w") = some (.str x tx) ∧ m₅ (Str.ofString "got") = some (.str got t2) ∧ m₅ (Str.ofString "endpos") = some (.int ((hi : Nat) : Int) td) ∧ m₅ (Str.ofString "startpos") = some (.int ((lo' : Nat) : Int) tl) := ⟨_, F₁, by walk_at "look", by walk_at "look", by walk_at "look", by walk_at "look"⟩
                  clear F₁ q1 q2 q3 i1 i2 i3 i4
                  rw [emLoop] at q4
                  rcases hocc : Builtin.Str.occurrences got x lo' hi 1 with _ | ⟨p, rest⟩
                  · rw [hocc] at q4
                    dsimp only at q4
                    repeat' walk1
                    exact h _ _ _ (Fr.keep (by assumption)) (congrArg Value.bool q4)
                  · rw [hocc] at q4
                    dsimp only at q4
                    repeat' walk1
                    exact Turn.next (by assumption) (by assumption) [(D, W.listOf (List.toArray vs₄) ep₄)] (fun p hp => hp) hoff ⟨p + x.length, _, rfl, by walk_at "look", by walk_at "look", by walk_at "look", q4⟩
                case done =>
                  rintro m₁ news₁ hp₁ tk₁ ⟨lo', tl, rfl, q1, q2, q3, q4⟩ F₁ N₁
                  rw [List.drop_eq_nil_of_le (by omega), emLoop] at q4
                  repeat' walk1
                  exact h _ _ _ (Fr.keep (by assumption)) (congrArg Value.bool q4)
end

section
local macro_rules | `(tactic| walk_at "binaryOp Pow int int") => `(tactic| (k_dflt (first | (refine' powK 32 ?kb0 ?kb1 ?kb2 ?_; (case kb0 => exact rfl); (case kb1 => decide); (case kb2 => decide)) | (refine' powK 64 ?kb0 ?kb1 ?kb2 ?_; (case kb0 => exact rfl); (case kb1 => decide); (case kb2 => decide)) | (refine' powK 12 ?kb0 ?kb1 ?kb2 ?_; (case kb0 => exact rfl); (case kb1 => decide); (case kb2 => decide)) | (refine' powK 16 ?kb0 ?kb1 ?kb2 ?_; (case kb0 => exact rfl); (case kb1 => decide); (case kb2 => decide)) | (refine' powK 9 ?kb0 ?kb1 ?kb2 ?_; (case kb0 => exact rfl); (case kb1 => decide); (case kb2 => decide)) | (refine' powK 20 ?kb0 ?kb1 ?kb2 ?_; (case kb0 => exact rfl); (case kb1 => decide); (case kb2 => decide)) | (refine' powK _ ?kb0 ?kb1 ?kb2 ?_; (case kb0 => exact rfl); (case kb1 => omega); (case kb2 => decide)))))
local macro_rules | `(tactic| walk_at "binaryOp FloorDiv int int") => `(tactic| (k_dflt (refine' fdivK ?kb0 ?_; (case kb0 => first | exact pow2_ok (by omega) | decide); k_whole)))
local macro_rules | `(tactic| walk_at "binaryOp Mod int int") => `(tactic| (k_dflt (refine' fmodK ?kb0 ?_; (case kb0 => first | exact pow2_ok (by omega) | decide); k_whole)))
local macro_rules | `(tactic| walk_at "binaryOp Mult int int") => `(tactic| (k_dflt (refine' mul_int ?_ ?kb0; (case kb0 => first | exact IntMulOk.of_right (bits_pow (by decide)) | exact IntMulOk.of_left (intBits_le_64 (by omega) (by omega))); k_whole)))

section -- Worked



set_option maxHeartbeats 4000000 in
theorem worked_c {w : World} {s : Shared} {n : Int} {place far : Nat} {t1 t2 t3 : Tok} (G : Gd w s.heap) (hn1 : -(2 ^ 50) < n) (hn2 : n < 2 ^ 50) (hp : place < 48) (hf : far < 3) :
    Gives w 1 (.ref 36) [.int n t1, .int (place : Int) t2, .int (far : Int) t3] s (fun v _ => ∃ t, v = .int (worked n place far) t) := by
  unfold Gives P75; obtain ⟨X, mean, mg, mb, T⟩ := id G; revert X; k_fill; intro X A Q E r h
  walk_at "enter"; intro L h₁ F N; dsimp only; generalize s.toks + _ = tk0
  obtain ⟨m, F, e1, e2, e3⟩ : ∃ m, Fr s.heap L h₁ m ∧ m (Str.ofString "number") = some (.int n t1) ∧ m (Str.ofString "place") = some (.int (place : Int) t2) ∧ m (Str.ofString "far") = some (.int (far : Int) t3) := ⟨_, F, rfl, rfl, rfl⟩
  rename_i F₀; clear F₀
  k_fold
  repeat' walk1
  all_goals refine h _ _ _ (Fr.keep (by assumption)) ⟨_, congrArg (Value.int · _) ?_⟩
  · unfold worked; rw [if_pos (by omega)]
  · unfold worked; rw [if_neg (by omega), if_pos (by assumption)]
  · unfold worked; rw [if_neg (by omega), if_neg (by assumption)]
end

section -- Worths


local macro_rules | `(tactic| walk_at "enterC") => `(tactic| k_dflt (refine' callFnC ?kX (Top.nolimit (by assumption)) ?k1 ?k2 ?k3 ?k4 ?k5 ?k6 ?_ ?c1 ?c2 ?c3; (case kX => assumption); (case k1 => k_is); (case k2 => k_is); (case k3 => exact Rm.room (by assumption)); (case k4 => exact BindsTo.of_eq rfl); (case k5 => exact rfl); (case k6 => decide +kernel); (case c1 => exact rfl); (case c2 => exact rfl); (case c3 => exact rfl); k_whole))

local macro_rules | `(tactic| walk_at "eval Name") => `(tactic| (k_dflt (refine' wpAny_Name (wpAny_loadName_local ?ka ?kb ?kc ?kd ?_) ?ke; (case ka => exact rfl); (case kb => exact rfl); (case kc => first | assumption | exact Fr.ns (by assumption)); (case kd => walk_at "look"); (case ke => decide); k_whole)))
local macro_rules | `(tactic| walk_at "eval Name") => `(tactic| (k_dflt (refine' wpAny_Name (wpAny_loadName_cell ?ka ?kb ?kc ⟨_, ?kd, ?ke⟩ ?_) ?kf; (case ka => exact rfl); (case kb => exact rfl); (case kc => exact rfl); (case kd => first | assumption | exact News.get (by assumption) (by k_mem)); (case ke => assumption); (case kf => decide); k_whole)))

theorem intsFrom {n : Int} : ∀ (vs : List Value) (k : Nat), (∀ j v, vs[j]? = some v → ∃ t, v = Value.int (0 + ((k + j : Nat) : Int) * 1) t) →
    IntsAre (vs.filter (fun v => match v with | .int i _ => bit n i.toNat | _ => false)) (((List.range' k vs.length).filter (bit n)).map fun p : Nat => (p : Int))
  | [], _, _ => .nil
  | v :: vs, k, h => by
    obtain ⟨t, hv⟩ := h 0 v (by simp)
    have ih := intsFrom (n := n) vs (k + 1) fun j u hj => by
      obtain ⟨t, e⟩ := h (j + 1) u (by simpa using hj)
      exact ⟨t, by rw [e]; congr 3; omega⟩
    have hk : (0 + ((k + 0 : Nat) : Int) * 1) = (k : Int) := by omega
    rw [hk] at hv
    subst hv
    rw [List.length_cons, List.range'_succ, List.filter_cons, List.filter_cons]
    simp only [Int.toNat_natCast]
    by_cases hb : bit n k = true
    · rw [if_pos hb, if_pos hb]; exact .cons _ _ ih
    · rw [if_neg hb, if_neg hb]; exact ih
theorem intsPow : ∀ {xs ys : List Value} {ns : List Nat}, Paired (fun v y => ∃ i t t', v = .int i t ∧ y = .int (2 ^ i.toNat) t') xs ys → IntsAre xs (ns.map fun p : Nat => (p : Int)) → IntsAre ys (ns.map fun p : Nat => (2 : Int) ^ p)
  | _, _, [], .nil, _ => .nil
  | _, _, [], .cons _ _, h => by cases h
  | _, _, _ :: _, .nil, h => by cases h
  | _, _, k :: ns, .cons hF r, h => by
    rw [List.map_cons] at h
    obtain ⟨t, vs', e, h'⟩ := IntsAre.cons_inv h
    obtain ⟨i, t1, t2, e1, e2⟩ := hF
    injection e with e3 e4
    subst e4
    rw [e3] at e1
    injection e1 with e5 _
    subst e5
    rw [e2, Int.toNat_natCast]
    exact .cons _ _ (intsPow r h')

set_option maxHeartbeats 4000000 in
theorem worths_c {w : World} {s : Shared} {n : Int} {t1 : Tok} (G : Gd w s.heap) (hn1 : -(2 ^ 50) < n) (hn2 : n < 2 ^ 50) :
    Gives w 1 (.ref 41) [.int n t1] s (fun v h' => ∃ a vs, v = .ref a ∧ s.heap.get? a = none ∧ h'.IsList a vs.toArray ∧ IntsAre vs (worthsL n)) := by
  unfold Gives P75; obtain ⟨X, mean, mg, mb, T⟩ := id G; revert X; k_fill; intro X A Q E r h
  walk_at "enterC"; intro L h₁ tk0 cells F N Y
  k_fold
  obtain ⟨o, rfl, ho⟩ := CellsAre.one Y
  replace ho : o.data = .cell (some (.int n t1)) := ho
  obtain ⟨m, F, e1⟩ : ∃ m, Fr s.heap L h₁ m ∧ True := ⟨_, F, trivial⟩
  rename_i F₀; clear F₀ Y
  refine wpAny_execs_cons ?_
  refine wpAny_Assign_ListComp_free (cl := [(Str.ofString "number", L + 1)]) (fun v => match v with | .int i _ => bit n i.toNat | _ => false) (fun v y => ∃ i t t', v = .int i t ∧ y = .int (2 ^ i.toNat) t') ?hsw ?hclos ?hcell ?hkind ?hnames ?hx ?hy ?hp ?h
  case hsw => with_unfolding_all rfl
  case hclos => with_unfolding_all rfl
  case hcell => decide
  case hkind => rfl
  case hnames => decide
  case hx => decide
  case hy => rfl
  case hp => rfl
  repeat' walk1
  rename IsRange _ _ _ _ _ _ _ _ => hr
  rename Fr _ _ _ _ => Fq
  rename News _ _ _ _ => Nq
  refine wpAny_pyIter_range hr (by decide +kernel) ?_
  dsimp only
  rename_i hq tq _ _ _ _
  have hIL : hq.objs.size ≠ L := Nat.ne_of_gt Fq.ns.lt
  have hI0 : s.heap.get? hq.objs.size = none := next_is_new Fq
  refine ⟨hq.objs.size, [hq.objs.size], [hq.objs.size], 32, _, _, m, rfl, (Walks.range (show (A.deeper _).handled = none from r.h) hq.objs.size 0 1 32).bound, by decide, ?_, ?_, ?_, ?_, ⟨?_, ?_⟩, ?_⟩
  · show IsRangeIter _ _ _ _ _
    have := Heap.get?_push_size (h := hq) (o := ({ cls := Value.type "range_iterator", data := Data.fields #[rawInt 0, rawInt (Builtin.Range.rangeSize 0 32 1), rawInt 1] } : Obj)) rfl
    exact this
  · intro b hb; rw [List.mem_singleton.mp hb, Heap.size_push]; exact Nat.lt_succ_self _
  · intro hb; exact hIL (List.mem_singleton.mp hb).symm
  · exact (Fq.push _).ns
  · rintro C i v s₃ m₃ E' hC ⟨hi, t, rfl⟩ hns hm hk htk
    have hcell : s₃.heap.get? (L + 1) = some o := hk _ _ (fun hb => by
      have := Heap.lt_size (Nq _ (.head _)).1
      rw [List.mem_singleton.mp hb] at this
      exact Nat.lt_irrefl _ this) (Heap.get?_push_of_some _ (Nq _ (.head _)).1)
    refine wpAny_tests_one ?_
    have hj : (0 + (i : Int) * 1) = ((i : Nat) : Int) := by omega
    rw [hj] at hm ⊢
    repeat' walk1
    exact ⟨_, _, rfl, fun _ _ e => e⟩
  · rintro C i v s₃ m₃ E' hC ⟨hi, t, rfl⟩ hpv hns hm hk htk
    have hj : (0 + (i : Int) * 1) = ((i : Nat) : Int) := by omega
    rw [hj] at hm ⊢
    repeat' walk1
    exact ⟨_, _, rfl, fun _ _ e => e⟩
  · rintro D h₂ tk₂ ys vs hD hl hpl hlen hP hF hns hk
    have hint : IntsAre ys.toList ((bits n).map fun p : Nat => (2 : Int) ^ p) := by
      refine intsPow hF ?_
      have := intsFrom (n := n) vs 0 (fun j v e => by obtain ⟨_, t, ht⟩ := hP j v e; exact ⟨t, by rw [Nat.zero_add]; exact ht⟩)
      rw [hlen, ← List.range_eq_range'] at this
      exact this
    have hlenb : (bits n).length ≤ 32 := by
      have := List.length_filter_le (bit n) (List.range 32)
      rwa [List.length_range] at this
    have hDL : D ≠ L := by
      rintro rfl
      obtain ⟨oL, _, _, hoL, _⟩ := (Fq.push _).ns
      rw [hD] at hoL; cases hoL
    have hD0 : s.heap.get? D = none := by
      cases q : s.heap.get? D with
      | none => rfl
      | some o' => rw [Heap.get?_push_of_some _ (Fq.keep _ _ q)] at hD; cases hD
    have F₂ : Fr s.heap L h₂ _ := ⟨hns, fun b o' e => hk b o' (Nat.ne_of_lt (Nat.lt_of_lt_of_le (Heap.lt_size e) Fq.above)) (fun hb => by rw [List.mem_singleton.mp hb, hI0] at e; cases e) (Heap.get?_push_of_some _ (Fq.keep _ _ e)), Fq.above⟩
    obtain ⟨epD, hoD⟩ := hpl
    have N₂ : News s.heap L h₂ [(D, { cls := .type "list", data := .seq ys epD }), (L + 1, o)] := by
      intro p hp
      rcases List.mem_cons.mp hp with rfl | hp
      · exact ⟨hoD, hDL, hD0⟩
      · have hc := Nq p hp
        refine ⟨hk _ _ hc.2.1 (fun hb => ?_) (Heap.get?_push_of_some _ hc.1), hc.2⟩
        exact absurd (Heap.lt_size hc.1) (by rw [List.mem_singleton.mp hb]; exact Nat.lt_irrefl _)
    clear hP hF hns hk hD hlen Nq Fq hr
    obtain ⟨m₂, F₃, g1⟩ : ∃ m₂, Fr s.heap L h₂ m₂ ∧ m₂ (Str.ofString "worths") = some (.ref D) := ⟨_, F₂, by walk_at "look"⟩
    clear F₂
    repeat' walk1
    · rename IntsAre _ (_ ++ _) => hI
      refine h _ _ _ (Fr.keep (by assumption)) ⟨_, _, rfl, News.fresh (by assumption) (List.Mem.head _), ⟨_, News.get (by assumption) (List.Mem.head _), rfl, _, rfl⟩, ?_⟩
      unfold worthsL; rw [if_pos (Or.inl (by assumption))]; exact hI
    · rename IntsAre _ (_ ++ _) => hI
      refine h _ _ _ (Fr.keep (by assumption)) ⟨_, _, rfl, News.fresh (by assumption) (List.Mem.head _), ⟨_, News.get (by assumption) (List.Mem.head _), rfl, _, rfl⟩, ?_⟩
      unfold worthsL; rw [if_pos (Or.inr (by assumption))]; exact hI
    · refine h _ _ _ (Fr.keep (by assumption)) ⟨_, ys.toList, rfl, News.fresh (by assumption) (List.Mem.head _), ⟨_, News.get (by assumption) (List.Mem.head _), rfl, _, rfl⟩, ?_⟩
      unfold worthsL; rw [if_neg (by rintro (h1 | h1) <;> contradiction), List.append_nil]; exact hint
end

section -- Pretty


local macro_rules | `(tactic| walk_at "binaryOp LShift int int") => `(tactic| (k_dflt (refine' shlK _ ?kb1 ?_; (case kb1 => omega); k_whole)))
local macro_rules | `(tactic| walk_at "binaryOp BitAnd int int") => `(tactic| (k_dflt (refine' andK ?_; k_whole)))

local macro_rules | `(tactic| walk_at "call builtin:hex") => `(tactic| (k_dflt (refine' hexK ?kb1 ?kb2 ?_; (case kb1 => omega); (case kb2 => omega); k_whole)))
local macro_rules | `(tactic| walk_at "call builtin:dict.get") => `(tactic| (k_dflt (refine' flag_get (Gd.keeps ?kG (Fr.keep ?kF)) ?_; (case kG => assumption); (case kF => k_asm); k_whole); intro t9))
local macro_rules | `(tactic| walk_at "call builtin:list.append") => `(tactic| (k_dflt (refine' appendK ?kF ?kN ?kU ?kz ?_; (case kF => k_asm); (case kN => k_asm); (case kU => k_upd); (case kz => (rw [sizeLine_eq]; omega)); k_whole); intro h' F' N'; (try k_sweep)))
def lowOf (n : Int) (i : Nat) : Int := n / 2 ^ i * 2 ^ i
theorem pow2_succ (i : Nat) : (2 : Int) ^ (i + 1) = 2 ^ i * 2 := Int.pow_succ 2 i
theorem div_succ (n : Int) (i : Nat) : n / 2 ^ (i + 1) = n / 2 ^ i / 2 := by
  rw [pow2_succ, Int.ediv_ediv_of_nonneg (Int.le_of_lt (pow2_pos i))]
theorem low_bit (n : Int) (i : Nat) : lowOf n i / 2 ^ i % 2 = n / 2 ^ i % 2 := by
  unfold lowOf
  rw [Int.mul_ediv_cancel _ (Int.ne_of_gt (pow2_pos i))]
theorem low_succ (n : Int) (i : Nat) : lowOf n (i + 1) = lowOf n i - n / 2 ^ i % 2 * 2 ^ i := by
  unfold lowOf
  rw [div_succ, pow2_succ]
  generalize (2 : Int) ^ i = p
  generalize n / p = q
  have h : q / 2 * 2 = q - q % 2 := by omega
  rw [Int.mul_comm p 2, ← Int.mul_assoc, h, Int.sub_mul]
theorem bit_true {n : Int} {i : Nat} (h : lowOf n i / 2 ^ i % 2 * 2 ^ i ≠ 0) : bit n i = true ∧ lowOf n i / 2 ^ i % 2 = 1 := by
  rw [low_bit] at h ⊢
  have h1 : n / 2 ^ i % 2 = 1 := by
    rcases Int.emod_two_eq (n / 2 ^ i) with e | e
    · rw [e, Int.zero_mul] at h; exact absurd rfl h
    · exact e
  exact ⟨by unfold bit; rw [h1]; rfl, h1⟩
theorem bit_false {n : Int} {i : Nat} (h : lowOf n i / 2 ^ i % 2 * 2 ^ i = 0) : bit n i = false ∧ n / 2 ^ i % 2 = 0 := by
  rw [low_bit] at h
  have h1 : n / 2 ^ i % 2 = 0 := by
    rcases Int.mul_eq_zero.mp h with e | e
    · exact e
    · exact absurd e (Int.ne_of_gt (pow2_pos i))
  exact ⟨by unfold bit; rw [h1]; rfl, h1⟩
def namesTo (n : Int) (i : Nat) : List Str := ((List.range i).filter (bit n)).map flagName
theorem namesTo_yes {n : Int} {i : Nat} (h : bit n i = true) : namesTo n (i + 1) = namesTo n i ++ [flagName i] := by
  unfold namesTo; rw [List.range_succ, List.filter_append, List.map_append]; simp [h]
theorem namesTo_no {n : Int} {i : Nat} (h : bit n i = false) : namesTo n (i + 1) = namesTo n i := by
  unfold namesTo; rw [List.range_succ, List.filter_append, List.map_append]; simp [h]

theorem xor_low {n : Int} {i : Nat} (h : lowOf n i / 2 ^ i % 2 = 1) : Builtin.bitXor (lowOf n i) (2 ^ i) = lowOf n (i + 1) := by
  rw [bitXor_and, kbt_bit, h, low_succ, ← low_bit, h]; omega
theorem bit_above {n : Int} {i p : Nat} (hz : n / 2 ^ i = 0) (hp : i ≤ p) : bit n p = false := by
  have e : n / 2 ^ p = 0 := by
    obtain ⟨k, rfl⟩ := Nat.exists_eq_add_of_le hp
    rw [Int.pow_add, ← Int.ediv_ediv_of_nonneg (Int.le_of_lt (pow2_pos i)), hz, Int.zero_ediv]
  unfold bit; rw [e]; rfl
theorem low_zero {n : Int} {i : Nat} (hz : lowOf n i = 0) : n / 2 ^ i = 0 := by
  unfold lowOf at hz
  rcases Int.mul_eq_zero.mp hz with e | e
  · exact e
  · exact absurd e (Int.ne_of_gt (pow2_pos i))
theorem bits_cut {n : Int} {i : Nat} (hz : n / 2 ^ i = 0) : ∀ k, (List.range (i + k)).filter (bit n) = (List.range i).filter (bit n)
  | 0 => rfl
  | k + 1 => by
    rw [← Nat.add_assoc, List.range_succ, List.filter_append, bits_cut hz k]
    simp [bit_above hz (Nat.le_add_right i k)]
theorem words_brk {n : Int} {i : Nat} (hi : i < 32) (hb : bit n i = true) (hz : lowOf n (i + 1) = 0) : wordsL n = namesTo n (i + 1) := by
  have hz' := low_zero hz
  have hr : restOf n = 0 := by
    have h1 := bit_above hz' (p := 32) hi
    have h2 : n / 2 ^ 32 = 0 := by
      obtain ⟨k, hk⟩ := Nat.exists_eq_add_of_le (Nat.succ_le_of_lt hi)
      rw [hk, Int.pow_add, ← Int.ediv_ediv_of_nonneg (Int.le_of_lt (pow2_pos _)), hz', Int.zero_ediv]
    unfold restOf; rw [h2]; rfl
  have hn : n ≠ 0 := by
    rintro rfl
    unfold bit at hb; rw [Int.zero_ediv] at hb; cases hb
  unfold wordsL
  rw [if_neg (by rintro (h | h); exact h hr; exact hn h), List.append_nil]
  unfold bits namesTo
  obtain ⟨k, hk⟩ := Nat.exists_eq_add_of_le (Nat.succ_le_of_lt hi)
  rw [hk, bits_cut hz' k]
theorem words_end {n : Int} (h : lowOf n 32 ≠ 0 ∨ n = 0) : wordsL n = namesTo n 32 ++ [hexS (lowOf n 32)] := by
  have h' : restOf n ≠ 0 ∨ n = 0 := h
  unfold wordsL
  rw [if_pos h']; rfl
theorem flagName_len : ∀ {p : Nat}, p < 32 → (flagName p).length ≤ 19
  | 0, _ => by decide
  | 1, _ => by decide
  | 2, _ => by decide
  | 3, _ => by decide
  | 4, _ => by decide
  | 5, _ => by decide
  | 6, _ => by decide
  | 7, _ => by decide
  | 8, _ => by decide
  | 9, _ => by decide
  | p + 10, hp => by
    have hp1 : (0 : Int) < 2 ^ (p + 10) := pow2_pos _
    have hp2 : (2 : Int) ^ (p + 10) ≤ 2 ^ 32 := by exact_mod_cast Nat.pow_le_pow_right (n := 2) (by decide) (Nat.le_of_lt hp)
    exact hexS_len (i := 2 ^ (p + 10)) (by omega) (by omega)
theorem wordsL_len {n : Int} (hn1 : -(2 ^ 50) < n) (hn2 : n < 2 ^ 50) : (∀ x ∈ wordsL n, x.length ≤ 19) ∧ (wordsL n).length ≤ 33 := by
  have hl : ((bits n).map flagName).length ≤ 32 := by
    rw [List.length_map]
    have := List.length_filter_le (bit n) (List.range 32)
    rwa [List.length_range] at this
  have h1 : ∀ x ∈ (bits n).map flagName, x.length ≤ 19 := by
    intro x hx
    obtain ⟨p, hp, rfl⟩ := List.mem_map.mp hx
    exact flagName_len (List.mem_range.mp (List.mem_filter.mp hp).1)
  unfold wordsL
  split
  · refine ⟨fun x hx => ?_, by rw [List.length_append]; exact Nat.add_le_add_right hl 1⟩
    rcases List.mem_append.mp hx with hx | hx
    · exact h1 x hx
    · rw [List.mem_singleton.mp hx]
      exact hexS_len (by unfold restOf; omega) (by unfold restOf; omega)
  · rw [List.append_nil]; exact ⟨h1, Nat.le_succ_of_le hl⟩
theorem sum_le : ∀ {l : List Str}, (∀ x ∈ l, x.length ≤ 19) → (l.map (·.length)).sum ≤ 19 * l.length
  | [], _ => Nat.le_refl _
  | x :: l, h => by
    have h1 := h x (.head _)
    have h2 := sum_le (l := l) fun y hy => h y (.tail _ hy)
    rw [List.map_cons, List.sum_cons, List.length_cons]; omega
theorem words_fit {n : Int} (hn1 : -(2 ^ 50) < n) (hn2 : n < 2 ^ 50) : ((wordsL n).map (·.length)).sum + (wordsL n).length * 64 ≤ 16777216 := by
  have h := wordsL_len hn1 hn2
  have h1 := sum_le h.1
  have h2 := h.2
  omega

set_option maxHeartbeats 4000000 in
theorem pretty_c {w : World} {s : Shared} {n : Int} {t1 : Tok} (G : Gd w s.heap) (hn1 : -(2 ^ 50) < n) (hn2 : n < 2 ^ 50) :
    Gives w 1 (.ref 29) [.int n t1] s (fun v _ => ∃ t, v = .str (pretty n) t) := by
  unfold Gives P75; obtain ⟨X, mean, mg, mb, T⟩ := id G; revert X; k_fill; intro X A Q E r h
  walk_at "enter"; intro L h₁ F N; dsimp only; generalize s.toks + _ = tk0
  obtain ⟨m, F, e1⟩ : ∃ m, Fr s.heap L h₁ m ∧ m (Str.ofString "flags") = some (.int n t1) := ⟨_, F, rfl⟩
  rename_i F₀; clear F₀
  k_fold
  refine execsSplit 1 (fun f s' => Hold (∃ h' tk' m' D, f = .next ∧ s' = { s with heap := h', toks := tk' } ∧ Fr s.heap L h' m' ∧ News s.heap L h' [(D, W.listOf (List.toArray []) 0)] ∧ m' (Str.ofString "names") = some (.ref D) ∧ m' (Str.ofString "flags") = some (.int n t1))) ?_ ?_
  · dsimp only [List.take]
    repeat' walk1
    exact ⟨_, _, _, _, rfl, rfl, by assumption, by assumption, by walk_at "look", by walk_at "look"⟩
  · dsimp only [List.drop]
    rintro f s' ⟨h₂, tk₂, m₂, D, rfl, rfl, F₂, N₂, f1, f2⟩
    dsimp only
    clear F N e1
    repeat' walk1
    refine' forRange (n := 32) r.h rfl rfl ?hr ?hn ?hF ?hN (fun i m' news' => ∃ ys ep tf, news' = [(D, W.listOf (List.toArray ys) ep)] ∧ StrsAre ys (namesTo n i) ∧ m' (Str.ofString "names") = some (.ref D) ∧ m' (Str.ofString "flags") = some (.int (lowOf n i) tf) ∧ (lowOf n i ≠ 0 ∨ n = 0)) ?h0 ?turn ?done
    case hr => assumption
    case hn => decide
    case hF => assumption
    case hN => assumption
    case h0 =>
      have h0 : lowOf n 0 = n := by unfold lowOf; simp
      exact ⟨[], 0, t1, rfl, .nil, f1, by rw [h0]; exact f2, by rw [h0]; omega⟩
    case turn =>
      rintro i tk₀ m₁ news₁ I o hp₁ tk₁ hlt ⟨ys, ep, tf, rfl, hys, k1, k2, k3⟩ hoff F₁ N₁
      have hDI : @Ne Nat D I := hoff _ (.head _)
      obtain ⟨m₃, F₃, g0, g1, g2⟩ : ∃ m₃, Fr s.heap L hp₁ m₃ ∧ m₃ (Str.ofString "i") = some (.int (i : Int) tk₀) ∧ m₃ (Str.ofString "names") = some (.ref D) ∧ m₃ (Str.ofString "flags") = some (.int (lowOf n i) tf) := ⟨_, F₁, by walk_at "look", by walk_at "look", by walk_at "look"⟩
      clear F₁ k1 k2 f1 f2
      have hp1 : (0 : Int) < 2 ^ i := pow2_pos i
      have hp2 : (2 : Int) ^ i ≤ 2 ^ 32 := by exact_mod_cast Nat.pow_le_pow_right (n := 2) (by decide) (Nat.le_of_lt hlt)
      have hleny : ys.length ≤ 32 := by
        rw [hys.length]; unfold namesTo; rw [List.length_map]
        have := List.length_filter_le (bit n) (List.range i)
        rw [List.length_range] at this; omega
      repeat' walk1
      · rename lowOf _ _ / _ % _ * _ ≠ 0 => hbit
        rename Builtin.bitXor _ _ ≠ 0 => hx0
        have hb := bit_true hbit
        have hx := xor_low hb.2
        refine Turn.next (by assumption) (by assumption) [(D, W.listOf (List.toArray (ys ++ [_])) (ep + 1))] (fun p hp => hp) (fun p hp => by rw [List.mem_singleton.mp hp]; exact hDI) ⟨_, _, _, rfl, ?_, by walk_at "look", by rw [← hx]; walk_at "look", Or.inl (by rw [← hx]; exact hx0)⟩
        rw [namesTo_yes hb.1]; exact strsSnoc hys
      · rename lowOf _ _ / _ % _ * _ ≠ 0 => hbit
        rename Builtin.bitXor _ _ = 0 => hx0
        have hb := bit_true hbit
        rw [xor_low hb.2] at hx0
        have hw := words_brk hlt hb.1 hx0
        have hst : ∀ t9, StrsAre (ys ++ [.str (flagName i) t9]) (wordsL n) := fun t9 => by rw [hw, namesTo_yes hb.1]; exact strsSnoc hys
        refine Turn.brk ?_
        dsimp only
        repeat' walk1
        refine join_listC ⟨_, News.get (by assumption) (by k_mem), rfl, _, rfl⟩ (by simpa using hst _) (by decide) (words_fit hn1 hn2) ?_
        intro t9 k9
        rw [show Txt.join (Str.ofString ", ") (wordsL n) = pretty n from PySem.StrLaws.glued_eq_join _ _]
        exact h _ _ _ (Fr.keep (by assumption)) ⟨_, rfl⟩
      · rename lowOf _ _ / _ % _ * _ = 0 => hbit
        have hb := bit_false hbit
        have hl : lowOf n (i + 1) = lowOf n i := by rw [low_succ, hb.2]; omega
        exact Turn.next (by assumption) (by assumption) [(D, W.listOf (List.toArray ys) ep)] (fun p hp => hp) (fun p hp => by rw [List.mem_singleton.mp hp]; exact hDI) ⟨_, _, _, rfl, by rw [namesTo_no hb.1]; exact hys, by walk_at "look", by rw [hl]; walk_at "look", by rw [hl]; exact k3⟩
    case done =>
      rintro m₁ news₁ hp₁ tk₁ ⟨ys, ep, tf, rfl, hys, k1, k2, k3⟩ F₁ N₁
      have hleny : ys.length ≤ 32 := by
        rw [hys.length]; unfold namesTo; rw [List.length_map]
        have := List.length_filter_le (bit n) (List.range 32)
        rw [List.length_range] at this; exact this
      have hb1 : -(2 ^ 60) < lowOf n 32 ∧ lowOf n 32 < 2 ^ 60 := by unfold lowOf; omega
      have hb2 := hb1.1
      have hb3 := hb1.2
      have hw := words_end k3
      repeat' walk1
      have hst : ∀ t9, StrsAre (ys ++ [.str (hexS (lowOf n 32)) t9]) (wordsL n) := fun t9 => by rw [hw]; exact strsSnoc hys
      refine join_listC ⟨_, News.get (by assumption) (by k_mem), rfl, _, rfl⟩ (by simpa using hst _) (by decide) (words_fit hn1 hn2) ?_
      intro t9 k9
      rw [show Txt.join (Str.ofString ", ") (wordsL n) = pretty n from PySem.StrLaws.glued_eq_join _ _]
      exact h _ _ _ (Fr.keep (by assumption)) ⟨_, rfl⟩
end

section -- Agrees


local macro_rules | `(tactic| walk_at "call builtin:str.split") => `(tactic| (k_dflt (refine' splitK ?kF ?kN ?ky ?kz ?_; (case kF => k_asm); (case kN => k_asm); (case ky => decide); (case kz => omega); k_whole); intro D vs h' k hst F' N' hlt; (have hlen := StrsAre.len_eq hst); (try k_sweep)))
local macro_rules | `(tactic| walk_at "call builtin:len") => `(tactic| ((with_reducible show wpAny _ _ (call (Value.builtin "len") [Value.ref _]) _ _ _); k_dflt (first | (refine' len_at (News.isList ?cN ?cm) ?cl ?cf ?_; (case cN => k_asm); (case cm => k_mem); (case cl => assumption); (case cf => omega); k_whole) | (refine' len_at (stays_list (Fr.keep (by assumption)) ?cl) ?cn ?cf ?_; (case cl => assumption); (case cn => assumption); (case cf => omega); k_whole))))

local macro_rules | `(tactic| walk_at "subscriptTail Name Name ref int") => `(tactic| (k_dflt (first | (refine' item_litK (News.isList ?cN ?cm) ?c0 ?c1 ?cx ?_; (case cN => k_asm); (case cm => k_mem); (case c0 => omega); (case c1 => omega); (case cx => assumption); k_whole) | (refine' item_litK (stays_list (Fr.keep (by assumption)) ?cl) ?c0 ?c1 ?cx ?_; (case cl => assumption); (case c0 => omega); (case c1 => omega); (case cx => assumption); k_whole))))
local macro_rules | `(tactic| walk_at "subscriptTail Name UnaryOp ref int") => `(tactic| (k_dflt (refine' itemLast (News.isList ?cN ?cm) ?cx ?cz ?_; (case cN => k_asm); (case cm => k_mem); (case cx => assumption); (case cz => assumption); k_whole)))
theorem iaddS {prog : Program} {w : World} {A : Around} {E : Value → Shared → Prop} {s : Shared} {x y : Str} {t u : Tok} {n : Nat} {Q : Value → Shared → Prop} (h1 : x.length + y.length ≤ n) (h2 : n ≤ 100000) (h : ∀ t' tk, (x ++ y).length ≤ n → Q (.str (x ++ y) t') { s with toks := tk }) :
    wpAny (model prog w) A (inplaceOp .Add (.str x t) (.str y u)) Q E s :=
  PyProof.Rows.iadd_str (fun t' tk => h t' tk (by rw [Str.length_append]; exact h1)) (by rw [sizeLine_eq]; omega)
theorem dots_len : (Str.ofString "...").length = 3 := by decide
theorem comma_len : (Str.ofString ", ").length = 2 := by decide
local macro_rules | `(tactic| walk_at "inplaceOp Add str str") => `(tactic| (k_dflt (refine' iaddS (Nat.le_refl _) ?k2 ?_; (case k2 => omega); k_whole); intro t9 k9 l9))
local macro_rules | `(tactic| walk_at "call builtin:list.append") => `(tactic| (k_dflt (refine' appendK ?kF ?kN ?kU ?kz ?_; (case kF => k_asm); (case kN => k_asm); (case kU => first | exact Upd.tail (by k_ne) (Upd.tail (by k_ne) (Upd.tail (by k_ne) (Upd.head (by assumption)))) | exact Upd.tail (by k_ne) (Upd.tail (by k_ne) (Upd.head (by assumption)))); (case kz => (rw [sizeLine_eq]; (try simp only [List.length_map, List.length_append, List.length_cons, List.length_nil]); omega)); k_whole); intro h' F' N'; (try k_sweep)))
def OldRuns (old : List (Addr × Obj)) (as0 : List Addr) (r0 : List (List Int)) : Prop :=
  as0.length = r0.length ∧ ∀ j a, as0[j]? = some a → ∃ vs ep, (a, W.listOf (List.toArray vs) ep) ∈ old ∧ IntsAre vs (r0.getD j [])
theorem OldRuns.nil : OldRuns [] [] [] := ⟨rfl, fun j a h => by cases j <;> cases h⟩
theorem OldRuns.snoc {old : List (Addr × Obj)} {as0 : List Addr} {r0 : List (List Int)} {c : Addr} {vs : List Value} {ep : Nat} {rr : List Int} (O : OldRuns old as0 r0) (hi : IntsAre vs rr) :
    OldRuns ((c, W.listOf vs.toArray ep) :: old) (as0 ++ [c]) (r0 ++ [rr]) := by
  refine ⟨by simp [O.1], fun j a h => ?_⟩
  by_cases hj : j < as0.length
  · rw [List.getElem?_append_left hj] at h
    obtain ⟨vs', ep', h1, h2⟩ := O.2 j a h
    refine ⟨vs', ep', .tail _ h1, ?_⟩
    rw [List.getD_eq_getElem?_getD, List.getElem?_append_left (by rw [← O.1]; exact hj), ← List.getD_eq_getElem?_getD]
    exact h2
  · have hj' : j = as0.length := by
      have := (List.getElem?_eq_some_iff.mp h).1
      simp at this
      omega
    subst hj'
    simp at h
    subst h
    refine ⟨vs, ep, .head _, ?_⟩
    rw [O.1, List.getD_eq_getElem?_getD, List.getElem?_append_right (Nat.le_refl _)]
    simpa using hi
theorem OldRuns.at {h₀ h : Heap} {L : Addr} {old news : List (Addr × Obj)} {as : List Addr} {r : List (List Int)} (O : OldRuns old as r) (N : News h₀ L h news) (hs : ∀ p ∈ old, p ∈ news) : RunsAt h as r :=
  ⟨O.1, fun i a e => let ⟨vs, ep, h1, h2⟩ := O.2 i a e; ⟨vs, ⟨_, N.get (hs _ h1), rfl, ep, rfl⟩, h2⟩⟩
theorem snocLast_eq (r0 : List (List Int)) (rr : List Int) (n : Int) : snocLast (r0 ++ [rr]) n = r0 ++ [rr ++ [n]] := by
  unfold snocLast; simp

theorem runsT_len (x : Int) (ns : List Int) : ∀ k, (runsT x ns k).length ≤ k + 1 ∧ ∀ r ∈ runsT x ns k, r.length ≤ k
  | 0 => ⟨Nat.le_refl _, fun r hr => by rw [List.mem_singleton.mp hr]; exact Nat.le_refl _⟩
  | k + 1 => by
    obtain ⟨h1, h2⟩ := runsT_len x ns k
    have hl : ((runsT x ns k).getLastD []).length ≤ k := by
      cases hq : (runsT x ns k).getLast? with
      | none => rw [List.getLastD_eq_getLast?, hq]; exact Nat.zero_le _
      | some r => rw [List.getLastD_eq_getLast?, hq]; exact h2 r (List.mem_of_getLast? hq)
    have hlen : (snocLast (runsT x ns k) (ns.getD k 0)).length ≤ k + 1 := by
      unfold snocLast
      rw [List.length_append, List.length_dropLast]
      show (runsT x ns k).length - 1 + 1 ≤ k + 1
      omega
    have hall : ∀ r ∈ snocLast (runsT x ns k) (ns.getD k 0), r.length ≤ k + 1 := by
      intro r hr
      unfold snocLast at hr
      rcases List.mem_append.mp hr with hr | hr
      · exact Nat.le_succ_of_le (h2 r (List.dropLast_subset _ hr))
      · rw [List.mem_singleton.mp hr, List.length_append]; exact Nat.succ_le_succ hl
    rw [runsT]
    refine ⟨?_, fun r hr => ?_⟩
    · rw [List.length_append]
      have : (if k + 1 < ns.length ∧ cutB x k = true then [[]] else ([] : List (List Int))).length ≤ 1 := by split <;> decide
      omega
    · rcases List.mem_append.mp hr with hr | hr
      · exact hall r hr
      · split at hr
        · rw [List.mem_singleton.mp hr]; exact Nat.zero_le _
        · cases hr
theorem Rm.le {A : Around} {k j : Nat} (r : Rm A k) (h : j ≤ k) : Rm A j := ⟨by have := r.d; omega, by have := r.u; omega, r.h⟩
local macro_rules | `(tactic| walk_at "call ref") => `(tactic| ((refine' Gives.at (ell_c ?cG ?cw ?cg ?c2) (Rm.le (by assumption) (by decide)) ?cF ?cN ?_; (case cw => omega); (case cg => omega); (case c2 => assumption); (case cF => k_asm); (case cN => k_asm); (case cG => exact Gd.keeps (by assumption) (Fr.keep (by assumption))); k_whole); intro v hq tk hs F' N' hR; subst hR; (try k_sweep)))
local macro_rules | `(tactic| walk_at "call ref") => `(tactic| ((refine' Gives.at (goes_c ?cG (News.isList ?cN1 ?cM) (OldRuns.at ?cO ?cN2 ?cS) (stays_list (Fr.keep (by assumption)) ?cl2) ?ci2 ?cs1 ?cs2 ?cs3) (by assumption) ?cF ?cN ?_; (case cN1 => k_asm); (case cM => exact List.Mem.head _); (case cO => assumption); (case cN2 => k_asm); (case cS => exact fun p hp => List.Mem.tail _ hp); (case cl2 => assumption); (case ci2 => assumption); (case cs1 => omega); (case cs2 => assumption); (case cs3 => assumption); (case cF => k_asm); (case cN => k_asm); (case cG => exact Gd.keeps (by assumption) (Fr.keep (by assumption))); k_whole); intro v hq tk hs F' N' hR; subst hR; (try k_sweep)))
theorem allLt_mem {d : Addr} : ∀ (l : List (Addr × Obj)), AllLt d l → ∀ p ∈ l, p.1 < d
  | [], _, p, hp => nomatch hp
  | q :: r, h, p, hp => by
    rcases List.mem_cons.mp hp with rfl | hp
    · exact h.1
    · exact allLt_mem r h.2 p hp
theorem Turn.cut {s : Shared} {h₀ h : Heap} {L I C D c l' : Addr} {o oC oD oc ol : Obj} {old : List (Addr × Obj)} {m : Str → Option Value} {J : (Str → Option Value) → List (Addr × Obj) → Prop} {Q : Flow → Shared → Prop} {tk : Nat}
    (F : Fr h₀ L h m) (N : News h₀ L h ((l', ol) :: (I, o) :: (C, oC) :: (D, oD) :: (c, oc) :: old)) (hl : I < l' ∧ C < l' ∧ D < l' ∧ c < l' ∧ AllLt l' old)
    (hCI : @Ne Nat C I) (hDI : @Ne Nat D I) (hcI : @Ne Nat c I) (hoI : ∀ p ∈ old, p.1 ≠ I)
    (hj : J m ((C, oC) :: (D, oD) :: (l', ol) :: (c, oc) :: old)) : Turn s h₀ L I o J Q .next { s with heap := h, toks := tk } := by
  refine Turn.next F N ((C, oC) :: (D, oD) :: (l', ol) :: (c, oc) :: old) (fun p hp => ?_) (fun p hp => ?_) hj
  · rcases List.mem_cons.mp hp with rfl | hp
    · exact .tail _ (.head _)
    rcases List.mem_cons.mp hp with rfl | hp
    · exact .tail _ (.tail _ (.head _))
    rcases List.mem_cons.mp hp with rfl | hp
    · exact .tail _ (.tail _ (.tail _ (.head _)))
    rcases List.mem_cons.mp hp with rfl | hp
    · exact .head _
    rcases List.mem_cons.mp hp with rfl | hp
    · exact .tail _ (.tail _ (.tail _ (.tail _ (.head _))))
    · exact .tail _ (.tail _ (.tail _ (.tail _ (.tail _ hp))))
  · rcases List.mem_cons.mp hp with rfl | hp
    · exact hCI
    rcases List.mem_cons.mp hp with rfl | hp
    · exact hDI
    rcases List.mem_cons.mp hp with rfl | hp
    · exact Nat.ne_of_gt hl.1
    rcases List.mem_cons.mp hp with rfl | hp
    · exact hcI
    · exact hoI p hp
theorem offK {I C D c : Addr} {oC oD oc : Obj} {old : List (Addr × Obj)} (hCI : @Ne Nat C I) (hDI : @Ne Nat D I) (hcI : @Ne Nat c I) (hoI : ∀ p ∈ old, p.1 ≠ I) : ∀ p ∈ (C, oC) :: (D, oD) :: (c, oc) :: old, p.1 ≠ I := by
  intro p hp
  rcases List.mem_cons.mp hp with rfl | hp
  · exact hCI
  rcases List.mem_cons.mp hp with rfl | hp
  · exact hDI
  rcases List.mem_cons.mp hp with rfl | hp
  · exact hcI
  · exact hoI p hp
theorem cut_yes {x : Int} {i : Nat} (h : x.fdiv ((i : Int) + 3) % 2 = 0) : cutB x i = true := by
  rw [Int.fdiv_eq_ediv_of_nonneg _ (by omega)] at h
  unfold cutB; rw [h]; rfl
theorem cut_no {x : Int} {i : Nat} (h : x.fdiv ((i : Int) + 3) % 2 ≠ 0) : cutB x i = false := by
  rw [Int.fdiv_eq_ediv_of_nonneg _ (by omega)] at h
  unfold cutB; exact beq_false_of_ne h

set_option maxHeartbeats 4000000 in
theorem agrees_c {w : World} {s : Shared} {told text : Str} {a b : Addr} {nv rv : List Value} {ns row : List Int} {x : Int} {front back : Bool} {t1 t2 t3 : Tok} {ws : List Str} (G : Gd w s.heap)
    (hl1 : s.heap.IsList a nv.toArray) (hi1 : IntsAre nv ns) (hl2 : s.heap.IsList b rv.toArray) (hi2 : IntsAre rv row)
    (hws : Txt.split told (Str.ofString ", ") = ws) (hlen : ws.length = ns.length) (hx : 0 ≤ x) (hn : ns.length ≤ 40) (hr : row.length ≤ 40) (hwl : ∀ w ∈ ws, w.length ≤ 19) (htold : told.length ≤ 2000) (htext : text.length ≤ 2000)
    (h2 : (Builtin.Str.occurrences (pat x front back ws) dots 0 (pat x front back ws).length 1).isEmpty = false → 2 ≤ (Txt.split (pat x front back ws) dots).length) :
    Gives w 5 (.ref 76) [.str told t1, .ref a, .str text t2, .ref b, .int x t3, .bool front, .bool back] s (fun v _ => v = .bool (em (pat x front back ws) text == goes (runsT x ns ns.length) front back row)) := by
  unfold Gives P75; obtain ⟨X, mean, mg, mb, T⟩ := id G; revert X; k_fill; intro X A Q E r h
  walk_at "enter"; intro L h₁ F N; dsimp only; generalize s.toks + _ = tk0
  obtain ⟨m, F, e1, e2, e3, e4, e5, e6, e7⟩ : ∃ m, Fr s.heap L h₁ m ∧ m (Str.ofString "told") = some (.str told t1) ∧ m (Str.ofString "worths") = some (.ref a) ∧ m (Str.ofString "text") = some (.str text t2) ∧ m (Str.ofString "row") = some (.ref b) ∧ m (Str.ofString "x") = some (.int x t3) ∧ m (Str.ofString "front") = some (.bool front) ∧ m (Str.ofString "back") = some (.bool back) := ⟨_, F, rfl, rfl, rfl, rfl, rfl, rfl, rfl⟩
  rename_i F₀; clear F₀
  k_fold
  have hnl := hi1.length
  have hwsl : (Txt.split told (Str.ofString ", ")).length = ns.length := by rw [hws]; exact hlen
  refine execsSplit 4 (fun f s' => Hold (∃ h' tk' m' D vs C c tp, f = .next ∧ s' = { s with heap := h', toks := tk' } ∧ Fr s.heap L h' m' ∧ News s.heap L h' [(C, W.listOf (List.toArray [Value.ref c]) 0), (c, W.listOf (List.toArray []) 0), (D, W.listOf (List.toArray vs) 0)] ∧ @LT.lt Nat _ D c ∧ @LT.lt Nat _ c C ∧ StrsAre vs ws ∧ m' (Str.ofString "worths") = some (.ref a) ∧ m' (Str.ofString "text") = some (.str text t2) ∧ m' (Str.ofString "row") = some (.ref b) ∧ m' (Str.ofString "x") = some (.int x t3) ∧ m' (Str.ofString "front") = some (.bool front) ∧ m' (Str.ofString "back") = some (.bool back) ∧ m' (Str.ofString "words") = some (.ref D) ∧ m' (Str.ofString "pattern") = some (.str (patT x front ws 0) tp) ∧ m' (Str.ofString "runs") = some (.ref C))) ?_ ?_
  · dsimp only [List.take]
    repeat' walk1
    · exfalso; omega
    · rename StrsAre _ _ => hst
      rename _ ∧ _ => hl1'
      rename front = _ => hfr
      subst hfr
      exact ⟨_, _, _, _, _, _, _, _, rfl, rfl, by assumption, by assumption, by omega, by omega, hws ▸ hst, by walk_at "look", by walk_at "look", by walk_at "look", by walk_at "look", by walk_at "look", by walk_at "look", by walk_at "look", by walk_at "look", by walk_at "look"⟩
    · rename StrsAre _ _ => hst
      rename _ ∧ _ => hl1'
      rename front = _ => hfr
      subst hfr
      exact ⟨_, _, _, _, _, _, _, _, rfl, rfl, by assumption, by assumption, by omega, by omega, hws ▸ hst, by walk_at "look", by walk_at "look", by walk_at "look", by walk_at "look", by walk_at "look", by walk_at "look", by walk_at "look", by walk_at "look", by walk_at "look"⟩
  · dsimp only [List.drop]
    rintro f s' ⟨h₂, tk₂, m₂, D, vs, C, c, tp, rfl, rfl, F₂, N₂, hDc, hcC, hvs, k1, k2, k3, k4, k5, k6, k7, k8, k9⟩
    dsimp only
    clear F N e1 e2 e3 e4 e5 e6 e7 hws hwsl
    have hlv := StrsAre.len_eq hvs
    rw [hlen] at hlv
    refine execsSplit 1 (fun f s' => Hold (∃ h' tk' m' as0 c r0 vr rr old epC epc tp, f = .next ∧ s' = { s with heap := h', toks := tk' } ∧ Fr s.heap L h' m' ∧ News s.heap L h' ((C, W.listOf (List.toArray ((as0 ++ [c]).map Value.ref)) epC) :: (c, W.listOf (List.toArray vr) epc) :: old) ∧ IntsAre vr rr ∧ runsT x ns ns.length = r0 ++ [rr] ∧ OldRuns old as0 r0 ∧ m' (Str.ofString "text") = some (.str text t2) ∧ m' (Str.ofString "row") = some (.ref b) ∧ m' (Str.ofString "front") = some (.bool front) ∧ m' (Str.ofString "back") = some (.bool back) ∧ m' (Str.ofString "pattern") = some (.str (patT x front ws ns.length) tp) ∧ m' (Str.ofString "runs") = some (.ref C))) ?_ ?_
    · dsimp only [List.take]
      repeat' walk1
      refine' forRange (n := ns.length) (news := [(C, W.listOf (List.toArray [Value.ref c]) 0), (D, W.listOf (List.toArray vs) 0), (c, W.listOf (List.toArray []) 0)]) r.h rfl rfl ?hr ?hn ?hF ?hN (fun i m' news' => ∃ as0 c r0 vr rr old epC epc tp, news' = (C, W.listOf (List.toArray ((as0 ++ [c]).map Value.ref)) epC) :: (D, W.listOf (List.toArray vs) 0) :: (c, W.listOf (List.toArray vr) epc) :: old ∧ IntsAre vr rr ∧ runsT x ns i = r0 ++ [rr] ∧ OldRuns old as0 r0 ∧ @Ne Nat c C ∧ @Ne Nat c D ∧ @Ne Nat C D ∧ (∀ p ∈ old, p.1 ≠ c ∧ p.1 ≠ C ∧ p.1 ≠ D) ∧ as0.length ≤ i ∧ vr.length ≤ i ∧ m' (Str.ofString "worths") = some (.ref a) ∧ m' (Str.ofString "text") = some (.str text t2) ∧ m' (Str.ofString "row") = some (.ref b) ∧ m' (Str.ofString "x") = some (.int x t3) ∧ m' (Str.ofString "front") = some (.bool front) ∧ m' (Str.ofString "back") = some (.bool back) ∧ m' (Str.ofString "words") = some (.ref D) ∧ m' (Str.ofString "pattern") = some (.str (patT x front ws i) tp) ∧ m' (Str.ofString "runs") = some (.ref C)) ?h0 ?turn ?done
      case hr => assumption
      case hn => omega
      case hF => assumption
      case hN => (rename News _ _ _ _ => Nq; exact fun p hp => Nq p (by simp only [List.mem_cons, List.not_mem_nil, or_false] at hp ⊢; rcases hp with hp | hp | hp <;> simp [hp]))
      case h0 => exact ⟨[], c, [], [], [], [], 0, 0, tp, rfl, .nil, rfl, OldRuns.nil, by omega, by omega, by omega, List.forall_mem_nil _, Nat.le_refl _, Nat.le_refl _, k1, k2, k3, k4, k5, k6, k7, k8, k9⟩
      case turn =>
        rintro i tk₀ m₁ news₁ I o hp₁ tk₁ hlt ⟨as0, c, r0, vr, rr, old, epC, epc, tp, rfl, hvr, hrt, hold, d1, d2, d3, d4, d5, d6, q1, q2, q3, q4, q5, q6, q7, q8, q9⟩ hoff F₁ N₁
        have hCI : @Ne Nat C I := hoff _ (.head _)
        have hDI : @Ne Nat D I := hoff _ (.tail _ (.head _))
        have hcI : @Ne Nat c I := hoff _ (.tail _ (.tail _ (.head _)))
        have hoI : ∀ p ∈ old, p.1 ≠ I := fun p hp => hoff p (.tail _ (.tail _ (.tail _ hp)))
        have hoc : ∀ p ∈ old, p.1 ≠ c := fun p hp => (d4 p hp).1
        obtain ⟨m₃, F₃, g0, g1, g2, g3, g4, g5, g6, g7, g8, g9⟩ : ∃ m₃, Fr s.heap L hp₁ m₃ ∧ m₃ (Str.ofString "k") = some (.int (i : Int) tk₀) ∧ m₃ (Str.ofString "worths") = some (.ref a) ∧ m₃ (Str.ofString "text") = some (.str text t2) ∧ m₃ (Str.ofString "row") = some (.ref b) ∧ m₃ (Str.ofString "x") = some (.int x t3) ∧ m₃ (Str.ofString "front") = some (.bool front) ∧ m₃ (Str.ofString "back") = some (.bool back) ∧ m₃ (Str.ofString "words") = some (.ref D) ∧ m₃ (Str.ofString "pattern") = some (.str (patT x front ws i) tp) ∧ m₃ (Str.ofString "runs") = some (.ref C) := ⟨_, F₁, by walk_at "look", by walk_at "look", by walk_at "look", by walk_at "look", by walk_at "look", by walk_at "look", by walk_at "look", by walk_at "look", by walk_at "look", by walk_at "look"⟩
        clear F₁ q1 q2 q3 q4 q5 q6 q7 q8 q9 k1 k2 k3 k4 k5 k6 k7 k8 k9
        have hpl := patT_len (x := x) (front := front) hwl i
        have hiw : i < ws.length := by omega
        obtain ⟨tw, hvw⟩ := strsGet i hvs (ws.getD i Str.empty) (by rw [List.getD_eq_getElem?_getD, List.getElem?_eq_getElem hiw]; rfl)
        have hwi : (ws.getD i Str.empty).length ≤ 19 := by
          rw [List.getD_eq_getElem?_getD, List.getElem?_eq_getElem hiw]; exact hwl _ (List.getElem_mem hiw)
        have hvw' : vs[(i : Int).toNat]? = some (.str (ws.getD i Str.empty) tw) := by rw [Int.toNat_natCast]; exact hvw
        obtain ⟨tn, hvn⟩ := hi1.get i (ns.getD i 0) (by rw [List.getD_eq_getElem?_getD, List.getElem?_eq_getElem hlt]; rfl)
        have hvn' : nv[(i : Int).toNat]? = some (.int (ns.getD i 0) tn) := by rw [Int.toNat_natCast]; exact hvn
        have hlast : ((as0 ++ [c]).map Value.ref).getLast? = some (.ref c) := by simp
        have hasl : ((as0 ++ [c]).map Value.ref).length < 1000000000 := by simp; omega
        have hdl := dots_len
        have hcl := comma_len
        have hoC : ∀ p ∈ (D, W.listOf (List.toArray vs) 0) :: (c, W.listOf (List.toArray (vr ++ [Value.int (ns.getD i 0) tn])) (epc + 1)) :: old, p.1 ≠ C := by
          intro p hp
          simp only [List.mem_cons] at hp
          rcases hp with rfl | rfl | hp
          · exact fun h => d3 h.symm
          · exact d1
          · exact (d4 p hp).2.1
        repeat' walk1
        · rename Int.fdiv _ _ % 2 = 0 => hcut
          rename (i : Int) + 1 < _ => hlt2
          rename _ ∧ _ => hl1'
          have hc := cut_yes hcut
          refine Turn.cut (by assumption) (by assumption) hl1' hCI hDI hcI hoI ?_
          refine ⟨as0 ++ [c], _, r0 ++ [rr ++ [ns.getD i 0]], [], [], (c, W.listOf (List.toArray (vr ++ [Value.int (ns.getD i 0) tn])) (epc + 1)) :: old, epC + 1, 0, _, ?_, .nil, ?_, OldRuns.snoc hold (intsSnoc hvr), Nat.ne_of_gt hl1'.2.1, Nat.ne_of_gt hl1'.2.2.1, d3, ?_, ?_, Nat.zero_le _, by walk_at "look", by walk_at "look", by walk_at "look", by walk_at "look", by walk_at "look", by walk_at "look", by walk_at "look", by rw [patT, if_pos (show i + 1 < ws.length by omega), hc]; walk_at "look", by walk_at "look"⟩
          · rw [List.map_append, List.map_append, List.map_append]; rfl
          · rw [runsT, hrt, snocLast_eq, if_pos ⟨by omega, hc⟩]
          · intro p hp
            rcases List.mem_cons.mp hp with rfl | hp
            · exact ⟨Nat.ne_of_lt hl1'.2.2.2.1, d1, d2⟩
            · exact ⟨Nat.ne_of_lt (allLt_mem _ hl1'.2.2.2.2 p hp), (d4 p hp).2⟩
          · rw [List.length_append]; show as0.length + 1 ≤ i + 1; omega
        · rename Int.fdiv _ _ % 2 ≠ 0 => hcut
          rename (i : Int) + 1 < _ => hlt2
          have hc := cut_no hcut
          refine Turn.next (by assumption) (by assumption) ((C, W.listOf (List.toArray ((as0 ++ [c]).map Value.ref)) epC) :: (D, W.listOf (List.toArray vs) 0) :: (c, W.listOf (List.toArray (vr ++ [Value.int (ns.getD i 0) tn])) (epc + 1)) :: old) (fun p hp => hp) (offK hCI hDI hcI hoI) ⟨as0, c, r0, vr ++ [Value.int (ns.getD i 0) tn], rr ++ [ns.getD i 0], old, epC, epc + 1, _, rfl, intsSnoc hvr, ?_, hold, d1, d2, d3, d4, by omega, ?_, by walk_at "look", by walk_at "look", by walk_at "look", by walk_at "look", by walk_at "look", by walk_at "look", by walk_at "look", by rw [patT, if_pos (show i + 1 < ws.length by omega), hc]; walk_at "look", by walk_at "look"⟩
          · rw [runsT, hrt, snocLast_eq, if_neg (by rw [hc]; rintro ⟨_, h⟩; cases h), List.append_nil]
          · rw [List.length_append]; show vr.length + 1 ≤ i + 1; omega
        · rename ¬ (i : Int) + 1 < _ => hlt2
          refine Turn.next (by assumption) (by assumption) ((C, W.listOf (List.toArray ((as0 ++ [c]).map Value.ref)) epC) :: (D, W.listOf (List.toArray vs) 0) :: (c, W.listOf (List.toArray (vr ++ [Value.int (ns.getD i 0) tn])) (epc + 1)) :: old) (fun p hp => hp) (offK hCI hDI hcI hoI) ⟨as0, c, r0, vr ++ [Value.int (ns.getD i 0) tn], rr ++ [ns.getD i 0], old, epC, epc + 1, _, rfl, intsSnoc hvr, ?_, hold, d1, d2, d3, d4, by omega, ?_, by walk_at "look", by walk_at "look", by walk_at "look", by walk_at "look", by walk_at "look", by walk_at "look", by walk_at "look", by rw [patT, if_neg (show ¬ i + 1 < ws.length by omega), Str.append_empty]; walk_at "look", by walk_at "look"⟩
          · rw [runsT, hrt, snocLast_eq, if_neg (by rintro ⟨h, _⟩; omega), List.append_nil]
          · rw [List.length_append]; show vr.length + 1 ≤ i + 1; omega
      case done =>
        rintro m₁ news₁ hp₁ tk₁ ⟨as0, c, r0, vr, rr, old, epC, epc, tp, rfl, hvr, hrt, hold, d1, d2, d3, d4, d5, d6, q1, q2, q3, q4, q5, q6, q7, q8, q9⟩ F₁ N₁
        refine wpAny_execs_nil ?_
        dsimp only
        refine wpAny_execs_nil ?_
        exact ⟨_, _, _, as0, c, r0, vr, rr, old, epC, epc, tp, rfl, rfl, F₁, fun p hp => N₁ p (by simp only [List.mem_cons] at hp ⊢; rcases hp with hp | hp | hp <;> simp [hp]), hvr, hrt, hold, q2, q3, q5, q6, q8, q9⟩
    · dsimp only [List.drop]
      rintro f s' ⟨h₃, tk₃, m₃, as0, c₃, r0, vr, rr, old, epC, epc, tp₃, rfl, rfl, F₃, N₃, hvr, hrt, hold, g2, g3, g5, g6, g8, g9⟩
      dsimp only
      clear F₂ N₂ k1 k2 k3 k4 k5 k6 k7 k8 k9
      have hpl := patT_len (x := x) (front := front) hwl ns.length
      have hdl := dots_len
      have hpat : pat x front back ws = patT x front ws ns.length ++ (if back then dots else Str.empty) := by unfold pat; rw [hlen]
      refine execsSplit 1 (fun f s' => Hold (∃ h' tk' m' tq, f = .next ∧ s' = { s with heap := h', toks := tk' } ∧ Fr s.heap L h' m' ∧ News s.heap L h' ((C, W.listOf (List.toArray ((as0 ++ [c₃]).map Value.ref)) epC) :: (c₃, W.listOf (List.toArray vr) epc) :: old) ∧ m' (Str.ofString "text") = some (.str text t2) ∧ m' (Str.ofString "row") = some (.ref b) ∧ m' (Str.ofString "front") = some (.bool front) ∧ m' (Str.ofString "back") = some (.bool back) ∧ m' (Str.ofString "pattern") = some (.str (pat x front back ws) tq) ∧ m' (Str.ofString "runs") = some (.ref C))) ?_ ?_
      · dsimp only [List.take]
        repeat' walk1
        · rename back = _ => hb
          subst hb
          exact ⟨_, _, _, _, rfl, rfl, by assumption, by assumption, by walk_at "look", by walk_at "look", by walk_at "look", by walk_at "look", by rw [hpat]; walk_at "look", by walk_at "look"⟩
        · rename back = _ => hb
          subst hb
          exact ⟨_, _, _, _, rfl, rfl, by assumption, by assumption, by walk_at "look", by walk_at "look", by walk_at "look", by walk_at "look", by rw [hpat]; rw [show (if false = true then dots else Str.empty) = Str.empty from rfl, Str.append_empty]; walk_at "look", by walk_at "look"⟩
      · dsimp only [List.drop]
        rintro f s' ⟨h₄, tk₄, m₄, tq, rfl, rfl, F₄, N₄, j2, j3, j5, j6, j8, j9⟩
        dsimp only
        clear F₃ N₃ g2 g3 g5 g6 g8 g9
        have hplen : (pat x front back ws).length ≤ 100000 := by
          rw [hpat, Str.length_append]
          have : (if back then dots else Str.empty).length ≤ 3 := by split <;> decide
          omega
        have hruns := OldRuns.snoc (c := c₃) (ep := epc) hold hvr
        rw [← hrt] at hruns
        have hrl := runsT_len x ns ns.length
        have hs2 : (runsT x ns ns.length).length < 2 ^ 40 := by have := hrl.1; omega
        have hs3 : ∀ r ∈ runsT x ns ns.length, r.length < 2 ^ 39 := fun r hr => by have := hrl.2 r hr; omega
        repeat' walk1
        exact h _ _ _ (Fr.keep (by assumption)) rfl
end

section -- LawA


/-- what the plain part has to show -/
structure PlainLaw : Prop where
  split : ∀ n : Int, -(2 ^ 46) < n → n < 2 ^ 46 → Txt.split (pretty n) (Str.ofString ", ") = wordsL n
  len : ∀ n : Int, (wordsL n).length = (worthsL n).length
  two : ∀ (n x : Int) (front back : Bool), -(2 ^ 46) < n → n < 2 ^ 46 → (Builtin.Str.occurrences (pat x front back (wordsL n)) dots 0 (pat x front back (wordsL n)).length 1).isEmpty = false → 2 ≤ (Txt.split (pat x front back (wordsL n)) dots).length
  law : ∀ (n k x : Int) (front back : Bool), -(2 ^ 46) < n → n < 2 ^ 46 → -(2 ^ 46) < k → k < 2 ^ 46 → em (pat x front back (wordsL n)) (pretty k) = goes (runsT x (worthsL n) (worthsL n).length) front back (worthsL k)

theorem callCode {prog : Program} {w : World} {A : Around} {s : Shared} {K : Frag} {name qual : Str} {params : Arguments} {body : List Stmt} {scope : Scope} {dV kV doc pm cdv ct oc : Value} {an od : Option Addr} {osl : Array (Option Value)} {f : Addr} {vals : List Value} {binds : List (Str × Value)} {R : Result → Shared → Prop}
    (X : K.In s.heap) (hlim : s.heap.NoLimit)
    (ho : K.lookup f = some ⟨oc, od, .func (fnOf name qual params body scope dV kV doc pm an cdv ct), osl⟩) (hcd : codeIn K cdv qual = true) (hroom : A.depth < recursionLimit)
    (hbind : BindsTo s (fnOf name qual params body scope dV kV doc pm an cdv ct) ⟨vals, []⟩ binds) (hloc : ∀ y ∈ binds, scope.names.lookup y.1 = some .local)
    (h : ∀ L h₁, Fr s.heap L h₁ (fun y => binds.reverse.lookup y) → News s.heap L h₁ [] →
      wpAny (model prog w) (A.deeper (envOf qual scope L f cdv)) (execs body (envOf qual scope L f cdv))
        (fun fl s' => R (.ok (.ret (match fl with | .ret v => v | _ => .none))) s') (fun _ _ => False)
        { s with heap := h₁, toks := s.toks + binds.length })
    (hco : scope.isCoroutine = false := by rfl) (hgen : scope.isGenerator = false := by rfl) (hk : scope.kind = .function := by rfl)
    (hcell : ∀ x ∈ scope.names, x.2 ≠ .cell := by decide) : codeAny (model prog w) A (.call (.ref f) ⟨vals, []⟩) R s := by
  refine codeAny_call_def (fd := fnOf name qual params body scope dV kV doc pm an cdv ct) (body := body) (binds := binds) hroom (X _ _ ho) rfl hlim (codeRec_of X hcd) rfl hbind hcell hloc (fun h₁ hns hk₁ => ?_) hco hgen hk
  exact wpAny_mono (h _ h₁ ⟨hns, hk₁, Nat.le_refl _⟩ News.nil) (fun _ _ x => x) fun _ _ x => x.elim

theorem worked_i {w : World} {s : Shared} {n p f : Int} {t1 t2 t3 : Tok} (G : Gd w s.heap) (hn1 : -(2 ^ 50) < n) (hn2 : n < 2 ^ 50) (hp0 : 0 ≤ p) (hp : p < 48) (hf0 : 0 ≤ f) (hf : f < 3) :
    Gives w 1 (.ref 36) [.int n t1, .int p t2, .int f t3] s (fun v _ => ∃ t, v = .int (worked n p.toNat f.toNat) t) := by
  have e1 : p = ((p.toNat : Nat) : Int) := by omega
  have e2 : f = ((f.toNat : Nat) : Int) := by omega
  rw [e1, e2, Int.toNat_natCast, Int.toNat_natCast]
  exact worked_c G hn1 hn2 (by omega) (by omega)
theorem worked_le {n B : Int} {p f : Nat} (hp : p < 48) (hf : f < 3) (hB : 2 ^ 44 ≤ B) (h1 : n ≤ B) (h2 : -B ≤ n) : worked n p f ≤ B + 2 ^ 32 ∧ -(B + 2 ^ 32) ≤ worked n p f := by
  unfold worked
  have hf' : (16 : Int) ^ f = 1 ∨ (16 : Int) ^ f = 16 ∨ (16 : Int) ^ f = 256 := by
    match f, hf with
    | 0, _ => exact .inl rfl
    | 1, _ => exact .inr (.inl rfl)
    | 2, _ => exact .inr (.inr rfl)
  split
  · rcases hf' with e | e | e <;> rw [e] <;> constructor <;> omega
  · have h3 := pow2_pos p
    have h4 : (2 : Int) ^ p ≤ 2 ^ 32 := by exact_mod_cast Nat.pow_le_pow_right (n := 2) (by decide) (by omega)
    split <;> constructor <;> omega

theorem forListN {prog : Program} {w : World} {A : Around} {s : Shared} {env : Env} {Q : Flow → Shared → Prop} {h₀ : Heap} {m : Str → Option Value} {rest : List (Addr × Obj)} {x : Str} {px : Pos} {body orelse : List Stmt} {l : Addr} {vs : List Value} {ep : Nat}
    (hh : A.handled = none) (hx : env.kindOf x = some .local)
    (hp : (env.scope.kind == .class || (env.scope.kind == .module && env.locals != env.globals)) = false)
    (F : Fr h₀ env.locals s.heap m) (N : News h₀ env.locals s.heap ((l, W.listOf vs.toArray ep) :: rest))
    (J : Nat → (Str → Option Value) → Prop) (h0 : J 0 m)
    (turn : ∀ i v m₁ I o h tk, i < vs.length → vs[i]? = some v → J i m₁ → l ≠ I → Fr h₀ env.locals h (fun y => if y = x then some v else m₁ y) → News h₀ env.locals h [(I, o), (l, W.listOf vs.toArray ep)] →
      wpAny (model prog w) A (execs body env) (Turn s h₀ env.locals I o (fun m' news' => news' = [(l, W.listOf vs.toArray ep)] ∧ J (i + 1) m') Q) Never { s with heap := h, toks := tk })
    (done : ∀ m₁ h tk, J vs.length m₁ → Fr h₀ env.locals h m₁ → wpAny (model prog w) A (execs orelse env) Q Never { s with heap := h, toks := tk }) :
    wpAny (model prog w) A (pyIter (.ref l)) (fun it s₂ => codeAny (model prog w) A (.forLoop (.Name x px) it body orelse env) (fun r s' => match r with | .ok f => Q f s' | .error e => cameBackBy (model prog w) A env Never e s') s₂) Never s := by
  refine forList (vs := vs) (news := [(l, W.listOf vs.toArray ep)]) hh hx hp (News.isList N (.head _)) F (fun p hp => N p (by rw [List.mem_singleton.mp hp]; exact .head _)) (fun i m' news' => news' = [(l, W.listOf vs.toArray ep)] ∧ J i m') ⟨rfl, h0⟩ ?_ ?_ ?_
  · rintro i m₁ news₁ h ⟨rfl, _⟩ _ N₁
    exact News.isList N₁ (.head _)
  · rintro i v m₁ news₁ I o h tk hi hv ⟨rfl, hj⟩ hoff F₁ N₁
    exact turn i v m₁ I o h tk hi hv hj (hoff _ (.head _)) F₁ N₁
  · rintro m₁ news₁ h tk ⟨rfl, hj⟩ F₁ N₁
    exact done m₁ h tk hj F₁

theorem newsAdd {h₀ h h' : Heap} {L a : Addr} {m : Str → Option Value} {nw : List (Addr × Obj)} {vs : List Value} (F : Fr h₀ L h m) (N' : News h₀ L h' nw) (hfr : h.get? a = none) (hli : h'.IsList a vs.toArray) :
    ∃ o, News h₀ L h' ((a, o) :: nw) ∧ (o.cls = .type "list" ∧ ∃ n, o.data = .seq vs.toArray n) := by
  obtain ⟨o, ho, hc, hd⟩ := hli
  refine ⟨o, fun p hp => ?_, hc, hd⟩
  rcases List.mem_cons.mp hp with rfl | hp
  · refine ⟨ho, ?_, ?_⟩
    · rintro rfl
      obtain ⟨oL, _, _, hoL, _⟩ := F.ns
      rw [hfr] at hoL; cases hoL
    · cases q : h₀.get? a with
      | none => rfl
      | some o' => rw [F.keep _ _ q] at hfr; cases hfr
  · exact N' p hp
theorem isl {h₀ h : Heap} {L a : Addr} {news : List (Addr × Obj)} {o : Obj} {vs : List Value} (N : News h₀ L h news) (hm : (a, o) ∈ news) (ho : o.cls = .type "list" ∧ ∃ n, o.data = .seq vs.toArray n) : h.IsList a vs.toArray := ⟨o, N.get hm, ho.1, ho.2⟩
theorem worthsL_len (n : Int) : (worthsL n).length ≤ 40 := by
  unfold worthsL
  rw [List.length_append, List.length_map]
  have h1 : (bits n).length ≤ 32 := by
    have := List.length_filter_le (bit n) (List.range 32)
    rwa [List.length_range] at this
  have h2 : (if restOf n ≠ 0 ∨ n = 0 then [restOf n] else []).length ≤ 1 := by split <;> simp
  omega
theorem pretty_len {n : Int} (h1 : -(2 ^ 50) < n) (h2 : n < 2 ^ 50) : (pretty n).length ≤ 2000 := by
  have h := StrLaws.join_length_le (Str.ofString ", ") (wordsL n)
  have hw := wordsL_len h1 h2
  have hs := sum_le hw.1
  have hl := hw.2
  have e := comma_len
  unfold pretty
  rw [e] at h
  omega
theorem agrees_true {w : World} {s : Shared} {a b : Addr} {nv rv : List Value} {n k x : Int} {front back : Bool} {t1 t2 t3 : Tok} (PL : PlainLaw) (G : Gd w s.heap)
    (hl1 : s.heap.IsList a nv.toArray) (hi1 : IntsAre nv (worthsL n)) (hl2 : s.heap.IsList b rv.toArray) (hi2 : IntsAre rv (worthsL k)) (hx : 0 ≤ x) (n1 : -(2 ^ 46) < n) (n2 : n < 2 ^ 46) (k1 : -(2 ^ 46) < k) (k2 : k < 2 ^ 46) :
    Gives w 5 (.ref 76) [.str (pretty n) t1, .ref a, .str (pretty k) t2, .ref b, .int x t3, .bool front, .bool back] s (fun v _ => v = .bool true) := by
  have hg := agrees_c (t1 := t1) (t2 := t2) (t3 := t3) (x := x) (front := front) (back := back) (told := pretty n) (text := pretty k) G hl1 hi1 hl2 hi2 (PL.split n n1 n2) (PL.len n) hx (worthsL_len n) (worthsL_len k) (wordsL_len (by omega) (by omega)).1 (pretty_len (by omega) (by omega)) (pretty_len (by omega) (by omega)) (PL.two n x front back n1 n2)
  rw [PL.law n k x front back n1 n2 k1 k2, beq_self_eq_true] at hg
  exact hg
end

section -- Law


local macro_rules | `(tactic| walk_at "enter code") => `(tactic| k_dflt (refine' callCode ?kX (Top.nolimit (by assumption)) ?k1 ?k2 ?k3 ?k4 ?k5 ?_ ?c1 ?c2 ?c3 ?c4; (case kX => assumption); (case k1 => k_is); (case k2 => k_is); (case k3 => exact Rm.room (by assumption)); (case k4 => exact BindsTo.of_eq rfl); (case k5 => exact locs rfl); (case c1 => exact rfl); (case c2 => exact rfl); (case c3 => exact rfl); (case c4 => decide); k_whole))

local macro_rules | `(tactic| walk_at "exec For Name BinOp cons nil") => `(tactic| k_dflt (refine wpAny_For ?_))
local macro_rules | `(tactic| walk_at "call ref") => `(tactic| (first
  | ((refine' Gives.at (worked_i ?cG ?c1 ?c2 ?c3 ?c4 ?c5 ?c6) (Rm.le (by assumption) (by decide)) ?cF ?cN ?_; (case c1 => omega); (case c2 => omega); (case c3 => omega); (case c4 => omega); (case c5 => omega); (case c6 => omega); (case cF => k_asm); (case cN => k_asm); (case cG => exact Gd.keeps (by assumption) (Fr.keep (by assumption))); k_whole); intro v hq tk hs F' N' hR; obtain ⟨tR, hR⟩ := hR; subst hR; (try k_sweep))
  | ((refine' Gives.at (pretty_c ?cG ?c1 ?c2) (Rm.le (by assumption) (by decide)) ?cF ?cN ?_; (case c1 => omega); (case c2 => omega); (case cF => k_asm); (case cN => k_asm); (case cG => exact Gd.keeps (by assumption) (Fr.keep (by assumption))); k_whole); intro v hq tk hs F' N' hR; obtain ⟨tR, hR⟩ := hR; subst hR; (try k_sweep))))
local macro_rules | `(tactic| walk_at "call ref") => `(tactic| ((refine' Gives.at (worths_c ?cG ?c1 ?c2) (Rm.le (by assumption) (by decide)) ?cF ?cN ?_; (case c1 => omega); (case c2 => omega); (case cF => k_asm); (case cN => k_asm); (case cG => exact Gd.keeps (by assumption) (Fr.keep (by assumption))); k_whole); intro v hq tk hs F' N' hR; obtain ⟨aR, vR, eR, fR, lR, iR⟩ := hR; subst eR; (obtain ⟨oR, NR, hoR⟩ := newsAdd (by assumption) N' fR lR); clear N' fR lR hs))
local macro_rules | `(tactic| walk_at "call ref") => `(tactic| ((refine' Gives.at (agrees_true ?cP ?cG (isl ?cN1 ?cM1 ?cO1) ?cI1 (isl ?cN2 ?cM2 ?cO2) ?cI2 ?cx ?c1 ?c2 ?c3 ?c4) (Rm.le (by assumption) (by decide)) ?cF ?cN ?_; (case cN1 => k_asm); (case cM1 => k_mem); (case cO1 => assumption); (case cI1 => assumption); (case cN2 => k_asm); (case cM2 => k_mem); (case cO2 => assumption); (case cI2 => assumption); (case cx => omega); (case c1 => omega); (case c2 => omega); (case c3 => omega); (case c4 => omega); (case cP => assumption); (case cF => k_asm); (case cN => k_asm); (case cG => exact Gd.keeps (by assumption) (Fr.keep (by assumption))); k_whole); intro v hq tk hs F' N' hR; subst hR; (try k_sweep)))
set_option maxHeartbeats 4000000 in
theorem law_c {w : World} {A : Around} {s : Shared} {R : Result → Shared → Prop} {l : Addr} {sv : List Value} {ns : List Int} (PL : PlainLaw) (G : Gd w s.heap) (r : Rm A 7) (hl : s.heap.IsList l sv.toArray) (hi : IntsAre sv ns) (hn : ns.length ≤ 63)
    (h : ∀ h' tk L m, Fr s.heap L h' m → R (.ok (.ret (.bool true))) { s with heap := h', toks := tk }) : codeAny (model P75 w) A (.call (.ref 83) ⟨[.ref l], []⟩) R s := by
  unfold P75; obtain ⟨X, mean, mg, mb, T⟩ := id G; revert X; k_fill; intro X
  walk_at "enter code"; intro L h₁ F N; dsimp only; generalize s.toks + _ = tk0
  obtain ⟨m, F, e1⟩ : ∃ m, Fr s.heap L h₁ m ∧ m (Str.ofString "script") = some (.ref l) := ⟨_, F, rfl⟩
  rename_i F₀; clear F₀
  k_fold
  have hnl := hi.length
  refine execsSplit 2 (fun f s' => Hold (∃ h' tk' m' ta tb, f = .next ∧ s' = { s with heap := h', toks := tk' } ∧ Fr s.heap L h' m' ∧ m' (Str.ofString "script") = some (.ref l) ∧ m' (Str.ofString "one") = some (.int (1 + 32 + 2 ^ 12 + 2 ^ 16) ta) ∧ m' (Str.ofString "two") = some (.int (1 + 2 ^ 9 + 2 ^ 16 + 2 ^ 20) tb))) ?_ ?_
  · dsimp only [List.take]
    repeat' walk1
    exact ⟨_, _, _, _, _, rfl, rfl, by assumption, by walk_at "look", by walk_at "look", by walk_at "look"⟩
  · dsimp only [List.drop]
    rintro f s' ⟨h₂, tk₂, m₂, ta, tb, rfl, rfl, F₂, k1, k2, k3⟩
    dsimp only
    have N₂ : News s.heap L h₂ [] := News.nil
    clear F N e1
    repeat' walk1
    rename IntsAre _ (_ ++ _) => hI
    rename News _ _ _ _ => Nq
    have hil := hI.length
    have htl : (List.take 5 ns).length ≤ 5 := by rw [List.length_take]; omega
    rw [List.length_append] at hil
    refine' forListN r.h rfl rfl ?hF Nq (fun i m' => ∃ a b ta tb, m' (Str.ofString "one") = some (.int a ta) ∧ m' (Str.ofString "two") = some (.int b tb) ∧ a ≤ 2 ^ 44 + (i : Int) * 2 ^ 32 ∧ -(2 ^ 44 + (i : Int) * 2 ^ 32) ≤ a ∧ b ≤ 2 ^ 44 + (i : Int) * 2 ^ 32 ∧ -(2 ^ 44 + (i : Int) * 2 ^ 32) ≤ b) ?h0 ?turn ?done
    case hF => assumption
    case h0 => exact ⟨_, _, _, _, by walk_at "look", by walk_at "look", by omega, by omega, by omega, by omega⟩
    case turn =>
      rintro i v m₁ I o hp₁ tk₁ hlt hv ⟨a, b, ta', tb', q1, q2, q3, q4, q5, q6⟩ hlI F₁ N₁
      obtain ⟨n, tn, rfl, hn'⟩ := IntsAre.at hI i v hv
      have hi6 : i < 6 := by simp only [List.length_cons, List.length_nil] at hil; omega
      obtain ⟨m₃, F₃, g0, g1, g2⟩ : ∃ m₃, Fr s.heap L hp₁ m₃ ∧ m₃ (Str.ofString "item") = some (.int n tn) ∧ m₃ (Str.ofString "one") = some (.int a ta') ∧ m₃ (Str.ofString "two") = some (.int b tb') := ⟨_, F₁, by walk_at "look", by walk_at "look", by walk_at "look"⟩
      obtain ⟨nw, hnw, N₃⟩ : ∃ nw, nw = _ ∧ News s.heap L hp₁ nw := ⟨_, rfl, N₁⟩
      clear F₁ q1 q2 k1 k2 k3 N₁
      have hn0 : 0 ≤ n % 2 ^ 64 := Int.emod_nonneg _ (by decide)
      refine execsSplit 3 (fun f s' => Hold (∃ h' tk' m' x a b tx ta tb, f = .next ∧ s' = { s with heap := h', toks := tk' } ∧ Fr s.heap L h' m' ∧ News s.heap L h' nw ∧ m' (Str.ofString "x") = some (.int x tx) ∧ m' (Str.ofString "one") = some (.int a ta) ∧ m' (Str.ofString "two") = some (.int b tb) ∧ 0 ≤ x ∧ a ≤ 2 ^ 44 + ((i + 1 : Nat) : Int) * 2 ^ 32 ∧ -(2 ^ 44 + ((i + 1 : Nat) : Int) * 2 ^ 32) ≤ a ∧ b ≤ 2 ^ 44 + ((i + 1 : Nat) : Int) * 2 ^ 32 ∧ -(2 ^ 44 + ((i + 1 : Nat) : Int) * 2 ^ 32) ≤ b)) ?_ ?_
      · dsimp only [List.take]
        have hc : (2 ^ 44 + ((i + 1 : Nat) : Int) * 2 ^ 32) = (2 ^ 44 + (i : Int) * 2 ^ 32) + 2 ^ 32 := by omega
        have hwa := worked_le (n := a) (B := 2 ^ 44 + (i : Int) * 2 ^ 32) (p := (n % 2 ^ 64 / 3 % 48).toNat) (f := (n % 2 ^ 64 / 144 % 3).toNat) (by omega) (by omega) (by omega) q3 q4
        have hwb := worked_le (n := b) (B := 2 ^ 44 + (i : Int) * 2 ^ 32) (p := (n % 2 ^ 64 / 3 % 48).toNat) (f := (n % 2 ^ 64 / 144 % 3).toNat) (by omega) (by omega) (by omega) q5 q6
        repeat' walk1
        all_goals exact ⟨_, _, _, _, _, _, _, _, _, rfl, rfl, by assumption, by assumption, by walk_at "look", by walk_at "look", by walk_at "look", hn0, by rw [hc]; omega, by rw [hc]; omega, by rw [hc]; omega, by rw [hc]; omega⟩
      · dsimp only [List.drop]
        rintro f s' ⟨h₄, tk₄, m₄, x, a', b', tx, ta₄, tb₄, rfl, rfl, F₄, N₄, j1, j2, j3, hx0, p1, p2, p3, p4⟩
        dsimp only
        clear F₃ N₃ g0 g1 g2 q3 q4 q5 q6
        repeat' walk1
        subst hnw
        exact Turn.next (by assumption) (by assumption) [_] (fun p hp => List.Mem.tail _ (List.Mem.tail _ hp)) (fun p hp => by rw [List.mem_singleton.mp hp]; exact hlI) ⟨rfl, _, _, _, _, by walk_at "look", by walk_at "look", p1, p2, p3, p4⟩
    case done =>
      rintro m₁ hp₁ tk₁ _ F₁
      have N₁ : News s.heap L hp₁ [] := News.nil
      repeat' walk1
      exact h _ _ _ _ F₁
end

end
end Mine

-- Chunk
namespace Mine
/-- the rest behind the first place at which p stands -/
def findL (p : List Nat) : List Nat → Option (List Nat)
  | [] => if p.isPrefixOf [] then some [] else none
  | c :: t => if p.isPrefixOf (c :: t) then some ((c :: t).drop p.length) else findL p t
def joinS : List (List Nat) → List Nat
  | [] => []
  | [c] => c
  | c :: d :: r => c ++ 44 :: 32 :: joinS (d :: r)
def Plain (c : List Nat) : Prop := 44 ∉ c ∧ 32 ∉ c
/-- a run of words stands at the front of the chunks; the chunks behind -/
def preC : List (List Nat) → List (List Nat) → Option (List (List Nat))
  | [], _ => none
  | [v], c :: r => if v.isPrefixOf c then some (c.drop v.length :: r) else none
  | v :: w :: q, c :: r => if v = c then preC (w :: q) r else none
  | _, [] => none

theorem pre_iff {a b : List Nat} : a.isPrefixOf b = true ↔ ∃ r, b = a ++ r := by
  rw [List.isPrefixOf_iff_prefix]
  exact ⟨fun ⟨r, h⟩ => ⟨r, h.symm⟩, fun ⟨r, h⟩ => ⟨r, h.symm⟩⟩

theorem joinS_cons (c : List Nat) (r : List (List Nat)) (h : r ≠ []) : joinS (c :: r) = c ++ 44 :: 32 :: joinS r := by
  cases r with
  | nil => exact absurd rfl h
  | cons d r => rfl

/-- two texts that begin alike up to a first comma -/
theorem comma_split {a b x y : List Nat} (ha : 44 ∉ a) (hb : 44 ∉ b) (h : a ++ 44 :: x = b ++ 44 :: y) : a = b ∧ x = y := by
  induction a generalizing b with
  | nil =>
    cases b with
    | nil => simp at h; exact ⟨rfl, h⟩
    | cons d b => simp at h; exact absurd (by rw [← h.1]; exact .head _) hb
  | cons c a ih =>
    cases b with
    | nil => simp at h; exact absurd (by rw [h.1]; exact .head _) ha
    | cons d b =>
      simp at h
      obtain ⟨rfl, h⟩ := h
      obtain ⟨rfl, rfl⟩ := ih (fun q => ha (.tail _ q)) (fun q => hb (.tail _ q)) h
      exact ⟨rfl, rfl⟩

/-- a joined run is a prefix of the joined chunks just where it stands word by word -/
theorem preC_spec : ∀ (run chs : List (List Nat)), run ≠ [] → (∀ v ∈ run, Plain v) → (∀ c ∈ chs, Plain c) → chs ≠ [] →
    (∀ t, joinS chs = joinS run ++ t → ∃ r, preC run chs = some r ∧ joinS r = t) ∧ (∀ r, preC run chs = some r → joinS chs = joinS run ++ joinS r ∧ r ≠ [])
  | [], _, h, _, _, _ => absurd rfl h
  | _, [], _, _, _, h => absurd rfl h
  | [v], c :: r, _, hv, hc, _ => by
    have hv' := hv v (.head _)
    have hc' := hc c (.head _)
    constructor
    · intro t ht
      cases r with
      | nil =>
        have ht' : c = v ++ t := ht
        refine ⟨[c.drop v.length], ?_, ?_⟩
        · rw [preC, if_pos (pre_iff.mpr ⟨t, ht'⟩)]
        · rw [ht']; simp [joinS]
      | cons d r =>
        rw [joinS_cons _ _ (by simp)] at ht
        have ht' : c ++ 44 :: 32 :: joinS (d :: r) = v ++ t := ht
        have hp : ∃ b, c = v ++ b ∧ t = b ++ 44 :: 32 :: joinS (d :: r) := by
          rcases List.append_eq_append_iff.mp ht' with ⟨a', h1, h2⟩ | ⟨c', h1, h2⟩
          · cases a' with
            | nil => exact ⟨[], by simpa using h1.symm, by simpa using h2.symm⟩
            | cons e a' =>
              simp at h2
              exact absurd (by rw [h1, ← h2.1]; simp) hv'.1
          · exact ⟨c', h1, h2⟩
        obtain ⟨b, h1, h2⟩ := hp
        refine ⟨c.drop v.length :: d :: r, ?_, ?_⟩
        · rw [preC, if_pos (pre_iff.mpr ⟨b, h1⟩)]
        · rw [joinS_cons _ _ (by simp), h1, h2]; simp
    · intro r' hr'
      rw [preC] at hr'
      split at hr'
      · rename_i hp
        obtain ⟨b, rfl⟩ := pre_iff.mp hp
        injection hr' with hr'
        subst hr'
        refine ⟨?_, by simp⟩
        cases r with
        | nil => simp [joinS]
        | cons d r => simp [joinS_cons]; simp [joinS]
      · cases hr'
  | v :: w :: q, c :: r, _, hv, hc, _ => by
    have hv' := hv v (.head _)
    have hc' := hc c (.head _)
    have ej : joinS (v :: w :: q) = v ++ 44 :: 32 :: joinS (w :: q) := rfl
    cases r with
    | nil =>
      constructor
      · intro t ht
        rw [ej] at ht
        have ht' : c = v ++ 44 :: 32 :: joinS (w :: q) ++ t := ht
        exact absurd (by rw [ht']; simp) hc'.1
      · intro r' hr'
        rw [preC] at hr'
        split at hr'
        · cases q <;> cases hr'
        · cases hr'
    | cons d r =>
      have ih := preC_spec (w :: q) (d :: r) (by simp) (fun x hx => hv x (.tail _ hx)) (fun x hx => hc x (.tail _ hx)) (by simp)
      constructor
      · intro t ht
        rw [ej, joinS_cons _ _ (by simp)] at ht
        have ht' : c ++ 44 :: (32 :: joinS (d :: r)) = v ++ 44 :: (32 :: (joinS (w :: q) ++ t)) := by simpa using ht
        obtain ⟨rfl, h2⟩ := comma_split hc'.1 hv'.1 ht'
        injection h2 with _ h2
        obtain ⟨r', h3, h4⟩ := ih.1 t h2
        exact ⟨r', by rw [preC, if_pos rfl]; exact h3, h4⟩
      · intro r' hr'
        rw [preC] at hr'
        split at hr'
        · rename_i hvc
          subst hvc
          obtain ⟨h1, h2⟩ := ih.2 r' hr'
          refine ⟨?_, h2⟩
          rw [joinS_cons _ _ (by simp), h1, ej]; simp
        · cases hr'

/-- v within c: what is ahead of it (first place) and behind -/
def inC (v : List Nat) : List Nat → Option (List Nat)
  | [] => if v.isPrefixOf [] then some [] else none
  | x :: c => if v.isPrefixOf (x :: c) then some ((x :: c).drop v.length) else inC v c
/-- a run of words stands at the first chunk (its first word may begin within it); the chunks behind -/
def matC : List (List Nat) → List (List Nat) → Option (List (List Nat))
  | [v], c :: r => (findL v c).map (· :: r)
  | v :: w :: q, c :: r => if v.isSuffixOf c then preC (w :: q) r else none
  | _, _ => none
/-- the first place -/
def seekC (run : List (List Nat)) : List (List Nat) → Option (List (List Nat))
  | [] => none
  | c :: r => match matC run (c :: r) with
    | some x => some x
    | none => seekC run r

theorem findL_none {p t : List Nat} (h : ∀ a b, t ≠ a ++ p ++ b) : findL p t = none := by
  induction t with
  | nil =>
    rw [findL, if_neg]
    intro hp
    obtain ⟨r, hr⟩ := pre_iff.mp hp
    exact h [] r (by simpa using hr)
  | cons c t ih =>
    rw [findL, if_neg]
    · exact ih fun a b hab => h (c :: a) b (by rw [hab]; simp)
    · intro hp
      obtain ⟨r, hr⟩ := pre_iff.mp hp
      exact h [] r (by simpa using hr)
theorem findL_some {p t r : List Nat} (h : findL p t = some r) : ∃ a, t = a ++ p ++ r := by
  induction t with
  | nil =>
    rw [findL] at h
    split at h
    · rename_i hp
      obtain ⟨r', hr⟩ := pre_iff.mp hp
      injection h with h
      subst h
      simp at hr
      exact ⟨[], by simp [hr.1]⟩
    · cases h
  | cons c t ih =>
    rw [findL] at h
    split at h
    · rename_i hp
      obtain ⟨r', hr⟩ := pre_iff.mp hp
      injection h with h
      rw [hr, List.drop_left] at h
      subst h
      exact ⟨[], by simpa using hr⟩
    · obtain ⟨a, ha⟩ := ih h
      exact ⟨c :: a, by rw [ha]; simp⟩
theorem findL_isSome {p t a b : List Nat} (h : t = a ++ p ++ b) : ∃ r, findL p t = some r := by
  induction t generalizing a with
  | nil =>
    have : p = [] := by
      have := congrArg List.length h
      simp at this
      exact List.length_eq_zero_iff.mp (by omega)
    subst this
    exact ⟨[], rfl⟩
  | cons c t ih =>
    rw [findL]
    split
    · exact ⟨_, rfl⟩
    · rename_i hp
      cases a with
      | nil => exact absurd (pre_iff.mpr ⟨b, by simpa using h⟩) hp
      | cons d a =>
        simp at h
        exact ih (a := a) (by simpa using h.2)
/-- where p does not begin within c, the search goes on behind it -/
theorem findL_skip {p : List Nat} {c t : List Nat} (h : ∀ d e, c = d ++ e → e ≠ [] → ¬ ∃ b, e ++ t = p ++ b) : findL p (c ++ t) = findL p t := by
  induction c with
  | nil => rfl
  | cons x c ih =>
    rw [List.cons_append, findL, if_neg]
    · exact ih fun d e hde hne => h (x :: d) e (by rw [hde]; rfl) hne
    · intro hp
      obtain ⟨b, hb⟩ := pre_iff.mp hp
      exact h [] (x :: c) rfl (by simp) ⟨b, by simpa using hb⟩

theorem suf_iff {a b : List Nat} : a.isSuffixOf b = true ↔ ∃ r, b = r ++ a := by
  rw [List.isSuffixOf_iff_suffix]
  exact ⟨fun ⟨r, h⟩ => ⟨r, h.symm⟩, fun ⟨r, h⟩ => ⟨r, h.symm⟩⟩
/-- a comma-free text ahead of a comma -/
theorem pre_comma {v e x b : List Nat} (hv : 44 ∉ v) (h : e ++ 44 :: x = v ++ b) : ∃ e', e = v ++ e' ∧ b = e' ++ 44 :: x := by
  rcases List.append_eq_append_iff.mp h with ⟨a', h1, h2⟩ | ⟨c', h1, h2⟩
  · cases a' with
    | nil => exact ⟨[], by simpa using h1.symm, by simpa using h2.symm⟩
    | cons y a' =>
      simp at h2
      exact absurd (by rw [h1, ← h2.1]; simp) hv
  · exact ⟨c', h1, h2⟩
theorem findL_app {v c b x : List Nat} (hv : 44 ∉ v) (h : findL v c = some b) : findL v (c ++ 44 :: x) = some (b ++ 44 :: x) := by
  induction c with
  | nil =>
    rw [findL] at h
    split at h
    · rename_i hp
      obtain ⟨r, hr⟩ := pre_iff.mp hp
      simp at hr
      injection h with h
      subst h
      rw [hr.1]
      show findL [] (44 :: x) = _
      rw [findL, if_pos (by rfl)]; rfl
    · cases h
  | cons y c ih =>
    rw [findL] at h
    rw [List.cons_append, findL]
    split at h
    · rename_i hp
      obtain ⟨r, hr⟩ := pre_iff.mp hp
      rw [hr, List.drop_left] at h
      injection h with h
      subst h
      have e : y :: (c ++ 44 :: x) = v ++ (r ++ 44 :: x) := by rw [← List.cons_append, hr]; simp
      rw [e, if_pos (pre_iff.mpr ⟨_, rfl⟩), List.drop_left]
    · rename_i hp
      rw [if_neg]
      · exact ih h
      · intro hq
        obtain ⟨r, hr⟩ := pre_iff.mp hq
        obtain ⟨e', h1, _⟩ := pre_comma (e := y :: c) hv (by simpa using hr)
        exact hp (pre_iff.mpr ⟨e', h1⟩)
theorem findL_seps {p x : List Nat} (h1 : ∀ b, 44 :: 32 :: x ≠ p ++ b) (h2 : ∀ b, 32 :: x ≠ p ++ b) : findL p (44 :: 32 :: x) = findL p x := by
  rw [findL, if_neg, findL, if_neg]
  · intro hp; obtain ⟨b, hb⟩ := pre_iff.mp hp; exact h2 b hb
  · intro hp; obtain ⟨b, hb⟩ := pre_iff.mp hp; exact h1 b hb
theorem no_sep {v : List Nat} (hv : Plain v) (hne : v ≠ []) (z x : List Nat) : (∀ b, 44 :: 32 :: x ≠ (v ++ z) ++ b) ∧ ∀ b, 32 :: x ≠ (v ++ z) ++ b := by
  cases v with
  | nil => exact absurd rfl hne
  | cons c v =>
    refine ⟨fun b h => ?_, fun b h => ?_⟩
    · simp at h; exact hv.1 (by rw [h.1]; exact .head _)
    · simp at h; exact hv.2 (by rw [h.1]; exact .head _)

theorem seekC_spec : ∀ (run : List (List Nat)), run ≠ [] → (∀ v ∈ run, Plain v ∧ v ≠ []) → ∀ (chs : List (List Nat)), (∀ c ∈ chs, Plain c) → chs ≠ [] →
    findL (joinS run) (joinS chs) = (seekC run chs).map joinS
  | [], h, _, _, _, _ => absurd rfl h
  | [v], _, hv, chs, hc, hne => by
    obtain ⟨hv1, hv2⟩ := hv v (.head _)
    induction chs with
    | nil => exact absurd rfl hne
    | cons c r ih =>
      show findL v (joinS (c :: r)) = _
      rw [seekC, matC]
      cases r with
      | nil =>
        show findL v c = _
        cases hf : findL v c with
        | none => rfl
        | some b => rfl
      | cons d r =>
        rw [joinS_cons c (d :: r) (by simp)]
        cases hf : findL v c with
        | some b =>
          rw [findL_app hv1.1 hf]
          rfl
        | none =>
          show _ = (seekC [v] (d :: r)).map joinS
          rw [findL_skip, findL_seps, ← ih (fun x hx => hc x (.tail _ hx)) (by simp)]
          · rfl
          · have := (no_sep hv1 hv2 [] (joinS (d :: r))).1; simpa using this
          · have := (no_sep hv1 hv2 [] (joinS (d :: r))).2; simpa using this
          · rintro e f rfl hfn ⟨b, hb⟩
            obtain ⟨e', h1, _⟩ := pre_comma hv1.1 hb
            obtain ⟨q, hq⟩ := findL_isSome (p := v) (t := e ++ f) (a := e) (b := e') (by rw [h1]; simp)
            rw [hf] at hq; cases hq
  | v :: w :: q, _, hv, chs, hc, hne => by
    obtain ⟨hv1, hv2⟩ := hv v (.head _)
    have ej : joinS (v :: w :: q) = v ++ 44 :: 32 :: joinS (w :: q) := rfl
    have hrun : ∀ x ∈ w :: q, Plain x := fun x hx => (hv x (.tail _ hx)).1
    induction chs with
    | nil => exact absurd rfl hne
    | cons c r ih =>
      have hc1 := hc c (.head _)
      rw [seekC, matC]
      cases r with
      | nil =>
        show findL _ c = _
        have h1 : findL (joinS (v :: w :: q)) c = none := findL_none fun a b hab => hc1.1 (by rw [hab, ej]; simp)
        have h2 : preC (w :: q) [] = none := by cases q <;> rfl
        rw [h1, h2, ite_self]
        rfl
      | cons d r =>
        have ps := preC_spec (w :: q) (d :: r) (by simp) hrun (fun x hx => hc x (.tail _ hx)) (by simp)
        rw [joinS_cons c (d :: r) (by simp)]
        cases hm : (if v.isSuffixOf c = true then preC (w :: q) (d :: r) else none) with
        | some x =>
          split at hm
          · rename_i hs
            obtain ⟨a, rfl⟩ := suf_iff.mp hs
            obtain ⟨h1, _⟩ := ps.2 x hm
            have hv44 : 44 ∉ a ++ v := hc1.1
            rw [List.append_assoc, findL_skip]
            · show findL _ _ = some (joinS x)
              have e : v ++ 44 :: 32 :: joinS (d :: r) = joinS (v :: w :: q) ++ joinS x := by rw [h1, ej]; simp
              rw [e]
              cases hj : joinS (v :: w :: q) ++ joinS x with
              | nil => rw [ej] at hj; simp at hj
              | cons y z =>
                rw [findL, ← hj, if_pos (pre_iff.mpr ⟨_, rfl⟩), List.drop_left]
            · rintro e f rfl hfn ⟨b, hb⟩
              rw [ej] at hb
              have hb' : (f ++ v) ++ 44 :: (32 :: joinS (d :: r)) = v ++ 44 :: (32 :: (joinS (w :: q) ++ b)) := by simpa using hb
              obtain ⟨h2, _⟩ := comma_split (fun hx => hv44 (by simp at hx ⊢; rcases hx with hx | hx <;> simp [hx])) hv1.1 hb'
              have := congrArg List.length h2
              simp at this
              exact hfn this
          · cases hm
        | none =>
          show _ = (seekC (v :: w :: q) (d :: r)).map joinS
          rw [findL_skip, findL_seps, ← ih (fun x hx => hc x (.tail _ hx)) (by simp)]
          · rw [ej]; have := (no_sep hv1 hv2 (44 :: 32 :: joinS (w :: q)) (joinS (d :: r))).1; simpa using this
          · rw [ej]; have := (no_sep hv1 hv2 (44 :: 32 :: joinS (w :: q)) (joinS (d :: r))).2; simpa using this
          · rintro e f rfl hfn ⟨b, hb⟩
            rw [ej] at hb
            have hb' : f ++ 44 :: (32 :: joinS (d :: r)) = v ++ 44 :: (32 :: (joinS (w :: q) ++ b)) := by simpa using hb
            obtain ⟨h2, h3⟩ := comma_split (fun hx => hc1.1 (by simp [hx])) hv1.1 hb'
            injection h3 with _ h3
            obtain ⟨x, hx, _⟩ := ps.1 b h3
            rw [if_pos (suf_iff.mpr ⟨e, by rw [h2]⟩), hx] at hm
            cases hm
end Mine

-- Scan
namespace Mine
open PySem PySem.StrLaws Builtin Builtin.Str

/-- what a search for one place within lo..hi tells -/
theorem first_in (x y : Str) (lo hi : Nat) : match occurrences x y lo hi 1 with
    | [] => ∀ i, lo ≤ i → ¬ At x y hi i
    | i :: _ => lo ≤ i ∧ At x y hi i ∧ ∀ k, lo ≤ k → k < i → ¬ At x y hi k := by
  have told := occ_first x y hi 1 (Nat.le_refl 1) (List.range' lo (hi + 1 - lo)) lo fun i q => (List.mem_range'_1.mp q).1
  have shown := occ_eq x y lo hi 1
  split
  · rename_i none
    rcases told with ⟨_, no⟩ | ⟨_, a, _, _, got, _⟩
    · exact fun i q A => no i (List.mem_range'_1.mpr ⟨q, Nat.lt_of_le_of_lt (Nat.le_trans (Nat.le_add_right i _) A.1) (by omega)⟩) A
    · rw [← Array.getElem?_toList, ← shown, none] at got
      cases got
  · rename_i i r some
    rcases told with ⟨no, _⟩ | ⟨pre, a, post, parted, got, A, no⟩
    · rw [no, some] at shown
      cases shown
    · rw [← Array.getElem?_toList, ← shown, some] at got
      cases got
      have low := range'_split_from parted
      exact ⟨low.1, A, fun k q1 q2 => no k (low.2 k q1 q2)⟩

abbrev sg (x : Str) : List Nat := x.cps.toList
theorem sg_len (x : Str) : (sg x).length = x.length := by simp [Str.length]
theorem at_iff {x y : Str} {hi i : Nat} (hh : hi ≤ x.length) : At x y hi i ↔ i + y.length ≤ hi ∧ ∃ b, ((sg x).take hi).drop i = sg y ++ b := by
  unfold At
  rw [subAt_eq]
  refine and_congr_right fun h1 => ?_
  rw [beq_iff_eq]
  constructor
  · intro h
    refine ⟨(((sg x).take hi).drop i).drop y.length, ?_⟩
    have e : (((sg x).take hi).drop i).take y.length = sg y := by
      refine Eq.trans ?_ h
      rw [List.drop_take, List.take_take]
      congr 1
      omega
    conv => lhs; rw [← List.take_append_drop y.length (((sg x).take hi).drop i)]
    rw [e]
  · rintro ⟨b, hb⟩
    have e : (((sg x).take hi).drop i).take y.length = sg y := by
      rw [hb, List.take_append_of_le_length (by rw [sg_len]; exact Nat.le_refl _), List.take_of_length_le (by rw [sg_len]; exact Nat.le_refl _)]
    refine Eq.trans ?_ e
    rw [List.drop_take, List.take_take]
    congr 1
    omega

theorem findL_drop_none {p t : List Nat} {lo : Nat} (h : ∀ i, lo ≤ i → ¬ ∃ b, t.drop i = p ++ b) (hl : lo ≤ t.length) : findL p (t.drop lo) = none := by
  refine findL_none fun a b hab => h (lo + a.length) (by omega) ⟨b, ?_⟩
  rw [← List.drop_drop, hab, List.append_assoc, List.drop_left]
theorem findL_drop_some {p t : List Nat} : ∀ (k lo : Nat), lo + k ≤ t.length → (∃ b, t.drop (lo + k) = p ++ b) → (∀ i, lo ≤ i → i < lo + k → ¬ ∃ b, t.drop i = p ++ b) → findL p (t.drop lo) = some (t.drop (lo + k + p.length))
  | 0, lo, hl, ⟨b, hb⟩, _ => by
    rw [Nat.add_zero] at hb ⊢
    have e : t.drop (lo + p.length) = b := by rw [← List.drop_drop, hb, List.drop_left]
    rw [e, hb]
    cases hp : p ++ b with
    | nil =>
      simp at hp
      rw [hp.1, hp.2]; rfl
    | cons c r => rw [findL, ← hp, if_pos (pre_iff.mpr ⟨b, rfl⟩), List.drop_left]
  | k + 1, lo, hl, hb, hn => by
    have h1 : lo < t.length := by omega
    rw [List.drop_eq_getElem_cons h1, findL, if_neg]
    · have := findL_drop_some (p := p) (t := t) k (lo + 1) (by omega) (by rw [show lo + 1 + k = lo + (k + 1) by omega]; exact hb) (fun i h2 h3 => hn i (by omega) (by omega))
      rw [this, show lo + 1 + k = lo + (k + 1) by omega]
    · rw [← List.drop_eq_getElem_cons h1]
      intro hp
      exact hn lo (Nat.le_refl _) (by omega) (pre_iff.mp hp)

def loopL : List (List Nat) → List Nat → Bool
  | [], _ => true
  | p :: r, t => match findL p t with
    | none => false
    | some t' => loopL r t'
theorem emLoop_spec {got : Str} {hi : Nat} (hh : hi ≤ got.length) : ∀ (ws : List Str) (lo : Nat), lo ≤ hi → emLoop got hi ws lo = loopL (ws.map sg) (((sg got).take hi).drop lo)
  | [], _, _ => rfl
  | x :: r, lo, hlo => by
    have hlen : ((sg got).take hi).length = hi := by rw [List.length_take, sg_len]; omega
    rw [emLoop, List.map_cons, loopL]
    have hf := first_in got x lo hi
    cases h0 : occurrences got x lo hi 1 with
    | nil =>
      rw [h0] at hf
      have hn : ∀ i, lo ≤ i → ¬ At got x hi i := hf
      rw [findL_drop_none]
      · intro i hi' ⟨b, hb⟩
        refine hn i hi' ((at_iff hh).mpr ⟨?_, b, hb⟩)
        have := congrArg List.length hb
        rw [List.length_drop, hlen, List.length_append, sg_len] at this
        by_cases hx : x.length = 0
        · exact absurd ((at_iff hh).mpr ⟨by omega, ((sg got).take hi).drop lo, by
            have : sg x = [] := List.length_eq_zero_iff.mp (by rw [sg_len]; exact hx)
            rw [this]; rfl⟩) (hn lo (Nat.le_refl _))
        · omega
      · omega
    | cons i q =>
      rw [h0] at hf
      obtain ⟨h1, h2, h3⟩ : lo ≤ i ∧ At got x hi i ∧ ∀ k, lo ≤ k → k < i → ¬ At got x hi k := hf
      have h2' := (at_iff hh).mp h2
      have e := findL_drop_some (p := sg x) (t := (sg got).take hi) (i - lo) lo (by rw [hlen]; have := h2'.1; omega) (by rw [show lo + (i - lo) = i by omega]; exact h2'.2) (fun k hk1 hk2 ⟨b, hb⟩ => h3 k hk1 (by omega) ((at_iff hh).mpr ⟨by have := h2'.1; omega, b, hb⟩))
      rw [e, show lo + (i - lo) = i by omega, sg_len]
      exact emLoop_spec hh r (i + x.length) h2'.1
end Mine

-- Words
namespace Mine
open PySem
/-- a worth's word -/
def wordOf (v : Int) : Str := if v = 1 then Str.ofString "OPTIMIZED" else if v = 2 then Str.ofString "NEWLOCALS" else if v = 4 then Str.ofString "VARARGS" else if v = 8 then Str.ofString "VARKEYWORDS" else if v = 16 then Str.ofString "NESTED" else if v = 32 then Str.ofString "GENERATOR" else if v = 64 then Str.ofString "NOFREE" else if v = 128 then Str.ofString "COROUTINE" else if v = 256 then Str.ofString "ITERABLE_COROUTINE" else if v = 512 then Str.ofString "ASYNC_GENERATOR" else hexS v
def IsName (v : Int) : Prop := v = 1 ∨ v = 2 ∨ v = 4 ∨ v = 8 ∨ v = 16 ∨ v = 32 ∨ v = 64 ∨ v = 128 ∨ v = 256 ∨ v = 512
def IsHex (v : Int) : Prop := v = 0 ∨ 512 < v ∨ v < 0
theorem wordOf_hex {v : Int} (h : IsHex v) : wordOf v = hexS v := by
  unfold wordOf
  have : v ≠ 1 ∧ v ≠ 2 ∧ v ≠ 4 ∧ v ≠ 8 ∧ v ≠ 16 ∧ v ≠ 32 ∧ v ≠ 64 ∧ v ≠ 128 ∧ v ≠ 256 ∧ v ≠ 512 := by
    unfold IsHex at h
    omega
  obtain ⟨h1, h2, h3, h4, h5, h6, h7, h8, h9, h10⟩ := this
  rw [if_neg h1, if_neg h2, if_neg h3, if_neg h4, if_neg h5, if_neg h6, if_neg h7, if_neg h8, if_neg h9, if_neg h10]
theorem flag_hex {p : Nat} (h : 10 ≤ p) : (512 : Int) < 2 ^ p := by
  obtain ⟨k, rfl⟩ := Nat.exists_eq_add_of_le h
  have := pow2_pos k
  rw [Int.pow_add]
  have e : (2 : Int) ^ 10 = 1024 := by decide
  rw [e]; omega
theorem flagName_eq : ∀ p, flagName p = wordOf (2 ^ p)
  | 0 => rfl
  | 1 => rfl
  | 2 => rfl
  | 3 => rfl
  | 4 => rfl
  | 5 => rfl
  | 6 => rfl
  | 7 => rfl
  | 8 => rfl
  | 9 => rfl
  | p + 10 => by rw [wordOf_hex (.inr (.inl (flag_hex (Nat.le_add_left 10 p))))]; rfl
theorem rest_hex (n : Int) : IsHex (restOf n) := by
  unfold IsHex restOf
  omega
theorem wordsL_eq (n : Int) : wordsL n = (worthsL n).map wordOf := by
  unfold wordsL worthsL
  rw [List.map_append, List.map_map]
  congr 1
  · exact List.map_congr_left fun p _ => flagName_eq p
  · split
    · rw [List.map_cons, List.map_nil, wordOf_hex (rest_hex n)]
    · rfl
theorem worths_valid {n v : Int} (h : v ∈ worthsL n) : IsName v ∨ IsHex v := by
  unfold worthsL at h
  rcases List.mem_append.mp h with h | h
  · obtain ⟨p, _, rfl⟩ := List.mem_map.mp h
    by_cases hp : 10 ≤ p
    · exact .inr (.inr (.inl (flag_hex hp)))
    · left
      unfold IsName
      match p, hp with
      | 0, _ => decide
      | 1, _ => decide
      | 2, _ => decide
      | 3, _ => decide
      | 4, _ => decide
      | 5, _ => decide
      | 6, _ => decide
      | 7, _ => decide
      | 8, _ => decide
      | 9, _ => decide
      | p + 10, hp => exact absurd (Nat.le_add_left 10 p) hp
  · split at h
    · rw [List.mem_singleton.mp h]; exact .inr (rest_hex n)
    · cases h
theorem pl_len (n : Int) : (wordsL n).length = (worthsL n).length := by rw [wordsL_eq, List.length_map]
theorem low_all {n : Int} : ∀ i, (∀ p, p < i → bit n p = false) → lowOf n i = n
  | 0, _ => by unfold lowOf; simp
  | i + 1, h => by
    have h1 := low_all i fun p hp => h p (by omega)
    have h2 := h i (Nat.lt_succ_self i)
    have h3 : n / 2 ^ i % 2 = 0 := by
      unfold bit at h2
      have := Int.emod_two_eq (n / 2 ^ i)
      rcases this with e | e
      · exact e
      · rw [e] at h2; cases h2
    rw [low_succ, h3, h1]; omega
theorem worthsL_ne (n : Int) : worthsL n ≠ [] := by
  intro h
  unfold worthsL at h
  obtain ⟨h1, h2⟩ := List.append_eq_nil_iff.mp h
  have h3 : bits n = [] := List.map_eq_nil_iff.mp h1
  have h4 : ∀ p, p < 32 → bit n p = false := fun p hp => by
    unfold bits at h3
    have := List.filter_eq_nil_iff.mp h3 p (List.mem_range.mpr hp)
    simpa using this
  have h5 : restOf n = n := low_all 32 h4
  split at h2
  · cases h2
  · rename_i hc
    rw [h5] at hc
    exact hc (by omega)

/-- the figures of a number by sixteens -/
def digs (k : Nat) : List Nat := (Nat.toDigits 16 k).map Char.toNat
theorem sg_app (a b : Str) : sg (a ++ b) = sg a ++ sg b := by show (a ++ b).cps.toList = _; rw [Str.cps_append, Array.toList_append]
theorem sg_of (s : String) : sg (Str.ofString s) = s.toList.map Char.toNat := by rw [Str.ofString_eq_toList]
theorem sg_hex (v : Int) : sg (hexS v) = (if v < 0 then [45] else []) ++ 48 :: 120 :: digs v.natAbs := by
  unfold hexS baseText
  rw [sg_app, sg_app]
  have e1 : sg (Str.ofString "0x") = [48, 120] := by decide
  have e3 : sg (Str.ofString (String.ofList (Nat.toDigits 16 v.natAbs))) = digs v.natAbs := by
    rw [sg_of, String.toList_ofList]; rfl
  rw [e1, e3]
  split
  · have e2 : sg (Str.ofString "-") = [45] := by decide
    rw [e2]; rfl
  · have e2 : sg (Str.ofString "") = [] := by decide
    rw [e2]; rfl
theorem digs_lt {k : Nat} (h : k < 16) : digs k = [(Nat.digitChar k).toNat] := by
  unfold digs; rw [Nat.toDigits_of_lt_base h]; rfl
theorem digs_step {k : Nat} (h : 16 ≤ k) : digs k = digs (k / 16) ++ [(Nat.digitChar (k % 16)).toNat] := by
  unfold digs; rw [Nat.toDigits_of_base_le (by decide) h, List.map_append]; rfl
end Mine

-- Digs
namespace Mine
open PySem
def dc (d : Nat) : Nat := (Nat.digitChar d).toNat
theorem dc_inj : ∀ a, a < 16 → ∀ b, b < 16 → dc a = dc b → a = b := by decide
theorem dc_ok : ∀ a, a < 16 → (48 ≤ dc a ∧ dc a ≤ 57) ∨ (97 ≤ dc a ∧ dc a ≤ 102) := by decide
theorem digs_1 {k : Nat} (h : k < 16) : digs k = [dc k] := digs_lt h
theorem digs_2 {k : Nat} (h : 16 ≤ k) : digs k = digs (k / 16) ++ [dc (k % 16)] := digs_step h
theorem digs_len_pos (k : Nat) : 0 < (digs k).length := by
  by_cases h : k < 16
  · rw [digs_1 h]; exact Nat.one_pos
  · rw [digs_2 (by omega), List.length_append]; exact Nat.succ_pos _
theorem digs_ok (k : Nat) : ∀ c ∈ digs k, (48 ≤ c ∧ c ≤ 57) ∨ (97 ≤ c ∧ c ≤ 102) := by
  induction k using Nat.strongRecOn with
  | _ k ih =>
    intro c hc
    by_cases h : k < 16
    · rw [digs_1 h] at hc; rw [List.mem_singleton.mp hc]; exact dc_ok k h
    · rw [digs_2 (by omega)] at hc
      rcases List.mem_append.mp hc with hc | hc
      · exact ih (k / 16) (by omega) c hc
      · rw [List.mem_singleton.mp hc]; exact dc_ok _ (Nat.mod_lt _ (by decide))
theorem digs_mono : ∀ (b a : Nat), a ≤ b → (digs a).length ≤ (digs b).length := by
  intro b
  induction b using Nat.strongRecOn with
  | _ b ih =>
    intro a hab
    by_cases hb : b < 16
    · rw [digs_1 hb, digs_1 (by omega)]; exact Nat.le_refl _
    · rw [digs_2 (k := b) (by omega), List.length_append]
      by_cases ha : a < 16
      · rw [digs_1 ha]; show 1 ≤ _ + 1; omega
      · rw [digs_2 (k := a) (by omega), List.length_append]
        have := ih (b / 16) (by omega) (a / 16) (by omega)
        show _ + 1 ≤ _ + 1
        omega
theorem digs_inj : ∀ (a b : Nat), digs a = digs b → a = b := by
  intro a
  induction a using Nat.strongRecOn with
  | _ a ih =>
    intro b h
    by_cases ha : a < 16
    · by_cases hb : b < 16
      · rw [digs_1 ha, digs_1 hb] at h
        injection h with h
        exact dc_inj a ha b hb h
      · rw [digs_1 ha, digs_2 (k := b) (by omega)] at h
        have := congrArg List.length h
        have h2 := digs_len_pos (b / 16)
        rw [List.length_append, List.length_singleton, List.length_singleton] at this
        omega
    · by_cases hb : b < 16
      · rw [digs_1 hb, digs_2 (k := a) (by omega)] at h
        have := congrArg List.length h
        have h2 := digs_len_pos (a / 16)
        rw [List.length_append, List.length_singleton, List.length_singleton] at this
        omega
      · rw [digs_2 (k := a) (by omega), digs_2 (k := b) (by omega)] at h
        obtain ⟨h1, h2⟩ := List.append_inj' h rfl
        injection h2 with h2
        have e1 := ih (a / 16) (by omega) (b / 16) h1
        have e2 := dc_inj _ (Nat.mod_lt a (by decide)) _ (Nat.mod_lt b (by decide)) h2
        omega

theorem begins_nat {h k : Nat} (hh : 0 < h) : begins (h : Int) (k : Int) = if h < k then begins (h : Int) ((k / 16 : Nat) : Int) else k == h := by
  rw [begins]
  by_cases hk : h < k
  · rw [dif_pos ⟨by omega, by omega⟩, if_pos hk]
    congr 1
  · rw [dif_neg (by omega), if_neg hk]
    by_cases e : k = h
    · subst e; simp
    · rw [beq_false_of_ne e, beq_false_of_ne (by omega)]
theorem digs_pre {h : Nat} (hh : 0 < h) : ∀ k : Nat, (∃ b, digs k = digs h ++ b) ↔ begins (h : Int) (k : Int) = true := by
  intro k
  induction k using Nat.strongRecOn with
  | _ k ih =>
    rw [begins_nat hh]
    by_cases hk : h < k
    · rw [if_pos hk, ← ih (k / 16) (by omega)]
      constructor
      · rintro ⟨b, hb⟩
        have hbne : b ≠ [] := by
          rintro rfl
          rw [List.append_nil] at hb
          have := digs_inj _ _ hb
          omega
        have hpos := digs_len_pos h
        by_cases h16 : k < 16
        · rw [digs_1 h16] at hb
          have := congrArg List.length hb
          rw [List.length_append, List.length_singleton] at this
          exact absurd (List.length_eq_zero_iff.mp (by omega)) hbne
        · rw [digs_2 (by omega)] at hb
          obtain ⟨b', x, rfl⟩ : ∃ b' x, b = b' ++ [x] := ⟨b.dropLast, b.getLast hbne, (List.dropLast_concat_getLast hbne).symm⟩
          rw [← List.append_assoc] at hb
          obtain ⟨h1, _⟩ := List.append_inj' hb rfl
          exact ⟨b', h1⟩
      · rintro ⟨b, hb⟩
        by_cases h16 : k < 16
        · rw [show k / 16 = 0 by omega, digs_1 (by decide)] at hb
          have hpos := digs_len_pos h
          have := congrArg List.length hb
          rw [List.length_append, List.length_singleton] at this
          have hb0 : b = [] := List.length_eq_zero_iff.mp (by omega)
          rw [hb0, List.append_nil, ← digs_1 (by decide)] at hb
          have := digs_inj _ _ hb
          omega
        · exact ⟨b ++ [dc (k % 16)], by rw [digs_2 (by omega), hb, List.append_assoc]⟩
    · rw [if_neg hk]
      constructor
      · rintro ⟨b, hb⟩
        have h1 := digs_mono h k (by omega)
        have := congrArg List.length hb
        rw [List.length_append] at this
        have hb0 : b = [] := List.length_eq_zero_iff.mp (by omega)
        rw [hb0, List.append_nil] at hb
        rw [digs_inj _ _ hb]; simp
      · intro e
        rw [beq_iff_eq.mp e]
        exact ⟨[], by simp⟩
end Mine

-- FitW
namespace Mine
open PySem
abbrev W (v : Int) : List Nat := sg (wordOf v)
abbrev Valid (v : Int) : Prop := IsName v ∨ IsHex v
def nameT : List (Int × String) := [(1, "OPTIMIZED"), (2, "NEWLOCALS"), (4, "VARARGS"), (8, "VARKEYWORDS"), (16, "NESTED"), (32, "GENERATOR"), (64, "NOFREE"), (128, "COROUTINE"), (256, "ITERABLE_COROUTINE"), (512, "ASYNC_GENERATOR")]
def nameL : List (Int × List Nat) := nameT.map fun p => (p.1, p.2.toList.map Char.toNat)
theorem name_mem {v : Int} (h : IsName v) : (v, W v) ∈ nameL := by
  have e : ∀ q ∈ nameL, (q.1, W q.1) ∈ nameL := by
    intro q hq
    have e2 : ∀ q ∈ nameT, W q.1 = q.2.toList.map Char.toNat := by
      intro q hq
      unfold nameT at hq
      simp only [List.mem_cons, List.not_mem_nil, or_false] at hq
      rcases hq with rfl | rfl | rfl | rfl | rfl | rfl | rfl | rfl | rfl | rfl <;> exact sg_of _
    unfold nameL at hq
    obtain ⟨p, hp, rfl⟩ := List.mem_map.mp hq
    refine List.mem_map.mpr ⟨p, hp, ?_⟩
    rw [e2 p hp]
  have e3 : ∃ q ∈ nameL, q.1 = v := by
    unfold IsName at h
    rcases h with rfl | rfl | rfl | rfl | rfl | rfl | rfl | rfl | rfl | rfl <;> decide
  obtain ⟨q, hq, rfl⟩ := e3
  exact e q hq
theorem name_sign {v : Int} (h : IsName v) : ∀ c ∈ W v, (65 ≤ c ∧ c ≤ 90) ∨ c = 95 := by
  have := name_mem h
  revert this
  generalize W v = x
  have e : ∀ q ∈ nameL, ∀ c ∈ q.2, (65 ≤ c ∧ c ≤ 90) ∨ c = 95 := by decide
  exact fun h => e _ h
theorem name_head {v : Int} (h : IsName v) : ∃ c ∈ W v, 65 ≤ c ∧ c ≤ 90 := by
  have := name_mem h
  revert this
  generalize W v = x
  have e : ∀ q ∈ nameL, ∃ c ∈ q.2, 65 ≤ c ∧ c ≤ 90 := by decide
  exact fun h => e _ h
theorem hex_sign {v : Int} (h : IsHex v) : ∀ c ∈ W v, c = 45 ∨ c = 120 ∨ (48 ≤ c ∧ c ≤ 57) ∨ (97 ≤ c ∧ c ≤ 102) := by
  intro c hc
  unfold W at hc
  rw [wordOf_hex h, sg_hex] at hc
  rcases List.mem_append.mp hc with hc | hc
  · split at hc
    · exact .inl (List.mem_singleton.mp hc)
    · cases hc
  · rcases List.mem_cons.mp hc with rfl | hc
    · omega
    · rcases List.mem_cons.mp hc with rfl | hc
      · omega
      · have := digs_ok _ c hc; omega
def sn (v : Int) : List Nat := if v < 0 then [45] else []
theorem W_hex {v : Int} (h : IsHex v) : W v = sn v ++ 48 :: 120 :: digs v.natAbs := by unfold W sn; rw [wordOf_hex h, sg_hex]
theorem x_mem {v : Int} (h : IsHex v) : 120 ∈ W v := by rw [W_hex h]; simp
theorem w_plain {v : Int} (h : Valid v) : Plain (W v) ∧ 46 ∉ W v ∧ W v ≠ [] := by
  rcases h with h | h
  · have := name_sign h
    obtain ⟨c, hc, _⟩ := name_head h
    exact ⟨⟨fun q => by have := this _ q; omega, fun q => by have := this _ q; omega⟩, fun q => by have := this _ q; omega, fun q => by rw [q] at hc; cases hc⟩
  · have := hex_sign h
    exact ⟨⟨fun q => by have := this _ q; omega, fun q => by have := this _ q; omega⟩, fun q => by have := this _ q; omega, fun q => by have := x_mem h; rw [q] at this; cases this⟩
/-- no word within -/
def Dead (x : List Nat) : Prop := ∀ w, Valid w → ∀ c d, x ≠ c ++ W w ++ d
theorem dead_figs {x : List Nat} (h : ∀ c ∈ x, c = 45 ∨ (48 ≤ c ∧ c ≤ 57) ∨ (97 ≤ c ∧ c ≤ 102)) : Dead x := by
  rintro w (hw | hw) c d rfl
  · obtain ⟨y, hy, h1⟩ := name_head hw
    have := h y (by simp [hy]); omega
  · have := h 120 (by simp [x_mem hw]); omega
theorem dead_nil : Dead [] := dead_figs (by simp)
theorem one_x {p q p' q' : List Nat} (hp : 120 ∉ p) (hq : 120 ∉ q) (h : p ++ 120 :: q = p' ++ 120 :: q') : p = p' ∧ q = q' := by
  rcases List.append_eq_append_iff.mp h with ⟨a', h1, h2⟩ | ⟨c', h1, h2⟩
  · cases a' with
    | nil => simp at h1 h2; exact ⟨h1.symm, h2⟩
    | cons y a' =>
      simp at h2
      exact absurd (by rw [h2.2]; simp) hq
  · cases c' with
    | nil => simp at h1 h2; exact ⟨h1, h2.symm⟩
    | cons y c' =>
      simp at h2
      exact absurd (by rw [h1, ← h2.1]; simp) hp
theorem no_x (k : Nat) : 120 ∉ digs k := fun h => by have := digs_ok k _ h; omega
theorem sn_no (v : Int) : ∀ c ∈ sn v, c = 45 := by
  unfold sn; intro c hc
  split at hc
  · exact List.mem_singleton.mp hc
  · cases hc
/-- a number's word within another's -/
theorem hex_in {v u : Int} (hv : IsHex v) (hu : IsHex u) {a b : List Nat} : W u = a ++ W v ++ b ↔ sn u = a ++ sn v ∧ digs u.natAbs = digs v.natAbs ++ b := by
  rw [W_hex hv, W_hex hu]
  constructor
  · intro h
    have h' : (sn u ++ [48]) ++ 120 :: digs u.natAbs = (a ++ sn v ++ [48]) ++ 120 :: (digs v.natAbs ++ b) := by simpa using h
    obtain ⟨h1, h2⟩ := one_x (fun q => by
      rcases List.mem_append.mp q with q | q
      · have := sn_no _ _ q; omega
      · have := List.mem_singleton.mp q; omega) (no_x _) h'
    exact ⟨List.append_cancel_right h1, h2⟩
  · rintro ⟨h1, h2⟩
    rw [h1, h2]; simp
theorem name_in_hex {v u : Int} (hv : IsName v) (hu : IsHex u) (a b : List Nat) : W u ≠ a ++ W v ++ b := by
  intro h
  obtain ⟨c, hc, h1⟩ := name_head hv
  have := hex_sign hu c (by rw [h]; simp [hc])
  omega
theorem hex_in_name {v u : Int} (hv : IsHex v) (hu : IsName u) (a b : List Nat) : W u ≠ a ++ W v ++ b := by
  intro h
  have := name_sign hu 120 (by rw [h]; simp [x_mem hv])
  omega
/-- all cuts of a list -/
def cuts (x : List Nat) : List (List Nat × List Nat) := (List.range (x.length + 1)).map fun i => (x.take i, x.drop i)
theorem cuts_mem {x a b : List Nat} (h : x = a ++ b) : (a, b) ∈ cuts x := by
  subst h
  exact List.mem_map.mpr ⟨a.length, List.mem_range.mpr (by rw [List.length_append]; omega), by simp⟩
/-- a name within a name -/
theorem name_in {v u : Int} (hv : IsName v) (hu : IsName u) {a b : List Nat} (h : W u = a ++ W v ++ b) :
    (v = u ∧ a = [] ∧ b = []) ∨ (v = 32 ∧ u = 512 ∧ a = "ASYNC_".toList.map Char.toNat ∧ b = []) ∨ (v = 128 ∧ u = 256 ∧ a = "ITERABLE_".toList.map Char.toNat ∧ b = []) := by
  have h1 := name_mem hv
  have h2 := name_mem hu
  have e : ∀ q ∈ nameL, ∀ r ∈ nameL, ∀ p ∈ cuts r.2, q.2.isPrefixOf p.2 = true →
      (q.1 = r.1 ∧ p.1 = [] ∧ p.2.drop q.2.length = []) ∨ (q.1 = 32 ∧ r.1 = 512 ∧ p.1 = "ASYNC_".toList.map Char.toNat ∧ p.2.drop q.2.length = []) ∨ (q.1 = 128 ∧ r.1 = 256 ∧ p.1 = "ITERABLE_".toList.map Char.toNat ∧ p.2.drop q.2.length = []) := by decide +kernel
  have h3 := e _ h1 _ h2 (a, W v ++ b) (cuts_mem (by rw [h, List.append_assoc])) (pre_iff.mpr ⟨b, rfl⟩)
  simpa using h3
theorem dead_names : Dead ("ASYNC_".toList.map Char.toNat) ∧ Dead ("ITERABLE_".toList.map Char.toNat) := by
  have key : ∀ x : List Nat, (∀ q ∈ nameL, findL q.2 x = none) → 120 ∉ x → Dead x := by
    rintro x h1 h2 w (hw | hw) c d h
    · obtain ⟨r, hr⟩ := findL_isSome h
      rw [h1 _ (name_mem hw)] at hr; cases hr
    · exact h2 (by rw [h]; simp [x_mem hw])
  exact ⟨key _ (by decide +kernel) (by decide +kernel), key _ (by decide +kernel) (by decide +kernel)⟩
theorem dead_in {v u : Int} (hv : Valid v) (hu : Valid u) {a b : List Nat} (h : W u = a ++ W v ++ b) : Dead a ∧ Dead b := by
  rcases hu with hu | hu
  · rcases hv with hv | hv
    · rcases name_in hv hu h with ⟨_, rfl, rfl⟩ | ⟨_, _, rfl, rfl⟩ | ⟨_, _, rfl, rfl⟩
      · exact ⟨dead_nil, dead_nil⟩
      · exact ⟨dead_names.1, dead_nil⟩
      · exact ⟨dead_names.2, dead_nil⟩
    · exact absurd h (hex_in_name hv hu a b)
  · rcases hv with hv | hv
    · exact absurd h (name_in_hex hv hu a b)
    · obtain ⟨h1, h2⟩ := (hex_in hv hu).mp h
      refine ⟨dead_figs fun c hc => .inl (sn_no u c (by rw [h1]; simp [hc])), dead_figs fun c hc => .inr (digs_ok _ c (by rw [h2]; simp [hc]))⟩
end Mine

-- FitQ
namespace Mine
open PySem
theorem digs_zero {k : Nat} : ∀ {b : List Nat}, digs k = 48 :: b → k = 0 := by
  induction k using Nat.strongRecOn with
  | _ k ih =>
    intro b h
    by_cases hk : k < 16
    · rw [digs_1 hk] at h
      injection h with h
      exact dc_inj k hk 0 (by decide) h
    · rw [digs_2 (by omega)] at h
      cases hd : digs (k / 16) with
      | nil => have := digs_len_pos (k / 16); rw [hd] at this; cases this
      | cons x r =>
        rw [hd] at h
        have h2 : x :: (r ++ [dc (k % 16)]) = 48 :: b := h
        injection h2 with h3 _
        have := ih (k / 16) (by omega) (b := r) (by rw [hd, h3])
        omega
theorem begins_lt {h k : Int} (hh : k < h) : begins h k = false := by
  rw [begins, dif_neg (by omega)]
  exact beq_false_of_ne (by omega)
theorem name_bd {v : Int} (h : IsName v) : 1 ≤ v ∧ v ≤ 512 := by unfold IsName at h; omega
theorem sn_pos {v : Int} (h : 0 ≤ v) : sn v = [] := if_neg (by omega)
theorem sn_neg {v : Int} (h : v < 0) : sn v = [45] := if_pos h
theorem digs_pre' {v : Int} (hv : 0 < v) (k : Nat) : (∃ b, digs k = digs v.natAbs ++ b) ↔ begins v (k : Int) = true := by
  have e : ((v.natAbs : Nat) : Int) = v := by omega
  have := digs_pre (h := v.natAbs) (by omega) k
  rw [e] at this
  exact this

theorem fit_in {v u : Int} (hv : Valid v) (hu : Valid u) (left right : Bool) :
    (∃ a b, W u = a ++ W v ++ b ∧ (left = true → a = []) ∧ (right = true → b = [])) ↔ fits v u left right = true := by
  unfold fits
  by_cases hvu : v = u
  · subst hvu
    rw [if_pos rfl]
    exact ⟨fun _ => rfl, fun _ => ⟨[], [], by simp, fun _ => rfl, fun _ => rfl⟩⟩
  rw [if_neg hvu]
  rcases hv with hv | hv
  · have bv := name_bd hv
    rcases hu with hu | hu
    · have bu := name_bd hu
      constructor
      · rintro ⟨a, b, h, hl, hr⟩
        rcases name_in hv hu h with ⟨e, _, _⟩ | ⟨rfl, rfl, ha, _⟩ | ⟨rfl, rfl, ha, _⟩
        · exact absurd e hvu
        · cases left with
          | true => have := hl rfl; rw [ha] at this; exact absurd this (by decide)
          | false => rfl
        · cases left with
          | true => have := hl rfl; rw [ha] at this; exact absurd this (by decide)
          | false => rfl
      · intro h
        have h5 : ¬ 512 < v := by omega
        have h6 : ¬ v < 0 := by omega
        cases left with
        | true =>
          cases right with
          | true => simp at h
          | false => simp [h5, h6] at h
        | false =>
          by_cases hp : (v = 32 ∧ u = 512) ∨ (v = 128 ∧ u = 256)
          · rcases hp with ⟨rfl, rfl⟩ | ⟨rfl, rfl⟩
            · exact ⟨"ASYNC_".toList.map Char.toNat, [], by
                have e1 : W 512 = "ASYNC_GENERATOR".toList.map Char.toNat := sg_of _
                have e2 : W 32 = "GENERATOR".toList.map Char.toNat := sg_of _
                rw [e1, e2]; decide, (fun h => by cases h), fun _ => rfl⟩
            · exact ⟨"ITERABLE_".toList.map Char.toNat, [], by
                have e1 : W 256 = "ITERABLE_COROUTINE".toList.map Char.toNat := sg_of _
                have e2 : W 128 = "COROUTINE".toList.map Char.toNat := sg_of _
                rw [e1, e2]; decide, (fun h => by cases h), fun _ => rfl⟩
          · have h7 : ((v == 32 && u == 512) || (v == 128 && u == 256)) = false := by
              cases hq : ((v == 32 && u == 512) || (v == 128 && u == 256)) with
              | false => rfl
              | true => simp at hq; exact absurd hq hp
            rw [h7] at h
            cases right with
            | true => simp [h5] at h
            | false => simp [h5, h6] at h
    · constructor
      · rintro ⟨a, b, h, _⟩
        exact absurd h (name_in_hex hv hu a b)
      · intro h
        unfold IsHex at hu
        have h5 : ¬ 512 < v := by omega
        have h6 : ¬ v < 0 := by omega
        have h7 : u ≠ 512 := by omega
        have h8 : u ≠ 256 := by omega
        cases left <;> cases right <;> simp [h5, h6, h7, h8] at h
  · rcases hu with hu | hu
    · have bu := name_bd hu
      constructor
      · rintro ⟨a, b, h, _⟩
        exact absurd h (hex_in_name hv hu a b)
      · intro h
        unfold IsHex at hv
        have h7 : v ≠ 32 := by omega
        have h8 : v ≠ 128 := by omega
        have h6 : ¬ u < 0 := by omega
        by_cases h5 : 512 < v
        · have hb : begins v ((u.natAbs : Nat) : Int) = false := begins_lt (by omega)
          rw [hb] at h
          have h9 : u ≠ -v := by omega
          cases left <;> cases right <;> simp [h5, h6, h7, h8, h9] at h
        · cases left <;> cases right <;> simp [h5, h6, h7, h8] at h
    · have e : (∃ a b, W u = a ++ W v ++ b ∧ (left = true → a = []) ∧ (right = true → b = [])) ↔
          ∃ a b, (sn u = a ++ sn v ∧ digs u.natAbs = digs v.natAbs ++ b) ∧ (left = true → a = []) ∧ (right = true → b = []) :=
        exists_congr fun a => exists_congr fun b => and_congr_left fun _ => hex_in hv hu
      rw [e]
      rcases hv with rfl | hv | hv
      · constructor
        · rintro ⟨a, b, ⟨_, h2⟩, _⟩
          have h3 : digs u.natAbs = 48 :: b := by rw [h2]; rfl
          have := digs_zero h3
          omega
        · intro h
          cases left <;> cases right <;> simp at h
      · rw [sn_pos (v := v) (by omega)]
        have dp := digs_pre' (v := v) (by omega) u.natAbs
        unfold IsHex at hu
        constructor
        · rintro ⟨a, b, ⟨h1, h2⟩, hl, hr⟩
          rw [List.append_nil] at h1
          have hu0 : u ≠ 0 := by
            rintro rfl
            have := dp.mp ⟨b, h2⟩
            rw [begins_lt (by omega)] at this; cases this
          have hul : left = true → 0 < u := fun h => by
            rw [hl h] at h1
            by_cases hn : u < 0
            · rw [sn_neg hn] at h1; cases h1
            · omega
          have hur : right = true → u.natAbs = v.natAbs := fun h => by
            rw [hr h, List.append_nil] at h2
            exact digs_inj _ _ h2
          have hb := dp.mp ⟨b, h2⟩
          cases left <;> cases right <;> simp [hv]
          · right; exact hb
          · have := hur rfl; right; omega
          · exact ⟨hul rfl, hb⟩
          · have := hur rfl; have := hul rfl; omega
        · intro h
          cases left <;> cases right <;> simp [hv] at h
          · have hb : begins v ((u.natAbs : Nat) : Int) = true := by
              rcases h with h | h
              · omega
              · simpa using h
            obtain ⟨b, hb⟩ := dp.mpr hb
            exact ⟨sn u, b, ⟨by simp, hb⟩, (fun h => by cases h), fun h => by cases h⟩
          · have e2 : u.natAbs = v.natAbs := by omega
            exact ⟨sn u, [], ⟨by simp, by rw [e2]; simp⟩, (fun h => by cases h), fun _ => rfl⟩
          · obtain ⟨b, hb⟩ := dp.mpr (by simpa using h.2)
            exact ⟨[], b, ⟨by rw [sn_pos (by omega)]; rfl, hb⟩, (fun _ => rfl), fun h => by cases h⟩
      · rw [sn_neg hv]
        have dp := digs_pre (h := v.natAbs) (by omega) u.natAbs
        have e1 : ((v.natAbs : Nat) : Int) = -v := by omega
        rw [e1] at dp
        constructor
        · rintro ⟨a, b, ⟨h1, h2⟩, hl, hr⟩
          have hun : u < 0 := by
            by_cases hn : u < 0
            · exact hn
            · rw [sn_pos (by omega)] at h1
              have := congrArg List.length h1
              simp at this
          have hb := dp.mp ⟨b, h2⟩
          have e2 : ((u.natAbs : Nat) : Int) = -u := by omega
          rw [e2] at hb
          have hur : right = true → u.natAbs = v.natAbs := fun h => by
            rw [hr h, List.append_nil] at h2
            exact digs_inj _ _ h2
          have h5 : ¬ 512 < v := by omega
          cases left <;> cases right <;> simp [hv, hun, h5, hb]
          all_goals (have := hur rfl; omega)
        · intro h
          have h5 : ¬ 512 < v := by omega
          have key : right = false → u < 0 ∧ begins (-v) (-u) = true := fun hr => by
            subst hr
            cases left <;> simp [hv, h5] at h
            · rcases h with h | h
              · omega
              · exact h
            · exact h
          cases right with
          | true => cases left <;> simp at h <;> omega
          | false =>
            obtain ⟨hun, hb⟩ := key rfl
            have e2 : ((u.natAbs : Nat) : Int) = -u := by omega
            rw [← e2] at hb
            obtain ⟨b, hb⟩ := dp.mpr hb
            exact ⟨[], b, ⟨by rw [sn_neg hun]; rfl, hb⟩, (fun _ => rfl), fun h => by cases h⟩
end Mine

-- RowC
namespace Mine
open PySem
/-- the run lies at the front of the row -/
def liesR (left right : Bool) : List Int → List Int → Bool
  | [], _ => true
  | _ :: _, [] => false
  | v :: q, u :: r => fits v u left (right || !q.isEmpty) && liesR true right q r
/-- the row behind the first place of the run -/
def seekR (run : List Int) : List Int → Option (List Int)
  | [] => none
  | u :: r => if liesR false false run (u :: r) then some ((u :: r).drop run.length) else seekR run r
def loopR : List (List Int) → List Int → Bool
  | [], _ => true
  | run :: rest, row => match seekR run row with
    | none => false
    | some r => loopR rest r
abbrev AllV (l : List Int) : Prop := ∀ v ∈ l, Valid v
abbrev DeadP (x : List Nat) : Prop := Dead x ∧ Plain x
abbrev JW (l : List Int) : List Nat := joinS (l.map W)

theorem w_inj {v u : Int} (hv : Valid v) (hu : Valid u) : W v = W u ↔ v = u := by
  constructor
  · intro h
    have := (fit_in hv hu true true).mp ⟨[], [], by simp [h], fun _ => rfl, fun _ => rfl⟩
    by_cases e : v = u
    · exact e
    · unfold fits at this
      rw [if_neg e] at this
      cases this
  · rintro rfl; rfl
theorem fits_tt {v u : Int} : fits v u true true = decide (v = u) := by
  unfold fits
  by_cases e : v = u
  · rw [if_pos e, decide_eq_true e]
  · rw [if_neg e, decide_eq_false e]; rfl
theorem fits_tf {v u : Int} (hv : Valid v) (hu : Valid u) : (∃ b, W u = W v ++ b) ↔ fits v u true false = true := by
  rw [← fit_in hv hu]
  constructor
  · rintro ⟨b, h⟩; exact ⟨[], b, by simpa using h, fun _ => rfl, fun h => by cases h⟩
  · rintro ⟨a, b, h, hl, _⟩; rw [hl rfl] at h; exact ⟨b, by simpa using h⟩
theorem fits_ft {v u : Int} (hv : Valid v) (hu : Valid u) : (∃ a, W u = a ++ W v) ↔ fits v u false true = true := by
  rw [← fit_in hv hu]
  constructor
  · rintro ⟨b, h⟩; exact ⟨b, [], by simpa using h, (fun h => by cases h), fun _ => rfl⟩
  · rintro ⟨a, b, h, _, hr⟩; rw [hr rfl] at h; exact ⟨a, by simpa using h⟩
theorem fits_ff {v u : Int} (hv : Valid v) (hu : Valid u) : (∃ a b, W u = a ++ W v ++ b) ↔ fits v u false false = true := by
  rw [← fit_in hv hu]
  constructor
  · rintro ⟨a, b, h⟩; exact ⟨a, b, h, (fun h => by cases h), fun h => by cases h⟩
  · rintro ⟨a, b, h, _⟩; exact ⟨a, b, h⟩
theorem plain_cut {a v b : List Nat} (h : Plain (a ++ v ++ b)) : Plain a ∧ Plain b := by
  unfold Plain at *
  simp at h
  simp [h]
theorem deadP_in {v u : Int} (hv : Valid v) (hu : Valid u) {a b : List Nat} (h : W u = a ++ W v ++ b) : DeadP a ∧ DeadP b := by
  have h1 := dead_in hv hu h
  have h2 := plain_cut (h ▸ (w_plain hu).1)
  exact ⟨⟨h1.1, h2.1⟩, h1.2, h2.2⟩

theorem preC_words : ∀ (run row : List Int) (d : List (List Nat)), run ≠ [] → AllV run → AllV row → (∀ c ∈ d, DeadP c) →
    (liesR true false run row = true → ∃ b, DeadP b ∧ preC (run.map W) (row.map W ++ d) = some (b :: ((row.drop run.length).map W ++ d))) ∧
    (liesR true false run row = false → preC (run.map W) (row.map W ++ d) = none)
  | [], _, _, h, _, _, _ => absurd rfl h
  | [v], [], [], _, _, _, _ => ⟨(fun h => by cases h), fun _ => rfl⟩
  | [v], [], c :: d, _, hv, _, hd => ⟨(fun h => by cases h), fun _ => by
      show preC [W v] (c :: d) = none
      rw [preC, if_neg]
      intro hp
      obtain ⟨b, hb⟩ := pre_iff.mp hp
      exact (hd c (.head _)).1 v (hv v (.head _)) [] b (by simpa using hb)⟩
  | [v], u :: r, d, _, hv, hu, _ => by
    have hv' := hv v (.head _)
    have hu' := hu u (.head _)
    have e : liesR true false [v] (u :: r) = fits v u true false := by
      show (fits v u true false && true) = _
      rw [Bool.and_true]
    rw [e]
    show (_ → ∃ b, DeadP b ∧ preC [W v] (W u :: (r.map W ++ d)) = some (b :: (r.map W ++ d))) ∧ (_ → preC [W v] (W u :: (r.map W ++ d)) = none)
    constructor
    · intro h
      obtain ⟨b, hb⟩ := (fits_tf hv' hu').mpr h
      refine ⟨b, (deadP_in hv' hu' (a := []) (by simpa using hb)).2, ?_⟩
      rw [preC, if_pos (pre_iff.mpr ⟨b, hb⟩), hb, List.drop_left]
    · intro h
      rw [preC, if_neg]
      intro hp
      have := (fits_tf hv' hu').mp (pre_iff.mp hp)
      rw [h] at this; cases this
  | v :: w :: q, [], [], _, _, _, _ => ⟨(fun h => by cases h), fun _ => by
      show preC (W v :: W w :: q.map W) [] = none
      rfl⟩
  | v :: w :: q, [], c :: d, _, hv, _, hd => ⟨(fun h => by cases h), fun _ => by
      show preC (W v :: W w :: q.map W) (c :: d) = none
      rw [preC, if_neg]
      intro hp
      exact (hd c (.head _)).1 v (hv v (.head _)) [] [] (by simpa using hp.symm)⟩
  | v :: w :: q, u :: r, d, _, hv, hu, hd => by
    have hv' := hv v (.head _)
    have hu' := hu u (.head _)
    have ih := preC_words (w :: q) r d (by simp) (fun x hx => hv x (.tail _ hx)) (fun x hx => hu x (.tail _ hx)) hd
    have e : liesR true false (v :: w :: q) (u :: r) = (decide (v = u) && liesR true false (w :: q) r) := by
      rw [← fits_tt]; rfl
    rw [e]
    show (_ → ∃ b, DeadP b ∧ preC (W v :: W w :: q.map W) (W u :: (r.map W ++ d)) = some (b :: ((r.drop (w :: q).length).map W ++ d))) ∧ (_ → preC (W v :: W w :: q.map W) (W u :: (r.map W ++ d)) = none)
    rw [preC]
    by_cases hvu : v = u
    · rw [if_pos ((w_inj hv' hu').mpr hvu), decide_eq_true hvu, Bool.true_and]
      exact ih
    · rw [if_neg fun h => hvu ((w_inj hv' hu').mp h), decide_eq_false hvu, Bool.false_and]
      exact ⟨fun h => (by cases h), fun _ => rfl⟩

theorem matC_dead {run : List Int} {c : List Nat} {r : List (List Nat)} (hne : run ≠ []) (hv : AllV run) (hc : Dead c) : matC (run.map W) (c :: r) = none := by
  match run, hne, hv with
  | [v], _, hv =>
    show (findL (W v) c).map (· :: r) = none
    rw [findL_none (hc v (hv v (.head _)))]; rfl
  | v :: w :: q, _, hv =>
    show matC (W v :: W w :: q.map W) (c :: r) = none
    rw [matC, if_neg]
    intro hp
    obtain ⟨a, ha⟩ := suf_iff.mp hp
    exact hc v (hv v (.head _)) a [] (by simpa using ha)
theorem matC_words {run : List Int} {u : Int} {row : List Int} {d : List (List Nat)} (hne : run ≠ []) (hv : AllV run) (hu : AllV (u :: row)) (hd : ∀ c ∈ d, DeadP c) :
    (liesR false false run (u :: row) = true → ∃ b, DeadP b ∧ matC (run.map W) ((u :: row).map W ++ d) = some (b :: (((u :: row).drop run.length).map W ++ d))) ∧
    (liesR false false run (u :: row) = false → matC (run.map W) ((u :: row).map W ++ d) = none) := by
  have hu' := hu u (.head _)
  match run, hne, hv with
  | [v], _, hv =>
    have hv' := hv v (.head _)
    have e : liesR false false [v] (u :: row) = fits v u false false := by
      show (fits v u false false && true) = _
      rw [Bool.and_true]
    rw [e]
    show (_ → ∃ b, DeadP b ∧ (findL (W v) (W u)).map (· :: (row.map W ++ d)) = some (b :: (row.map W ++ d))) ∧ (_ → (findL (W v) (W u)).map (· :: (row.map W ++ d)) = none)
    constructor
    · intro h
      obtain ⟨a, b, hab⟩ := (fits_ff hv' hu').mpr h
      obtain ⟨b', hb'⟩ := findL_isSome hab
      obtain ⟨a', ha'⟩ := findL_some hb'
      exact ⟨b', (deadP_in hv' hu' ha').2, by rw [hb']; rfl⟩
    · intro h
      rw [findL_none]
      · rfl
      · intro a b hab
        have := (fits_ff hv' hu').mp ⟨a, b, hab⟩
        rw [h] at this; cases this
  | v :: w :: q, _, hv =>
    have hv' := hv v (.head _)
    have ih := preC_words (w :: q) row d (by simp) (fun x hx => hv x (.tail _ hx)) (fun x hx => hu x (.tail _ hx)) hd
    have e : liesR false false (v :: w :: q) (u :: row) = (fits v u false true && liesR true false (w :: q) row) := rfl
    rw [e]
    show (_ → ∃ b, DeadP b ∧ matC (W v :: W w :: q.map W) (W u :: (row.map W ++ d)) = some (b :: ((row.drop (w :: q).length).map W ++ d))) ∧ (_ → matC (W v :: W w :: q.map W) (W u :: (row.map W ++ d)) = none)
    rw [matC]
    cases hf : fits v u false true with
    | true =>
      rw [if_pos (suf_iff.mpr ((fits_ft hv' hu').mpr hf)), Bool.true_and]
      exact ih
    | false =>
      rw [if_neg fun h => by
        have := (fits_ft hv' hu').mp (suf_iff.mp h)
        rw [hf] at this; exact absurd this (by decide), Bool.false_and]
      exact ⟨fun h => (by cases h), fun _ => rfl⟩
theorem seekC_dead {run : List Int} (hne : run ≠ []) (hv : AllV run) : ∀ (d r : List (List Nat)), (∀ c ∈ d, DeadP c) → seekC (run.map W) (d ++ r) = seekC (run.map W) r
  | [], _, _ => rfl
  | c :: d, r, hd => by
    rw [List.cons_append, seekC, matC_dead hne hv (hd c (.head _)).1]
    exact seekC_dead hne hv d r fun x hx => hd x (.tail _ hx)
theorem seekC_words {run : List Int} (hne : run ≠ []) (hv : AllV run) {d : List (List Nat)} (hd : ∀ c ∈ d, DeadP c) : ∀ row : List Int, AllV row →
    (∀ rem, seekR run row = some rem → ∃ b, DeadP b ∧ seekC (run.map W) (row.map W ++ d) = some (b :: (rem.map W ++ d))) ∧
    (seekR run row = none → seekC (run.map W) (row.map W ++ d) = none)
  | [], _ => ⟨(fun _ h => by cases h), fun _ => by
      have := seekC_dead hne hv d [] hd
      rw [List.append_nil] at this
      rw [List.map_nil, List.nil_append, this]; rfl⟩
  | u :: row, hu => by
    have hm := matC_words (row := row) hne hv hu hd
    have ih := seekC_words hne hv hd row fun x hx => hu x (.tail _ hx)
    rw [seekR]
    have e : (u :: row).map W ++ d = W u :: (row.map W ++ d) := rfl
    rw [e] at hm ⊢
    rw [seekC]
    cases hl : liesR false false run (u :: row) with
    | true =>
      obtain ⟨b, hb, h⟩ := hm.1 hl
      rw [if_pos rfl, h]
      exact ⟨fun rem hr => ⟨b, hb, by injection hr with hr; rw [hr]⟩, fun h => by cases h⟩
    | false =>
      rw [if_neg (by decide), hm.2 hl]
      exact ih
theorem seekR_mem {run : List Int} : ∀ {row rem : List Int}, seekR run row = some rem → ∀ x ∈ rem, x ∈ row
  | [], _, h => by cases h
  | u :: row, rem, h => by
    rw [seekR] at h
    split at h
    · injection h with h
      subst h
      exact fun x hx => List.mem_of_mem_drop hx
    · exact fun x hx => .tail _ (seekR_mem h x hx)
abbrev RunOk (r : List Int) : Prop := r ≠ [] ∧ AllV r
theorem words_plain {l : List Int} (h : AllV l) : ∀ c ∈ l.map W, Plain c := by
  intro c hc
  obtain ⟨v, hv, rfl⟩ := List.mem_map.mp hc
  exact (w_plain (h v hv)).1
theorem words_plain' {l : List Int} (h : AllV l) : ∀ c ∈ l.map W, Plain c ∧ c ≠ [] := by
  intro c hc
  obtain ⟨v, hv, rfl⟩ := List.mem_map.mp hc
  exact ⟨(w_plain (h v hv)).1, (w_plain (h v hv)).2.2⟩
/-- the loop over the signs is the loop over the words -/
theorem loopL_words : ∀ (runs : List (List Int)) (row : List Int) (d e : List (List Nat)), (∀ r ∈ runs, RunOk r) → AllV row → (∀ c ∈ d, DeadP c) → (∀ c ∈ e, DeadP c) → d ++ (row.map W ++ e) ≠ [] →
    loopL (runs.map JW) (joinS (d ++ (row.map W ++ e))) = loopR runs row
  | [], _, _, _, _, _, _, _, _ => rfl
  | run :: rest, row, d, e, hr, hrow, hd, he, hne => by
    obtain ⟨h1, h2⟩ := hr run (.head _)
    rw [List.map_cons, loopL, loopR]
    have hc : ∀ c ∈ d ++ (row.map W ++ e), Plain c := by
      intro c hc
      rcases List.mem_append.mp hc with hc | hc
      · exact (hd c hc).2
      · rcases List.mem_append.mp hc with hc | hc
        · exact words_plain hrow c hc
        · exact (he c hc).2
    show (match findL (joinS (run.map W)) _ with | none => false | some t' => loopL (rest.map JW) t') = _
    rw [seekC_spec (run.map W) (fun q => h1 (List.map_eq_nil_iff.mp q)) (words_plain' h2) _ hc hne, seekC_dead h1 h2 d _ hd]
    have hs := seekC_words h1 h2 he row hrow
    cases hq : seekR run row with
    | none => rw [hs.2 hq]; rfl
    | some rem =>
      obtain ⟨b, hb, h⟩ := hs.1 rem hq
      rw [h]
      exact loopL_words rest rem [b] e (fun r h => hr r (.tail _ h)) (fun x hx => hrow x (seekR_mem hq x hx)) (fun c hc => by rw [List.mem_singleton.mp hc]; exact hb) he (by simp)
end Mine

-- GoesR
namespace Mine
open PySem
theorem liesR_len : ∀ {run row : List Int} {l r : Bool}, liesR l r run row = true → run.length ≤ row.length
  | [], _, _, _, _ => Nat.zero_le _
  | _ :: _, [], _, _, h => by cases h
  | v :: q, u :: t, l, r, h => by
    rw [liesR, Bool.and_eq_true] at h
    have := liesR_len h.2
    simp only [List.length_cons]; omega
theorem seekR_len : ∀ {row rem run : List Int}, seekR run row = some rem → run.length + rem.length ≤ row.length
  | [], _, _, h => by cases h
  | u :: row, rem, run, h => by
    rw [seekR] at h
    split at h
    · rename_i hl
      have := liesR_len hl
      injection h with h
      rw [← h, List.length_drop]
      omega
    · have := seekR_len h
      simp only [List.length_cons]; omega
theorem seekR_short {run row : List Int} (h : row.length < run.length) : seekR run row = none := by
  cases hq : seekR run row with
  | none => rfl
  | some rem => have := seekR_len hq; omega
/-- the all of lies is liesR -/
theorem all_R : ∀ (run row : List Int) (l r : Bool), run.length ≤ row.length →
    ((List.range run.length).all fun k => fits (run.getD k 0) (row.getD k 0) (l || decide (0 < k)) (r || decide (k + 1 < run.length))) = liesR l r run row
  | [], _, _, _, _ => rfl
  | _ :: _, [], _, _, h => by simp at h
  | v :: q, u :: t, l, r, h => by
    have ih := all_R q t true r (by simpa using h)
    rw [liesR, ← ih, List.length_cons, List.range_succ_eq_map, List.all_cons, List.all_map]
    congr 1
    · show fits v u (l || decide (0 < 0)) (r || decide (0 + 1 < q.length + 1)) = _
      have e1 : (l || decide (0 < 0)) = l := by simp
      have e2 : decide (0 + 1 < q.length + 1) = !q.isEmpty := by cases q <;> simp
      rw [e1, e2]
    · congr 1
      funext k
      show fits (q.getD k 0) (t.getD k 0) (l || decide (0 < k + 1)) (r || decide (k + 1 + 1 < q.length + 1)) = _
      have e1 : (l || decide (0 < k + 1)) = (true || decide (0 < k)) := by simp
      have e2 : decide (k + 1 + 1 < q.length + 1) = decide (k + 1 < q.length) := by simp
      rw [e1, e2]
theorem lies_R {run row : List Int} {g : Nat} {l r : Bool} (h : g + run.length ≤ row.length) :
    lies run row g l r = (!((l && decide (0 < g)) || (r && decide (g + run.length < row.length))) && liesR l r run (row.drop g)) := by
  unfold lies
  have e : ∀ k, row.getD (g + k) 0 = (row.drop g).getD k 0 := fun k => by
    rw [List.getD_eq_getElem?_getD, List.getD_eq_getElem?_getD, List.getElem?_drop]
  simp only [e]
  rw [all_R run (row.drop g) l r (by rw [List.length_drop]; omega)]
  cases ((l && decide (0 < g)) || (r && decide (g + run.length < row.length))) <;> rfl

theorem seek_unf {run row : List Int} {l r : Bool} {g : Nat} : seek run row l r g = if g + run.length ≤ row.length ∧ lies run row g l r = false then seek run row l r (g + 1) else g := by
  rw [seek]
  split <;> rfl
/-- a run with nothing at its sides -/
theorem seek_mid {run row : List Int} (hne : run ≠ []) : ∀ (n g : Nat), row.length - g = n → g ≤ row.length →
    (∀ rem, seekR run (row.drop g) = some rem → seek run row false false g + run.length ≤ row.length ∧ rem = row.drop (seek run row false false g + run.length)) ∧
    (seekR run (row.drop g) = none → row.length < seek run row false false g + run.length)
  | 0, g, hn, hg => by
    have hl : 0 < run.length := List.length_pos_iff.mpr hne
    have e : row.drop g = [] := List.drop_eq_nil_of_le (by omega)
    rw [e, seek_unf, if_neg (by omega)]
    exact ⟨fun _ h => (by cases h), fun _ => by omega⟩
  | n + 1, g, hn, hg => by
    have ih := seek_mid (run := run) (row := row) hne n (g + 1) (by omega) (by omega)
    have hd : row.drop g = row[g] :: row.drop (g + 1) := List.drop_eq_getElem_cons (by omega)
    rw [seek_unf]
    by_cases hc : g + run.length ≤ row.length
    · have hl := lies_R (l := false) (r := false) hc
      have hl' : lies run row g false false = liesR false false run (row.drop g) := by rw [hl]; rfl
      rw [hl']
      cases hq : liesR false false run (row.drop g) with
      | true =>
        rw [if_neg (by simp)]
        rw [hd] at hq ⊢
        rw [seekR, if_pos hq, ← hd, List.drop_drop]
        exact ⟨fun rem h => ⟨hc, by injection h with h; exact h.symm⟩, fun h => by cases h⟩
      | false =>
        rw [if_pos ⟨hc, rfl⟩]
        rw [hd] at hq ⊢
        rw [seekR, if_neg (by rw [hq]; decide)]
        exact ih
    · rw [if_neg (by omega), seekR_short (by rw [List.length_drop]; omega)]
      exact ⟨fun _ h => (by cases h), fun _ => by omega⟩
/-- bound to the front, beyond it -/
theorem seek_late {run row : List Int} {r : Bool} : ∀ (n g : Nat), row.length + 1 - g = n → 0 < g → row.length < seek run row true r g + run.length
  | 0, g, hn, hg => by
    rw [seek_unf, if_neg (by omega)]; omega
  | n + 1, g, hn, hg => by
    rw [seek_unf]
    by_cases hc : g + run.length ≤ row.length
    · rw [if_pos ⟨hc, by rw [lies_R hc, decide_eq_true hg]; rfl⟩]
      exact seek_late n (g + 1) (by omega) (by omega)
    · rw [if_neg (by omega)]; omega
theorem seek_first {run row : List Int} :
    (liesR true false run row = true → seek run row true false 0 = 0) ∧ (liesR true false run row = false → row.length < seek run row true false 0 + run.length) := by
  constructor
  · intro h
    have hl := liesR_len h
    have e := lies_R (g := 0) (l := true) (r := false) (run := run) (row := row) (by omega)
    rw [List.drop_zero, h] at e
    rw [seek_unf, if_neg]
    rw [e]; simp
  · intro h
    rw [seek_unf]
    by_cases hc : 0 + run.length ≤ row.length
    · have e := lies_R (g := 0) (l := true) (r := false) (run := run) (row := row) hc
      rw [List.drop_zero, h, Bool.and_false] at e
      rw [if_pos ⟨hc, e⟩]
      exact seek_late _ 1 rfl (by decide)
    · rw [if_neg (by omega)]; omega
theorem seek_both {run row : List Int} : (seek run row true true 0 + run.length ≤ row.length) ↔ run.length = row.length ∧ liesR true true run row = true := by
  rw [seek_unf]
  by_cases hc : 0 + run.length ≤ row.length
  · have e := lies_R (g := 0) (l := true) (r := true) (run := run) (row := row) hc
    rw [List.drop_zero] at e
    by_cases hlt : 0 + run.length < row.length
    · rw [decide_eq_true hlt] at e
      rw [if_pos ⟨hc, by rw [e]; rfl⟩]
      have := seek_late (run := run) (row := row) (r := true) _ (0 + 1) rfl (by decide)
      omega
    · rw [decide_eq_false hlt] at e
      have e' : lies run row 0 true true = liesR true true run row := by rw [e]; rfl
      rw [e']
      cases hq : liesR true true run row with
      | true => rw [if_neg (by simp)]; simp; omega
      | false =>
        rw [if_pos ⟨hc, rfl⟩]
        have := seek_late (run := run) (row := row) (r := true) _ (0 + 1) rfl (by decide)
        simp; omega
  · rw [if_neg (by omega)]
    omega
/-- bound to the end -/
theorem seek_last {run row : List Int} : ∀ (n g : Nat), row.length + 1 - g = n →
    (seek run row false true g + run.length ≤ row.length ↔ g + run.length ≤ row.length ∧ liesR false true run (row.drop (row.length - run.length)) = true)
  | 0, g, hn => by
    rw [seek_unf, if_neg (by omega)]
    constructor
    · intro h; omega
    · intro h; exact h.1
  | n + 1, g, hn => by
    have ih := seek_last (run := run) (row := row) n (g + 1) (by omega)
    rw [seek_unf]
    by_cases hc : g + run.length ≤ row.length
    · have e := lies_R (l := false) (r := true) hc
      by_cases hlt : g + run.length < row.length
      · rw [decide_eq_true hlt] at e
        rw [if_pos ⟨hc, by rw [e]; rfl⟩, ih]
        refine and_congr_left fun _ => ?_
        omega
      · rw [decide_eq_false hlt] at e
        have e' : lies run row g false true = liesR false true run (row.drop g) := by rw [e]; rfl
        rw [e', show row.length - run.length = g by omega]
        cases hq : liesR false true run (row.drop g) with
        | true => rw [if_neg (by simp)]; simp
        | false =>
          rw [if_pos ⟨hc, rfl⟩, ih, show row.length - run.length = g by omega, hq]
          simp
    · rw [if_neg (by omega)]
      constructor
      · intro h; omega
      · intro h; exact h.1

/-- the rest behind the runs -/
def loopO : List (List Int) → List Int → Option (List Int)
  | [], row => some row
  | run :: rest, row => match seekR run row with
    | none => none
    | some r => loopO rest r
theorem loopR_O : ∀ (runs : List (List Int)) (row : List Int), loopR runs row = (loopO runs row).isSome
  | [], _ => rfl
  | run :: rest, row => by
    rw [loopR, loopO]
    cases seekR run row with
    | none => rfl
    | some r => exact loopR_O rest r
theorem loopO_len : ∀ {runs : List (List Int)} {row rem : List Int}, loopO runs row = some rem → rem.length ≤ row.length
  | [], _, _, h => by injection h with h; rw [h]; exact Nat.le_refl _
  | run :: rest, row, rem, h => by
    rw [loopO] at h
    cases hq : seekR run row with
    | none => rw [hq] at h; cases h
    | some r =>
      rw [hq] at h
      have h1 := loopO_len h
      have h2 := seekR_len hq
      omega
/-- runs with nothing at their sides, in goesFrom -/
theorem goes_mid {front back : Bool} {row : List Int} {n : Nat} : ∀ (rs tail : List (List Int)) (k g : Nat), (∀ r ∈ rs, r ≠ []) → (k ≠ 0 ∨ front = true) → k + rs.length + tail.length = n → (tail ≠ [] ∨ back = true) → g ≤ row.length →
    (∀ rem, loopO rs (row.drop g) = some rem → ∃ g', rem = row.drop g' ∧ g ≤ g' ∧ g' ≤ row.length ∧ goesFrom front back row n k (rs ++ tail) g = goesFrom front back row n (k + rs.length) tail g') ∧
    (loopO rs (row.drop g) = none → goesFrom front back row n k (rs ++ tail) g = false)
  | [], tail, k, g, _, _, _, _, hg => ⟨fun rem h => ⟨g, by injection h with h; exact h.symm, Nat.le_refl _, hg, rfl⟩, fun h => by cases h⟩
  | run :: rs, tail, k, g, hr, hk, hn, ht, hg => by
    have hs := seek_mid (row := row) (hr run (.head _)) _ g rfl hg
    have e1 : (k == 0 && !front) = false := by
      rcases hk with h | h
      · rw [beq_false_of_ne h]; rfl
      · rw [h]; simp
    have e2 : (k + 1 == n && !back) = false := by
      rcases ht with h | h
      · have := List.length_pos_iff.mpr h
        rw [beq_false_of_ne (by rw [List.length_cons] at hn; omega)]; rfl
      · rw [h]; simp
    rw [List.cons_append, goesFrom, loopO, e1, e2]
    cases hq : seekR run (row.drop g) with
    | none =>
      exact ⟨fun _ h => (by cases h), fun _ => if_pos (hs.2 hq)⟩
    | some r =>
      obtain ⟨h1, h2⟩ := hs.1 r hq
      have h3 := seekR_len hq
      have ih := goes_mid (front := front) (back := back) (row := row) (n := n) rs tail (k + 1) (seek run row false false g + run.length) (fun r h => hr r (.tail _ h)) (.inl (Nat.succ_ne_zero _)) (by rw [List.length_cons] at hn; omega) ht h1
      rw [← h2] at ih
      show (∀ rem, loopO rs r = some rem → _) ∧ (loopO rs r = none → _)
      have e3 : (if row.length < seek run row false false g + run.length then false else goesFrom front back row n (k + 1) (rs ++ tail) (seek run row false false g + run.length)) = goesFrom front back row n (k + 1) (rs ++ tail) (seek run row false false g + run.length) := if_neg (by omega)
      have hle : g ≤ seek run row false false g + run.length := by
        have h5 := congrArg List.length h2
        rw [List.length_drop] at h3 h5
        omega
      refine ⟨fun rem h => ?_, fun h => ?_⟩
      · obtain ⟨g', a1, a2, a3, a4⟩ := ih.1 rem h
        refine ⟨g', a1, by omega, a3, ?_⟩
        rw [List.length_cons, show k + (rs.length + 1) = k + 1 + rs.length by omega]
        exact e3.trans a4
      · exact e3.trans (ih.2 h)
end Mine

-- Goes4
namespace Mine
open PySem
theorem liesR_app : ∀ {run A Z : List Int} {l r : Bool}, run.length ≤ A.length → liesR l r run (A ++ Z) = liesR l r run A
  | [], _, _, _, _, _ => by rw [liesR, liesR]
  | _ :: _, [], _, _, _, h => by simp at h
  | v :: q, u :: t, Z, l, r, h => by
    rw [List.cons_append, liesR, liesR, liesR_app (by simpa using h)]
theorem seekR_app {run Z : List Int} : ∀ {A rem : List Int}, seekR run A = some rem → seekR run (A ++ Z) = some (rem ++ Z)
  | [], _, h => by cases h
  | u :: A, rem, h => by
    rw [seekR] at h
    rw [List.cons_append, seekR, ← List.cons_append]
    by_cases hc : run.length ≤ (u :: A).length
    · rw [liesR_app hc]
      split at h
      · rename_i hl
        injection h with h
        rw [if_pos hl, ← h, List.drop_append_of_le_length hc]
      · rename_i hl
        rw [if_neg hl]
        exact seekR_app h
    · split at h
      · rename_i hl
        exact absurd (liesR_len hl) hc
      · rw [seekR_short (by simp only [List.length_cons] at hc; omega)] at h
        cases h
theorem seekR_cut {run Z : List Int} (hne : run ≠ []) : ∀ {A r : List Int}, seekR run (A ++ Z) = some r → Z.length ≤ r.length → ∃ r', r = r' ++ Z ∧ seekR run A = some r'
  | [], r, h, hz => by
    have h1 := seekR_len h
    have h2 := List.length_pos_iff.mpr hne
    rw [List.nil_append] at h1
    omega
  | u :: A, r, h, hz => by
    rw [List.cons_append, seekR, ← List.cons_append] at h
    split at h
    · rename_i hl
      injection h with h
      have h1 := congrArg List.length h
      rw [List.length_drop, List.length_append] at h1
      have hl2 := liesR_len hl
      rw [List.length_append] at hl2
      have hc : run.length ≤ (u :: A).length := by omega
      rw [liesR_app hc] at hl
      rw [List.drop_append_of_le_length hc] at h
      exact ⟨_, h.symm, by rw [seekR, if_pos hl]⟩
    · rename_i hl
      have hl' : ¬ liesR false false run (u :: A) = true := fun q => hl (by rw [liesR_app (liesR_len q)]; exact q)
      obtain ⟨r', h1, h2⟩ := seekR_cut hne h hz
      exact ⟨r', h1, by rw [seekR, if_neg hl']; exact h2⟩
theorem loop_take : ∀ {runs : List (List Int)} {A Z : List Int}, (∀ r ∈ runs, r ≠ []) → (loopR runs A = true ↔ ∃ rem, loopO runs (A ++ Z) = some rem ∧ Z.length ≤ rem.length)
  | [], A, Z, _ => ⟨fun _ => ⟨_, rfl, by rw [List.length_append]; omega⟩, fun _ => rfl⟩
  | run :: rest, A, Z, hr => by
    have ih := fun {A : List Int} => loop_take (runs := rest) (A := A) (Z := Z) fun r h => hr r (.tail _ h)
    rw [loopR]
    constructor
    · intro h
      cases hq : seekR run A with
      | none => rw [hq] at h; cases h
      | some r =>
        rw [hq] at h
        rw [loopO, seekR_app hq]
        exact ih.mp h
    · rintro ⟨rem, h1, h2⟩
      rw [loopO] at h1
      cases hq : seekR run (A ++ Z) with
      | none => rw [hq] at h1; cases h1
      | some r =>
        rw [hq] at h1
        obtain ⟨r', rfl, h3⟩ := seekR_cut (hr run (.head _)) hq (Nat.le_trans h2 (loopO_len h1))
        rw [h3]
        exact ih.mpr ⟨rem, h1, h2⟩

theorem goes_tail {front : Bool} {row : List Int} {n k g : Nat} {rs : List (List Int)} {rl : List Int} (hr : ∀ r ∈ rs, r ≠ []) (hk : k ≠ 0 ∨ front = true) (hn : k + rs.length + 1 = n) (hg : g ≤ row.length) :
    goesFrom front false row n k (rs ++ [rl]) g = true ↔ rl.length ≤ row.length ∧ liesR false true rl (row.drop (row.length - rl.length)) = true ∧ g ≤ row.length - rl.length ∧ loopR rs ((row.take (row.length - rl.length)).drop g) = true := by
  have hm := goes_mid (front := front) (back := false) (row := row) (n := n) rs [rl] k g hr hk hn (.inl (by simp)) hg
  have cut : rl.length ≤ row.length → g ≤ row.length - rl.length → row.drop g = (row.take (row.length - rl.length)).drop g ++ row.drop (row.length - rl.length) := fun h1 h2 => by
    conv => lhs; rw [← List.take_append_drop (row.length - rl.length) row]
    rw [List.drop_append_of_le_length (by rw [List.length_take]; omega)]
  cases hq : loopO rs (row.drop g) with
  | none =>
    rw [hm.2 hq]
    constructor
    · intro h; cases h
    · rintro ⟨h1, _, h3, h4⟩
      obtain ⟨rem, h5, _⟩ := (loop_take (Z := row.drop (row.length - rl.length)) hr).mp h4
      rw [← cut h1 h3, hq] at h5; cases h5
  | some rem =>
    obtain ⟨g', h1, h2, h3, h4⟩ := hm.1 rem hq
    rw [h4, goesFrom]
    have e1 : (k + rs.length == 0 && !front) = false := by
      rcases hk with h | h
      · rw [beq_false_of_ne (by omega)]; rfl
      · rw [h]; simp
    have e2 : (k + rs.length + 1 == n && !false) = true := by rw [hn]; simp
    rw [e1, e2]
    have hs := seek_last (run := rl) (row := row) _ g' rfl
    have hl := congrArg List.length h1
    rw [List.length_drop] at hl
    have e3 : (let g := seek rl row false true g' + rl.length; if row.length < g then false else goesFrom front false row n (k + rs.length + 1) [] g) = true ↔ seek rl row false true g' + rl.length ≤ row.length := by
      show (if row.length < seek rl row false true g' + rl.length then false else true) = true ↔ _
      split
      · constructor
        · intro h; cases h
        · intro h; omega
      · constructor
        · intro h; omega
        · intro h; rfl
    rw [e3, hs]
    constructor
    · rintro ⟨a1, a2⟩
      refine ⟨by omega, a2, by omega, (loop_take (Z := row.drop (row.length - rl.length)) hr).mpr ⟨rem, ?_, ?_⟩⟩
      · rw [← cut (by omega) (by omega)]; exact hq
      · rw [List.length_drop]; omega
    · rintro ⟨a1, a2, a3, a4⟩
      obtain ⟨rem', h5, h6⟩ := (loop_take (Z := row.drop (row.length - rl.length)) hr).mp a4
      rw [← cut a1 a3, hq] at h5
      injection h5 with h5
      subst h5
      rw [List.length_drop] at h6
      exact ⟨by omega, a2⟩

theorem goes_tt {runs : List (List Int)} {row : List Int} (hr : ∀ r ∈ runs, r ≠ []) : goes runs true true row = loopR runs row := by
  have hm := goes_mid (front := true) (back := true) (row := row) (n := runs.length) runs [] 0 0 hr (.inr rfl) (by simp) (.inr rfl) (Nat.zero_le _)
  rw [List.append_nil, List.drop_zero] at hm
  unfold goes
  rw [loopR_O]
  cases hq : loopO runs row with
  | none => rw [hm.2 hq]; rfl
  | some rem =>
    obtain ⟨g', _, _, _, h⟩ := hm.1 rem hq
    rw [h]; rfl
theorem goes_ft {r0 : List Int} {rs : List (List Int)} {row : List Int} (hr : ∀ r ∈ rs, r ≠ []) : goes (r0 :: rs) false true row = (liesR true false r0 row && loopR rs (row.drop r0.length)) := by
  unfold goes
  rw [goesFrom]
  have e1 : ((0 : Nat) == 0 && !false) = true := rfl
  have e2 : (0 + 1 == (r0 :: rs).length && !true) = false := by rw [Bool.not_true, Bool.and_false]
  rw [e1, e2]
  have hs := seek_first (run := r0) (row := row)
  cases hq : liesR true false r0 row with
  | false =>
    rw [Bool.false_and]
    exact if_pos (hs.2 hq)
  | true =>
    have hl := liesR_len hq
    rw [hs.1 hq, Bool.true_and]
    have hm := goes_mid (front := false) (back := true) (row := row) (n := (r0 :: rs).length) rs [] 1 r0.length hr (.inl (by decide)) (by simp; omega) (.inr rfl) hl
    rw [List.append_nil] at hm
    have e3 : (let g := 0 + r0.length; if row.length < g then false else goesFrom false true row (r0 :: rs).length (0 + 1) rs g) = goesFrom false true row (r0 :: rs).length 1 rs r0.length := by
      show (if row.length < 0 + r0.length then false else goesFrom false true row (r0 :: rs).length (0 + 1) rs (0 + r0.length)) = _
      rw [if_neg (by omega), Nat.zero_add, Nat.zero_add]
    rw [e3, loopR_O]
    cases hq : loopO rs (row.drop r0.length) with
    | none => rw [hm.2 hq]; rfl
    | some rem =>
      obtain ⟨g', _, _, _, h⟩ := hm.1 rem hq
      rw [h]; rfl
theorem goes_tf {rl : List Int} {rs : List (List Int)} {row : List Int} (hr : ∀ r ∈ rs, r ≠ []) : goes (rs ++ [rl]) true false row = true ↔ rl.length ≤ row.length ∧ liesR false true rl (row.drop (row.length - rl.length)) = true ∧ loopR rs (row.take (row.length - rl.length)) = true := by
  unfold goes
  rw [goes_tail hr (.inr rfl) (by simp) (Nat.zero_le _), List.drop_zero]
  simp
theorem goes_ff {r0 rl : List Int} {rs : List (List Int)} {row : List Int} (hr : ∀ r ∈ rs, r ≠ []) : goes (r0 :: (rs ++ [rl])) false false row = true ↔
    liesR true false r0 row = true ∧ rl.length ≤ row.length ∧ liesR false true rl (row.drop (row.length - rl.length)) = true ∧ r0.length ≤ row.length - rl.length ∧ loopR rs ((row.take (row.length - rl.length)).drop r0.length) = true := by
  unfold goes
  rw [goesFrom]
  have e1 : ((0 : Nat) == 0 && !false) = true := rfl
  have e2 : (0 + 1 == (r0 :: (rs ++ [rl])).length && !false) = false := by
    rw [beq_false_of_ne (by simp)]; rfl
  rw [e1, e2]
  have hs := seek_first (run := r0) (row := row)
  cases hq : liesR true false r0 row with
  | false =>
    constructor
    · intro h
      exfalso
      have h' : (if row.length < seek r0 row true false 0 + r0.length then false else goesFrom false false row (r0 :: (rs ++ [rl])).length (0 + 1) (rs ++ [rl]) (seek r0 row true false 0 + r0.length)) = true := h
      rw [if_pos (hs.2 hq)] at h'
      cases h'
    · rintro ⟨h, _⟩; cases h
  | true =>
    have hl := liesR_len hq
    rw [hs.1 hq]
    have e3 : (let g := 0 + r0.length; if row.length < g then false else goesFrom false false row (r0 :: (rs ++ [rl])).length (0 + 1) (rs ++ [rl]) g) = goesFrom false false row (r0 :: (rs ++ [rl])).length 1 (rs ++ [rl]) r0.length := by
      show (if row.length < 0 + r0.length then false else goesFrom false false row (r0 :: (rs ++ [rl])).length (0 + 1) (rs ++ [rl]) (0 + r0.length)) = _
      rw [if_neg (by omega), Nat.zero_add, Nat.zero_add]
    rw [e3, goes_tail hr (.inl (by decide)) (by simp; omega) hl]
    simp
theorem liesR_all : ∀ {run row : List Int}, run.length = row.length → (liesR true true run row = true ↔ run = row)
  | [], [], _ => ⟨fun _ => rfl, fun _ => rfl⟩
  | [], _ :: _, h => by cases h
  | _ :: _, [], h => by cases h
  | v :: q, u :: t, h => by
    have ih := liesR_all (run := q) (row := t) (by simpa using h)
    rw [liesR, Bool.and_eq_true, ih, Bool.true_or, fits_tt, decide_eq_true_iff, List.cons.injEq]
theorem goes_1 {r row : List Int} : goes [r] false false row = true ↔ r = row := by
  unfold goes
  rw [goesFrom]
  have e3 : (let g := seek r row ((0 : Nat) == 0 && !false) (0 + 1 == [r].length && !false) 0 + r.length; if row.length < g then false else goesFrom false false row [r].length (0 + 1) [] g) = true ↔ seek r row true true 0 + r.length ≤ row.length := by
    show (if row.length < seek r row true true 0 + r.length then false else true) = true ↔ _
    split
    · constructor
      · intro h; cases h
      · intro h; omega
    · constructor
      · intro h; omega
      · intro h; rfl
  rw [e3, seek_both]
  constructor
  · rintro ⟨h1, h2⟩; exact (liesR_all h1).mp h2
  · rintro rfl; exact ⟨rfl, (liesR_all rfl).mpr rfl⟩
end Mine

-- SplitP
namespace Mine
open PySem PySem.StrLaws Builtin Builtin.Str
def joinG (s : List Nat) : List (List Nat) → List Nat
  | [] => []
  | [p] => p
  | p :: q :: r => p ++ s ++ joinG s (q :: r)
theorem joinG_S : ∀ l, joinG [44, 32] l = joinS l
  | [] => rfl
  | [_] => rfl
  | p :: q :: r => by
    rw [joinG, joinG_S (q :: r)]
    show p ++ [44, 32] ++ joinS (q :: r) = p ++ 44 :: 32 :: joinS (q :: r)
    simp only [List.append_assoc, List.cons_append, List.nil_append]
theorem sg_join (y : Str) : ∀ l : List Str, sg (Str.join y l) = joinG (sg y) (l.map sg)
  | [] => rfl
  | [x] => rfl
  | x :: z :: r => by
    show sg (x ++ y ++ Str.join y (z :: r)) = _
    rw [sg_app, sg_app, sg_join y (z :: r)]; rfl
theorem sg_inj {a b : Str} (h : sg a = sg b) : a = b := Str.ext' (Array.toList_inj.mp h)
theorem sgs_inj {a b : List Str} (h : a.map sg = b.map sg) : a = b := (List.map_inj_right fun _ _ h => sg_inj h).mp h
theorem at_all {x y : Str} {i : Nat} : At x y x.length i ↔ i + y.length ≤ x.length ∧ ∃ b, (sg x).drop i = sg y ++ b := by
  rw [at_iff (Nat.le_refl _), List.take_of_length_le (by rw [sg_len]; exact Nat.le_refl _)]
theorem no_at {x y : Str} {c : Nat} {r p t : List Nat} {a : Nat} (hy : sg y = c :: r) (hp : c ∉ p) (hx : (sg x).drop a = p ++ t) : ∀ k, a ≤ k → k < a + p.length → ¬ At x y x.length k := by
  intro k h1 h2 hA
  obtain ⟨_, b, hb⟩ := at_all.mp hA
  have e : (sg x).drop k = (p.drop (k - a)) ++ t := by
    rw [show k = a + (k - a) by omega, ← List.drop_drop, hx, List.drop_append_of_le_length (by omega), show a + (k - a) - a = k - a by omega]
  rw [hb, hy] at e
  cases hd : p.drop (k - a) with
  | nil =>
    have := congrArg List.length hd
    rw [List.length_drop] at this
    simp at this; omega
  | cons z q =>
    rw [hd] at e
    injection e with e _
    exact hp (e ▸ List.mem_of_mem_drop (by rw [hd]; exact .head _))
theorem sg_sub (x : Str) (a b : Nat) : sg (strSub x a b) = ((sg x).drop a).take (b - a) := strSub_toList x a b
theorem parts_spec {x y : Str} {c : Nat} {r : List Nat} (hy : sg y = c :: r) : ∀ (pieces : List (List Nat)) (cuts : List Nat) (a f : Nat), pieces ≠ [] → (∀ p ∈ pieces, c ∉ p) → ChainG x y x.length a cuts f → (∀ k, f ≤ k → ¬ At x y x.length k) →
    a ≤ x.length → (sg x).drop a = joinG (sg y) pieces → (partsFrom x y.length a cuts).map sg = pieces
  | [], _, _, _, h, _, _, _, _, _ => absurd rfl h
  | [p], cuts, a, f, _, hp, hG, _, ha, hx => by
    have hx' : (sg x).drop a = p ++ [] := by rw [hx, List.append_nil]; rfl
    have hn := no_at hy (hp p (.head _)) hx'
    have hyl : 1 ≤ y.length := by rw [← sg_len, hy]; simp
    have hl := congrArg List.length hx'
    rw [List.length_drop, sg_len, List.append_nil] at hl
    cases cuts with
    | nil =>
      show [sg (strSub x a x.length)] = [p]
      rw [sg_sub, hx', List.append_nil, List.take_of_length_le (by omega)]
    | cons d cuts =>
      have h1 := hG.2.1.1
      exact absurd hG.2.1 (hn d hG.1 (by omega))
  | p :: q :: rest, cuts, a, f, _, hp, hG, hf, ha, hx => by
    have hx' : (sg x).drop a = p ++ (sg y ++ joinG (sg y) (q :: rest)) := by rw [hx, joinG, List.append_assoc]
    have hn := no_at hy (hp p (.head _)) hx'
    have hl := congrArg List.length hx'
    rw [List.length_drop, sg_len, List.length_append, List.length_append, sg_len] at hl
    have hd : (sg x).drop (a + p.length) = sg y ++ joinG (sg y) (q :: rest) := by
      rw [← List.drop_drop, hx', List.drop_left]
    have hyl : 1 ≤ y.length := by rw [← sg_len, hy]; simp
    have hA : At x y x.length (a + p.length) := at_all.mpr ⟨by omega, _, hd⟩
    cases cuts with
    | nil =>
      have e : f = a := hG
      subst e
      exact absurd hA (hf _ (by omega))
    | cons d cuts =>
      obtain ⟨h1, h2, h3, h4⟩ := hG
      have e : d = a + p.length := by
        rcases Nat.lt_trichotomy d (a + p.length) with h | h | h
        · exact absurd h2 (hn d h1 h)
        · exact h
        · exact absurd hA (h3 _ (by omega) h)
      subst e
      show sg (strSub x a (a + p.length)) :: (partsFrom x y.length (a + p.length + y.length) cuts).map sg = p :: q :: rest
      rw [sg_sub, hx', show a + p.length - a = p.length by omega, List.take_left]
      congr 1
      refine parts_spec hy (q :: rest) cuts _ f (by simp) (fun z hz => hp z (.tail _ hz)) h4 hf h2.1 ?_
      rw [← List.drop_drop, hd, ← sg_len y, List.drop_left]
theorem kind_of {y : Str} (h : ∀ c ∈ sg y, c < 256) : Builtin.Str.strKind y = 1 := by
  unfold Builtin.Str.strKind
  rw [if_pos]
  rw [← Array.all_toList, List.all_eq_true]
  exact fun c hc => decide_eq_true (h c hc)
theorem kind_1 {x y : Str} (hy : Builtin.Str.strKind y = 1) : decide (Builtin.Str.strKind x < Builtin.Str.strKind y) = false := by
  rw [hy]
  refine decide_eq_false ?_
  unfold Builtin.Str.strKind
  split
  · omega
  · split <;> omega
theorem split_spec {x y : Str} {c : Nat} {r : List Nat} {pieces : List (List Nat)} (hy : sg y = c :: r) (hk : Builtin.Str.strKind y = 1) (hne : pieces ≠ []) (hp : ∀ p ∈ pieces, c ∉ p) (hx : sg x = joinG (sg y) pieces) :
    (Txt.split x y).map sg = pieces := by
  have hyl : 1 ≤ y.length := by rw [← sg_len, hy]; simp
  obtain ⟨f, hG, hn⟩ := occ_tight x y hyl
  have key := parts_spec hy pieces _ 0 f hne hp hG hn (Nat.zero_le _) (by rw [List.drop_zero, hx])
  unfold Txt.split
  split
  · rename_i hc
    rw [kind_1 hk, Bool.or_false, decide_eq_true_eq] at hc
    match pieces, hne, hx with
    | [p], _, hx => show [sg x] = [p]; rw [hx]; rfl
    | p :: q :: rest, _, hx =>
      exfalso
      have hl := congrArg List.length hx
      rw [sg_len, joinG, List.length_append, List.length_append, sg_len] at hl
      omega
  · split
    · rename_i he
      have e0 : occurrences x y 0 x.length (x.length + 1) = [] := List.isEmpty_iff.mp he
      rw [e0] at key
      rw [← key]
      show [sg x] = [sg (strSub x 0 x.length)]
      rw [sub_whole]
    · rw [partsBetween_eq]
      exact key
theorem occ_spec {x y : Str} {c : Nat} {r : List Nat} {pieces : List (List Nat)} (hy : sg y = c :: r) (hne : pieces ≠ []) (hp : ∀ p ∈ pieces, c ∉ p) (hx : sg x = joinG (sg y) pieces) :
    (occurrences x y 0 x.length 1).isEmpty = decide (pieces.length = 1) := by
  have hyl : 1 ≤ y.length := by rw [← sg_len, hy]; simp
  have hf := found_iff x y
  match pieces, hne, hp, hx with
  | [p], _, hp, hx =>
    rw [decide_eq_true (show [p].length = 1 from rfl)]
    cases hq : (occurrences x y 0 x.length 1).isEmpty with
    | true => rfl
    | false =>
      rw [hq] at hf
      obtain ⟨i, h1, h2⟩ := hf.mp rfl
      have hx' : (sg x).drop 0 = p ++ [] := by rw [List.drop_zero, hx, List.append_nil]; rfl
      have hl := congrArg List.length hx'
      rw [List.length_drop, sg_len, List.append_nil] at hl
      exact absurd (⟨h1, h2⟩ : At x y x.length i) (no_at hy (hp p (.head _)) hx' i (Nat.zero_le _) (by omega))
  | p :: q :: rest, _, hp, hx =>
    rw [decide_eq_false (by simp)]
    have hd : (sg x).drop p.length = sg y ++ joinG (sg y) (q :: rest) := by rw [hx, joinG, List.append_assoc, List.drop_left]
    have hl := congrArg List.length hx
    rw [sg_len, joinG, List.length_append, List.length_append, sg_len] at hl
    have hA : At x y x.length p.length := at_all.mpr ⟨by omega, _, hd⟩
    have := hf.mpr ⟨_, hA.1, hA.2⟩
    simpa using this
theorem sg_dots : sg dots = [46, 46, 46] := by decide
theorem sg_comma : sg (Str.ofString ", ") = [44, 32] := by decide
theorem sg_pretty (n : Int) : sg (pretty n) = JW (worthsL n) := by
  unfold pretty
  rw [sg_join, sg_comma, joinG_S, wordsL_eq, List.map_map]
  rfl
theorem allV (n : Int) : AllV (worthsL n) := fun _ h => worths_valid h
theorem pl_split (n : Int) : Txt.split (pretty n) (Str.ofString ", ") = wordsL n := by
  refine sgs_inj ?_
  have hne : (worthsL n).map W ≠ [] := fun h => worthsL_ne n (List.map_eq_nil_iff.mp h)
  rw [split_spec (pieces := (worthsL n).map W) sg_comma (kind_of (by rw [sg_comma]; decide)) hne (fun p hp => ((words_plain (allV n)) p hp).1) (by rw [sg_pretty, sg_comma, joinG_S]), wordsL_eq, List.map_map]
  rfl
end Mine

-- RunsP
namespace Mine
open PySem
abbrev D3 : List Nat := [46, 46, 46]
abbrev C2 : List Nat := [44, 32]
theorem joinG_snoc (s : List Nat) (l : List Nat) : ∀ R : List (List Nat), joinG s (R ++ [l]) = R.flatMap (· ++ s) ++ l
  | [] => rfl
  | [p] => by
    show p ++ s ++ l = (p ++ s) ++ [] ++ l
    rw [List.append_nil]
  | p :: q :: r => by
    rw [List.cons_append, List.cons_append, joinG, ← List.cons_append, joinG_snoc s l (q :: r)]
    simp only [List.flatMap_cons, List.append_assoc]
theorem JW_snoc (l : List Int) (v : Int) : JW (l ++ [v]) = (l.map W).flatMap (· ++ C2) ++ W v := by
  show joinS ((l ++ [v]).map W) = _
  rw [List.map_append, ← joinG_S]
  exact joinG_snoc C2 (W v) (l.map W)
def fd (front : Bool) : List Nat := if front then D3 else []
def ed (b : Bool) : List (List Nat) := if b then [[]] else []
theorem sg_empty : sg Str.empty = [] := rfl
theorem sg_comma' : sg comma = C2 := sg_comma
theorem snoc_eq (R : List (List Int)) (l : List Int) (v : Int) : snocLast (R ++ [l]) v = R ++ [l ++ [v]] := by
  unfold snocLast
  rw [List.dropLast_concat]
  simp
/-- the text and the runs ahead of turn k -/
structure Inv (x : Int) (front : Bool) (ns : List Int) (k : Nat) (R : List (List Int)) (l : List Int) : Prop where
  runs : runsT x ns k = R ++ [l]
  full : ∀ r ∈ R, r ≠ []
  mem : ∀ r ∈ R ++ [l], ∀ v ∈ r, v ∈ ns
  text : sg (patT x front (ns.map wordOf) k) = fd front ++ (R.map JW).flatMap (· ++ D3) ++ (l.map W).flatMap (· ++ C2)
theorem inv_0 (x : Int) (front : Bool) (ns : List Int) : Inv x front ns 0 [] [] where
  runs := rfl
  full := by simp
  mem := by simp
  text := by
    show sg (if front then dots else Str.empty) = _
    cases front
    · rfl
    · show sg dots = _
      rw [sg_dots]; rfl
theorem getD_mem {ns : List Int} {k : Nat} (h : k < ns.length) : ns.getD k 0 ∈ ns := by
  rw [List.getD_eq_getElem?_getD, List.getElem?_eq_getElem h]
  exact List.getElem_mem h
theorem word_getD {ns : List Int} {k : Nat} (h : k < ns.length) : (ns.map wordOf).getD k Str.empty = wordOf (ns.getD k 0) := by
  rw [List.getD_eq_getElem?_getD, List.getD_eq_getElem?_getD, List.getElem?_map, List.getElem?_eq_getElem h]; rfl
theorem inv_text {x : Int} {front : Bool} {ns : List Int} {k : Nat} {R : List (List Int)} {l : List Int} (I : Inv x front ns k R l) (h : k < ns.length) :
    sg (patT x front (ns.map wordOf) k ++ (ns.map wordOf).getD k Str.empty) = fd front ++ (R.map JW).flatMap (· ++ D3) ++ JW (l ++ [ns.getD k 0]) := by
  rw [sg_app, I.text, word_getD h, JW_snoc, List.append_assoc]
theorem inv_step {x : Int} {front : Bool} {ns : List Int} {k : Nat} {R : List (List Int)} {l : List Int} (I : Inv x front ns k R l) (h : k + 1 < ns.length) : ∃ R' l', Inv x front ns (k + 1) R' l' := by
  have ht := inv_text I (by omega)
  have hm : ∀ r ∈ R ++ [l ++ [ns.getD k 0]], ∀ v ∈ r, v ∈ ns := by
    intro r hr v hv
    rcases List.mem_append.mp hr with hr | hr
    · exact I.mem r (List.mem_append.mpr (.inl hr)) v hv
    · rw [List.mem_singleton.mp hr] at hv
      rcases List.mem_append.mp hv with hv | hv
      · exact I.mem l (List.mem_append.mpr (.inr (.head _))) v hv
      · rw [List.mem_singleton.mp hv]; exact getD_mem (by omega)
  have e2 : k + 1 < (ns.map wordOf).length := by rw [List.length_map]; exact h
  cases hc : cutB x k with
  | true =>
    refine ⟨R ++ [l ++ [ns.getD k 0]], [], ?_, ?_, ?_, ?_⟩
    · rw [runsT, I.runs, snoc_eq, if_pos ⟨h, hc⟩]
    · intro r hr
      rcases List.mem_append.mp hr with hr | hr
      · exact I.full r hr
      · rw [List.mem_singleton.mp hr]; simp
    · intro r hr v hv
      rcases List.mem_append.mp hr with hr | hr
      · exact hm r hr v hv
      · rw [List.mem_singleton.mp hr] at hv; cases hv
    · rw [patT, sg_app, ht, if_pos e2, hc, if_pos rfl, sg_dots]
      simp
  | false =>
    refine ⟨R, l ++ [ns.getD k 0], ?_, I.full, hm, ?_⟩
    · rw [runsT, I.runs, snoc_eq, if_neg (fun q => by rw [hc] at q; exact absurd q.2 (by decide)), List.append_nil]
    · rw [patT, sg_app, ht, if_pos e2, hc, if_neg (by decide), sg_comma', JW_snoc]
      simp
theorem inv_all (x : Int) (front : Bool) (ns : List Int) : ∀ k, k < ns.length → ∃ R l, Inv x front ns k R l
  | 0, _ => ⟨[], [], inv_0 x front ns⟩
  | k + 1, h => by
    obtain ⟨R, l, I⟩ := inv_all x front ns k (by omega)
    exact inv_step I h
/-- the pattern is its runs, joined by dots -/
theorem pat_runs (x : Int) (front back : Bool) (n : Int) : ∃ R l, runsT x (worthsL n) (worthsL n).length = R ++ [l] ∧ (∀ r ∈ R ++ [l], RunOk r) ∧
    sg (pat x front back (wordsL n)) = joinG D3 (ed front ++ ((R ++ [l]).map JW ++ ed back)) := by
  have hne := worthsL_ne n
  have hlen : 0 < (worthsL n).length := List.length_pos_iff.mpr hne
  obtain ⟨k, hk⟩ : ∃ k, (worthsL n).length = k + 1 := ⟨_, (Nat.sub_add_cancel hlen).symm⟩
  obtain ⟨R, l, I⟩ := inv_all x front (worthsL n) k (by omega)
  have ht := inv_text I (by omega)
  refine ⟨R, l ++ [(worthsL n).getD k 0], ?_, ?_, ?_⟩
  · rw [hk, runsT, I.runs, snoc_eq, if_neg (by omega), List.append_nil]
  · intro r hr
    rcases List.mem_append.mp hr with hr | hr
    · exact ⟨I.full r hr, fun v hv => allV n v (I.mem r (List.mem_append.mpr (.inl hr)) v hv)⟩
    · rw [List.mem_singleton.mp hr]
      refine ⟨by simp, fun v hv => ?_⟩
      rcases List.mem_append.mp hv with hv | hv
      · exact allV n v (I.mem l (List.mem_append.mpr (.inr (.head _))) v hv)
      · rw [List.mem_singleton.mp hv]; exact allV n _ (getD_mem (by omega))
  · unfold pat
    have e3 : sg (patT x front (wordsL n) (wordsL n).length) = fd front ++ (R.map JW).flatMap (· ++ D3) ++ JW (l ++ [(worthsL n).getD k 0]) := by
      rw [wordsL_eq, List.length_map, hk, patT, sg_app, ht, if_neg (by rw [List.length_map]; omega), sg_empty, List.append_nil]
    rw [sg_app, e3]
    have e4 : sg (if back = true then dots else Str.empty) = if back = true then D3 else [] := by
      cases back
      · rfl
      · exact sg_dots
    rw [e4]
    generalize l ++ [(worthsL n).getD k 0] = l'
    rw [List.map_append]
    show fd front ++ (R.map JW).flatMap (· ++ D3) ++ JW l' ++ (if back = true then D3 else []) = joinG D3 (ed front ++ (R.map JW ++ [JW l'] ++ ed back))
    generalize R.map JW = P
    generalize JW l' = z
    cases front <;> cases back
    · show [] ++ P.flatMap (· ++ D3) ++ z ++ [] = joinG D3 ([] ++ (P ++ [z] ++ []))
      rw [List.nil_append, List.append_nil, List.nil_append, List.append_nil, joinG_snoc]
    · show [] ++ P.flatMap (· ++ D3) ++ z ++ D3 = joinG D3 ([] ++ (P ++ [z] ++ [[]]))
      rw [List.nil_append, List.nil_append, joinG_snoc, List.flatMap_append]
      simp
    · show D3 ++ P.flatMap (· ++ D3) ++ z ++ [] = joinG D3 ([[]] ++ (P ++ [z] ++ []))
      rw [List.append_nil, List.append_nil, ← List.append_assoc, joinG_snoc]
      simp
    · show D3 ++ P.flatMap (· ++ D3) ++ z ++ D3 = joinG D3 ([[]] ++ (P ++ [z] ++ [[]]))
      rw [← List.append_assoc, joinG_snoc]
      simp
theorem JW_dots {l : List Int} (h : AllV l) : 46 ∉ JW l := by
  have key : ∀ chs : List (List Nat), (∀ c ∈ chs, 46 ∉ c) → 46 ∉ joinS chs := by
    intro chs
    induction chs with
    | nil => intro _ h; cases h
    | cons c r ih =>
      intro hc
      cases r with
      | nil => exact hc c (.head _)
      | cons d r =>
        rw [joinS_cons _ _ (by simp)]
        have h1 := hc c (.head _)
        have h2 := ih fun x hx => hc x (.tail _ hx)
        simp only [List.mem_append, List.mem_cons, not_or]
        exact ⟨h1, by decide, by decide, h2⟩
  refine key _ fun c hc => ?_
  obtain ⟨v, hv, rfl⟩ := List.mem_map.mp hc
  exact (w_plain (h v hv)).2.1
theorem JW_ne {l : List Int} (h : RunOk l) : JW l ≠ [] := by
  obtain ⟨h1, h2⟩ := h
  match l, h1, h2 with
  | [v], _, h2 => exact (w_plain (h2 v (.head _))).2.2
  | v :: w :: q, _, _ =>
    show joinS (W v :: W w :: q.map W) ≠ []
    rw [joinS_cons _ _ (by simp)]
    simp
theorem pieces_free {R : List (List Int)} {front back : Bool} (h : ∀ r ∈ R, RunOk r) : ∀ p ∈ ed front ++ (R.map JW ++ ed back), 46 ∉ p := by
  have he : ∀ b, ∀ p ∈ ed b, 46 ∉ p := by
    intro b p hp
    cases b
    · cases hp
    · rw [List.mem_singleton.mp hp]; simp
  intro p hp
  rcases List.mem_append.mp hp with hp | hp
  · exact he front p hp
  · rcases List.mem_append.mp hp with hp | hp
    · obtain ⟨r, hr, rfl⟩ := List.mem_map.mp hp
      exact JW_dots (h r hr).2
    · exact he back p hp
end Mine

-- EndsP
namespace Mine
open PySem PySem.StrLaws Builtin Builtin.Str
/-- the last piece, on signs -/
def emLastL (T : List Nat) (ps : List (List Nat)) (lo : Nat) : Bool :=
  if ps.getLastD [] ≠ [] then
    if (ps.getLastD []).isSuffixOf T then (if T.length - (ps.getLastD []).length < lo then false else loopL ps.dropLast ((T.take (T.length - (ps.getLastD []).length)).drop lo)) else false
  else if T.length < lo then false else loopL ps (T.drop lo)
def emWsL (T : List Nat) (ps : List (List Nat)) : Bool :=
  if ps.headD [] ≠ [] then (if (ps.headD []).isPrefixOf T then emLastL T ps.tail (ps.headD []).length else false) else emLastL T ps 0
theorem starts_L (x y : Str) : Txt.startswith x y = (sg y).isPrefixOf (sg x) := by
  rw [Bool.eq_iff_iff, pre_iff]
  have h := at_all (x := x) (y := y) (i := 0)
  rw [List.drop_zero] at h
  unfold Txt.startswith
  rw [Bool.and_eq_true, decide_eq_true_eq]
  constructor
  · intro q; exact (h.mp q).2
  · rintro ⟨b, hb⟩
    refine h.mpr ⟨?_, b, hb⟩
    have := congrArg List.length hb
    rw [List.length_append, sg_len, sg_len] at this
    omega
theorem ends_L (x y : Str) : Txt.endswith x y = (sg y).isSuffixOf (sg x) := by
  rw [Bool.eq_iff_iff, suf_iff]
  unfold Txt.endswith
  rw [Bool.and_eq_true, decide_eq_true_eq]
  constructor
  · rintro ⟨h1, h2⟩
    have hA : At x y x.length (x.length - y.length) := ⟨by omega, h2⟩
    obtain ⟨_, b, hb⟩ := at_all.mp hA
    have hl := congrArg List.length hb
    rw [List.length_drop, List.length_append, sg_len, sg_len] at hl
    have e : b = [] := List.length_eq_zero_iff.mp (by omega)
    rw [e, List.append_nil] at hb
    exact ⟨(sg x).take (x.length - y.length), by rw [← hb, List.take_append_drop]⟩
  · rintro ⟨a, ha⟩
    have hl := congrArg List.length ha
    rw [List.length_append, sg_len, sg_len] at hl
    have hA : At x y x.length (x.length - y.length) := at_all.mpr ⟨by omega, [], by
      rw [ha, List.append_nil, show x.length - y.length = a.length by omega, List.drop_left]⟩
    exact ⟨by omega, hA.2⟩
theorem len_ne (z : Str) : (z.length ≠ 0) ↔ sg z ≠ [] := by
  rw [← sg_len]
  exact not_congr List.length_eq_zero_iff
theorem lastD_sg (ws : List Str) : sg (ws.getLastD Str.empty) = (ws.map sg).getLastD [] := by
  rw [List.getLastD_eq_getLast?, List.getLastD_eq_getLast?, List.getLast?_map]
  cases ws.getLast? <;> rfl
theorem headD_sg (ws : List Str) : sg (ws.headD Str.empty) = (ws.map sg).headD [] := by
  cases ws <;> rfl
theorem emLast_L (got : Str) (ws : List Str) (lo : Nat) (hlo : lo ≤ got.length) : emLast got ws lo = emLastL (sg got) (ws.map sg) lo := by
  unfold emLast emLastL
  rw [← lastD_sg]
  simp only [len_ne, ends_L, sg_len]
  by_cases hz : sg (ws.getLastD Str.empty) ≠ []
  · rw [if_pos hz, if_pos hz]
    by_cases hs : (sg (ws.getLastD Str.empty)).isSuffixOf (sg got) = true
    · rw [if_pos hs, if_pos hs]
      by_cases hl : got.length - (ws.getLastD Str.empty).length < lo
      · rw [if_pos hl, if_pos hl]
      · rw [if_neg hl, if_neg hl, emLoop_spec (by omega) _ _ (by omega), List.map_dropLast]
    · rw [if_neg hs, if_neg hs]
  · rw [if_neg hz, if_neg hz, if_neg (by omega), if_neg (by omega), emLoop_spec (Nat.le_refl _) _ _ hlo, List.take_of_length_le (by rw [sg_len]; exact Nat.le_refl _)]
theorem emWs_L (got : Str) (ws : List Str) : emWs got ws = emWsL (sg got) (ws.map sg) := by
  unfold emWs emWsL
  rw [← headD_sg]
  simp only [len_ne, starts_L, sg_len]
  by_cases hz : sg (ws.headD Str.empty) ≠ []
  · rw [if_pos hz, if_pos hz]
    by_cases hs : (sg (ws.headD Str.empty)).isPrefixOf (sg got) = true
    · rw [if_pos hs, if_pos hs, emLast_L, List.map_tail]
      obtain ⟨b, hb⟩ := pre_iff.mp hs
      have := congrArg List.length hb
      rw [List.length_append, sg_len, sg_len] at this
      omega
    · rw [if_neg hs, if_neg hs]
  · rw [if_neg hz, if_neg hz, emLast_L _ _ _ (Nat.zero_le _)]

theorem joinS_app (pre : List (List Nat)) (c : List Nat) (r : List (List Nat)) : joinS (pre ++ c :: r) = pre.flatMap (· ++ C2) ++ joinS (c :: r) := by
  induction pre with
  | nil => rfl
  | cons p pre ih =>
    rw [List.cons_append, joinS_cons _ _ (by simp), ih, List.flatMap_cons]
    simp
theorem joinS_head (a v : List Nat) (r : List (List Nat)) : joinS ((a ++ v) :: r) = a ++ joinS (v :: r) := by
  cases r with
  | nil => rfl
  | cons d r => rw [joinS_cons (a ++ v) _ (by simp), joinS_cons v _ (by simp), List.append_assoc]
theorem joinS_inj : ∀ {a b : List (List Nat)}, a ≠ [] → b ≠ [] → (∀ c ∈ a, Plain c) → (∀ c ∈ b, Plain c) → joinS a = joinS b → a = b
  | [], _, h, _, _, _, _ => absurd rfl h
  | _, [], _, h, _, _, _ => absurd rfl h
  | [c], [d], _, _, _, _, h => by rw [show c = d from h]
  | [c], d :: e :: r, _, _, ha, _, h => by
    rw [joinS_cons d _ (by simp)] at h
    have h' : c = d ++ 44 :: 32 :: joinS (e :: r) := h
    exact absurd (by rw [h']; simp) (ha c (.head _)).1
  | c :: e :: r, [d], _, _, _, hb, h => by
    rw [joinS_cons c _ (by simp)] at h
    have h' : c ++ 44 :: 32 :: joinS (e :: r) = d := h
    exact absurd (by rw [← h']; simp) (hb d (.head _)).1
  | c :: e :: r, d :: f :: s, _, _, ha, hb, h => by
    rw [joinS_cons c _ (by simp), joinS_cons d _ (by simp)] at h
    obtain ⟨rfl, h2⟩ := comma_split (ha c (.head _)).1 (hb d (.head _)).1 h
    injection h2 with _ h2
    rw [joinS_inj (by simp) (by simp) (fun x hx => ha x (.tail _ hx)) (fun x hx => hb x (.tail _ hx)) h2]
/-- a joined run at the end of the joined chunks -/
theorem sufC_spec {run : List (List Nat)} (hne : run ≠ []) (hv : ∀ v ∈ run, Plain v ∧ v ≠ []) : ∀ (chs : List (List Nat)) (A : List Nat), (∀ c ∈ chs, Plain c) → joinS chs = A ++ joinS run →
    ∃ pre a v vs, run = v :: vs ∧ chs = pre ++ (a ++ v) :: vs ∧ A = joinS (pre ++ [a])
  | [], A, _, h => by
    exfalso
    match run, hne, hv with
    | v :: vs, _, hv =>
      have h1 := (hv v (.head _)).2
      have h' : [] = A ++ joinS (v :: vs) := h
      have h2 : joinS (v :: vs) = [] := (List.append_eq_nil_iff.mp h'.symm).2
      cases vs with
      | nil => exact h1 h2
      | cons w q => rw [joinS_cons _ _ (by simp)] at h2; simp at h2
  | [c], A, hc, h => by
    have h' : c = A ++ joinS run := h
    match run, hne, h' with
    | [v], _, h' => exact ⟨[], A, v, [], rfl, by rw [h']; rfl, rfl⟩
    | v :: w :: q, _, h' =>
      exfalso
      rw [joinS_cons _ _ (by simp)] at h'
      exact (hc c (.head _)).1 (by rw [h']; simp)
  | c :: d :: r, A, hc, h => by
    rw [joinS_cons c _ (by simp)] at h
    obtain ⟨v, vs, hrun, hv1, hv2⟩ : ∃ v vs, run = v :: vs ∧ Plain v ∧ v ≠ [] := by
      match run, hne, hv with
      | v :: vs, _, hv => exact ⟨v, vs, rfl, hv v (.head _)⟩
    have hhead : ∃ z t, joinS run = z :: t ∧ z ∈ v := by
      rw [hrun]
      match v, hv2 with
      | z :: v', _ =>
        cases vs with
        | nil => exact ⟨z, v', rfl, .head _⟩
        | cons w q => exact ⟨z, _, by rw [joinS_cons _ _ (by simp), List.cons_append], .head _⟩
    obtain ⟨z, t, hz, hzv⟩ := hhead
    rcases List.append_eq_append_iff.mp h with ⟨a', h1, h2⟩ | ⟨e, h1, h2⟩
    · match a', h1, h2 with
      | [], h1, h2 =>
        exfalso
        rw [List.nil_append, hz] at h2
        injection h2 with h2
        exact hv1.1 (h2 ▸ hzv)
      | [y], h1, h2 =>
        exfalso
        rw [List.cons_append, List.nil_append, hz] at h2
        injection h2 with _ h2
        injection h2 with h2
        exact hv1.2 (h2 ▸ hzv)
      | y1 :: y2 :: a'', h1, h2 =>
        rw [List.cons_append, List.cons_append] at h2
        injection h2 with h3 h2
        injection h2 with h4 h2
        subst h3
        subst h4
        obtain ⟨pre, a, v', vs', b1, b2, b3⟩ := sufC_spec hne hv (d :: r) a'' (fun x hx => hc x (.tail _ hx)) h2
        refine ⟨c :: pre, a, v', vs', b1, by rw [b2]; rfl, ?_⟩
        rw [List.cons_append, joinS_cons _ _ (by simp), h1, b3]
    · have h3 : joinS run = joinS (e :: d :: r) := by rw [joinS_cons e _ (by simp), h2]
      have hpc := hc c (.head _)
      have hpe : Plain e := ⟨fun q => hpc.1 (by rw [h1]; simp [q]), fun q => hpc.2 (by rw [h1]; simp [q])⟩
      have h4 := joinS_inj hne (by simp) (fun x hx => (hv x hx).1) (by
        intro x hx
        rcases List.mem_cons.mp hx with rfl | hx
        · exact hpe
        · exact hc x (.tail _ hx)) h3
      exact ⟨[], A, e, d :: r, h4, by rw [h1]; rfl, rfl⟩

theorem map_w_inj : ∀ {a b : List Int}, AllV a → AllV b → a.map W = b.map W → a = b
  | [], [], _, _, _ => rfl
  | [], _ :: _, _, _, h => by cases h
  | _ :: _, [], _, _, h => by cases h
  | v :: q, u :: t, ha, hb, h => by
    rw [List.map_cons, List.map_cons] at h
    injection h with h1 h2
    rw [(w_inj (ha v (.head _)) (hb u (.head _))).mp h1, map_w_inj (fun x hx => ha x (.tail _ hx)) (fun x hx => hb x (.tail _ hx)) h2]
/-- a run at the end of the row -/
theorem suf_words {run row : List Int} (hr : RunOk run) (hrow : AllV row) :
    ((∃ A, JW row = A ++ JW run) ↔ run.length ≤ row.length ∧ liesR false true run (row.drop (row.length - run.length)) = true) ∧
    ∀ A, JW row = A ++ JW run → ∃ a, DeadP a ∧ A = joinS ((row.take (row.length - run.length)).map W ++ [a]) := by
  obtain ⟨hne, hv⟩ := hr
  have key : ∀ A, JW row = A ++ JW run → ∃ pre a v u vs, run = v :: vs ∧ row = pre ++ u :: vs ∧ W u = a ++ W v ∧ A = joinS (pre.map W ++ [a]) := by
    intro A hA
    obtain ⟨pre, a, v', vs', h1, h2, h3⟩ := sufC_spec (run := run.map W) (fun h => hne (List.map_eq_nil_iff.mp h)) (words_plain' hv) (row.map W) A (words_plain hrow) hA
    obtain ⟨p, s, h4, h5, h6⟩ := List.map_eq_append_iff.mp h2
    obtain ⟨u, t, h7, h8, h9⟩ := List.map_eq_cons_iff.mp h6
    obtain ⟨v, vs, g1, g2, g3⟩ := List.map_eq_cons_iff.mp h1
    subst g1 h4 h7
    have e : t = vs := map_w_inj (fun x hx => hrow x (by simp [hx])) (fun x hx => hv x (.tail _ hx)) (by rw [h9, g3])
    exact ⟨p, a, v, u, vs, rfl, by rw [e], by rw [h8, g2], by rw [h3, h5]⟩
  have len : ∀ {pre vs : List Int} {u v : Int}, (pre ++ u :: vs).length - (v :: vs).length = pre.length := by
    intro pre vs u v
    simp only [List.length_append, List.length_cons]; omega
  constructor
  · constructor
    · rintro ⟨A, hA⟩
      obtain ⟨pre, a, v, u, vs, rfl, rfl, h3, h4⟩ := key A hA
      refine ⟨by simp only [List.length_append, List.length_cons]; omega, ?_⟩
      rw [len, List.drop_left, liesR, Bool.and_eq_true]
      refine ⟨?_, (liesR_all rfl).mpr rfl⟩
      exact (fits_ft (hv v (.head _)) (hrow u (by simp))).mp ⟨a, h3⟩
    · rintro ⟨h1, h2⟩
      match run, hne, hv, h1, h2 with
      | v :: vs, _, hv, h1, h2 =>
        have hl : (row.drop (row.length - (v :: vs).length)).length = vs.length + 1 := by
          rw [List.length_drop]; simp only [List.length_cons] at h1 ⊢; omega
        cases hd : row.drop (row.length - (v :: vs).length) with
        | nil => rw [hd] at hl; simp at hl
        | cons u t =>
          rw [hd] at h2 hl
          rw [liesR, Bool.and_eq_true] at h2
          have e : vs = t := (liesR_all (by simpa using hl.symm)).mp h2.2
          subst e
          have hu : u ∈ row := List.mem_of_mem_drop (by rw [hd]; exact .head _)
          obtain ⟨a, ha⟩ := (fits_ft (hv v (.head _)) (hrow u hu)).mpr h2.1
          refine ⟨joinS ((row.take (row.length - (v :: vs).length)).map W ++ [a]), ?_⟩
          conv => lhs; rw [← List.take_append_drop (row.length - (v :: vs).length) row, hd]
          show joinS ((_ ++ u :: vs).map W) = _ ++ joinS (W v :: vs.map W)
          rw [List.map_append, List.map_cons, joinS_app, ha, joinS_head, joinS_app, List.append_assoc]
          rfl
  · intro A hA
    obtain ⟨pre, a, v, u, vs, rfl, rfl, h3, h4⟩ := key A hA
    refine ⟨a, (deadP_in (hv v (.head _)) (hrow u (by simp)) (a := a) (b := []) (by rw [h3, List.append_nil])).1, ?_⟩
    rw [len, List.take_left, h4]
/-- a run at the front of the row, dead chunks behind -/
theorem pre_words {run row : List Int} {d : List (List Nat)} (hr : RunOk run) (hrow : AllV row) (hd : ∀ c ∈ d, DeadP c) (hne : row.map W ++ d ≠ []) :
    ((∃ t, joinS (row.map W ++ d) = JW run ++ t) ↔ liesR true false run row = true) ∧
    ∀ t, joinS (row.map W ++ d) = JW run ++ t → ∃ b, DeadP b ∧ t = joinS (b :: ((row.drop run.length).map W ++ d)) := by
  obtain ⟨h1, h2⟩ := hr
  have hc : ∀ c ∈ row.map W ++ d, Plain c := by
    intro c hc
    rcases List.mem_append.mp hc with hc | hc
    · exact words_plain hrow c hc
    · exact (hd c hc).2
  have hp := preC_spec (run.map W) (row.map W ++ d) (fun h => h1 (List.map_eq_nil_iff.mp h)) (words_plain h2) hc hne
  have hw := preC_words run row d h1 h2 hrow hd
  constructor
  · constructor
    · rintro ⟨t, ht⟩
      obtain ⟨r, h3, _⟩ := hp.1 t ht
      cases hq : liesR true false run row with
      | true => rfl
      | false => rw [hw.2 hq] at h3; cases h3
    · intro hq
      obtain ⟨b, _, h3⟩ := hw.1 hq
      exact ⟨_, (hp.2 _ h3).1⟩
  · intro t ht
    obtain ⟨r, h3, h4⟩ := hp.1 t ht
    cases hq : liesR true false run row with
    | true =>
      obtain ⟨b, hb, h5⟩ := hw.1 hq
      rw [h3] at h5
      injection h5 with h5
      exact ⟨b, hb, by rw [← h4, h5]⟩
    | false => rw [hw.2 hq] at h3; cases h3
end Mine

-- LastP
namespace Mine
open PySem PySem.StrLaws Builtin Builtin.Str
theorem loopL_nil (P : List (List Nat)) (t : List Nat) : loopL ([] :: P) t = loopL P t := by
  rw [loopL]
  have : findL [] t = some t := by cases t <;> rfl
  rw [this]
theorem loopL_end : ∀ (P : List (List Nat)) (t : List Nat), loopL (P ++ [[]]) t = loopL P t
  | [], t => by rw [List.nil_append, loopL_nil]
  | p :: P, t => by
    rw [List.cons_append, loopL, loopL]
    cases findL p t with
    | none => rfl
    | some t' => exact loopL_end P t'
theorem emLast_nil (T : List Nat) (P : List (List Nat)) (lo : Nat) (h : lo ≤ T.length) : emLastL T (P ++ [[]]) lo = loopL P (T.drop lo) := by
  unfold emLastL
  have e : (P ++ [[]]).getLastD [] = ([] : List Nat) := by simp
  rw [e, if_neg (fun q => q rfl), if_neg (by omega), loopL_end]
theorem emLast_cons (T : List Nat) (P : List (List Nat)) (z : List Nat) (lo : Nat) (hz : z ≠ []) :
    emLastL T (P ++ [z]) lo = if z.isSuffixOf T then (if T.length - z.length < lo then false else loopL P ((T.take (T.length - z.length)).drop lo)) else false := by
  unfold emLastL
  have e : (P ++ [z]).getLastD [] = z := by simp
  rw [e, if_pos hz, List.dropLast_concat]
theorem loop_row {runs : List (List Int)} {row : List Int} {e : List (List Nat)} (hr : ∀ r ∈ runs, RunOk r) (hrow : AllV row) (he : ∀ c ∈ e, DeadP c) (hne : row.map W ++ e ≠ []) :
    loopL (runs.map JW) (joinS (row.map W ++ e)) = loopR runs row := loopL_words runs row [] e hr hrow (fun _ h => by cases h) he hne
theorem ne_of {R : List (List Int)} (h : ∀ r ∈ R, RunOk r) : ∀ r ∈ R, r ≠ [] := fun r hr => (h r hr).1
theorem em_tt {R : List (List Int)} {row : List Int} (hR : ∀ r ∈ R, RunOk r) (hrow : AllV row) (hne : row ≠ []) : emWsL (JW row) ([] :: (R.map JW ++ [[]])) = goes R true true row := by
  rw [goes_tt (ne_of hR)]
  unfold emWsL
  rw [show ([] :: (R.map JW ++ [[]])).headD [] = ([] : List Nat) from rfl, if_neg (fun h => h rfl), ← List.cons_append, emLast_nil _ _ _ (Nat.zero_le _), loopL_nil, List.drop_zero]
  have := loop_row (e := []) hR hrow (fun _ h => (nomatch h)) (by simpa using hne)
  rw [List.append_nil] at this
  exact this
theorem JW_len {run : List Int} {T t : List Nat} (h : T = JW run ++ t) : (JW run).length ≤ T.length := by rw [h, List.length_append]; omega
theorem em_ft {r0 : List Int} {R : List (List Int)} {row : List Int} (h0 : RunOk r0) (hR : ∀ r ∈ R, RunOk r) (hrow : AllV row) (hne : row ≠ []) : emWsL (JW row) (JW r0 :: (R.map JW ++ [[]])) = goes (r0 :: R) false true row := by
  rw [goes_ft (ne_of hR)]
  unfold emWsL
  rw [show (JW r0 :: (R.map JW ++ [[]])).headD [] = JW r0 from rfl, if_pos (JW_ne h0), show (JW r0 :: (R.map JW ++ [[]])).tail = R.map JW ++ [[]] from rfl]
  have hp := pre_words (d := []) h0 hrow (fun _ h => by cases h) (by simpa using hne)
  rw [List.append_nil] at hp
  by_cases hq : (JW r0).isPrefixOf (JW row) = true
  · rw [if_pos hq]
    obtain ⟨t, ht⟩ := pre_iff.mp hq
    obtain ⟨b, hb, e⟩ := hp.2 t ht
    rw [hp.1.mp ⟨t, ht⟩, Bool.true_and, emLast_nil _ _ _ (JW_len ht), ht, List.drop_left, e]
    exact loopL_words R (row.drop r0.length) [b] [] hR (fun x hx => hrow x (List.mem_of_mem_drop hx)) (fun c hc => by rw [List.mem_singleton.mp hc]; exact hb) (fun _ h => by cases h) (by simp)
  · rw [if_neg hq]
    cases hl : liesR true false r0 row with
    | false => rfl
    | true => exact absurd (pre_iff.mpr (hp.1.mpr hl)) hq
theorem em_tf {rl : List Int} {R : List (List Int)} {row : List Int} (hl : RunOk rl) (hR : ∀ r ∈ R, RunOk r) (hrow : AllV row) : emWsL (JW row) ([] :: (R.map JW ++ [JW rl])) = goes (R ++ [rl]) true false row := by
  rw [Bool.eq_iff_iff, goes_tf (ne_of hR)]
  unfold emWsL
  rw [show ([] :: (R.map JW ++ [JW rl])).headD [] = ([] : List Nat) from rfl, if_neg (by simp), ← List.cons_append, emLast_cons _ _ _ _ (JW_ne hl)]
  have hs := suf_words hl hrow
  by_cases hq : (JW rl).isSuffixOf (JW row) = true
  · rw [if_pos hq, if_neg (by omega), loopL_nil, List.drop_zero]
    obtain ⟨A, hA⟩ := suf_iff.mp hq
    obtain ⟨a, ha, e⟩ := hs.2 A hA
    have e2 : (JW row).take ((JW row).length - (JW rl).length) = A := by
      rw [hA, List.length_append, Nat.add_sub_cancel, List.take_left]
    have h1 := hs.1.mp ⟨A, hA⟩
    rw [e2, e, loop_row hR (fun x hx => hrow x (List.mem_of_mem_take hx)) (fun c hc => by rw [List.mem_singleton.mp hc]; exact ha) (by simp)]
    exact ⟨fun h => ⟨h1.1, h1.2, h⟩, fun h => h.2.2⟩
  · rw [if_neg hq]
    constructor
    · intro h; cases h
    · rintro ⟨h1, h2, _⟩
      exact absurd (suf_iff.mpr (hs.1.mpr ⟨h1, h2⟩)) hq
theorem em_ff {r0 rl : List Int} {R : List (List Int)} {row : List Int} (h0 : RunOk r0) (hl : RunOk rl) (hR : ∀ r ∈ R, RunOk r) (hrow : AllV row) (hne : row ≠ []) : emWsL (JW row) (JW r0 :: (R.map JW ++ [JW rl])) = goes (r0 :: (R ++ [rl])) false false row := by
  rw [Bool.eq_iff_iff, goes_ff (ne_of hR)]
  unfold emWsL
  rw [show (JW r0 :: (R.map JW ++ [JW rl])).headD [] = JW r0 from rfl, if_pos (JW_ne h0), show (JW r0 :: (R.map JW ++ [JW rl])).tail = R.map JW ++ [JW rl] from rfl]
  have hp := pre_words (d := []) h0 hrow (fun _ h => by cases h) (by simpa using hne)
  rw [List.append_nil] at hp
  have hs := suf_words hl hrow
  by_cases hq0 : (JW r0).isPrefixOf (JW row) = true
  · rw [if_pos hq0, emLast_cons _ _ _ _ (JW_ne hl)]
    have h0' := hp.1.mp (pre_iff.mp hq0)
    by_cases hq : (JW rl).isSuffixOf (JW row) = true
    · rw [if_pos hq]
      obtain ⟨A, hA⟩ := suf_iff.mp hq
      obtain ⟨a, ha, e⟩ := hs.2 A hA
      have hAl : (JW row).length - (JW rl).length = A.length := by rw [hA, List.length_append, Nat.add_sub_cancel]
      have e2 : (JW row).take ((JW row).length - (JW rl).length) = A := by rw [hAl, hA, List.take_left]
      have h1 := hs.1.mp ⟨A, hA⟩
      obtain ⟨t, ht⟩ := pre_iff.mp hq0
      have hrow' : AllV (row.take (row.length - rl.length)) := fun x hx => hrow x (List.mem_of_mem_take hx)
      have hp' := pre_words (d := [a]) h0 hrow' (fun c hc => by rw [List.mem_singleton.mp hc]; exact ha) (by simp)
      rw [← e] at hp'
      rw [e2, hAl]
      -- the front within what the end leaves
      have hiff : (∃ t, A = JW r0 ++ t) ↔ (JW r0).length ≤ A.length := by
        constructor
        · rintro ⟨t, rfl⟩; rw [List.length_append]; omega
        · intro hle
          rw [hA] at ht
          rcases List.append_eq_append_iff.mp ht with ⟨a', h2, h3⟩ | ⟨c', h2, h3⟩
          · have : a' = [] := by
              have := congrArg List.length h2
              rw [List.length_append] at this
              exact List.length_eq_zero_iff.mp (by omega)
            rw [this, List.append_nil] at h2
            exact ⟨[], by rw [h2, List.append_nil]⟩
          · exact ⟨c', h2⟩
      have hiff2 : liesR true false r0 (row.take (row.length - rl.length)) = true ↔ r0.length ≤ row.length - rl.length := by
        constructor
        · intro h
          have := liesR_len h
          rw [List.length_take] at this
          omega
        · intro h
          have e5 := liesR_app (run := r0) (A := row.take (row.length - rl.length)) (Z := row.drop (row.length - rl.length)) (l := true) (r := false) (by rw [List.length_take]; omega)
          rw [List.take_append_drop] at e5
          rw [← e5]; exact h0'
      by_cases hle : (JW r0).length ≤ A.length
      · rw [if_neg (by omega)]
        obtain ⟨t', ht'⟩ := hiff.mpr hle
        obtain ⟨b, hb, e3⟩ := hp'.2 t' ht'
        have h6 := hiff2.mp (hp'.1.mp ⟨t', ht'⟩)
        rw [ht', List.drop_left, e3, show b :: (((row.take (row.length - rl.length)).drop r0.length).map W ++ [a]) = [b] ++ (((row.take (row.length - rl.length)).drop r0.length).map W ++ [a]) from rfl,
          loopL_words R ((row.take (row.length - rl.length)).drop r0.length) [b] [a] hR (fun x hx => hrow' x (List.mem_of_mem_drop hx)) (fun c hc => by rw [List.mem_singleton.mp hc]; exact hb) (fun c hc => by rw [List.mem_singleton.mp hc]; exact ha) (by simp)]
        exact ⟨fun h => ⟨h0', h1.1, h1.2, h6, h⟩, fun h => h.2.2.2.2⟩
      · rw [if_pos (by omega)]
        constructor
        · intro h; cases h
        · rintro ⟨_, _, _, h6, _⟩
          exact absurd (hiff.mp (hp'.1.mpr (hiff2.mpr h6))) hle
    · rw [if_neg hq]
      constructor
      · intro h; cases h
      · rintro ⟨_, h1, h2, _⟩
        exact absurd (suf_iff.mpr (hs.1.mpr ⟨h1, h2⟩)) hq
  · rw [if_neg hq0]
    constructor
    · intro h; cases h
    · rintro ⟨h1, _⟩
      exact absurd (pre_iff.mpr (hp.1.mpr h1)) hq0

theorem pieces_len {R : List (List Int)} {l : List Int} {front back : Bool} (h : (ed front ++ ((R ++ [l]).map JW ++ ed back)).length = 1) : R = [] ∧ front = false ∧ back = false := by
  rw [List.length_append, List.length_append, List.length_map, List.length_append] at h
  have h1 : R.length = 0 := by simp only [List.length_cons] at h; omega
  cases front
  · cases back
    · exact ⟨List.length_eq_zero_iff.mp h1, rfl, rfl⟩
    · exfalso; simp only [ed, List.length_cons] at h; simp at h
  · exfalso; simp only [ed, List.length_cons] at h; simp at h
theorem pieces_ne {R : List (List Int)} {l : List Int} {front back : Bool} : ed front ++ ((R ++ [l]).map JW ++ ed back) ≠ [] := by
  rw [List.map_append]
  simp
theorem pl_two (n x : Int) (front back : Bool) (h : (occurrences (pat x front back (wordsL n)) dots 0 (pat x front back (wordsL n)).length 1).isEmpty = false) : 2 ≤ (Txt.split (pat x front back (wordsL n)) dots).length := by
  obtain ⟨R, l, _, hok, ht⟩ := pat_runs x front back n
  have hf := pieces_free (front := front) (back := back) hok
  rw [show D3 = sg dots from sg_dots.symm] at ht
  have ho := occ_spec (r := [46, 46]) sg_dots pieces_ne hf ht
  have hs := split_spec (r := [46, 46]) sg_dots (kind_of (by rw [sg_dots]; decide)) pieces_ne hf ht
  rw [h] at ho
  have hl := congrArg List.length hs
  rw [List.length_map] at hl
  rw [hl]
  have h1 := of_decide_eq_false ho.symm
  have h2 := List.length_pos_iff.mpr (pieces_ne (R := R) (l := l) (front := front) (back := back))
  omega
theorem pl_law (n k x : Int) (front back : Bool) : em (pat x front back (wordsL n)) (pretty k) = goes (runsT x (worthsL n) (worthsL n).length) front back (worthsL k) := by
  obtain ⟨R, l, hruns, hok, ht⟩ := pat_runs x front back n
  have hf := pieces_free (front := front) (back := back) hok
  rw [show D3 = sg dots from sg_dots.symm] at ht
  have ho := occ_spec (r := [46, 46]) sg_dots pieces_ne hf ht
  have hs := split_spec (r := [46, 46]) sg_dots (kind_of (by rw [sg_dots]; decide)) pieces_ne hf ht
  have hrow := allV k
  have hne := worthsL_ne k
  have hl : RunOk l := hok l (by simp)
  have hR : ∀ r ∈ R, RunOk r := fun r hr => hok r (by simp [hr])
  unfold em
  rw [ho, hruns]
  by_cases h1 : (ed front ++ ((R ++ [l]).map JW ++ ed back)).length = 1
  · rw [decide_eq_true h1, if_pos rfl]
    obtain ⟨rfl, rfl, rfl⟩ := pieces_len h1
    have ht' : sg (pat x false false (wordsL n)) = JW l := ht
    rw [Bool.eq_iff_iff, List.nil_append, goes_1, beq_iff_eq]
    constructor
    · intro h
      rw [h, sg_pretty] at ht'
      exact (map_w_inj hrow hl.2 (joinS_inj (fun q => hne (List.map_eq_nil_iff.mp q)) (fun q => hl.1 (List.map_eq_nil_iff.mp q)) (words_plain hrow) (words_plain hl.2) ht')).symm
    · rintro rfl
      exact sg_inj (by rw [ht', sg_pretty])
  · rw [decide_eq_false h1, if_neg (by decide), emWs_L, hs, sg_pretty]
    cases front <;> cases back
    · match R, hR, h1 with
      | [], _, h1 => exact absurd rfl h1
      | r0 :: R, hR, _ =>
        have := em_ff (hR r0 (.head _)) hl (fun r h => hR r (.tail _ h)) hrow hne
        simpa [ed] using this
    · match R, hR with
      | [], _ =>
        have := em_ft (R := []) hl (fun _ h => by cases h) hrow hne
        simpa [ed] using this
      | r0 :: R, hR =>
        have := em_ft (R := R ++ [l]) (hR r0 (.head _)) (fun r h => hok r (.tail _ h)) hrow hne
        simpa [ed] using this
    · have := em_tf hl hR hrow
      simpa [ed] using this
    · have := em_tt hok hrow hne
      simpa [ed] using this
theorem plainLaw : PlainLaw where
  split n _ _ := pl_split n
  len := pl_len
  two n x front back _ _ h := pl_two n x front back h
  law n k x front back _ _ _ _ := pl_law n k x front back
end Mine

-- Main
namespace Mine
open PySem PySem.W PyProof.Rows
set_option maxRecDepth 100000
theorem rm_caller : Rm callerA 7 := ⟨by decide, by decide, rfl⟩
set_option maxHeartbeats 8000000 in
theorem main_of_plain (PL : PlainLaw) : PySem.Challenge.rw_pg0075_01.Holds := Mine.hd (by
  w_on
  k_fill
  intro w s₀ s₁ mg mb G Y fa o pm cd doc dV kV ho hd hcd hD hmg hg args vals as hpre hlay hrd hwl hlo
  have KX := kIn_of Y
  refine Ground.open G ?_
  intro T B D TE TW
  (try (refine guard_noD D (by decide +kernel) ?_; clear D))
  have hfa : mg (Str.ofString "law") = some (.ref 83) := mg_of KX T.g (by k_is)
  have hfa' : fa = 83 := by
    have h1 : mg (Str.ofString "law") = some (.ref fa) := hmg
    rw [hfa] at h1
    injection h1 with h1
    injection h1 with h1
    exact h1.symm
  subst hfa'
  wrow_args hpre hlay hrd hwl hlo
  rename Heap.IsList _ _ _ => hL
  rename IntsAre _ _ => hI
  refine wpAny_call ?_
  refine law_c PL ⟨KX, _, _, _, T⟩ rm_caller hL hI (by omega) ?_
  intro h' tk L m F
  dsimp only
  refine GoodW.toG ?_
  k_end
  wrow_close)
end Mine

theorem PySem.Challenge.cw_pg0075_01_holds : PySem.Challenge.rw_pg0075_01.Holds :=
  Mine.main_of_plain Mine.plainLaw
