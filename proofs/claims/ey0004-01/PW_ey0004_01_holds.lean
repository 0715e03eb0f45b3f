import PyProof.Rows.All
import Wide.All
import OpenK.AllK
import Wide.FinOn
import PyProof.StrLawsWords
import PySem.Challenge.RW_ey0004_01
open PySem PySem.W PyProof.Rows
set_option Elab.async false
section
open PySem PySem.W PyProof.Rows PySem.Calls
namespace Mine
section
variable {prog : Program} {w : World} {A : Around} {E : Value → Shared → Prop} {s : Shared} {h₀ : Heap} {name : Str} {scope : Scope} {L ad : Addr} {cd : Value}

/-- the end of a turn of `text_for`: the state again, or the way out -/
def TurnPost (h₀ : Heap) (L I : Addr) (oI : Obj) (J : (Str → Option Value) → List (Addr × Obj) → Prop) (s₁ : Shared) (Q : Flow → Shared → Prop) (f : Flow) (s₂ : Shared) : Prop :=
  match f with
  | .ret v => Q (.ret v) s₂
  | .brk => Q .next s₂
  | _ => ∃ h' tk m' nx' news', s₂ = { s₁ with heap := h', toks := tk } ∧ Fr h₀ L h' m' ∧ News h₀ L h' news' ∧ (I, oI) ∈ news' ∧ (∀ p ∈ nx', p ∈ news') ∧ (∀ p ∈ nx', p.1 ≠ I) ∧ J m' nx'

/-- the loop proper, over any walk of the text's signs by an iterator that stands -/
theorem text_loop {Q : Flow → Shared → Prop} {x : Str} {px : Pos} {body orelse : List Stmt} {xt : Str} {m₀ : Str → Option Value} {news₀ : List (Addr × Obj)} {I : Addr} {St : Nat → Heap → Prop} {R : Result → Shared → Prop}
    (J : List Int → (Str → Option Value) → List (Addr × Obj) → Prop)
    (W : Walks prog w A I [I] [I] xt.cps.size (SignAt xt) St) (hSt : ∀ i h, St i h → ∃ o, h.get? I = some o)
    (hIL : L ≠ I) (hI0 : h₀.get? I = none) (hst : St 0 s.heap) (F : Fr h₀ L s.heap m₀) (N : News h₀ L s.heap news₀) (hN : ∀ p ∈ news₀, p.1 ≠ I) (hj : J [] m₀ news₀)
    (turn : ∀ pre (n : Nat) post t m₁ nx oI h tk, KStt.codes xt = pre ++ (n : Int) :: post → J pre m₁ nx → (∀ p ∈ nx, p.1 ≠ I) →
      Fr h₀ L h (fun z => if z = x then some (.str ⟨#[n]⟩ t) else m₁ z) → News h₀ L h ((I, oI) :: nx) →
      wpAny (model prog w) A (execs body (envOf name scope L ad cd)) (TurnPost h₀ L I oI (J (pre ++ [(n : Int)])) { s with heap := h, toks := tk } Q) E { s with heap := h, toks := tk })
    (done : ∀ m₁ nx h tk, J (KStt.codes xt) m₁ nx → Fr h₀ L h m₁ → News h₀ L h nx → wpAny (model prog w) A (execs orelse (envOf name scope L ad cd)) Q E { s with heap := h, toks := tk })
    (hR : ∀ f s', Q f s' → R (.ok f) s') (hRE : R = fun r s' => match r with | .ok f => Q f s' | .error e => cameBackBy (model prog w) A (envOf name scope L ad cd) E e s')
    (hlx : (envOf name scope L ad cd).kindOf x = some .local)
    (hp : ((envOf name scope L ad cd).scope.kind == .class || ((envOf name scope L ad cd).scope.kind == .module && (envOf name scope L ad cd).locals != (envOf name scope L ad cd).globals)) = false)
    (hE : PassesOwn (model prog w) A (envOf name scope L ad cd) E) :
    codeAny (model prog w) A (.forLoop (.Name x px) (.ref I) body orelse (envOf name scope L ad cd)) R s := by
  have hold : ∀ b o, h₀.get? b = some o → b ∉ [I] := fun b o e hb => by rw [List.mem_singleton.mp hb, hI0] at e; cases e
  subst hRE
  refine codeAny_forLoop
    (fun k s' => ∃ h' tk m' nx i, s' = { s with heap := h', toks := tk } ∧ St i h' ∧ Fr h₀ L h' m' ∧ News h₀ L h' nx ∧ (∀ p ∈ nx, p.1 ≠ I) ∧ J ((KStt.codes xt).take i) m' nx ∧ i ≤ xt.cps.size ∧ k = xt.cps.size + 1 - i) ?_ (xt.cps.size + 1)
    ⟨s.heap, s.toks, m₀, news₀, 0, rfl, hst, F, N, hN, by simpa using hj, Nat.zero_le _, rfl⟩
  rintro k s' ⟨h', tk, m', nx, i, rfl, hst', F', N', hnx, hJ, hi, rfl⟩
  have keep : ∀ h₁ : Heap, (∀ b o, b ∉ [I] → h'.get? b = some o → h₁.get? b = some o) → Fr h₀ L h₁ m' ∧ News h₀ L h₁ nx := fun h₁ hk₁ =>
    ⟨⟨F'.ns.at' fun o e => hk₁ _ o (fun q => hIL (List.mem_singleton.mp q)) e, fun b o e => hk₁ b o (hold b o e) (F'.keep b o e), F'.above⟩,
      fun p hp => ⟨hk₁ _ _ (fun q => hnx p hp (List.mem_singleton.mp q)) (N' p hp).1, (N' p hp).2⟩⟩
  by_cases hlt : i < xt.cps.size
  · refine W.item i _ _ _ hlt hst' fun v h₁ tk₁ hP hst₁ hk₁ => ?_
    obtain ⟨n, t, hn, rfl⟩ := hP
    obtain ⟨F₁, N₁⟩ := keep h₁ hk₁
    refine wpAny_assign_Name (wpAny_storeName_local hlx F₁.ns (fun h₂ hn₂ hs₂ => ?_) hp)
    have F₂ := F₁.set hn₂ hs₂
    obtain ⟨oI, hoI⟩ := hSt _ _ hst₁
    have e₂ : h₂.get? I = some oI := (hs₂.2 I fun q => hIL q.symm).trans hoI
    have hn' := KStt.code_at hn
    have hs : (KStt.codes xt).take (i + 1) = (KStt.codes xt).take i ++ [(n : Int)] := by simp [List.take_add_one, hn']
    have eq : KStt.codes xt = (KStt.codes xt).take i ++ (n : Int) :: (KStt.codes xt).drop (i + 1) := by
      have ht := List.take_append_drop (i + 1) (KStt.codes xt)
      rw [hs, List.append_assoc] at ht
      exact ht.symm
    have NN : News h₀ L h₂ ((I, oI) :: nx) := fun p hp => by
      rcases List.mem_cons.mp hp with rfl | hp
      · exact ⟨e₂, fun q => hIL q.symm, hI0⟩
      · exact N₁.set hs₂ p hp
    refine wpAny_mono (turn _ n _ t m' nx oI h₂ _ eq hJ hnx F₂ NN) (fun f s₃ h₃ => ?_) fun e s₃ h₃ => hE e s₃ h₃
    have fin : (∃ h' tk m' nx' news', s₃ = { s with heap := h', toks := tk } ∧ Fr h₀ L h' m' ∧ News h₀ L h' news' ∧ (I, oI) ∈ news' ∧ (∀ p ∈ nx', p ∈ news') ∧ (∀ p ∈ nx', p.1 ≠ I) ∧ J ((KStt.codes xt).take i ++ [(n : Int)]) m' nx') →
        ∃ k', k' < xt.cps.size + 1 - i ∧ ∃ h' tk m' nx i, s₃ = { s with heap := h', toks := tk } ∧ St i h' ∧ Fr h₀ L h' m' ∧ News h₀ L h' nx ∧ (∀ p ∈ nx, p.1 ≠ I) ∧ J ((KStt.codes xt).take i) m' nx ∧ i ≤ xt.cps.size ∧ k' = xt.cps.size + 1 - i := by
      rintro ⟨h₃', tk₃, m₃, nx₃, news₃, rfl, F₃, N₃, hI₃, hsub, hne, hJ₃⟩
      refine ⟨xt.cps.size + 1 - (i + 1), by omega, h₃', tk₃, m₃, nx₃, i + 1, rfl, ?_, F₃, fun p hp => N₃ p (hsub p hp), hne, by rw [hs]; exact hJ₃, hlt, rfl⟩
      refine W.frame _ _ _ hst₁ fun b hb o e => ?_
      rw [List.mem_singleton.mp hb] at e ⊢
      have : oI = o := by rw [hoI] at e; exact Option.some.inj e
      subst this
      exact (N₃ _ hI₃).1
    cases f with
    | ret v => exact hR _ _ h₃
    | brk => exact hR _ _ h₃
    | next => exact fin h₃
    | cont => exact fin h₃
  · have hin : i = xt.cps.size := by omega
    subst hin
    refine W.done _ _ _ hst' fun h₁ tk₁ hk₁ => ?_
    obtain ⟨F₁, N₁⟩ := keep h₁ hk₁
    have hl : xt.cps.size = (KStt.codes xt).length := (KStt.codes_length xt).symm
    rw [hl, List.take_length] at hJ
    exact wpAny_mono (done m' nx h₁ tk₁ hJ F₁ N₁) (fun f s₃ h₃ => hR _ _ h₃) fun e s₃ h₃ => hE e s₃ h₃

/-- a `for` over a text that a local name holds, with an `else` or without -/
theorem text_for {Q : Flow → Shared → Prop} {x y : Str} {px py pos : Pos} {body orelse : List Stmt} {xt : Str} {tx : Tok} {m₀ : Str → Option Value} {news₀ : List (Addr × Obj)}
    (J : List Int → (Str → Option Value) → List (Addr × Obj) → Prop)
    (hh : A.handled = none) (F : Fr h₀ L s.heap m₀) (N : News h₀ L s.heap news₀) (hy : m₀ y = some (.str xt tx)) (hj : J [] m₀ news₀)
    (turn : ∀ pre (n : Nat) post t m₁ nx I oI h tk, KStt.codes xt = pre ++ (n : Int) :: post → J pre m₁ nx → (∀ p ∈ nx, p.1 ≠ I) →
      Fr h₀ L h (fun z => if z = x then some (.str ⟨#[n]⟩ t) else m₁ z) → News h₀ L h ((I, oI) :: nx) →
      wpAny (model prog w) A (execs body (envOf name scope L ad cd)) (TurnPost h₀ L I oI (J (pre ++ [(n : Int)])) { s with heap := h, toks := tk } Q) E { s with heap := h, toks := tk })
    (done : ∀ m₁ nx h tk, J (KStt.codes xt) m₁ nx → Fr h₀ L h m₁ → News h₀ L h nx → wpAny (model prog w) A (execs orelse (envOf name scope L ad cd)) Q E { s with heap := h, toks := tk })
    (hk : scope.kind = .function := by rfl) (hlx : (envOf name scope L ad cd).kindOf x = some .local := by rfl) (hly : (envOf name scope L ad cd).kindOf y = some .local := by rfl)
    (hd : (y == ("__debug__" : Str)) = false := by decide)
    (hp : ((envOf name scope L ad cd).scope.kind == .class || ((envOf name scope L ad cd).scope.kind == .module && (envOf name scope L ad cd).locals != (envOf name scope L ad cd).globals)) = false := by rfl)
    (hs : ∀ v, foldedSetIterable (.Name y py) (envOf name scope L ad cd) v = pure v := by intro _; rfl)
    (hE : PassesOwn (model prog w) A (envOf name scope L ad cd) E := by passes_own) :
    wpAny (model prog w) A (exec (.For (.Name x px) (.Name y py) body orelse pos) (envOf name scope L ad cd)) Q E s := by
  have hIL : L ≠ s.heap.objs.size := fun e => absurd F.ns.lt (e ▸ Nat.lt_irrefl _)
  have hI0 : h₀.get? s.heap.objs.size = none := next_is_new F
  have hN0 : ∀ p ∈ news₀, p.1 ≠ s.heap.objs.size := fun p hp e => absurd (Heap.lt_size (N p hp).1) (e ▸ Nat.lt_irrefl _)
  refine wpAny_For (ld F hy ?_ hk hly hd) hs
  cases ha : xt.cps.all (· < 128)
  · exact wpAny_pyIter_wide ha (text_loop J (Walks.strWide hh _ xt tx) (fun i h ⟨o, ho, _⟩ => ⟨o, ho⟩) hIL hI0 ⟨_, Heap.get?_push_size _ rfl, rfl, rfl⟩ (F.push _) (fun p hp => ⟨Heap.get?_push_of_some _ (N p hp).1, (N p hp).2⟩) hN0 hj
      (fun pre n post t m₁ nx oI h tk => turn pre n post t m₁ nx _ oI h tk) done (fun _ _ q => q) rfl hlx hp hE)
  · exact wpAny_pyIter_ascii ha (text_loop J (Walks.strAscii hh _ xt tx) (fun i h ⟨o, ho, _⟩ => ⟨o, ho⟩) hIL hI0 ⟨_, Heap.get?_push_size _ rfl, rfl, rfl⟩ (F.push _) (fun p hp => ⟨Heap.get?_push_of_some _ (N p hp).1, (N p hp).2⟩) hN0 hj
      (fun pre n post t m₁ nx oI h tk => turn pre n post t m₁ nx _ oI h tk) done (fun _ _ q => q) rfl hlx hp hE)

/-- the end of a turn of `range_for` -/
theorem range_for {env : Env} {Q : Flow → Shared → Prop} {x : Str} {body : List Stmt} {r : Addr} {b : Int} {t₀ u₀ v₀ : Tok} {n : Nat} {m₀ : Str → Option Value} {news₀ : List (Addr × Obj)}
    (J : Nat → (Str → Option Value) → List (Addr × Obj) → Prop)
    (hh : A.handled = none) (hr : IsRange s.heap r 0 b 1 t₀ u₀ v₀) (hb : b = (n : Int)) (hn : n ≤ 1000) (F : Fr h₀ env.locals s.heap m₀) (N : News h₀ env.locals s.heap news₀) (hj : J 0 m₀ news₀)
    (turn : ∀ (i : Nat) t m₁ nx I oI h tk, i < n → J i m₁ nx → (∀ p ∈ nx, p.1 ≠ I) →
      Fr h₀ env.locals h (fun z => if z = x then some (.int (i : Int) t) else m₁ z) → News h₀ env.locals h ((I, oI) :: nx) →
      wpAny (model prog w) A (execs body env) (TurnPost h₀ env.locals I oI (J (i + 1)) { s with heap := h, toks := tk } Q) E { s with heap := h, toks := tk })
    (done : ∀ m₁ nx h tk, J n m₁ nx → Fr h₀ env.locals h m₁ → News h₀ env.locals h nx → Q .next { s with heap := h, toks := tk }) :
    wpAny (model prog w) A (pyIter (.ref r)) (fun it s₂ => LoopAtV prog w A h₀ env x body Q E it s₂) E s := by
  subst hb
  have hsmall : Builtin.Range.small 0 (n : Int) 1 = true := small_one (by omega) (by omega) (by omega) (by omega)
  have hsz : Builtin.Range.rangeSize 0 (n : Int) 1 = (n : Int) := by rw [rangeSize_nat]; omega
  refine wpAny_pyIter_range hr hsmall ?_
  have W : Walks prog w A s.heap.objs.size [s.heap.objs.size] [s.heap.objs.size] n (fun i v => i < n ∧ ∃ t, v = .int (0 + i * 1) t)
      (fun i h => IsRangeIter h s.heap.objs.size (0 + (i : Nat) * 1) ((n : Int) - (i : Nat)) 1) := (Walks.range hh _ 0 1 n).bound
  have hI0 : h₀.get? s.heap.objs.size = none := next_is_new F
  have hN0 : ∀ p ∈ news₀, p.1 ∉ [s.heap.objs.size] := fun p hp e => absurd (Heap.lt_size (N p hp).1) ((List.mem_singleton.mp e) ▸ Nat.lt_irrefl _)
  refine ⟨s.heap.objs.size, _, _, n, _, _, m₀, news₀, J, rfl, W, fun hm => absurd F.ns.lt ((List.mem_singleton.mp hm) ▸ Nat.lt_irrefl _), fun q hq => by rw [List.mem_singleton.mp hq]; exact hI0, hN0,
    (by show IsRangeIter _ _ _ _ _; rw [hsz]; simpa using Heap.get?_push_size _ rfl), F.push _, (fun p hp => ⟨Heap.get?_push_of_some _ (N p hp).1, (N p hp).2⟩), hj, ?_, ?_⟩
  · rintro i v m₁ nx s₁ own ⟨hh', tk', rfl⟩ hin hP hJ hoff hown hget hall hst F₁ N₁
    obtain ⟨_, t, rfl⟩ := hP
    have e1 : (0 : Int) + (i : Int) * 1 = (i : Int) := by omega
    rw [e1] at F₁
    obtain ⟨oI, hoI⟩ : ∃ o, hh'.get? s.heap.objs.size = some o := ⟨_, hst⟩
    have hIo := hall _ (List.mem_singleton.mpr rfl) hI0 oI hoI
    have hne : ∀ p ∈ nx, p.1 ≠ s.heap.objs.size := fun p hp e => hoff p hp (List.mem_singleton.mpr e)
    have NN : News h₀ env.locals hh' ((s.heap.objs.size, oI) :: nx) := fun p hp => by
      rcases List.mem_cons.mp hp with rfl | hp
      · exact N₁ _ (List.mem_append_left _ hIo)
      · exact N₁ p (List.mem_append_right _ hp)
    refine wpAny_mono (turn i t m₁ nx _ oI hh' tk' hin hJ hne F₁ NN) (fun f s₃ h₃ => ?_) fun _ _ e => e
    have fin : (∃ h' tk m' nx' news', s₃ = { s with heap := h', toks := tk } ∧ Fr h₀ env.locals h' m' ∧ News h₀ env.locals h' news' ∧ (s.heap.objs.size, oI) ∈ news' ∧ (∀ p ∈ nx', p ∈ news') ∧ (∀ p ∈ nx', p.1 ≠ s.heap.objs.size) ∧ J (i + 1) m' nx') →
        LoopStepU h₀ env.locals [s.heap.objs.size] own (J (i + 1)) { s with heap := hh', toks := tk' } .next s₃ := by
      rintro ⟨h', tk, m', nx', news', rfl, F', N', hI', hsub, hne', hJ'⟩
      refine ⟨rfl, h', tk, m', nx', rfl, F', fun p hp => ?_, fun p hp hq => hne' p hp (List.mem_singleton.mp hq), hJ'⟩
      rcases List.mem_append.mp hp with hp | hp
      · have hpI : p.1 = s.heap.objs.size := List.mem_singleton.mp (hown p hp)
        have hpo := hget p hp
        have : p = (s.heap.objs.size, oI) := Prod.ext hpI (by rw [hpI] at hpo; exact (Option.some.inj (hpo.symm.trans hoI)))
        rw [this]
        exact N' _ hI'
      · exact N' p (hsub p hp)
    cases f with
    | ret v => exact .ret h₃
    | brk => exact .brk h₃
    | next => exact .next (fin h₃)
    | cont => exact .cont (fin h₃)
  · intro h' tk m' nx F' N' _ hJ
    exact done m' nx h' tk hJ F' N'
end
end Mine
end

section
open PySem PySem.W PyProof.Rows PySem.Calls
namespace Mine

/-- one sign taken: the locations so far, the one at hand, whether an enclosure is open -/
def step (σ : List Str × Str × Bool) (c : Int) : Option (List Str × Str × Bool) :=
  if c = 8296 then (if σ.2.2 then none else some (σ.1, σ.2.1, true))
  else if c = 8297 then (if σ.2.2 then some (σ.1, σ.2.1, false) else none)
  else if c = 32 then (if σ.2.2 then some (σ.1, σ.2.1 ++ ⟨#[c.toNat]⟩, true) else if σ.2.1.length = 0 then some (σ.1, σ.2.1, false) else some (σ.1 ++ [σ.2.1], Str.ofString "", false))
  else some (σ.1, σ.2.1 ++ ⟨#[c.toNat]⟩, σ.2.2)

def run : List Int → (List Str × Str × Bool) → Option (List Str × Str × Bool)
  | [], σ => some σ
  | c :: r, σ => (step σ c).bind (run r)

def go (l : List Int) : Option (List Str × Str × Bool) := run l ([], Str.ofString "", false)

def fin (σ : List Str × Str × Bool) : Option (List Str) :=
  if σ.2.1.length = 0 then some σ.1 else if σ.2.2 then none else some (σ.1 ++ [σ.2.1])

def ext (l : List Int) : Option (List Str) := (go l).bind fin

/-- no sign that encloses -/
def bare (x : Str) : Prop := (Builtin.Str.occurrences x (Str.ofString "\u2068") 0 x.length 1).isEmpty = true ∧ (Builtin.Str.occurrences x (Str.ofString "\u2069") 0 x.length 1).isEmpty = true

theorem run_append (a b : List Int) : ∀ σ, run (a ++ b) σ = (run a σ).bind (run b) := by
  induction a with
  | nil => intro σ; rfl
  | cons c r ih =>
    intro σ
    show (step σ c).bind (run (r ++ b)) = ((step σ c).bind (run r)).bind (run b)
    cases step σ c with
    | none => rfl
    | some τ => exact ih τ
theorem go_snoc {pre : List Int} {σ : List Str × Str × Bool} (h : go pre = some σ) (n : Int) : go (pre ++ [n]) = step σ n := by
  unfold go at h ⊢
  rw [run_append, h]
  show (step σ n).bind (run []) = step σ n
  cases step σ n <;> rfl
theorem go_none {pre post l : List Int} {n : Int} {σ : List Str × Str × Bool} (h : go pre = some σ) (e : l = pre ++ n :: post) (hs : step σ n = none) : go l = none := by
  unfold go at h ⊢
  rw [e, run_append, h]
  show (step σ n).bind (run post) = none
  rw [hs]; rfl
theorem ext_none {l : List Int} (h : go l = none) : ext l = none := by unfold ext; rw [h]; rfl

theorem sgn {n c : Nat} {x : Str} {b : Bool} (e : x = ⟨#[c]⟩) (h : (({ cps := #[n] } : Str) == x) = b) : (n = c ↔ b = true) := by
  subst e
  rw [← h, beq_iff_eq]
  constructor
  · rintro rfl; rfl
  · intro q; injection q with q; simpa using q
theorem sOpen : Str.ofString "\u2068" = ⟨#[8296]⟩ := by decide +kernel
theorem sShut : Str.ofString "\u2069" = ⟨#[8297]⟩ := by decide +kernel
theorem sBlank : Str.ofString " " = ⟨#[32]⟩ := by decide +kernel

section
variable {n : Nat} {ls : List Str} {l : Str} {o : Bool}
theorem step_o1 (h : (({ cps := #[n] } : Str) == Str.ofString "\u2068") = true) (ho : o = true) : step (ls, l, o) n = none := by
  have := (sgn sOpen h).mpr rfl
  subst this ho; rfl
theorem step_o2 (h : (({ cps := #[n] } : Str) == Str.ofString "\u2068") = true) (ho : o = false) : step (ls, l, o) n = some (ls, l, true) := by
  have := (sgn sOpen h).mpr rfl
  subst this ho; rfl
theorem step_s1 (h : (({ cps := #[n] } : Str) == Str.ofString "\u2069") = true) (ho : o = false) : step (ls, l, o) n = none := by
  have := (sgn sShut h).mpr rfl
  subst this ho; rfl
theorem step_s2 (h : (({ cps := #[n] } : Str) == Str.ofString "\u2069") = true) (ho : o = true) : step (ls, l, o) n = some (ls, l, false) := by
  have := (sgn sShut h).mpr rfl
  subst this ho; rfl
theorem step_b1 (h : (({ cps := #[n] } : Str) == Str.ofString " ") = true) (ho : o = true) : step (ls, l, o) n = some (ls, l ++ ⟨#[n]⟩, o) := by
  have := (sgn sBlank h).mpr rfl
  subst this ho; rfl
theorem step_b2 (h : (({ cps := #[n] } : Str) == Str.ofString " ") = true) (ho : o = false) (hl : (l.length : Int) = 0) : step (ls, l, o) n = some (ls, l, o) := by
  have := (sgn sBlank h).mpr rfl
  subst this ho
  have hl' : l.length = 0 := by omega
  simp [step, hl']
theorem step_b3 (h : (({ cps := #[n] } : Str) == Str.ofString " ") = true) (ho : o = false) (hl : (l.length : Int) ≠ 0) : step (ls, l, o) n = some (ls ++ [l], Str.ofString "", o) := by
  have := (sgn sBlank h).mpr rfl
  subst this ho
  have hl' : ¬ l.length = 0 := by omega
  simp [step, hl']
theorem step_e (h1 : (({ cps := #[n] } : Str) == Str.ofString "\u2068") = false) (h2 : (({ cps := #[n] } : Str) == Str.ofString "\u2069") = false) (h3 : (({ cps := #[n] } : Str) == Str.ofString " ") = false) : step (ls, l, o) n = some (ls, l ++ ⟨#[n]⟩, o) := by
  have q1 : ¬ (n : Int) = 8296 := fun q => by
    have := (sgn sOpen h1).mp (by omega)
    cases this
  have q2 : ¬ (n : Int) = 8297 := fun q => by
    have := (sgn sShut h2).mp (by omega)
    cases this
  have q3 : ¬ (n : Int) = 32 := fun q => by
    have := (sgn sBlank h3).mp (by omega)
    cases this
  simp [step, q1, q2, q3]
end

theorem ext_ret0 {c : List Int} {ls : List Str} {l : Str} {o : Bool} (h : go c = some (ls, l, o)) (hl : (l.length : Int) = 0) : ext c = some ls := by
  have hl' : l.length = 0 := by omega
  unfold ext; rw [h]; show fin _ = _; simp [fin, hl']
theorem ext_ret1 {c : List Int} {ls : List Str} {l : Str} {o : Bool} (h : go c = some (ls, l, o)) (hl : (l.length : Int) ≠ 0) (ho : o = false) : ext c = some (ls ++ [l]) := by
  have hl' : ¬ l.length = 0 := by omega
  unfold ext; rw [h]; show fin _ = _; simp [fin, hl', ho]
theorem ext_rai {c : List Int} {ls : List Str} {l : Str} {o : Bool} (h : go c = some (ls, l, o)) (hl : (l.length : Int) ≠ 0) (ho : o = true) : ext c = none := by
  have hl' : ¬ l.length = 0 := by omega
  unfold ext; rw [h]; show fin _ = _; simp [fin, hl', ho]

theorem map3 {a b c : Str} {va vb vc : Option Value} {m : Str → Option Value} (ha : m a = va) (hb : m b = vb) (hc : m c = vc) :
    ∃ u : Str → Option Value, m = fun z => if z = a then va else if z = b then vb else if z = c then vc else u z := by
  refine ⟨m, funext fun z => ?_⟩
  by_cases h1 : z = a
  · simp only [h1, if_true, ha]
  · by_cases h2 : z = b
    · subst h2; simp only [if_neg h1, if_true, hb]
    · by_cases h3 : z = c
      · subst h3; simp only [if_neg h1, if_neg h2, if_true, hc]
      · simp only [if_neg h1, if_neg h2, if_neg h3]

theorem raisedK_sub {base h : Heap} {l : List Env} {e t : Addr} {cls : Value} {vs : List Value} {news news' : List (Addr × Obj)} (R : RaisedK base l e cls t vs news h) (hs : ∀ p ∈ news', p ∈ news) : RaisedK base l e cls t vs news' h := by
  obtain ⟨⟨B, a, b, c, d⟩, f⟩ := R
  exact ⟨⟨B, a, fun q hq => b q (hs q hq), c, d⟩, f⟩
end Mine
namespace Mine
/-- a halt for the walk: what stands within is taken up by hand -/
def Stop (P : Prop) : Prop := P
theorem Stop.out {P : Prop} (h : Stop P) : P := h
theorem Stop.by {P : Prop} (h : P) : Stop P := h
end Mine
namespace Mine
section
variable {prog : Program} {w : World} {A : Around} {E : Value → Shared → Prop} {s : Shared} {h₀ : Heap} {L : Addr} {m : Str → Option Value} {news : List (Addr × Obj)}
/-- two lists of the ledger, added: a third one upon it -/
theorem add_K {l b : Addr} {us ws : List Value} {n k : Nat} {Q : Value → Shared → Prop} (F : Fr h₀ L s.heap m) (N : News h₀ L s.heap news) (hl : (l, listOf us.toArray n) ∈ news) (hb : (b, listOf ws.toArray k) ∈ news)
    (h : ∀ D h', Fr h₀ L h' m → News h₀ L h' ((D, listOf (us ++ ws).toArray 0) :: news) → (∀ q ∈ news, q.1 < D) → Q (.ref D) { s with heap := h' })
    (hsz : us.length + ws.length ≤ sizeLine) : wpAny (model prog w) A (binaryOp .Add (.ref l) (.ref b)) Q E s :=
  add_lists (vs := us) (ws := ws) (hsz := hsz) F N ⟨_, (N _ hl).1, rfl, n, rfl⟩ ⟨_, (N _ hb).1, rfl, k, rfl⟩ fun h' F' N' => h _ h' F' N' fun q hq => Heap.lt_size (N q hq).1
end
theorem inTwo {n : Nat} {b : Bool} (h : (Builtin.Str.occurrences (Str.ofString "\u2068\u2069") { cps := #[n] } 0 (Str.ofString "\u2068\u2069").length 1).isEmpty = b) : (b = false ↔ (n = 8296 ∨ n = 8297)) := by
  have e := StrLaws.found_one (Str.ofString "\u2068\u2069") n
  rw [h] at e
  have e2 : (Str.ofString "\u2068\u2069").cps.toList = [8296, 8297] := by decide +kernel
  rw [e2] at e
  have e3 : (b = false) ↔ (!b) = true := by cases b <;> simp
  rw [e3, e]
  simp
section
variable {n : Nat} {ls : List Str} {l : Str} {o : Bool}
theorem tell_r (h : (Builtin.Str.occurrences (Str.ofString "\u2068\u2069") { cps := #[n] } 0 (Str.ofString "\u2068\u2069").length 1).isEmpty = false) (ho : (o == (({ cps := #[n] } : Str) == Str.ofString "\u2068")) = true) : step (ls, l, o) n = none := by
  have ho' : o = (({ cps := #[n] } : Str) == Str.ofString "\u2068") := by simpa using ho
  rcases (inTwo h).mp rfl with rfl | rfl
  · exact step_o1 (by rw [sOpen]; exact beq_self_eq_true _) (by rw [ho', sOpen]; exact beq_self_eq_true _)
  · exact step_s1 (by rw [sShut]; exact beq_self_eq_true _) (by rw [ho', sOpen]; decide)
theorem tell_n (h : (Builtin.Str.occurrences (Str.ofString "\u2068\u2069") { cps := #[n] } 0 (Str.ofString "\u2068\u2069").length 1).isEmpty = false) (ho : (o == (({ cps := #[n] } : Str) == Str.ofString "\u2068")) = false) : step (ls, l, o) n = some (ls, l, !o) := by
  have ho' : o = !(({ cps := #[n] } : Str) == Str.ofString "\u2068") := by cases o <;> cases q : (({ cps := #[n] } : Str) == Str.ofString "\u2068") <;> simp_all
  rcases (inTwo h).mp rfl with rfl | rfl
  · have e : o = false := by rw [ho', sOpen]; decide
    subst e
    exact step_o2 (by rw [sOpen]; exact beq_self_eq_true _) rfl
  · have e : o = true := by rw [ho', sOpen]; decide
    subst e
    exact step_s2 (by rw [sShut]; exact beq_self_eq_true _) rfl
theorem tell_e (h : (Builtin.Str.occurrences (Str.ofString "\u2068\u2069") { cps := #[n] } 0 (Str.ofString "\u2068\u2069").length 1).isEmpty = true) (h3 : (({ cps := #[n] } : Str) == Str.ofString " ") = false) : step (ls, l, o) n = some (ls, l ++ ⟨#[n]⟩, o) := by
  have q := inTwo h
  have q1 : n ≠ 8296 := fun e => by cases q.mpr (.inl e)
  have q2 : n ≠ 8297 := fun e => by cases q.mpr (.inr e)
  refine step_e ?_ ?_ h3
  · rw [sOpen]; exact beq_eq_false_iff_ne.mpr fun e => q1 (by injection e with e; simpa using e)
  · rw [sShut]; exact beq_eq_false_iff_ne.mpr fun e => q2 (by injection e with e; simpa using e)
theorem some_of_ne (h : (l != Str.ofString "") = true) : (l.length : Int) ≠ 0 := by
  intro e
  have e0 : l.cps.size = 0 := by unfold Str.length at e; omega
  have : l = Str.ofString "" := by
    have e1 : Str.ofString "" = ⟨#[]⟩ := by decide +kernel
    rw [e1]
    obtain ⟨c⟩ := l
    simp only [Array.size_eq_zero_iff] at e0
    rw [e0]
  rw [this] at h
  exact absurd h (by decide +kernel)
theorem none_of_eq (h : (l != Str.ofString "") = false) : l = Str.ofString "" := by simpa using h
theorem step_b4 (h : (({ cps := #[n] } : Str) == Str.ofString " ") = true) (ho : o = false) (hl : (l != Str.ofString "") = false) : step (ls, l, o) n = some (ls, Str.ofString "", o) := by
  have e := none_of_eq hl
  subst e
  exact step_b2 h ho (by decide +kernel)
theorem sub4 {α : Type} {q a b c : α} {r : List α} : ∀ p ∈ q :: r, p ∈ q :: a :: b :: c :: r := fun p hp => by
  rcases List.mem_cons.mp hp with rfl | hp
  · exact .head _
  · exact .tail _ (.tail _ (.tail _ (.tail _ hp)))
theorem sub3 {α : Type} {q a b : α} {r : List α} : ∀ p ∈ q :: r, p ∈ q :: a :: b :: r := fun p hp => by
  rcases List.mem_cons.mp hp with rfl | hp
  · exact .head _
  · exact .tail _ (.tail _ (.tail _ hp))
theorem gt_ne {I D : Addr} {oI : Obj} {l : List (Addr × Obj)} (h : ∀ q ∈ l, q.1 < D) (hm : (I, oI) ∈ l) : D ≠ I := fun e => absurd (h _ hm) (e ▸ Nat.lt_irrefl _)
theorem zero_of_eq (h : (l != Str.ofString "") = false) : (l.length : Int) = 0 := by
  rw [none_of_eq h]; decide +kernel
end
end Mine
namespace Mine
theorem raisedS_sub {base G h : Heap} {l : List Env} {e t : Addr} {cls : Value} {vs : List Value} {news news' : List (Addr × Obj)} (R : RaisedS base G l e cls t vs news h) (hs : ∀ p ∈ news', p ∈ news) : RaisedS base G l e cls t vs news' h := by
  obtain ⟨⟨B, a, b, c, d⟩, f⟩ := R
  exact ⟨⟨B, a, b, fun q hq => c q (hs q hq), d⟩, f⟩
end Mine
namespace Mine
/-- as `_enclose_filename_if_necessary` reckons -/
def encl (x : Str) : Str :=
  if (Builtin.Str.occurrences x (Str.ofString " ") 0 x.length 1).isEmpty = true ∧ (Builtin.Str.occurrences x (Str.ofString "\t") 0 x.length 1).isEmpty = true then x
  else
    let y := if Txt.startswith x (Str.ofString "\u2068") = true then x else Str.ofString "\u2068" ++ x
    if Txt.endswith y (Str.ofString "\u2069") = true then y else y ++ Str.ofString "\u2069"
/-- as the law's own reading -/
def lenc (x : Str) : Str :=
  if (Builtin.Str.occurrences x (Str.ofString " ") 0 x.length 1).isEmpty = true ∧ (Builtin.Str.occurrences x (Str.ofString "\t") 0 x.length 1).isEmpty = true then x
  else Str.ofString "\u2068" ++ x ++ Str.ofString "\u2069"
theorem str_to {P : Str → Prop} {y z : Str} (h : P z) (e : y = z) : P y := e ▸ h
end Mine
namespace Mine
section
variable {prog : Program} {w : World} {A : Around} {E : Value → Shared → Prop} {s : Shared} {h₀ : Heap} {L : Addr} {m : Str → Option Value} {news : List (Addr × Obj)}
/-- an item of a written list of texts of the ledger, at a place that lies in it: one of them -/
theorem item_mem {value slice : PySem.Expr} {l : Addr} {vs : List Value} {ws : List Str} {c : Nat} {i : Int} {u : Tok} {Q : Value → Shared → Prop} (N : News h₀ L s.heap news) (hl : (l, listOf vs.toArray c) ∈ news) (hw : StrsAre vs ws) (h0 : 0 ≤ i) (h1 : i < (ws.length : Int)) (hfit : i < 2 ^ 63)
    (h : ∀ x t', x ∈ ws → Q (.str x t') s)
    (hs : subscripted slice false (.ref l) (.int i u) = operate [.ref l, .int i u] (getItem (.ref l) (.int i u)) := by with_unfolding_all rfl) :
    wpAny (model prog w) A (subscriptTail value slice (.ref l) (.int i u)) Q E s :=
  KTb.item_list ⟨_, (N _ hl).1, rfl, c, rfl⟩ hw h0 h1 hfit (fun t' hlt => h _ t' (by rw [List.getD_eq_getElem?_getD, List.getElem?_eq_getElem hlt]; exact List.getElem_mem hlt)) hs
end
end Mine

namespace Mine
section
variable {prog : Program} {w : World} {A : Around} {E : Value → Shared → Prop} {s : Shared}
theorem str_num {v : Int} {t : Tok} {Q : Value → Shared → Prop} (hv0 : 0 ≤ v) (hv1 : v < 10 ^ 10) (h : (Str.ofString (toString v)).length ≤ 10 → ∀ t' k', Q (.str (Str.ofString (toString v)) t') { s with toks := k' }) :
    wpAny (model prog w) A (call (.type "str") [.int v t]) Q E s :=
  P.str_of_int (shown (N := 2 ^ 1920) (Int.lt_of_lt_of_le (by decide +kernel) hv0) (Int.lt_trans hv1 (by decide +kernel)) (Int.le_refl _)) (h (KT.len_num hv0 hv1) _ _)
end
theorem len_colon : (Str.ofString ":").length = 1 := by decide +kernel
theorem len_none : (Str.ofString "").length = 0 := by decide +kernel
theorem len_blank : (Str.ofString " ").length = 1 := by decide +kernel
end Mine
end

section
open PySem PySem.W PyProof.Rows PySem.Calls
namespace Mine
def NAMES : List Str := [Str.ofString "a.py", Str.ofString "x y.c", Str.ofString "src/b.py", Str.ofString "one\ttwo", Str.ofString " z", Str.ofString "d e f.h"]
def PIECES : List Str := [Str.ofString "a", Str.ofString "b:1", Str.ofString " ", Str.ofString "\u2068", Str.ofString "\u2069", Str.ofString "c d", Str.ofString "  ", Str.ofString "\u2068e f\u2069:2"]
structure NameOk (x : Str) : Prop where
  len : x.length ≤ 20
  lenE : (encl x).length ≤ 22
  one : encl x = lenc x
  two : encl (encl x) = encl x
theorem names_ok : ∀ x ∈ NAMES, NameOk x := by
  have h : ∀ x ∈ NAMES, x.length ≤ 20 ∧ (encl x).length ≤ 22 ∧ encl x = lenc x ∧ encl (encl x) = encl x := by decide +kernel
  exact fun x hx => ⟨(h x hx).1, (h x hx).2.1, (h x hx).2.2.1, (h x hx).2.2.2⟩
theorem pieces_ok : ∀ x ∈ PIECES, x.length ≤ 7 := by decide +kernel
def MoreOk (y : Str) : Prop := y = Str.ofString "" ∨ ∃ v : Int, 0 ≤ v ∧ v < 90 ∧ y = Str.ofString ":" ++ Str.ofString (toString v)

/-- what the first loop keeps: the names told and the rows shown, item by item -/
def Its (k : Nat) (found rows : List Str) : Prop :=
  ∃ its : List (Str × Str), its.length = k ∧ (∀ it ∈ its, it.1 ∈ NAMES ∧ MoreOk it.2) ∧ found = its.map (fun it => it.1 ++ it.2) ∧ rows = its.map (fun it => encl it.1 ++ it.2)
theorem its_nil : Its 0 [] [] := ⟨[], rfl, (fun _ h => nomatch h), rfl, rfl⟩
theorem its_snoc {k : Nat} {found rows : List Str} {x y : Str} (h : Its k found rows) (hx : x ∈ NAMES) (hy : MoreOk y) : Its (k + 1) (found ++ [x ++ y]) (rows ++ [encl x ++ y]) := by
  obtain ⟨its, h1, h2, rfl, rfl⟩ := h
  refine ⟨its ++ [(x, y)], by simp [h1], fun it hit => ?_, by simp, by simp⟩
  rcases List.mem_append.mp hit with q | q
  · exact h2 it q
  · rw [List.mem_singleton.mp q]; exact ⟨hx, hy⟩

theorem mapOff {st : List Str} {m m₀ : Str → Option Value} (h : ∀ z, st.contains z = false → m z = m₀ z) : ∃ u : Str → Option Value, m = fun z => if st.contains z = true then u z else m₀ z := by
  refine ⟨m, funext fun z => ?_⟩
  cases hz : st.contains z with
  | true => simp
  | false => simp only [Bool.false_eq_true, if_false]; exact h z hz

def st1 : List Str := [Str.ofString "at", Str.ofString "name", Str.ofString "told", Str.ofString "number", Str.ofString "more"]
def J1 (m₀ : Str → Option Value) (q₁ q₂ : Addr × Obj) (rA fA : Addr) (i : Nat) (m : Str → Option Value) (nx : List (Addr × Obj)) : Prop :=
  ∃ us us' ws ws' n n', nx = [q₁, (rA, listOf us'.toArray n'), (fA, listOf us.toArray n), q₂] ∧ StrsAre us ws ∧ StrsAre us' ws' ∧ us.length = i ∧ us'.length = i ∧ Its i ws ws' ∧
    ∀ z, st1.contains z = false → m z = m₀ z

section
variable {prog : Program} {w : World} {A : Around} {E : Value → Shared → Prop} {s : Shared} {h₀ : Heap}
/-- the loop that fills `found` and `rows` -/
theorem loop1 {env : Env} {Q : Flow → Shared → Prop} {body : List Stmt} {r : Addr} {b : Int} {t₀ u₀ v₀ : Tok} {k : Nat} {m₀ : Str → Option Value} {q₁ q₂ : Addr × Obj} {rA fA : Addr}
    (hh : A.handled = none) (hr : IsRange s.heap r 0 b 1 t₀ u₀ v₀) (hb : b = (k : Int)) (hk : k ≤ 4) (F : Fr h₀ env.locals s.heap m₀)
    (N : News h₀ env.locals s.heap [q₁, (rA, listOf #[] 0), (fA, listOf #[] 0), q₂])
    (turn : ∀ (i : Nat) t (u : Str → Option Value) us us' ws ws' n n' I oI h tk, i < k → StrsAre us ws → StrsAre us' ws' → us.length = i → us'.length = i → Its i ws ws' →
      @Ne Nat q₁.1 I → @Ne Nat rA I → @Ne Nat fA I → @Ne Nat q₂.1 I →
      Fr h₀ env.locals h (fun z => if z = Str.ofString "at" then some (.int (i : Int) t) else if st1.contains z = true then u z else m₀ z) →
      News h₀ env.locals h [(I, oI), q₁, (rA, listOf us'.toArray n'), (fA, listOf us.toArray n), q₂] →
      wpAny (model prog w) A (execs body env) (TurnPost h₀ env.locals I oI (J1 m₀ q₁ q₂ rA fA (i + 1)) { s with heap := h, toks := tk } Q) E { s with heap := h, toks := tk })
    (done : ∀ (u : Str → Option Value) us us' ws ws' n n' h tk, StrsAre us ws → StrsAre us' ws' → Its k ws ws' → Fr h₀ env.locals h (fun z => if st1.contains z = true then u z else m₀ z) →
      News h₀ env.locals h [q₁, (rA, listOf us'.toArray n'), (fA, listOf us.toArray n), q₂] → Q .next { s with heap := h, toks := tk }) :
    wpAny (model prog w) A (pyIter (.ref r)) (fun it s₂ => LoopAtV prog w A h₀ env (Str.ofString "at") body Q E it s₂) E s := by
  refine range_for (J1 m₀ q₁ q₂ rA fA) hh hr hb (Nat.le_trans hk (by decide)) F N ⟨[], [], [], [], 0, 0, rfl, .nil, .nil, rfl, rfl, its_nil, fun _ _ => rfl⟩ ?_ ?_
  · rintro i t m₁ nx I oI h tk hi ⟨us, us', ws, ws', n, n', rfl, hus, hus', hle, hle', hits, hm⟩ hne F5 N5
    obtain ⟨u, rfl⟩ := mapOff hm
    exact turn i t u us us' ws ws' n n' I oI h tk hi hus hus' hle hle' hits (hne _ (.head _)) (hne _ (.tail _ (.head _))) (hne _ (.tail _ (.tail _ (.head _)))) (hne _ (.tail _ (.tail _ (.tail _ (.head _))))) F5 N5
  · rintro m₁ nx h tk ⟨us, us', ws, ws', n, n', rfl, hus, hus', hle, hle', hits, hm⟩ F5 N5
    obtain ⟨u, rfl⟩ := mapOff hm
    exact done u us us' ws ws' n n' h tk hus hus' hits F5 N5
end
end Mine

namespace Mine
theorem NameOk.no1 {x : Str} (h : NameOk x) (e : (encl x != lenc x) = true) : False := by rw [h.one] at e; simp at e
theorem NameOk.no2 {x : Str} (h : NameOk x) (e : (encl (encl x) != encl x) = true) : False := by rw [h.two] at e; simp at e
theorem more_none : MoreOk (Str.ofString "") := .inl rfl
theorem more_num {v : Int} : MoreOk (Str.ofString ":" ++ Str.ofString (toString (v.fmod 90))) := .inr ⟨v.fmod 90, Int.fmod_nonneg_of_pos _ (by decide), Int.fmod_lt_of_pos _ (by decide), rfl⟩
theorem off1 {z : Str} (h : st1.contains z = false) : z ≠ Str.ofString "at" ∧ z ≠ Str.ofString "name" ∧ z ≠ Str.ofString "told" ∧ z ≠ Str.ofString "number" ∧ z ≠ Str.ofString "more" := by
  refine ⟨?_, ?_, ?_, ?_, ?_⟩ <;> (rintro rfl; exact absurd h (by decide))
theorem push_list {us : List Value} {v : Value} : us.toArray.push v = (us ++ [v]).toArray := by simp
theorem j1_end {L I : Addr} {oI : Obj} {h₀ h' : Heap} {m₀ m' : Str → Option Value} {q q₁ q₂ : Addr × Obj} {rA fA : Addr} {i : Nat} {us us' : List Value} {ws ws' : List Str} {x y : Str} {t1 t2 : Tok} {n n' : Nat} {s₁ : Shared} {tk' : Nat}
    (hits : Its i ws ws') (hus : StrsAre us ws) (hus' : StrsAre us' ws') (hle : us.length = i) (hle' : us'.length = i) (hx : x ∈ NAMES) (hy : MoreOk y)
    (n1 : @Ne Nat q₁.1 I) (n2 : @Ne Nat rA I) (n3 : @Ne Nat fA I) (n4 : @Ne Nat q₂.1 I) (F : Fr h₀ L h' m')
    (N : News h₀ L h' [q, (I, oI), q₁, (rA, listOf (us'.toArray.push (.str (encl x ++ y) t1)) n'), (fA, listOf (us.toArray.push (.str (x ++ y) t2)) n), q₂])
    (hm : ∀ z, st1.contains z = false → m' z = m₀ z) :
    ∃ h'' tk m'' nx' news', ({ s₁ with heap := h', toks := tk' } : Shared) = { s₁ with heap := h'', toks := tk } ∧ Fr h₀ L h'' m'' ∧ News h₀ L h'' news' ∧ (I, oI) ∈ news' ∧ (∀ p ∈ nx', p ∈ news') ∧ (∀ p ∈ nx', p.1 ≠ I) ∧ J1 m₀ q₁ q₂ rA fA (i + 1) m'' nx' := by
  rw [push_list, push_list] at N
  refine ⟨h', tk', m', _, _, rfl, F, N, .tail _ (.head _), fun p hp => .tail _ (.tail _ hp), fun p hp => ?_, us ++ [_], us' ++ [_], ws ++ [x ++ y], ws' ++ [encl x ++ y], _, _, rfl, hus.append' (.cons _ _ .nil), hus'.append' (.cons _ _ .nil), by simp [hle], by simp [hle'], its_snoc hits hx hy, hm⟩
  rcases List.mem_cons.mp hp with rfl | hp
  · exact n1
  rcases List.mem_cons.mp hp with rfl | hp
  · exact n2
  rcases List.mem_cons.mp hp with rfl | hp
  · exact n3
  rcases List.mem_cons.mp hp with rfl | hp
  · exact n4
  · cases hp
end Mine

namespace Mine
def st2 : List Str := [Str.ofString "at", Str.ofString "row"]
section
variable {prog : Program} {w : World} {A : Around} {E : Value → Shared → Prop} {s : Shared} {h₀ : Heap}
/-- the loop that grows `row` -/
theorem loop2 {env : Env} {Q : Flow → Shared → Prop} {body : List Stmt} {r : Addr} {b : Int} {t₀ u₀ v₀ : Tok} {k : Nat} {m₀ : Str → Option Value} {news : List (Addr × Obj)} {row₀ : Str} {tr₀ : Tok} (G : Str → Prop)
    (hh : A.handled = none) (hr : IsRange s.heap r 0 b 1 t₀ u₀ v₀) (hb : b = (k : Int)) (hk : k ≤ 6) (F : Fr h₀ env.locals s.heap m₀) (N : News h₀ env.locals s.heap news)
    (hrow : m₀ (Str.ofString "row") = some (.str row₀ tr₀)) (hl0 : row₀.length ≤ 0) (hg0 : G row₀)
    (turn : ∀ (i : Nat) t (u : Str → Option Value) row tr I oI h tk, i < k → row.length ≤ 7 * i → G row → (∀ p ∈ news, p.1 ≠ I) →
      Fr h₀ env.locals h (fun z => if z = Str.ofString "at" then some (.int (i : Int) t) else if z = Str.ofString "row" then some (.str row tr) else if st2.contains z = true then u z else m₀ z) →
      News h₀ env.locals h ((I, oI) :: news) →
      wpAny (model prog w) A (execs body env) (TurnPost h₀ env.locals I oI (fun m nx => (∃ row tr, m (Str.ofString "row") = some (.str row tr) ∧ row.length ≤ 7 * (i + 1) ∧ G row) ∧ nx = news ∧ ∀ z, st2.contains z = false → m z = m₀ z) { s with heap := h, toks := tk } Q) E { s with heap := h, toks := tk })
    (done : ∀ (u : Str → Option Value) row tr h tk, row.length ≤ 42 → G row → Fr h₀ env.locals h (fun z => if z = Str.ofString "row" then some (.str row tr) else if st2.contains z = true then u z else m₀ z) →
      News h₀ env.locals h news → Q .next { s with heap := h, toks := tk }) :
    wpAny (model prog w) A (pyIter (.ref r)) (fun it s₂ => LoopAtV prog w A h₀ env (Str.ofString "at") body Q E it s₂) E s := by
  have one : ∀ {m : Str → Option Value} {row : Str} {tr : Tok}, m (Str.ofString "row") = some (.str row tr) → (∀ z, st2.contains z = false → m z = m₀ z) →
      ∃ u : Str → Option Value, m = fun z => if z = Str.ofString "row" then some (.str row tr) else if st2.contains z = true then u z else m₀ z := by
    intro m row tr h1 h2
    refine ⟨m, funext fun z => ?_⟩
    by_cases hz : z = Str.ofString "row"
    · rw [if_pos hz, hz, h1]
    · rw [if_neg hz]
      cases hc : st2.contains z with
      | true => simp
      | false => simp only [Bool.false_eq_true, if_false]; exact h2 z hc
  refine range_for (fun i m nx => (∃ row tr, m (Str.ofString "row") = some (.str row tr) ∧ row.length ≤ 7 * i ∧ G row) ∧ nx = news ∧ ∀ z, st2.contains z = false → m z = m₀ z) hh hr hb (Nat.le_trans hk (by decide)) F N
    ⟨⟨row₀, tr₀, hrow, by omega, hg0⟩, rfl, fun _ _ => rfl⟩ ?_ ?_
  · rintro i t m₁ nx I oI h tk hi ⟨⟨row, tr, h1, h2, h3⟩, rfl, hm⟩ hne F5 N5
    obtain ⟨u, rfl⟩ := one h1 hm
    exact turn i t u row tr I oI h tk hi h2 h3 hne F5 N5
  · rintro m₁ nx h tk ⟨⟨row, tr, h1, h2, h3⟩, rfl, hm⟩ F5 N5
    obtain ⟨u, rfl⟩ := one h1 hm
    exact done u row tr h tk (by omega) h3 F5 N5
end
theorem off2 {z : Str} (h : st2.contains z = false) : z ≠ Str.ofString "at" ∧ z ≠ Str.ofString "row" := by
  refine ⟨?_, ?_⟩ <;> (rintro rfl; exact absurd h (by decide))
end Mine
end

section
open PySem PySem.W PyProof.Rows PySem.Calls PySem.Builtin PySem.Builtin.Str
namespace Mine
/-- the words of a text, sign by sign -/
def wfl (acc : List Str) (cur : List Nat) : List Str := if cur = [] then acc else acc ++ [⟨cur.toArray⟩]
def wgo : List Nat → List Nat → List Str → List Str
  | [], cur, acc => wfl acc cur
  | c :: r, cur, acc => if Unicode.isSpace c = true then wgo r [] (wfl acc cur) else wgo r (cur ++ [c]) acc

theorem sub_eq (s : Str) (i j : Nat) : strSub s i j = ⟨((s.cps.toList.drop i).take (j - i)).toArray⟩ := by
  refine Str.ext' (Array.toList_inj.mp ?_)
  rw [StrLaws.strSub_toList]

open StrLaws in
theorem sw_go (s : Str) : ∀ (m cur : Nat) (st : SwSt) (cw : List Nat) (acc : List Str), cur + m = s.length → st.fst = none → st.snd.fst.size ≤ cur →
    (match st.snd.snd with | none => cw = [] | some b => b < cur ∧ cw = (s.cps.toList.drop b).take (cur - b)) → st.snd.fst.toList.map (fun p => strSub s p.1 p.2) = acc →
    (swEnd s (forIn (List.range' cur m) st (swBody s (s.length + 1))).run).map (fun p => strSub s p.1 p.2) = wgo (s.cps.toList.drop cur) cw acc
  | 0, cur, (r, words, start), cw, acc, hm, h1, h2, h3, h4 => by
    have hlen : s.cps.toList.length = s.length := Array.length_toList
    have hd : s.cps.toList.drop cur = [] := List.drop_eq_nil_of_le (by omega)
    rw [hd]
    simp only at h1 h2 h3 h4
    subst h1
    show (swEnd s (none, words, start)).map _ = wfl acc cw
    cases start with
    | none =>
      simp only at h3
      subst h3
      simpa [swEnd, wfl] using h4
    | some b =>
      obtain ⟨hb, rfl⟩ := h3
      have e : cur = s.length := by omega
      have hne : ¬ (s.cps.toList.drop b).take (cur - b) = [] := fun q => by
        have := congrArg List.length q
        simp at this
        have h5 : s.cps.size = s.length := rfl
        omega
      subst acc
      unfold wfl
      rw [if_neg hne, e]
      simp [swEnd, sub_eq]
  | m + 1, cur, (r, words, start), cw, acc, hm, h1, h2, h3, h4 => by
    have hlen : s.cps.toList.length = s.length := Array.length_toList
    have hlt : cur < s.cps.toList.length := by omega
    have hc : s.cps.getD cur 0 = s.cps.toList[cur] := by
      rw [← getD_list, List.getD_eq_getElem?_getD, List.getElem?_eq_getElem hlt]; rfl
    have hd : s.cps.toList.drop cur = s.cps.toList[cur] :: s.cps.toList.drop (cur + 1) := List.drop_eq_getElem_cons hlt
    rw [List.range'_succ, List.forIn_cons, hd]
    simp only at h1 h2 h3 h4
    subst h1
    have hsz : ¬ ((words.size == s.length + 1) = true) := by
      rw [beq_iff_eq]; omega
    unfold wgo
    rw [← hc]
    unfold swBody
    simp only [hsz, if_false]
    cases start with
    | none =>
      simp only at h3
      subst h3
      cases hsp : Unicode.isSpace (s.cps.getD cur 0)
      · refine (sw_go s m (cur + 1) (none, words, some cur) [s.cps.getD cur 0] acc (by omega) rfl (by show words.size ≤ _; omega) ⟨Nat.lt_succ_self _, ?_⟩ h4).trans ?_
        · rw [hd, hc]
          have : cur + 1 - cur = 1 := by omega
          rw [this]; rfl
        · simp
      · refine (sw_go s m (cur + 1) (none, words, none) [] acc (by omega) rfl (by show words.size ≤ _; omega) rfl h4).trans ?_
        simp [wfl]
    | some b =>
      obtain ⟨hb, rfl⟩ := h3
      have hne : ¬ (s.cps.toList.drop b).take (cur - b) = [] := fun q => by
        have := congrArg List.length q
        simp at this
        have h5 : s.cps.size = s.length := rfl
        omega
      cases hsp : Unicode.isSpace (s.cps.getD cur 0)
      · refine (sw_go s m (cur + 1) (none, words, some b) ((s.cps.toList.drop b).take (cur - b) ++ [s.cps.getD cur 0]) acc (by omega) rfl (by show words.size ≤ _; omega) ⟨by omega, ?_⟩ h4).trans ?_
        · have e : cur + 1 - b = (cur - b) + 1 := by omega
          rw [e, List.take_add_one, List.getElem?_drop]
          have e2 : b + (cur - b) = cur := by omega
          rw [e2, List.getElem?_eq_getElem hlt, hc]; rfl
        · simp
      · refine (sw_go s m (cur + 1) (none, words.push (b, cur), none) [] (wfl acc ((s.cps.toList.drop b).take (cur - b))) (by omega) rfl (by show (words.push (b, cur)).size ≤ _; rw [Array.size_push]; omega) rfl ?_).trans ?_
        · show (words.push (b, cur)).toList.map _ = _
          rw [Array.toList_push, List.map_append, h4]
          unfold wfl
          rw [if_neg hne]
          simp [sub_eq]
        · simp

theorem words_eq (x : Str) : Txt.words x = wgo x.cps.toList [] [] := by
  have key := sw_go x x.length 0 (none, #[], none) [] [] (by omega) rfl (Nat.le_refl _) rfl rfl
  rw [← StrLaws.sw_eq, List.drop_zero] at key
  rw [← key]
  unfold Txt.words
  split
  · rename_i h
    rw [beq_iff_eq] at h
    rw [h]
    simp [strSub_whole]
  · rfl

theorem wgo_drop (acc : List Str) : ∀ l : List Nat, wgo (l.dropWhile Unicode.isSpace) [] acc = wgo l [] acc
  | [] => rfl
  | c :: r => by
    by_cases h : Unicode.isSpace c = true
    · rw [List.dropWhile_cons_of_pos h, wgo_drop acc r]
      conv => rhs; unfold wgo
      rw [if_pos h]; rfl
    · rw [List.dropWhile_cons_of_neg h]

theorem drop_takeWhile {p : Nat → Bool} : ∀ l : List Nat, l.drop (l.takeWhile p).length = l.dropWhile p
  | [] => rfl
  | c :: r => by
    by_cases h : p c = true
    · rw [List.takeWhile_cons_of_pos h, List.dropWhile_cons_of_pos h]; exact drop_takeWhile r
    · rw [List.takeWhile_cons_of_neg h, List.dropWhile_cons_of_neg h]; rfl

theorem lstrip_list (x : Str) : (Txt.lstrip x).cps.toList = x.cps.toList.dropWhile Unicode.isSpace := by
  unfold Txt.lstrip
  rw [PyProof.Rows.stripBy_eq, StrLaws.strSub_toList]
  simp only [stripLo, stripHi, if_true, Bool.false_eq_true, if_false]
  rw [drop_takeWhile]
  refine List.take_of_length_le ?_
  have h := congrArg List.length (drop_takeWhile (p := Unicode.isSpace) x.cps.toList)
  rw [List.length_drop] at h
  have : x.cps.toList.length = x.length := Array.length_toList
  omega

/-- `line.lstrip().split()` is `line.split()` -/
theorem words_lstrip (x : Str) : Txt.words (Txt.lstrip x) = Txt.words x := by
  rw [words_eq, words_eq, lstrip_list, wgo_drop]
end Mine

namespace Mine
theorem codes_app (a b : Str) : KStt.codes (a ++ b) = KStt.codes a ++ KStt.codes b := by
  unfold KStt.codes
  rw [Str.cps_append, Array.toList_append, List.map_append]
theorem str_nil : Str.ofString "" = ⟨#[]⟩ := by decide +kernel
theorem app_nil (l : Str) : l ++ KStt.txt [] = l := by
  refine Str.ext' (Array.toList_inj.mp ?_)
  rw [Str.cps_append, Array.toList_append]
  show l.cps.toList ++ [] = _
  simp
theorem app_cons (l : Str) (c : Int) (r : List Int) : l ++ KStt.txt (c :: r) = (l ++ ⟨#[c.toNat]⟩) ++ KStt.txt r := by
  refine Str.ext' (Array.toList_inj.mp ?_)
  rw [Str.cps_append, Str.cps_append, Str.cps_append, Array.toList_append, Array.toList_append, Array.toList_append]
  show _ ++ (c.toNat :: r.map Int.toNat) = (_ ++ [c.toNat]) ++ r.map Int.toNat
  simp
theorem nil_app (l : Str) : Str.ofString "" ++ l = l := by
  rw [str_nil]
  refine Str.ext' (Array.toList_inj.mp ?_)
  rw [Str.cps_append, Array.toList_append]; rfl
theorem app_assoc (a b c : Str) : (a ++ b) ++ c = a ++ (b ++ c) := by
  refine Str.ext' (Array.toList_inj.mp ?_)
  simp only [Str.cps_append, Array.toList_append, List.append_assoc]

theorem run_plain (ls : List Str) (o : Bool) : ∀ (cs : List Int) (l : Str), (∀ c ∈ cs, c ≠ 8296 ∧ c ≠ 8297 ∧ c ≠ 32) → run cs (ls, l, o) = some (ls, l ++ KStt.txt cs, o)
  | [], l, _ => by rw [app_nil]; rfl
  | c :: r, l, h => by
    obtain ⟨h1, h2, h3⟩ := h c (.head _)
    show (step (ls, l, o) c).bind (run r) = _
    have e : step (ls, l, o) c = some (ls, l ++ ⟨#[c.toNat]⟩, o) := by simp [step, h1, h2, h3]
    rw [e, app_cons]
    exact run_plain ls o r _ fun d hd => h d (.tail _ hd)
theorem run_open (ls : List Str) : ∀ (cs : List Int) (l : Str), (∀ c ∈ cs, c ≠ 8296 ∧ c ≠ 8297) → run cs (ls, l, true) = some (ls, l ++ KStt.txt cs, true)
  | [], l, _ => by rw [app_nil]; rfl
  | c :: r, l, h => by
    obtain ⟨h1, h2⟩ := h c (.head _)
    show (step (ls, l, true) c).bind (run r) = _
    have e : step (ls, l, true) c = some (ls, l ++ ⟨#[c.toNat]⟩, true) := by
      by_cases h3 : c = 32 <;> simp [step, h1, h2, h3]
    rw [e, app_cons]
    exact run_open ls r _ fun d hd => h d (.tail _ hd)

theorem nameFacts : ∀ x ∈ NAMES, x.length ≠ 0 ∧ ((encl x = x ∧ (∀ c ∈ KStt.codes x, c ≠ 8296 ∧ c ≠ 8297 ∧ c ≠ 32) ∧ ∀ c ∈ x.cps.toList, Unicode.isSpace c = false) ∨
    (encl x = Str.ofString "\u2068" ++ x ++ Str.ofString "\u2069" ∧ ∀ c ∈ KStt.codes x, c ≠ 8296 ∧ c ≠ 8297)) := by decide +kernel

theorem num_digits {v : Int} (h0 : 0 ≤ v) : ∀ c ∈ (Str.ofString (toString v)).cps.toList, 48 ≤ c ∧ c ≤ 57 := by
  obtain ⟨n, rfl⟩ := Int.eq_ofNat_of_zero_le h0
  intro c hc
  rw [Str.ofString_eq_toList] at hc
  have e : toString ((n : Nat) : Int) = toString n := rfl
  rw [e] at hc
  have e2 : (toString n).toList = Nat.toDigits 10 n := by
    show (Nat.repr n).toList = _
    simp [Nat.repr]
  rw [e2] at hc
  obtain ⟨d, hd, rfl⟩ := List.mem_map.mp (by simpa using hc)
  have := Nat.isDigit_of_mem_toDigits (by decide) (by decide) hd
  simp [Char.isDigit] at this
  exact ⟨this.1, this.2⟩
end Mine
end

section
open PySem PySem.W PyProof.Rows PySem.Calls PySem.Builtin PySem.Builtin.Str
namespace Mine
theorem mem_codes {x : Str} {c : Int} : c ∈ KStt.codes x ↔ ∃ n ∈ x.cps.toList, (n : Int) = c := by
  unfold KStt.codes
  rw [List.mem_map]
theorem more_cps {y : Str} (h : MoreOk y) : ∀ c ∈ y.cps.toList, 48 ≤ c ∧ c ≤ 58 := by
  rcases h with rfl | ⟨v, h0, _, rfl⟩
  · rw [str_nil]; intro c hc; cases hc
  · intro c hc
    rw [Str.cps_append, Array.toList_append] at hc
    rcases List.mem_append.mp hc with hc | hc
    · have e : (Str.ofString ":").cps.toList = [58] := by decide +kernel
      rw [e] at hc
      rw [List.mem_singleton.mp hc]; decide
    · have := num_digits h0 c hc
      omega
theorem more_plain {y : Str} (h : MoreOk y) : ∀ c ∈ KStt.codes y, c ≠ 8296 ∧ c ≠ 8297 ∧ c ≠ 32 := by
  intro c hc
  obtain ⟨n, hn, rfl⟩ := mem_codes.mp hc
  have := more_cps h n hn
  omega
theorem more_nospace {y : Str} (h : MoreOk y) : ∀ c ∈ y.cps.toList, Unicode.isSpace c = false := by
  intro c hc
  have h2 := more_cps h c hc
  have h3 : ∀ k ∈ List.range 59, 48 ≤ k → Unicode.isSpace k = false := by decide +kernel
  exact h3 c (List.mem_range.mpr (by omega)) h2.1
theorem more_len {y : Str} (h : MoreOk y) : y.length ≤ 11 := by
  rcases h with rfl | ⟨v, h0, h1, rfl⟩
  · rw [len_none]; omega
  · rw [Str.length_append, len_colon]
    have := KT.len_num h0 (Int.lt_trans h1 (by decide))
    omega

theorem run_row {x y : Str} (hx : x ∈ NAMES) (hy : MoreOk y) (ls : List Str) : run (KStt.codes (encl x ++ y)) (ls, Str.ofString "", false) = some (ls, x ++ y, false) := by
  obtain ⟨_, h | h⟩ := nameFacts x hx
  · obtain ⟨e, hp, _⟩ := h
    rw [e, codes_app, run_append, run_plain ls false _ _ hp]
    show run (KStt.codes y) _ = _
    rw [run_plain ls false _ _ (more_plain hy), KStt.txt_codes, KStt.txt_codes, nil_app]
  · obtain ⟨e, hp⟩ := h
    rw [e, codes_app, codes_app, codes_app, run_append, run_append, run_append]
    have e1 : KStt.codes (Str.ofString "\u2068") = [8296] := by decide +kernel
    have e2 : KStt.codes (Str.ofString "\u2069") = [8297] := by decide +kernel
    rw [e1, e2]
    have s1 : run [8296] (ls, Str.ofString "", false) = some (ls, Str.ofString "", true) := rfl
    rw [s1]
    show ((run (KStt.codes x) (ls, Str.ofString "", true)).bind (run [8297])).bind (run (KStt.codes y)) = _
    rw [run_open ls _ _ hp, KStt.txt_codes, nil_app]
    have s2 : run [8297] (ls, x, true) = some (ls, x, false) := rfl
    show (run [8297] (ls, x, true)).bind _ = _
    rw [s2]
    show run (KStt.codes y) (ls, x, false) = _
    rw [run_plain ls false _ _ (more_plain hy), KStt.txt_codes]

/-- the pieces, each behind a blank -/
def catR : List Str → List Nat
  | [] => []
  | r :: t => 32 :: (r.cps.toList ++ catR t)
theorem join_cat (r : Str) : ∀ t : List Str, (Str.join (Str.ofString " ") (r :: t)).cps.toList = r.cps.toList ++ catR t
  | [] => by simp [Str.join, catR]
  | q :: t => by
    show (r ++ Str.ofString " " ++ Str.join (Str.ofString " ") (q :: t)).cps.toList = _
    rw [Str.cps_append, Str.cps_append, Array.toList_append, Array.toList_append, join_cat q t]
    have e : (Str.ofString " ").cps.toList = [32] := by decide +kernel
    rw [e]
    simp [catR]
theorem text_cat (rows : List Str) (h : rows ≠ []) : (Str.ofString " " ++ Txt.join (Str.ofString " ") rows).cps.toList = catR rows := by
  have e : (Str.ofString " ").cps.toList = [32] := by decide +kernel
  rw [Str.cps_append, Array.toList_append, e]
  cases rows with
  | nil => exact absurd rfl h
  | cons r t =>
    show [32] ++ (Builtin.Str.glued (Str.ofString " ") (r :: t)).cps.toList = _
    rw [StrLaws.glued_eq_join, join_cat]; rfl

def flush (ls : List Str) (l : Str) : List Str := if l.length = 0 then ls else ls ++ [l]
theorem run_blank (ls : List Str) (l : Str) : run [32] (ls, l, false) = some (flush ls l, Str.ofString "", false) := by
  show (step (ls, l, false) 32).bind (run []) = _
  unfold flush
  by_cases h : l.length = 0
  · have : l = Str.ofString "" := by
      rw [str_nil]
      obtain ⟨c⟩ := l
      have : c.size = 0 := h
      rw [Array.size_eq_zero_iff.mp this]
    rw [if_pos h, this]; rfl
  · rw [if_neg h]; simp [step, h, run]

theorem run_rows : ∀ (its : List (Str × Str)) (ls : List Str) (l : Str), (∀ it ∈ its, it.1 ∈ NAMES ∧ MoreOk it.2) →
    ∃ ls' l', run ((catR (its.map fun it => encl it.1 ++ it.2)).map fun (c : Nat) => (c : Int)) (ls, l, false) = some (ls', l', false) ∧ flush ls' l' = flush ls l ++ its.map fun it => it.1 ++ it.2
  | [], ls, l, _ => ⟨ls, l, rfl, by simp⟩
  | it :: r, ls, l, h => by
    obtain ⟨hx, hy⟩ := h it (.head _)
    obtain ⟨ls', l', h1, h2⟩ := run_rows r (flush ls l) (it.1 ++ it.2) fun q hq => h q (.tail _ hq)
    refine ⟨ls', l', ?_, ?_⟩
    · show run ((32 : Int) :: ((encl it.1 ++ it.2).cps.toList ++ catR _).map fun (c : Nat) => (c : Int)) _ = _
      rw [List.map_append]
      show run ([32] ++ (KStt.codes (encl it.1 ++ it.2) ++ _)) _ = _
      rw [run_append, run_blank]
      show run (KStt.codes (encl it.1 ++ it.2) ++ _) (flush ls l, Str.ofString "", false) = _
      rw [run_append, run_row hx hy]
      exact h1
    · rw [h2]
      have : (it.1 ++ it.2).length ≠ 0 := by
        have := (nameFacts _ hx).1
        rw [Str.length_append]; omega
      unfold flush
      rw [if_neg this]
      simp

theorem wgo_word (acc : List Str) : ∀ (r rest cur : List Nat), (∀ c ∈ r, Unicode.isSpace c = false) → wgo (r ++ rest) cur acc = wgo rest (cur ++ r) acc
  | [], rest, cur, _ => by simp
  | c :: r, rest, cur, h => by
    show (if Unicode.isSpace c = true then wgo (r ++ rest) [] (wfl acc cur) else wgo (r ++ rest) (cur ++ [c]) acc) = _
    rw [h c (.head _)]
    simp only [Bool.false_eq_true, if_false]
    rw [wgo_word acc r rest (cur ++ [c]) fun d hd => h d (.tail _ hd)]
    simp
theorem wgo_rows : ∀ (rows : List Str) (cur : List Nat) (acc : List Str), (∀ r ∈ rows, r.length ≠ 0 ∧ ∀ c ∈ r.cps.toList, Unicode.isSpace c = false) → wgo (catR rows) cur acc = wfl acc cur ++ rows
  | [], cur, acc, _ => by simp [catR, wgo]
  | r :: t, cur, acc, h => by
    obtain ⟨h1, h2⟩ := h r (.head _)
    show (if Unicode.isSpace 32 = true then wgo (r.cps.toList ++ catR t) [] (wfl acc cur) else wgo (r.cps.toList ++ catR t) (cur ++ [32]) acc) = _
    have : Unicode.isSpace 32 = true := by decide +kernel
    rw [if_pos this, wgo_word _ _ _ _ h2, List.nil_append, wgo_rows t _ _ fun q hq => h q (.tail _ hq)]
    have hne : ¬ r.cps.toList = [] := fun q => h1 (by
      have := congrArg List.length q
      simpa [Str.length] using this)
    have hr : (⟨r.cps.toList.toArray⟩ : Str) = r := rfl
    simp [wfl, hne, hr]

theorem bare_iff {x : Str} : bare x ↔ 8296 ∉ x.cps.toList ∧ 8297 ∉ x.cps.toList := by
  unfold bare
  have h1 := StrLaws.found_one x 8296
  have h2 := StrLaws.found_one x 8297
  rw [sOpen, sShut]
  constructor
  · rintro ⟨a, b⟩
    rw [a] at h1; rw [b] at h2
    exact ⟨by simpa using h1.symm, by simpa using h2.symm⟩
  · rintro ⟨a, b⟩
    rw [decide_eq_false a] at h1; rw [decide_eq_false b] at h2
    exact ⟨by simpa using h1, by simpa using h2⟩

theorem mem_cat {c : Nat} : ∀ {rows : List Str} {r : Str}, r ∈ rows → c ∈ r.cps.toList → c ∈ catR rows
  | q :: t, r, h, hc => by
    show c ∈ 32 :: (q.cps.toList ++ catR t)
    rcases List.mem_cons.mp h with rfl | h
    · exact .tail _ (List.mem_append_left _ hc)
    · exact .tail _ (List.mem_append_right _ (mem_cat h hc))

theorem cat_len : ∀ (rows : List Str), (∀ r ∈ rows, r.length ≤ 33) → (catR rows).length ≤ 34 * rows.length
  | [], _ => Nat.le_refl _
  | q :: t, h => by
    have h1 := h q (.head _)
    have h2 := cat_len t fun r hr => h r (.tail _ hr)
    show (32 :: (q.cps.toList ++ catR t)).length ≤ _
    rw [List.length_cons, List.length_append, List.length_cons]
    have : q.cps.toList.length = q.length := Array.length_toList
    omega

/-- the first loop's text, read -/
theorem its_text {k : Nat} {ws ws' : List Str} (h : Its k ws ws') (h1 : 1 ≤ k) (h4 : k ≤ 4) :
    (ws'.map (·.length)).sum + ws'.length * (Str.ofString " ").length ≤ 16777216 ∧ (Txt.join (Str.ofString " ") ws').length ≤ 200 ∧ (Str.ofString " " ++ Txt.join (Str.ofString " ") ws').length ≤ 200 ∧
    (bare (Str.ofString " " ++ Txt.join (Str.ofString " ") ws') → Txt.words (Txt.lstrip (Str.ofString " " ++ Txt.join (Str.ofString " ") ws')) = ws) ∧
    ext (KStt.codes (Str.ofString " " ++ Txt.join (Str.ofString " ") ws')) = some ws := by
  obtain ⟨its, hk, hok, rfl, rfl⟩ := h
  have hne : (its.map fun it => encl it.1 ++ it.2) ≠ [] := by
    intro q
    have := congrArg List.length q
    simp at this
    rw [this] at hk
    simp at hk
    omega
  have hcat := text_cat _ hne
  have hrow : ∀ r ∈ its.map (fun it => encl it.1 ++ it.2), r.length ≤ 33 := by
    intro r hr
    obtain ⟨it, hit, rfl⟩ := List.mem_map.mp hr
    obtain ⟨hx, hy⟩ := hok it hit
    have a := (names_ok _ hx).lenE
    have b := more_len hy
    rw [Str.length_append]; omega
  have hlen : (Str.ofString " " ++ Txt.join (Str.ofString " ") (its.map fun it => encl it.1 ++ it.2)).length ≤ 136 := by
    have a := cat_len _ hrow
    rw [← hcat] at a
    have b : (Str.ofString " " ++ Txt.join (Str.ofString " ") (its.map fun it => encl it.1 ++ it.2)).cps.toList.length = (Str.ofString " " ++ Txt.join (Str.ofString " ") (its.map fun it => encl it.1 ++ it.2)).length := Array.length_toList
    rw [b, List.length_map, hk] at a
    omega
  have hsum : ∀ l : List Str, (∀ r ∈ l, r.length ≤ 33) → (l.map (·.length)).sum ≤ 33 * l.length := by
    intro l
    induction l with
    | nil => intro _; exact Nat.le_refl _
    | cons q t ih =>
      intro h
      have a := h q (.head _)
      have b := ih fun r hr => h r (.tail _ hr)
      simp only [List.map_cons, List.sum_cons, List.length_cons]
      omega
  refine ⟨?_, ?_, by omega, ?_, ?_⟩
  · have := hsum _ hrow
    rw [len_blank, List.length_map, hk] at *
    omega
  · rw [Str.length_append, len_blank] at hlen
    omega
  · intro hb
    rw [words_lstrip, words_eq, hcat]
    rw [bare_iff, hcat] at hb
    have he : ∀ it ∈ its, encl it.1 = it.1 ∧ ∀ c ∈ it.1.cps.toList, Unicode.isSpace c = false := by
      intro it hit
      obtain ⟨hx, hy⟩ := hok it hit
      obtain ⟨_, h | h⟩ := nameFacts _ hx
      · exact ⟨h.1, h.2.2⟩
      · refine absurd (mem_cat (List.mem_map.mpr ⟨it, hit, rfl⟩) ?_) hb.1
        rw [h.1, sOpen]
        simp [Str.cps_append]
    have e : its.map (fun it => encl it.1 ++ it.2) = its.map fun it => it.1 ++ it.2 := List.map_congr_left fun it hit => by rw [(he it hit).1]
    rw [e, wgo_rows]
    · simp [wfl]
    · intro r hr
      obtain ⟨it, hit, rfl⟩ := List.mem_map.mp hr
      obtain ⟨hx, hy⟩ := hok it hit
      refine ⟨by have := (nameFacts _ hx).1; rw [Str.length_append]; omega, fun c hc => ?_⟩
      rw [Str.cps_append, Array.toList_append] at hc
      rcases List.mem_append.mp hc with hc | hc
      · exact (he it hit).2 c hc
      · exact more_nospace hy c hc
  · obtain ⟨ls', l', r1, r2⟩ := run_rows its [] (Str.ofString "") hok
    unfold ext go KStt.codes
    rw [hcat, r1]
    show fin (ls', l', false) = _
    have : flush [] (Str.ofString "") = [] := by unfold flush; rw [if_pos len_none]
    rw [this] at r2
    rw [List.nil_append] at r2
    rw [← r2]
    unfold fin flush
    by_cases h0 : l'.length = 0 <;> simp [h0]
end Mine
end

section
open PySem PySem.W PyProof.Rows PySem.Calls PyProof.V PySem.Spec
namespace Mine
/-- every sign is one of Unicode's -/
def okS (x : Str) : Prop := ∀ c ∈ x.cps.toList, c < 1114112
theorem okS_iff {x : Str} (h : okS x) : PyData.strOk x = true := by
  unfold PyData.strOk
  rw [Array.all_eq_true']
  intro c hc
  exact decide_eq_true (h c (by simpa using hc))
theorem okS_app {a b : Str} (ha : okS a) (hb : okS b) : okS (a ++ b) := by
  intro c hc
  rw [Str.cps_append, Array.toList_append] at hc
  exact (List.mem_append.mp hc).elim (ha c) (hb c)
theorem okS_one {n : Nat} (h : n < 1114112) : okS ⟨#[n]⟩ := by
  intro c hc
  have : c = n := by simpa using hc
  omega
theorem okS_nil : okS (Str.ofString "") := by
  rw [str_nil]; intro c hc; cases hc
def AllOk (ls : List Str) : Prop := ∀ x ∈ ls, okS x
theorem AllOk.snoc {ls : List Str} {x : Str} (h : AllOk ls) (hx : okS x) : AllOk (ls ++ [x]) := by
  intro y hy
  rcases List.mem_append.mp hy with q | q
  · exact h y q
  · rw [List.mem_singleton.mp q]; exact hx
theorem step_ok {σ τ : List Str × Str × Bool} {c : Int} (hc : c < 1114112) (h : step σ c = some τ) (h1 : AllOk σ.1) (h2 : okS σ.2.1) : AllOk τ.1 ∧ okS τ.2.1 := by
  obtain ⟨ls, l, o⟩ := σ
  have one : okS ⟨#[c.toNat]⟩ := okS_one (by omega)
  unfold step at h
  simp only at h h1 h2
  split at h
  · split at h
    · cases h
    · cases h; exact ⟨h1, h2⟩
  · split at h
    · split at h
      · cases h; exact ⟨h1, h2⟩
      · cases h
    · split at h
      · split at h
        · cases h; exact ⟨h1, okS_app h2 one⟩
        · split at h
          · cases h; exact ⟨h1, h2⟩
          · cases h; exact ⟨h1.snoc h2, okS_nil⟩
      · cases h; exact ⟨h1, okS_app h2 one⟩
theorem run_ok : ∀ (cs : List Int) (σ τ : List Str × Str × Bool), (∀ c ∈ cs, c < 1114112) → run cs σ = some τ → AllOk σ.1 → okS σ.2.1 → AllOk τ.1 ∧ okS τ.2.1
  | [], σ, τ, _, h, h1, h2 => by
    cases h; exact ⟨h1, h2⟩
  | c :: r, σ, τ, hc, h, h1, h2 => by
    have h' : (step σ c).bind (run r) = some τ := h
    cases e : step σ c with
    | none => rw [e] at h'; cases h'
    | some ρ =>
      rw [e] at h'
      obtain ⟨a, b⟩ := step_ok (hc c (.head _)) e h1 h2
      exact run_ok r ρ τ (fun d hd => hc d (.tail _ hd)) h' a b
theorem ext_ok {x : Str} {ws : List Str} (hx : okS x) (h : ext (KStt.codes x) = some ws) : AllOk ws := by
  unfold ext at h
  cases e : go (KStt.codes x) with
  | none => rw [e] at h; cases h
  | some τ =>
    rw [e] at h
    have h' : fin τ = some ws := h
    obtain ⟨a, b⟩ := run_ok (KStt.codes x) _ τ (fun c hc => by
      obtain ⟨n, hn, rfl⟩ := mem_codes.mp hc
      have := hx n hn
      omega) e (fun _ h => nomatch h) okS_nil
    unfold fin at h'
    split at h'
    · cases h'; exact a
    · split at h'
      · cases h'
      · cases h'; exact a.snoc b
theorem wfl_ok {acc : List Str} {cur : List Nat} (h1 : AllOk acc) (h2 : ∀ c ∈ cur, c < 1114112) : AllOk (wfl acc cur) := by
  unfold wfl
  split
  · exact h1
  · exact h1.snoc fun c hc => h2 c (by simpa using hc)
theorem wgo_ok : ∀ (l cur : List Nat) (acc : List Str), (∀ c ∈ l, c < 1114112) → AllOk acc → (∀ c ∈ cur, c < 1114112) → AllOk (wgo l cur acc)
  | [], cur, acc, _, h1, h2 => wfl_ok h1 h2
  | c :: r, cur, acc, h, h1, h2 => by
    show AllOk (if Unicode.isSpace c = true then wgo r [] (wfl acc cur) else wgo r (cur ++ [c]) acc)
    split
    · exact wgo_ok r [] _ (fun d hd => h d (.tail _ hd)) (wfl_ok h1 h2) (fun _ h => nomatch h)
    · refine wgo_ok r _ _ (fun d hd => h d (.tail _ hd)) h1 fun d hd => ?_
      rcases List.mem_append.mp hd with q | q
      · exact h2 d q
      · rw [List.mem_singleton.mp q]; exact h c (.head _)
theorem words_ok {x : Str} (h : okS x) : AllOk (Txt.words x) := by
  rw [words_eq]
  exact wgo_ok _ _ _ h (fun _ h => nomatch h) (fun _ h => nomatch h)
theorem its_ok {k : Nat} {ws ws' : List Str} (h : Its k ws ws') : AllOk ws := by
  obtain ⟨its, _, hok, rfl, _⟩ := h
  intro x hx
  obtain ⟨it, hit, rfl⟩ := List.mem_map.mp hx
  obtain ⟨ha, hb⟩ := hok it hit
  have hn : ∀ x ∈ NAMES, ∀ c ∈ x.cps.toList, c < 1114112 := by decide +kernel
  exact okS_app (hn _ ha) fun c hc => by have := more_cps hb c hc; omega

theorem lay_strs : ∀ ws : List Str, AllOk ws → PyData.canLayAll0 (ws.map PyData.str) = true
  | [], _ => rfl
  | x :: r, h => by simp [PyData.canLayAll0, PyData.canLay0, okS_iff (h x (.head _)), lay_strs r fun y hy => h y (.tail _ hy)]
theorem depth_strs : ∀ ws : List Str, PyData.depthAll (ws.map PyData.str) = 0
  | [] => rfl
  | _ :: r => by simp [PyData.depthAll, PyData.depth, depth_strs r]
theorem shaped_strs (ws : List Str) (h : AllOk ws) : SeqAt.shaped (.list (ws.map PyData.str)) = true := by
  simp [SeqAt.shaped, PyData.canLay0, PyData.depth, lay_strs ws h, depth_strs]
theorem sameAll_strs : ∀ ws : List Str, PySem.Spec.sameAll (ws.map PyData.str) (ws.map PyData.str) = true
  | [] => by simp [PySem.Spec.sameAll]
  | a :: r => by simp [PySem.Spec.sameAll, PySem.Spec.same, sameAll_strs r]
theorem carried_strs : ∀ {vs : List Value} {ws : List Str}, StrsAre vs ws → CarriedAll vs (ws.map PyData.str)
  | _, _, .nil => .nil
  | _, _, .cons _ t r => .cons (.str _ t) (carried_strs r)
section
variable {prog : Program} {w : World} {A : Around} {E : Value → Shared → Prop} {s : Shared} {a b : Addr} {xs ys : List Value} {ws : List Str} {Q : Value → Shared → Prop}
theorem eq_strs (ha : s.heap.IsList a xs.toArray) (hb : s.heap.IsList b ys.toArray) (hi : StrsAre xs ws) (hj : StrsAre ys ws) (ho : AllOk ws) (hu : A.units + 64 < cLine) (h : Q (.bool true) s) :
    wpAny (model prog w) A (compareOp .Eq (.ref a) (.ref b)) Q E s :=
  eq_dataH_same (reads_newData ha (carried_strs hi)) (reads_newData hb (carried_strs hj)) (shaped_strs _ ho) (shaped_strs _ ho) hu (SeqAt.noMix_of_shape (.list .str) rfl _ _ (list_map_has fun _ => rfl) (list_map_has fun _ => rfl)) (by
    simp only [PySem.Spec.same]; rw [sameAll_strs]; exact h)
theorem ne_strs (ha : s.heap.IsList a xs.toArray) (hb : s.heap.IsList b ys.toArray) (hi : StrsAre xs ws) (hj : StrsAre ys ws) (ho : AllOk ws) (hu : A.units + 64 < cLine) (h : Q (.bool false) s) :
    wpAny (model prog w) A (compareOp .NotEq (.ref a) (.ref b)) Q E s :=
  ne_dataH_same (reads_newData ha (carried_strs hi)) (reads_newData hb (carried_strs hj)) (shaped_strs _ ho) (shaped_strs _ ho) hu (SeqAt.noMix_of_shape (.list .str) rfl _ _ (list_map_has fun _ => rfl) (list_map_has fun _ => rfl)) (by
    simp only [PySem.Spec.same]; rw [sameAll_strs]; exact h)
end
theorem no_both {l : List Int} {ws : List Str} (h : ext l = none) (h' : ext l = some ws) : False := by rw [h] at h'; cases h'
theorem read_same {x : Str} {ws ws₁ : List Str} (h : (bare x ∧ ws₁ = Txt.words (Txt.lstrip x)) ∨ (¬ bare x ∧ ext (KStt.codes x) = some ws₁)) (h1 : bare x → Txt.words (Txt.lstrip x) = ws) (h2 : ext (KStt.codes x) = some ws) : ws₁ = ws := by
  rcases h with ⟨a, b⟩ | ⟨_, b⟩
  · rw [b, h1 a]
  · rw [h2] at b; exact (Option.some.inj b).symm
end Mine

namespace Mine
theorem pieces_sane : ∀ x ∈ PIECES, okS x := by
  have h : ∀ x ∈ PIECES, ∀ c ∈ x.cps.toList, c < 1114112 := by decide +kernel
  exact h
theorem seven_of {v : Int} (_ : v ≤ 2000000) : v.fmod 7 = (((v.fmod 7).toNat : Nat) : Int) ∧ (v.fmod 7).toNat ≤ 6 := by
  have hv2 : 0 ≤ v.fmod 7 := Int.fmod_nonneg_of_pos _ (by decide)
  have hv3 : v.fmod 7 < 7 := Int.fmod_lt_of_pos _ (by decide)
  omega
theorem many_of {v : Int} (_ : v ≤ 2000000) : 1 + v.fmod 4 = (((1 + v.fmod 4).toNat : Nat) : Int) ∧ (1 + v.fmod 4).toNat ≤ 4 ∧ 1 ≤ (1 + v.fmod 4).toNat := by
  have hv2 : 0 ≤ v.fmod 4 := Int.fmod_nonneg_of_pos _ (by decide)
  have hv3 : v.fmod 4 < 4 := Int.fmod_lt_of_pos _ (by decide)
  omega
end Mine

namespace Mine
section
variable {prog : Program} {w : World} {A : Around} {E : Value → Shared → Prop} {s : Shared} {h₀ : Heap} {L a b : Addr} {us us' : List Value} {ws ws' : List Str} {n n' : Nat} {news : List (Addr × Obj)} {Q : Value → Shared → Prop} {row : Str}
theorem nb1 (h : (Builtin.Str.occurrences row (Str.ofString "\u2068") 0 row.length 1).isEmpty = false) : ¬ bare row := fun q => by rw [q.1] at h; cases h
theorem nb2 (h : (Builtin.Str.occurrences row (Str.ofString "\u2069") 0 row.length 1).isEmpty = false) : ¬ bare row := fun q => by rw [q.2] at h; cases h
theorem close_split (hok : okS row) (hb1 : (Builtin.Str.occurrences row (Str.ofString "\u2068") 0 row.length 1).isEmpty = true) (hb2 : (Builtin.Str.occurrences row (Str.ofString "\u2069") 0 row.length 1).isEmpty = true)
    (hc : (bare row ∧ ws = Txt.words (Txt.lstrip row)) ∨ (¬ bare row ∧ ext (KStt.codes row) = some ws)) (hs : StrsAre us ws) (e : ws' = Txt.words row) (hs' : StrsAre us' ws')
    (N : News h₀ L s.heap news) (ma : (a, listOf us.toArray n) ∈ news) (mb : (b, listOf us'.toArray n') ∈ news) (hu : A.units + 64 < cLine) (h : Q (.bool true) s) :
    wpAny (model prog w) A (compareOp .Eq (.ref a) (.ref b)) Q E s := by
  have e1 : ws = Txt.words row := by
    rcases hc with ⟨_, q⟩ | ⟨q, _⟩
    · rw [q, words_lstrip]
    · exact absurd ⟨hb1, hb2⟩ q
  subst e1 e
  exact eq_strs ⟨_, (N _ ma).1, rfl, n, rfl⟩ ⟨_, (N _ mb).1, rfl, n', rfl⟩ hs hs' (words_ok hok) hu h
theorem close_told (hok : okS row) (hnb : ¬ bare row) (hc : (bare row ∧ ws = Txt.words (Txt.lstrip row)) ∨ (¬ bare row ∧ ext (KStt.codes row) = some ws)) (hs : StrsAre us ws) (e : ext (KStt.codes row) = some ws') (hs' : StrsAre us' ws')
    (N : News h₀ L s.heap news) (ma : (a, listOf us.toArray n) ∈ news) (mb : (b, listOf us'.toArray n') ∈ news) (hu : A.units + 64 < cLine) (h : Q (.bool true) s) :
    wpAny (model prog w) A (compareOp .Eq (.ref a) (.ref b)) Q E s := by
  have e1 : ws = ws' := by
    rcases hc with ⟨q, _⟩ | ⟨_, q⟩
    · exact absurd q hnb
    · rw [e] at q; exact (Option.some.inj q).symm
  subst e1
  exact eq_strs ⟨_, (N _ ma).1, rfl, n, rfl⟩ ⟨_, (N _ mb).1, rfl, n', rfl⟩ hs hs' (ext_ok hok e) hu h
theorem told_none (hnb : ¬ bare row) (hc : (bare row ∧ ws = Txt.words (Txt.lstrip row)) ∨ (¬ bare row ∧ ext (KStt.codes row) = some ws)) (e : ext (KStt.codes row) = none) : False := by
  rcases hc with ⟨q, _⟩ | ⟨_, q⟩
  · exact hnb q
  · exact no_both e q
end
end Mine
end

section
open PySem PySem.W PyProof.Rows PySem.Calls
namespace Mine
def JExt (l' : Addr) (news : List (Addr × Obj)) (pre : List Int) (m : Str → Option Value) (nx : List (Addr × Obj)) : Prop :=
  ∃ loc tl inF locs us cnt, m (Str.ofString "location") = some (.str loc tl) ∧ m (Str.ofString "in_filename") = some (.bool inF) ∧ m (Str.ofString "locations") = some (.ref l') ∧
    nx = (l', listOf us.toArray cnt) :: news ∧ StrsAre us locs ∧ us.length ≤ pre.length ∧ loc.length ≤ pre.length ∧ go pre = some (locs, loc, inF)

theorem ne_all {l' I : Addr} {o : Obj} {news : List (Addr × Obj)} (h1 : l' ≠ I) (h : ∀ p ∈ news, p.1 ≠ I) : ∀ p ∈ (l', o) :: news, p.1 ≠ I := by
  intro p hp
  rcases List.mem_cons.mp hp with rfl | hp
  · exact h1
  · exact h p hp

theorem jext_end {L I l' : Addr} {oI : Obj} {h₀ h' : Heap} {news : List (Addr × Obj)} {pre : List Int} {n : Nat} {s₁ : Shared} {tk' : Nat} {m' : Str → Option Value} {loc : Str} {tl : Tok} {inF : Bool} {locs : List Str} {us : List Value} {cnt : Nat} {σ : List Str × Str × Bool}
    (hgo : go pre = some σ) (hst : step σ n = some (locs, loc, inF)) (hne : ∀ p ∈ (l', listOf us.toArray cnt) :: news, p.1 ≠ I)
    (F : Fr h₀ L h' m') (N : News h₀ L h' ((I, oI) :: (l', listOf us.toArray cnt) :: news))
    (e1 : m' (Str.ofString "location") = some (.str loc tl)) (e2 : m' (Str.ofString "in_filename") = some (.bool inF)) (e3 : m' (Str.ofString "locations") = some (.ref l'))
    (hus : StrsAre us locs) (hl1 : us.length ≤ pre.length + 1) (hl2 : loc.length ≤ pre.length + 1) :
    ∃ h'' tk m'' nx' news', ({ s₁ with heap := h', toks := tk' } : Shared) = { s₁ with heap := h'', toks := tk } ∧ Fr h₀ L h'' m'' ∧ News h₀ L h'' news' ∧ (I, oI) ∈ news' ∧ (∀ p ∈ nx', p ∈ news') ∧ (∀ p ∈ nx', p.1 ≠ I) ∧ JExt l' news (pre ++ [(n : Int)]) m'' nx' :=
  ⟨h', tk', m', _, _, rfl, F, N, .head _, fun p hp => .tail _ hp, hne, loc, tl, inF, locs, us, cnt, e1, e2, e3, rfl, hus, by rw [List.length_append]; exact hl1, by rw [List.length_append]; exact hl2, by rw [go_snoc hgo]; exact hst⟩
def JTol (news : List (Addr × Obj)) (pre : List Int) (m : Str → Option Value) (nx : List (Addr × Obj)) : Prop :=
  ∃ b loc tl inF locs us cnt, m (Str.ofString "here") = some (.str loc tl) ∧ m (Str.ofString "is_open") = some (.bool inF) ∧ m (Str.ofString "found") = some (.ref b) ∧
    nx = (b, listOf us.toArray cnt) :: news ∧ StrsAre us locs ∧ us.length ≤ pre.length ∧ loc.length ≤ pre.length ∧ go pre = some (locs, loc, inF)

theorem jtol_end {L I b : Addr} {oI : Obj} {h₀ h' : Heap} {news : List (Addr × Obj)} {pre : List Int} {n : Nat} {s₁ : Shared} {tk' : Nat} {m' : Str → Option Value} {loc : Str} {tl : Tok} {inF : Bool} {locs : List Str} {us : List Value} {cnt : Nat} {σ : List Str × Str × Bool} {news' : List (Addr × Obj)}
    (hgo : go pre = some σ) (hst : step σ n = some (locs, loc, inF)) (hne : ∀ p ∈ (b, listOf us.toArray cnt) :: news, p.1 ≠ I)
    (F : Fr h₀ L h' m') (N : News h₀ L h' news') (hI : (I, oI) ∈ news') (hs : ∀ p ∈ (b, listOf us.toArray cnt) :: news, p ∈ news')
    (e1 : m' (Str.ofString "here") = some (.str loc tl)) (e2 : m' (Str.ofString "is_open") = some (.bool inF)) (e3 : m' (Str.ofString "found") = some (.ref b))
    (hus : StrsAre us locs) (hl1 : us.length ≤ pre.length + 1) (hl2 : loc.length ≤ pre.length + 1) :
    ∃ h'' tk m'' nx' news', ({ s₁ with heap := h', toks := tk' } : Shared) = { s₁ with heap := h'', toks := tk } ∧ Fr h₀ L h'' m'' ∧ News h₀ L h'' news' ∧ (I, oI) ∈ news' ∧ (∀ p ∈ nx', p ∈ news') ∧ (∀ p ∈ nx', p.1 ≠ I) ∧ JTol news (pre ++ [(n : Int)]) m'' nx' :=
  ⟨h', tk', m', _, _, rfl, F, N, hI, hs, hne, b, loc, tl, inF, locs, us, cnt, e1, e2, e3, rfl, hus, by rw [List.length_append]; exact hl1, by rw [List.length_append]; exact hl2, by rw [go_snoc hgo]; exact hst⟩

theorem ne_new {I D b : Addr} {o o' : Obj} {news : List (Addr × Obj)} (h : ∀ p ∈ (b, o) :: news, p.1 ≠ I) (hD : D ≠ I) : ∀ p ∈ (D, o') :: news, p.1 ≠ I := by
  intro p hp
  rcases List.mem_cons.mp hp with rfl | hp
  · exact hD
  · exact h p (.tail _ hp)
structure TolMark : Prop where
  mark :: (one : True)
theorem tolMark : TolMark := ⟨trivial⟩
structure LawMark : Prop where
  mark :: (one : True)
theorem lawMark : LawMark := ⟨trivial⟩
/-- a side proof over the very view and written part of the goal -/
theorem cut {p : Program} {lo : List Str} {XP : (Str → Option Value) → Heap → Prop} {K : Params → Frag} {as : List Addr} {pf : ∀ P, as = (K P).map (·.1)} {r : RowW} {fd : DefRec} {kwd : List (Str × Expr)} {rn : Value → List Value → Sem Value} (P : Program → (Params → Frag) → Prop) (c : P p K)
    (k : P p K → WalkO p lo XP (kHook K as pf).says r fd kwd rn) : WalkO p lo XP (kHook K as pf).says r fd kwd rn := k c
def ExtC (p : Program) (K : Params → Frag) (w : World) : Prop :=
  ∀ (mean : ExcName → Option Value)
    (mg mb : Str → Option Value)
    (dp un : Nat)
    (gd : Option (List Code))
    (cn : Str)
    (cs : Scope)
    (a : Addr)
    (ccd : Value)
    (cl : List (Str × Addr))
    (outer : List Env)
    (A₀ : Around)
    (base h₀ : Heap)
    (L : Addr)
    (m : Str → Option Value)
    (news : List (Addr × Obj))
    (s : Shared)
    (x : Str)
    (t : Tok)
    (Q E : Value → Shared → Prop)
    (B : Below A₀ base outer h₀)
    (F : Fr h₀ L s.heap m)
    (X : (K w.params).In h₀)
    (N : News h₀ L s.heap news)
    (T : Top p (looseW p []) mean mg mb h₀)
    (hk : cs.kind = .function)
    (hd : dp + 1 < recursionLimit)
    (hu : un + 8 < cLine)
    (hx : x.length ≤ 1000)
    (ret : ∀ (a : Addr) (us : List Value) (n : Nat) (ws : List Str) h' tk', ((bare x ∧ ws = Txt.words (Txt.lstrip x)) ∨ (¬ bare x ∧ ext (KStt.codes x) = some ws)) → StrsAre us ws → Fr h₀ L h' m → News h₀ L h' ((a, listOf us.toArray n) :: news) → Q (.ref a) { s with heap := h', toks := tk' })
    (rai : ∀ (e t : Addr) vs g h' tk', ¬ bare x → ext (KStt.codes x) = none → Fr h₀ L g m → RaisedS base g (envX cn cs L a ccd cl :: outer) e (.type "ValueError") t vs news h' → g.UpToSlots h' → E (.ref e) { s with heap := h', toks := tk' }),
    wpAny (model PySem.Challenge.rw_ey0004_01.row.prog w) (ktrTop dp un gd cn cs L a ccd cl outer) (call (.ref 21) [.str x t]) Q E s

def TolC (p : Program) (K : Params → Frag) (w : World) : Prop :=
  ∀ (mean : ExcName → Option Value)
    (mg mb : Str → Option Value)
    (dp un : Nat)
    (gd : Option (List Code))
    (cn : Str)
    (cs : Scope)
    (a : Addr)
    (ccd : Value)
    (cl : List (Str × Addr))
    (outer : List Env)
    (A₀ : Around)
    (base h₀ : Heap)
    (L : Addr)
    (m : Str → Option Value)
    (news : List (Addr × Obj))
    (s : Shared)
    (x : Str)
    (t : Tok)
    (Q E : Value → Shared → Prop)
    (B : Below A₀ base outer h₀)
    (F : Fr h₀ L s.heap m)
    (X : (K w.params).In h₀)
    (N : News h₀ L s.heap news)
    (T : Top p (looseW p []) mean mg mb h₀)
    (hk : cs.kind = .function)
    (hd : dp + 1 < recursionLimit)
    (hu : un + 8 < cLine)
    (hx : x.length ≤ 1000)
    (ret : ∀ (a : Addr) (us : List Value) (n : Nat) (ws : List Str) h' tk', ext (KStt.codes x) = some ws → StrsAre us ws → Fr h₀ L h' m → News h₀ L h' ((a, listOf us.toArray n) :: news) → Q (.ref a) { s with heap := h', toks := tk' })
    (non : ∀ h' tk', ext (KStt.codes x) = none → Fr h₀ L h' m → News h₀ L h' news → Q .none { s with heap := h', toks := tk' }),
    wpAny (model PySem.Challenge.rw_ey0004_01.row.prog w) (ktrTop dp un gd cn cs L a ccd cl outer) (call (.ref 49) [.str x t]) Q E s

def ReadC (p : Program) (K : Params → Frag) (w : World) : Prop :=
  ∀ (mean : ExcName → Option Value)
    (mg mb : Str → Option Value)
    (dp un : Nat)
    (gd : Option (List Code))
    (cn : Str)
    (cs : Scope)
    (a : Addr)
    (ccd : Value)
    (A₀ : Around)
    (base h₀ : Heap)
    (L : Addr)
    (m : Str → Option Value)
    (news : List (Addr × Obj))
    (s : Shared)
    (x : Str)
    (t : Tok)
    (Q E : Value → Shared → Prop)
    (B : Below A₀ base [] h₀)
    (F : Fr h₀ L s.heap m)
    (X : (K w.params).In h₀)
    (N : News h₀ L s.heap news)
    (T : Top p (looseW p []) mean mg mb h₀)
    (XB : (K w.params).In base)
    (TB : Top p (looseW p []) mean mg mb base)
    (hk : cs.kind = .function)
    (hd : dp + 2 < recursionLimit)
    (hu : un + 16 < cLine)
    (hx : x.length ≤ 1000)
    (ret : ∀ (a : Addr) (us : List Value) (n : Nat) (ws : List Str) h' tk', ((bare x ∧ ws = Txt.words (Txt.lstrip x)) ∨ (¬ bare x ∧ ext (KStt.codes x) = some ws)) → StrsAre us ws → Fr h₀ L h' m → News h₀ L h' ((a, listOf us.toArray n) :: news) → Q (.ref a) { s with heap := h', toks := tk' })
    (non : ∀ h' tk', ¬ bare x → ext (KStt.codes x) = none → Fr h₀ L h' m → News h₀ L h' news → Q .none { s with heap := h', toks := tk' }),
    wpAny (model PySem.Challenge.rw_ey0004_01.row.prog w) { handled := none, depth := dp, frames := some [envOf cn cs L a ccd], guards := gd, units := un } (call (.ref 56) [.str x t]) Q E s

def CellC (p : Program) (K : Params → Frag) (w : World) : Prop :=
  ∀ (mean : ExcName → Option Value)
    (mg mb : Str → Option Value)
    (dp un : Nat)
    (gd : Option (List Code))
    (cn : Str)
    (cs : Scope)
    (a : Addr)
    (ccd : Value)
    (cl : List (Str × Addr))
    (outer : List Env)
    (A₀ : Around)
    (base h₀ : Heap)
    (L : Addr)
    (m : Str → Option Value)
    (news : List (Addr × Obj))
    (s : Shared)
    (l : Addr)
    (vs : List Value)
    (ns : List Int)
    (i : Int)
    (t : Tok)
    (Q E : Value → Shared → Prop)
    (B : Below A₀ base outer h₀)
    (F : Fr h₀ L s.heap m)
    (X : (K w.params).In h₀)
    (N : News h₀ L s.heap news)
    (T : Top p (looseW p []) mean mg mb h₀)
    (hk : cs.kind = .function)
    (hd : dp + 1 < recursionLimit)
    (hu : un + 8 < cLine)
    (hl : base.IsList l vs.toArray)
    (hi : IntsAre vs ns)
    (hn : ns.length ≤ 1000)
    (h0 : 0 ≤ i)
    (h1 : i ≤ 1000)
    (ret : ∀ v t' h' tk', 0 ≤ v → v ≤ 2000000 → Fr h₀ L h' m → News h₀ L h' news → Q (.int v t') { s with heap := h', toks := tk' }),
    wpAny (model PySem.Challenge.rw_ey0004_01.row.prog w) (ktrTop dp un gd cn cs L a ccd cl outer) (call (.ref 35) [.ref l, .int i t]) Q E s

def EnclC (p : Program) (K : Params → Frag) (w : World) : Prop :=
  ∀ (mean : ExcName → Option Value)
    (mg mb : Str → Option Value)
    (dp un : Nat)
    (gd : Option (List Code))
    (cn : Str)
    (cs : Scope)
    (a : Addr)
    (ccd : Value)
    (cl : List (Str × Addr))
    (outer : List Env)
    (A₀ : Around)
    (base h₀ : Heap)
    (L : Addr)
    (m : Str → Option Value)
    (news : List (Addr × Obj))
    (s : Shared)
    (x : Str)
    (t : Tok)
    (Q E : Value → Shared → Prop)
    (B : Below A₀ base outer h₀)
    (F : Fr h₀ L s.heap m)
    (X : (K w.params).In h₀)
    (N : News h₀ L s.heap news)
    (T : Top p (looseW p []) mean mg mb h₀)
    (hk : cs.kind = .function)
    (hd : dp + 1 < recursionLimit)
    (hu : un + 8 < cLine)
    (hx : x.length ≤ 1000)
    (ret : ∀ t' h' tk', Fr h₀ L h' m → News h₀ L h' news → Q (.str (encl x) t') { s with heap := h', toks := tk' }),
    wpAny (model PySem.Challenge.rw_ey0004_01.row.prog w) (ktrTop dp un gd cn cs L a ccd cl outer) (call (.ref 28) [.str x t]) Q E s

def LencC (p : Program) (K : Params → Frag) (w : World) : Prop :=
  ∀ (mean : ExcName → Option Value)
    (mg mb : Str → Option Value)
    (dp un : Nat)
    (gd : Option (List Code))
    (cn : Str)
    (cs : Scope)
    (a : Addr)
    (ccd : Value)
    (cl : List (Str × Addr))
    (outer : List Env)
    (A₀ : Around)
    (base h₀ : Heap)
    (L : Addr)
    (m : Str → Option Value)
    (news : List (Addr × Obj))
    (s : Shared)
    (x : Str)
    (t : Tok)
    (Q E : Value → Shared → Prop)
    (B : Below A₀ base outer h₀)
    (F : Fr h₀ L s.heap m)
    (X : (K w.params).In h₀)
    (N : News h₀ L s.heap news)
    (T : Top p (looseW p []) mean mg mb h₀)
    (hk : cs.kind = .function)
    (hd : dp + 1 < recursionLimit)
    (hu : un + 8 < cLine)
    (hx : x.length ≤ 1000)
    (ret : ∀ t' h' tk', Fr h₀ L h' m → News h₀ L h' news → Q (.str (lenc x) t') { s with heap := h', toks := tk' }),
    wpAny (model PySem.Challenge.rw_ey0004_01.row.prog w) (ktrTop dp un gd cn cs L a ccd cl outer) (call (.ref 42) [.str x t]) Q E s
end Mine
end

section
open PySem PySem.W PyProof.Rows PySem.Calls
namespace Mine
local macro_rules | `(tactic| walk_at "exec For Name Name cons nil") => `(tactic| ((rename Mine.TolMark => tm9); refine Mine.Stop.out ?_))
local macro_rules | `(tactic| walk_at "binaryOp Add ref ref") => `(tactic| (k_here; (rename Mine.TolMark => tm9); (refine' Mine.add_K ?F ?N ?a ?b ?_ ?z; (case F => assumption); (case N => assumption); (case a => k_mem); (case b => k_mem); (case z => (simp only [List.length_cons, List.length_nil, PySem.sizeLine_eq]; omega)); intro D9 h9 F9 N9 l9)))
local macro_rules | `(tactic| walk_at "call ref") => `(tactic| (k_here; (with_reducible show wpAny _ _ (call (Value.ref 35) [Value.ref _, Value.int _ _]) _ _ _); (with_reducible rename Mine.CellC _ _ _ => uCellC); k_dflt (refine uCellC _ _ _ _ _ _ _ _ _ _ _ _ _ _ _ _ _ _ _ _ _ _ _ _ _ _ (by k_asm) (by k_asm) (by k_asm) (by k_asm) (by k_asm) (by exact rfl) (by ktr_room) (by ktr_units) (by assumption) (by assumption) (by omega) (by omega) (by omega) ?_); (intros; (try dsimp only))))
local macro_rules | `(tactic| walk_at "call ref") => `(tactic| (k_here; (with_reducible show wpAny _ _ (call (Value.ref 28) [Value.str _ _]) _ _ _); (with_reducible rename Mine.EnclC _ _ _ => uEnclC); k_dflt (refine uEnclC _ _ _ _ _ _ _ _ _ _ _ _ _ _ _ _ _ _ _ _ _ _ _ (by k_asm) (by k_asm) (by k_asm) (by k_asm) (by k_asm) (by exact rfl) (by ktr_room) (by ktr_units) (by ((with_reducible rename Mine.NameOk _ => nok9); (have q9 := nok9.len); (have q8 := nok9.lenE); omega)) ?_); (intros; (try dsimp only))))
local macro_rules | `(tactic| walk_at "call ref") => `(tactic| (k_here; (with_reducible show wpAny _ _ (call (Value.ref 42) [Value.str _ _]) _ _ _); (with_reducible rename Mine.LencC _ _ _ => uLencC); k_dflt (refine uLencC _ _ _ _ _ _ _ _ _ _ _ _ _ _ _ _ _ _ _ _ _ _ _ (by k_asm) (by k_asm) (by k_asm) (by k_asm) (by k_asm) (by exact rfl) (by ktr_room) (by ktr_units) (by ((with_reducible rename Mine.NameOk _ => nok9); (have q9 := nok9.len); (have q8 := nok9.lenE); omega)) ?_); (intros; (try dsimp only))))
local macro_rules | `(tactic| walk_at "call type:range") => `(tactic| ((rename Mine.LawMark => lm9); (with_reducible show wpAny _ _ (call _ [Value.int _ _]) _ _ _); (refine range1_rows (by assumption) (by assumption) ?_); (intros; (try dsimp only))))
local macro_rules | `(tactic| walk_at "exec For Name Call cons nil") => `(tactic| ((rename Mine.LawMark => lm9); k_here; (rename Fr _ _ _ _ => lF'); (with_unfolding_all refine' For_invVF lF' ?k1 ?k2 ?_; (case k1 => exact rfl); (case k2 => exact rfl); k_whole)))
local macro_rules | `(tactic| walk_at "eval Call") => `(tactic| ((rename Mine.LawMark => lm9); k_here; k_dflt (refine PyProof.Rows.Call_ ?_)))
local macro_rules | `(tactic| walk_at "call type:str") => `(tactic| ((rename Mine.LawMark => lm9); k_here; (with_reducible show wpAny _ _ (call (Value.type "str") [Value.int _ _]) _ _ _); k_dflt (refine' Mine.str_num ?a ?b ?_; (case a => exact Int.fmod_nonneg_of_pos _ (by decide)); (case b => exact Int.lt_trans (Int.fmod_lt_of_pos _ (by decide)) (by decide))); intro hlen9 t9 k9))
local macro_rules | `(tactic| walk_at "binaryOp Add str str") => `(tactic| ((rename Mine.LawMark => lm9); k_here; (with_reducible show wpAny _ _ (binaryOp Operator.Add (Value.str _ _) (Value.str _ _)) _ _ _); k_dflt (refine' PyProof.Rows.add_str ?_ ?z; (case z => (simp only [PySem.Str.length_append, Mine.len_colon, Mine.len_none, Mine.len_blank, PySem.sizeLine_eq]; omega))); intro t8 k8))
local macro_rules | `(tactic| walk_at "call ref") => `(tactic| (k_here; (with_reducible show wpAny _ _ (call (Value.ref 21) [Value.str _ _]) _ _ _); (with_reducible rename Mine.ExtC _ _ _ => uExtC); k_dflt (refine uExtC _ _ _ _ _ _ _ _ _ _ _ _ _ _ _ _ _ _ _ _ _ _ _ (by k_asm) (by k_asm) (by k_asm) (by k_asm) (by k_asm) (by exact rfl) (by ktr_room) (by ktr_units) (by omega) ?_ ?_); (all_goals (intros; (try dsimp only); (try (exact (Mine.no_both (by assumption) (by assumption)).elim))))))
local macro_rules | `(tactic| walk_at "compareOp NotEq ref ref") => `(tactic| ((rename Mine.LawMark => lm9); refine Mine.Stop.out ?_))
local macro_rules | `(tactic| walk_at "compareOp Eq ref ref") => `(tactic| ((rename Mine.LawMark => lm9); refine Mine.Stop.out ?_))
local macro_rules | `(tactic| walk_at "pyIter ref") => `(tactic| ((rename Mine.LawMark => lm9); refine Mine.Stop.out ?_))
local macro_rules | `(tactic| walk_at "subscriptTail") => `(tactic| ((rename Mine.LawMark => lm9); k_here; (with_reducible show wpAny _ _ (subscriptTail _ _ (Value.ref _) (Value.int _ _)) _ _ _); k_dflt (refine' Mine.item_mem (ws := Mine.NAMES) ?N ?l ?w ?h0 ?h1 ?h2 ?_; (case N => k_asm); (case l => k_mem); (case w => repeat constructor); (case h0 => exact Int.fmod_nonneg_of_pos _ (by decide)); (case h1 => exact Int.fmod_lt_of_pos _ (by decide)); (case h2 => exact Int.lt_of_lt_of_le (Int.fmod_lt_of_pos _ (by decide)) (by decide)));  intro x9 t9 hx9; have nok9 := Mine.names_ok x9 hx9; have len9 := nok9.len; have lenE9 := nok9.lenE))
local macro_rules | `(tactic| walk_at "subscriptTail") => `(tactic| ((rename Mine.LawMark => lm9); k_here; (with_reducible show wpAny _ _ (subscriptTail _ _ (Value.ref _) (Value.int _ _)) _ _ _); k_dflt (refine' Mine.item_mem (ws := Mine.PIECES) ?N ?l ?w ?h0 ?h1 ?h2 ?_; (case N => k_asm); (case l => k_mem); (case w => repeat constructor); (case h0 => exact Int.fmod_nonneg_of_pos _ (by decide)); (case h1 => exact Int.fmod_lt_of_pos _ (by decide)); (case h2 => exact Int.lt_of_lt_of_le (Int.fmod_lt_of_pos _ (by decide)) (by decide)));  intro x9 t9 hx9; have len9 := Mine.pieces_ok x9 hx9; have san9 := Mine.pieces_sane x9 hx9))
local macro_rules | `(tactic| walk_at "call ref") => `(tactic| (k_here; (with_reducible show wpAny _ _ (call (Value.ref 56) [Value.str _ _]) _ _ _); (with_reducible rename Mine.ReadC _ _ _ => uReadC); k_dflt (refine uReadC _ _ _ _ _ _ _ _ _ _ _ _ _ _ _ _ _ _ _ _ _ (by k_asm) (by k_asm) (by k_asm) (by k_asm) (by k_asm) (by k_asm) (by k_asm) (by exact rfl) (by ktr_room) (by ktr_units) (by omega) ?_ ?_); (all_goals (intros; (try dsimp only)))))
local macro_rules | `(tactic| walk_at "call ref") => `(tactic| (k_here; (with_reducible show wpAny _ _ (call (Value.ref 49) [Value.str _ _]) _ _ _); (with_reducible rename Mine.TolC _ _ _ => uTolC); k_dflt (refine uTolC _ _ _ _ _ _ _ _ _ _ _ _ _ _ _ _ _ _ _ _ _ _ _ (by k_asm) (by k_asm) (by k_asm) (by k_asm) (by k_asm) (by exact rfl) (by ktr_room) (by ktr_units) (by omega) ?_ ?_); (all_goals (intros; (try dsimp only)))))

set_option maxRecDepth 100000 in
set_option maxHeartbeats 0 in
theorem lawp : PySem.Challenge.rw_ey0004_01.Holds := by
  w_on
  o_law
  k_head
  case hw => w_witness2
  refine Mine.cut (fun p K => ∀ w, Mine.ExtC p K w) ?_ (fun cExtC => ?_)
  · intro w
    unfold Mine.ExtC
    intro mean mg mb dp un gd cn cs a ccd cl outer A₀ base h₀ L m news s x t Q E B F X N T hk hd hu hx ret rai
    revert X
    k_fill
    intro X
    w_on
    have mk := kstMark
    have kd := ktsDicts_nil (g := h₀)
    refine wpAny_call ?_
    k_dflt ktr_enter
    k_steps
    · exact ret _ _ _ _ _ _ (.inl ⟨⟨by assumption, by assumption⟩, by assumption⟩) (by assumption) (by assumption) (by assumption)
    all_goals (
      rename_i l' h1 l1 h2 h3 h4 F4 N4
      have hnb : ¬ bare x := by unfold bare; simp_all
      refine text_for (JExt l' news) rfl F4 N4 rfl ?_ ?_ ?_
      · exact ⟨_, _, _, [], [], _, rfl, rfl, rfl, rfl, .nil, Nat.le_refl _, by decide, rfl⟩
      · clear F4 N4
        rintro pre n post tt m₁ nx I oI h tk hcodes ⟨loc, tl, inF, locs, us, cnt, e1, e2, e3, rfl, hus, hl1, hl2, hgo⟩ hne F5 N5
        obtain ⟨u, rfl⟩ := map3 e1 e2 e3
        have hne1 : l' ≠ I := hne _ (.head _)
        have hpre : pre.length < 1000 := by
          have := congrArg List.length hcodes
          rw [KStt.codes_length, List.length_append, List.length_cons] at this
          omega
        k_steps
        · exact rai _ _ _ _ _ _ hnb (ext_none (go_none hgo hcodes (step_o1 (by assumption) (by assumption)))) (by assumption) (raisedS_sub (by assumption) fun p hp => .tail _ (.tail _ hp)) (by assumption)
        · exact jext_end hgo (step_o2 (by assumption) (by assumption)) hne (by assumption) (by assumption) rfl rfl rfl hus (by omega) (by omega)
        · exact jext_end hgo (step_s2 (by assumption) (by assumption)) hne (by assumption) (by assumption) rfl rfl rfl hus (by omega) (by omega)
        · exact rai _ _ _ _ _ _ hnb (ext_none (go_none hgo hcodes (step_s1 (by assumption) (by assumption)))) (by assumption) (raisedS_sub (by assumption) fun p hp => .tail _ (.tail _ hp)) (by assumption)
        · exact jext_end hgo (step_b1 (by assumption) (by assumption)) hne (by assumption) (by assumption) rfl rfl rfl hus (by omega) (by simp only [Str.length_append]; show _ + 1 ≤ _; omega)
        · refine append_K (its := us.toArray) (n := cnt) (by assumption) N5 (.tail (Ne.symm hne1) (.head fun p hp => Nat.ne_of_lt (l1 p hp))) (fun h9 F9 N9 => ?_) (by rw [List.size_toArray, sizeLine_eq]; omega)
          rw [show ∀ v : Value, us.toArray.push v = (us ++ [v]).toArray by intro v; simp] at N9
          k_steps
          exact jext_end hgo (step_b3 (by assumption) (by assumption) (by assumption)) (ne_all hne1 fun p hp => hne p (.tail _ hp)) (by assumption) (by assumption) rfl rfl rfl (hus.append' (.cons _ _ .nil)) (by rw [List.length_append]; show _ + 1 ≤ _; omega) (by rw [show (Str.ofString "").length = 0 from by decide +kernel]; omega)
        · exact jext_end hgo (step_b2 (by assumption) (by assumption) (by assumption)) hne F5 N5 rfl rfl rfl hus (by omega) (by omega)
        · exact jext_end hgo (step_e (by assumption) (by assumption) (by assumption)) hne (by assumption) (by assumption) rfl rfl rfl hus (by omega) (by simp only [Str.length_append]; show _ + 1 ≤ _; omega)
      · rintro m₁ nx h tk ⟨loc, tl, inF, locs, us, cnt, e1, e2, e3, rfl, hus, hl1, hl2, hgo⟩ F5 N5
        obtain ⟨u, rfl⟩ := map3 e1 e2 e3
        have hcl : (KStt.codes x).length = x.length := KStt.codes_length x
        k_steps
        · exact rai _ _ _ _ _ _ hnb (ext_rai hgo (by assumption) (by assumption)) (by assumption) (raisedS_sub (by assumption) fun p hp => .tail _ hp) (by assumption)
        · refine append_K (its := us.toArray) (n := cnt) (by assumption) N5 (.head fun p hp => Nat.ne_of_lt (l1 p hp)) (fun h9 F9 N9 => ?_) (by rw [List.size_toArray, sizeLine_eq]; omega)
          rw [show ∀ v : Value, us.toArray.push v = (us ++ [v]).toArray by intro v; simp] at N9
          k_steps
          exact ret _ _ _ _ _ _ (.inr ⟨hnb, ext_ret1 hgo (by assumption) (by assumption)⟩) (hus.append' (.cons _ _ .nil)) (by assumption) (by assumption)
        · exact ret _ _ _ _ _ _ (.inr ⟨hnb, ext_ret0 hgo (by assumption)⟩) hus (by assumption) (by assumption))
  refine Mine.cut (fun p K => ∀ w, Mine.TolC p K w) ?_ (fun cTolC => ?_)
  · intro w
    clear cExtC
    unfold Mine.TolC
    intro mean mg mb dp un gd cn cs a ccd cl outer A₀ base h₀ L m news s x t Q E B F X N T hk hd hu hx ret non
    have tm := Mine.tolMark
    revert X
    k_fill
    intro X
    w_on
    have mk := kstMark
    refine wpAny_call ?_
    k_dflt ktr_enter
    k_steps
    refine Stop.by ?_
    rename_i l' h1 l1 D' h2 l2 h3 h4 h5 h6 F4 N4
    refine text_for (JTol news) rfl F4 (news₀ := (l', listOf (([] : List Value).toArray) 0) :: news) (fun p hp => N4 p (.tail _ hp)) rfl ?_ ?_ ?_
    · exact ⟨l', _, _, _, [], [], 0, rfl, rfl, rfl, rfl, .nil, Nat.le_refl _, by decide, rfl⟩
    · clear F4 N4
      rintro pre n post tt m₁ nx I oI h tk hcodes ⟨b, loc, tl, inF, locs, us, cnt, e1, e2, e3, rfl, hus, hl1, hl2, hgo⟩ hne F5 N5
      obtain ⟨u, rfl⟩ := map3 e1 e2 e3
      have hne1 : b ≠ I := hne _ (.head _)
      have hpre : pre.length < 1000 := by
        have := congrArg List.length hcodes
        rw [KStt.codes_length, List.length_append, List.length_cons] at this
        omega
      k_steps
      · exact jtol_end hgo (step_b1 (by assumption) (by assumption)) hne (by assumption) (by assumption) (.head _) (fun p hp => .tail _ hp) rfl rfl rfl hus (by omega) (by simp only [Str.length_append]; show _ + 1 ≤ _; omega)
      · rename_i l9 _ _ _ _
        exact jtol_end (us := us ++ [_]) hgo (step_b3 (by assumption) (by assumption) (some_of_ne (by assumption))) (ne_new hne (gt_ne l9 (.tail _ (.head _)))) (by assumption) (by assumption) (.tail _ (.tail _ (.head _)))
          sub4 rfl rfl rfl (hus.append' (.cons _ _ .nil)) (by rw [List.length_append]; show _ + 1 ≤ _; omega) (by rw [show (Str.ofString "").length = 0 from by decide +kernel]; omega)
      · rename_i l9 _ _ _ _
        exact jtol_end (us := us ++ []) hgo (step_b4 (by assumption) (by assumption) (by assumption)) (ne_new hne (gt_ne l9 (.tail _ (.head _)))) (by assumption) (by assumption) (.tail _ (.tail _ (.head _)))
          sub4 rfl rfl rfl (by rw [List.append_nil]; exact hus) (by rw [List.append_nil]; omega) (by rw [show (Str.ofString "").length = 0 from by decide +kernel]; omega)
      · exact jtol_end hgo (tell_e (by assumption) (by assumption)) hne (by assumption) (by assumption) (.head _) (fun p hp => .tail _ hp) rfl rfl rfl hus (by omega) (by simp only [Str.length_append]; show _ + 1 ≤ _; omega)
      · dsimp only [TurnPost]
        k_steps
        exact non _ _ (ext_none (go_none hgo hcodes (tell_r (by assumption) (by assumption)))) (by assumption) (fun p hp => by rename_i kN _ _; exact kN p (.tail _ (.tail _ hp)))
      · exact jtol_end hgo (tell_n (by assumption) (by assumption)) hne (by assumption) (by assumption) (.head _) (fun p hp => .tail _ hp) rfl rfl rfl hus (by omega) (by omega)
    · rintro m₁ nx h tk ⟨b, loc, tl, inF, locs, us, cnt, e1, e2, e3, rfl, hus, hl1, hl2, hgo⟩ F5 N5
      obtain ⟨u, rfl⟩ := map3 e1 e2 e3
      have hcl : (KStt.codes x).length = x.length := KStt.codes_length x
      k_steps
      · exact non _ _ (ext_rai hgo (some_of_ne (by assumption)) (by assumption)) (by assumption) (fun p hp => by rename_i kN _ _; exact kN p (.tail _ hp))
      · exact ret _ (us ++ [_]) _ _ _ _ (ext_ret1 hgo (some_of_ne (by assumption)) (by assumption)) (hus.append' (.cons _ _ .nil)) (by assumption) (fun p hp => by rename_i kN _ _; exact kN p (sub3 p hp))
      · exact ret _ (us ++ []) _ _ _ _ (ext_ret0 hgo (zero_of_eq (by assumption))) (by rw [List.append_nil]; exact hus) (by assumption) (fun p hp => by rename_i kN _ _; exact kN p (sub3 p hp))
  refine Mine.cut (fun p K => ∀ w, Mine.ExtC p K w → Mine.ReadC p K w) ?_ (fun cReadC => ?_)
  · intro w cExt
    clear cExtC cTolC
    unfold Mine.ReadC
    intro mean mg mb dp un gd cn cs a ccd A₀ base h₀ L m news s x t Q E B F X N T XB TB hk hd hu hx ret non
    revert X
    k_fill
    intro X
    w_on
    have mk := kstMark
    refine wpAny_call ?_
    k_dflt (refine' code_defS0 ?k1 ?k2 ?k3 ?k4 ?k5 ?kA ?k6 ?k7 ?k8 ?k9 ?kB ?_ ?cK ?c2 ?c3 ?c4 ?c5; (case kA => exact rfl); (case k2 => exact F); (case k1 => exact B); (case k3 => exact X); (case k4 => exact N); (case k5 => exact T); (case k6 => k_is); (case k7 => k_is); (case k8 => ktr_room); (case k9 => exact BindsTo.of_eq rfl); (case kB => exact locs rfl); (case cK => exact hk); (case c2 => exact rfl); (case c3 => exact rfl); (case c4 => exact rfl); (case c5 => decide))
    intro g' L' h' FG' F' N' B' X' T' D'
    dsimp only
    k_steps
    · exact ret _ _ _ _ _ _ (by assumption) (by assumption) (by assumption) (by assumption)
    · exact non _ _ (by assumption) (by assumption) (by assumption) (by assumption)
  refine Mine.cut (fun p K => ∀ w, Mine.CellC p K w) ?_ (fun cCellC => ?_)
  · intro w
    clear cExtC cTolC cReadC
    unfold Mine.CellC
    intro mean mg mb dp un gd cn cs a ccd cl outer A₀ base h₀ L m news s l vs ns i t Q E B F X N T hk hd hu hl hi hn h0 h1 ret
    revert X
    k_fill
    intro X
    w_on
    refine wpAny_call ?_
    k_dflt ktr_enter
    rename_i B9 _ _
    have hl9 := hl.at fun o e => B9.stays _ _ e
    have hn9 : ns.length < 2 ^ 62 := Nat.lt_of_le_of_lt hn (by decide)
    k_steps
    · exact ret _ _ _ _ (Int.fmod_nonneg_of_pos _ (by decide)) (Int.le_of_lt (Int.lt_trans (Int.fmod_lt_of_pos _ (by decide)) (by decide))) (by assumption) (by assumption)
    · exact ret _ _ _ _ (by omega) (by omega) (by assumption) (by assumption)
  refine Mine.cut (fun p K => ∀ w, Mine.EnclC p K w) ?_ (fun cEnclC => ?_)
  · intro w
    clear cExtC cTolC cReadC cCellC
    unfold Mine.EnclC
    intro mean mg mb dp un gd cn cs a ccd cl outer A₀ base h₀ L m news s x t Q E B F X N T hk hd hu hx ret
    revert X
    k_fill
    intro X
    w_on
    refine wpAny_call ?_
    k_dflt ktr_enter
    k_steps
    all_goals exact str_to (P := fun y => Q (.str y _) _) (ret _ _ _ (by assumption) (by assumption)) (by simp_all [encl])
  refine Mine.cut (fun p K => ∀ w, Mine.LencC p K w) ?_ (fun cLencC => ?_)
  · intro w
    clear cExtC cTolC cReadC cCellC cEnclC
    unfold Mine.LencC
    intro mean mg mb dp un gd cn cs a ccd cl outer A₀ base h₀ L m news s x t Q E B F X N T hk hd hu hx ret
    revert X
    k_fill
    intro X
    w_on
    refine wpAny_call ?_
    k_dflt ktr_enter
    k_steps
    all_goals exact str_to (P := fun y => Q (.str y _) _) (ret _ _ _ (by assumption) (by assumption)) (by simp_all [lenc])
  k_go0
  rename World => w9
  have dExtC := cExtC w9
  have dTolC := cTolC w9
  have dReadC := cReadC w9 (cExtC w9)
  have dCellC := cCellC w9
  have dEnclC := cEnclC w9
  have dLencC := cLencC w9
  clear cExtC cTolC cReadC cCellC cEnclC cLencC
  have lm := Mine.lawMark
  have mk := kstMark
  k_steps
  refine Stop.by ?_
  rename News _ _ _ _ => N9
  rename Fr _ _ _ _ => F9
  rename IsRange _ _ _ _ _ _ _ _ => R9
  rename _ ≤ (2000000 : Int) => hv1
  have hfm := many_of hv1
  refine loop1 rfl R9 hfm.1 hfm.2.1 F9 N9 ?_ ?_
  · clear F9 N9
    intro i t u us us' ws ws' n n' I oI h tk hi hus hus' hle hle' hits n1 n2 n3 n4 F5 N5
    k_steps
    · exact (NameOk.no1 (by assumption) (by assumption)).elim
    · exact (NameOk.no2 (by assumption) (by assumption)).elim
    · refine j1_end hits hus hus' hle hle' (by assumption) more_num n1 n2 n3 n4 (by assumption) (by assumption) (fun z hz => ?_)
      obtain ⟨z1, z2, z3, z4, z5⟩ := off1 hz
      simp only [z1, z2, z3, z4, z5, hz, if_false, Bool.false_eq_true]
    · refine j1_end hits hus hus' hle hle' (by assumption) more_none n1 n2 n3 n4 (by assumption) (by assumption) (fun z hz => ?_)
      obtain ⟨z1, z2, z3, z4, z5⟩ := off1 hz
      simp only [z1, z2, z3, z4, z5, hz, if_false, Bool.false_eq_true]
  · intro u us us' ws ws' n n' h tk hus hus' hits F5 N5
    obtain ⟨hj1, hj2, hj3, hj4, hj5⟩ := its_text hits hfm.2.2 hfm.2.1
    have hwo := its_ok hits
    dsimp only
    k_steps
    refine join_list (ys := ws') ⟨_, (N5 _ (.tail _ (.head _))).1, rfl, n', rfl⟩ (by simpa using hus') hj1 (fun t7 k7 => ?_)
    k_steps
    refine Stop.by ?_
    rename_i aE usE nE wsE hE tkE hcE hsE FE NE
    obtain rfl := read_same hcE hj4 hj5
    refine ne_strs ⟨_, (NE _ (.head _)).1, rfl, _, rfl⟩ ⟨_, (NE _ (.tail _ (.tail _ (.tail _ (.head _))))).1, rfl, _, rfl⟩ hsE hus hwo (Nat.le_of_ble_eq_true rfl) ?_
    clear F5 N5
    k_steps
    refine Stop.by ?_
    rename News _ _ _ _ => N6
    rename Fr _ _ _ _ => F6
    rename IsRange _ _ _ _ _ _ _ _ => R6
    rename _ ≤ (2000000 : Int) => hv6
    have hsv := seven_of hv6
    refine loop2 okS rfl R6 hsv.1 hsv.2 F6 N6 rfl (by decide) okS_nil ?_ ?_
    · intro i t u row tr I oI h tk hi hrl hok hne F7 N7
      clear F6 N6
      k_steps
      exact ⟨_, _, _, _, _, rfl, by assumption, by assumption, .head _, fun p hp => .tail _ hp, hne, ⟨_, _, rfl, by rw [Str.length_append]; omega, okS_app hok (by assumption)⟩, rfl, fun z hz => by
        obtain ⟨z1, z2⟩ := off2 hz
        simp only [z1, z2, hz, if_false, Bool.false_eq_true]⟩
    · intro u row tr h tk hrl hok F7 N7
      clear F6 N6
      dsimp only
      k_steps
      · refine Stop.by ?_
        refine close_split hok (by assumption) (by assumption) (by assumption) (by assumption) (by assumption) (by assumption) (by assumption) (.tail _ (.head _)) (.head _) (Nat.le_of_ble_eq_true rfl) ?_
        k_steps
      · exact absurd ⟨by assumption, by assumption⟩ (by assumption : ¬ bare row)
      · refine Stop.by ?_
        refine close_told hok (nb2 (by assumption)) (by assumption) (by assumption) (by assumption) (by assumption) (by assumption) (.tail _ (.head _)) (.head _) (Nat.le_of_ble_eq_true rfl) ?_
        k_steps
      · exact (told_none (nb2 (by assumption)) (by assumption) (by assumption)).elim
      · exact (no_both (by assumption) (by assumption)).elim
      · refine Stop.by ?_
        refine close_told hok (nb1 (by assumption)) (by assumption) (by assumption) (by assumption) (by assumption) (by assumption) (.tail _ (.head _)) (.head _) (Nat.le_of_ble_eq_true rfl) ?_
        k_steps
      · exact (told_none (nb1 (by assumption)) (by assumption) (by assumption)).elim
      · exact (no_both (by assumption) (by assumption)).elim
end Mine
end

set_option maxRecDepth 100000 in
set_option maxHeartbeats 8000000 in
theorem PySem.Challenge.cw_ey0004_01_holds : PySem.Challenge.rw_ey0004_01.Holds := by
  exact Mine.lawp
