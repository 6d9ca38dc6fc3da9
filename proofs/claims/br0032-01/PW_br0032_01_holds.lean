import PyProof.Rows.All
import Wide.All
import OpenK.AllK
import Wide.FinOn
import PyProof.Draws
import PyProof.SeqI3
import PyProof.ZipIter
import PyProof.ListNew
import KE.KMethU
import KE.LcSums
import Lean
import PySem.Challenge.RW_br0032_01
open PySem PySem.W PyProof.Rows
set_option Elab.async false
section
open PySem PySem.W PyProof.Rows
namespace Mine
set_option maxRecDepth 100000 in
set_option maxHeartbeats 8000000 in
open_top hd for PySem.Challenge.rw_br0032_01
end Mine
end

section
open PySem PySem.W PyProof.Rows
set_option maxRecDepth 100000
namespace Mine
/-- a call of f with args meets R: over any state, `need` stands in the ledger, `pre` holds of the base -/
def Meet (w : World) (d u : Nat) (f : Addr) (args : List Value) (need : List (Addr × Obj)) (pre : Heap → Prop) (R : Value → Prop) : Prop :=
  ∀ (p : Program) (loose : List Str) (mean : ExcName → Option Value) (mg mb : Str → Option Value) (dp un : Nat) (gd : Option (List Code)) (cn : Str) (cs : Scope) (a : Addr) (ccd : Value) (cl : List (Str × Addr)) (outer : List Env) (A₀ : Around) (base h₀ : Heap) (L : Addr) (m : Str → Option Value) (news : List (Addr × Obj)) (s : Shared) (Q E : Value → Shared → Prop),
    Below A₀ base outer h₀ → Fr h₀ L s.heap m → (Mine.hd.heap_39 w.params).In h₀ → News h₀ L s.heap news → Top p loose mean mg mb h₀ → cs.kind = .function → pre base →
    (∀ q ∈ need, q ∈ news) → dp + d < recursionLimit → un + u < cLine →
    (∀ v h' tk', R v → Fr h₀ L h' m → News h₀ L h' news → Q v { s with heap := h', toks := tk' }) →
    wpAny (model PySem.Challenge.rw_br0032_01.prog w) (ktrTop dp un gd cn cs L a ccd cl outer) (call (.ref f) args) Q E s
theorem news_need {h₀ h : Heap} {L : Addr} {need news : List (Addr × Obj)} (N : News h₀ L h news) (hn : ∀ q ∈ need, q ∈ news) : News h₀ L h (need ++ news) :=
  fun p hp => N p ((List.mem_append.mp hp).elim (hn p) id)
theorem news_sub {h₀ h : Heap} {L : Addr} {news news' : List (Addr × Obj)} (N : News h₀ L h news) (hs : ∀ p ∈ news', p ∈ news) : News h₀ L h news' := fun p hp => N p (hs p hp)
theorem br_ne {a b c : Nat} (h : a < b) (h' : b ≤ c) : a ≠ c := Nat.ne_of_lt (Nat.lt_of_lt_of_le h h')
end Mine
namespace Mine
theorem Meet.use {w : World} {d u : Nat} {f : Addr} {args : List Value} {need : List (Addr × Obj)} {pre : Heap → Prop} {R : Value → Prop} (H : Meet w d u f args need pre R)
    {p : Program} {loose : List Str} {mean : ExcName → Option Value} {mg mb : Str → Option Value} {dp un : Nat} {gd : Option (List Code)} {cn : Str} {cs : Scope} {a : Addr} {ccd : Value} {cl : List (Str × Addr)} {outer : List Env} {A₀ : Around} {base h₀ : Heap} {L : Addr} {m : Str → Option Value} {news : List (Addr × Obj)} {s : Shared} {Q E : Value → Shared → Prop}
    (B : Below A₀ base outer h₀) (F : Fr h₀ L s.heap m) (X : (Mine.hd.heap_39 w.params).In h₀) (N : News h₀ L s.heap news) (T : Top p loose mean mg mb h₀) (hk : cs.kind = .function) (hp : pre base)
    (hn : ∀ q ∈ need, q ∈ news) (hd : dp + d < recursionLimit) (hu : un + u < cLine)
    (ret : ∀ v h' tk', R v → Fr h₀ L h' m → News h₀ L h' news → Q v { s with heap := h', toks := tk' }) :
    wpAny (model PySem.Challenge.rw_br0032_01.prog w) (ktrTop dp un gd cn cs L a ccd cl outer) (call (.ref f) args) Q E s :=
  H p loose mean mg mb dp un gd cn cs a ccd cl outer A₀ base h₀ L m news s Q E B F X N T hk hp hn hd hu ret
end Mine
namespace Mine
theorem br_all2 {a b : Str} {n : Nat} (ha : a.length ≤ n) (hb : b.length ≤ n) : ∀ x ∈ [a, b], x.length ≤ n := fun x hx => by
  rcases List.mem_cons.mp hx with rfl | hx
  · exact ha
  · rw [List.mem_singleton.mp hx]; exact hb
end Mine
end

section
open PySem PySem.W PyProof.Rows
set_option maxRecDepth 100000
namespace Mine
/-- where a walk is to stand still -/
def Stopped (P : Prop) : Prop := P
theorem Stopped.out {P : Prop} (h : Stopped P) : P := h
theorem Stopped.of {P : Prop} (h : P) : Stopped P := h
/-- nothing is raised -/
abbrev NoE : Value → Shared → Prop := fun _ _ => False

section
variable {prog : Program} {w : World} {A : Around} {env : Env} {h₀ : Heap} {L : Addr} {s : Shared} {Q : Flow → Shared → Prop}

/-- the end of a turn -/
def StepF (h₀ : Heap) (L I : Addr) (oI : Obj) (adr : List Addr) (s : Shared) (Inv : (Str → Option Value) → List (Addr × Obj) → Prop) (Q : Flow → Shared → Prop) (f : Flow) (s₃ : Shared) : Prop :=
  match f with
  | .ret v => Q (.ret v) s₃
  | .brk => Q .next s₃
  | _ => ∃ h' tk' m' led' news', s₃ = { s with heap := h', toks := tk' } ∧ Fr h₀ L h' m' ∧ News h₀ L h' news' ∧ (I, oI) ∈ news' ∧ (∀ p ∈ led', p ∈ news') ∧ led'.map (·.1) = adr ∧ Inv m' led'

/-- a for loop that is about to turn -/
def LoopF (prog : Program) (w : World) (A : Around) (env : Env) (target : Expr) (body orelse : List Stmt) (Q : Flow → Shared → Prop) (it : Value) (s : Shared) : Prop :=
  codeAny (model prog w) A (.forLoop target it body orelse env) (fun r s' => match r with | .ok f => Q f s' | .error e => cameBackBy (model prog w) A env NoE e s') s

theorem for_F {target iter : Expr} {body orelse : List Stmt} {pos : Pos}
    (h : wpAny (model prog w) A (eval iter env) (fun x s₁ => wpAny (model prog w) A (pyIter x) (fun it s₂ => LoopF prog w A env target body orelse Q it s₂) NoE s₁) NoE s)
    (hs : ∀ x, foldedSetIterable iter env x = pure x := by intro _; rfl) :
    wpAny (model prog w) A (exec (.For target iter body orelse pos) env) Q NoE s := wpAny_For h hs

theorem loop_walk {target : Expr} {body orelse : List Stmt} {I : Addr} {fp : List Addr} {n : Nat} {P : Nat → Value → Prop} {St : Nat → Heap → Prop} {m₀ : Str → Option Value} {led₀ kept : List (Addr × Obj)}
    (Inv : Nat → (Str → Option Value) → List (Addr × Obj) → Prop)
    (W : Walks prog w A I fp [I] n P St) (hst : St 0 s.heap) (hIo : ∀ i h, St i h → ∃ o, h.get? I = some o)
    (hfp : ∀ b ∈ fp, b = I ∨ ∃ o, (b, o) ∈ kept) (hkept : ∀ i m led, Inv i m led → ∀ p ∈ kept, p ∈ led ∨ h₀.get? p.1 = some p.2)
    (hI₀ : h₀.get? I = none) (hLI : L ≠ I) (hnw : ∀ p ∈ led₀, p.1 ≠ I)
    (F : Fr h₀ L s.heap m₀) (N : News h₀ L s.heap led₀) (h0 : Inv 0 m₀ led₀)
    (turn : ∀ i v m led h tk oI, i < n → P i v → Inv i m led → led.map (·.1) = led₀.map (·.1) → Fr h₀ L h m → News h₀ L h ((I, oI) :: led) →
      wpAny (model prog w) A (assign target env v) (fun _ s₂ => wpAny (model prog w) A (execs body env) (StepF h₀ L I oI (led₀.map (·.1)) { s with heap := h, toks := tk } (Inv (i + 1)) Q) NoE s₂) NoE { s with heap := h, toks := tk })
    (done : ∀ m led h tk, Inv n m led → Fr h₀ L h m → News h₀ L h led → wpAny (model prog w) A (execs orelse env) Q NoE { s with heap := h, toks := tk })
    (ht : ∀ v, letOwnedTupleGo target (.ref I) v = pure () := by intro _; rfl) :
    LoopF prog w A env target body orelse Q (.ref I) s := by
  unfold LoopF
  refine codeAny_forLoop (fun k s' => ∃ h' tk m led i, s' = { s with heap := h', toks := tk } ∧ St i h' ∧ Fr h₀ L h' m ∧ News h₀ L h' led ∧ led.map (·.1) = led₀.map (·.1) ∧ Inv i m led ∧ i ≤ n ∧ k = n + 1 - i) ?_ (n + 1)
    ⟨s.heap, s.toks, m₀, led₀, 0, rfl, hst, F, N, rfl, h0, Nat.zero_le _, rfl⟩ ht
  rintro k s' ⟨h', tk, m, led, i, rfl, hst', F', N', ha, hJ, hi, rfl⟩
  have off : ∀ l : List (Addr × Obj), l.map (·.1) = led₀.map (·.1) → ∀ p ∈ l, p.1 ≠ I := fun l e p hp => by
    have : p.1 ∈ led₀.map (·.1) := e ▸ List.mem_map.mpr ⟨p, hp, rfl⟩
    obtain ⟨q, hq, e'⟩ := List.mem_map.mp this
    exact e' ▸ hnw q hq
  have next : ∀ h₁ : Heap, (∀ b o, b ∉ [I] → h'.get? b = some o → h₁.get? b = some o) → Fr h₀ L h₁ m ∧ News h₀ L h₁ led := fun h₁ hk₁ =>
    ⟨⟨F'.ns.at' fun o e => hk₁ _ o (by simpa using hLI) e, fun b o e => hk₁ b o (by intro hb; rw [List.mem_singleton.mp hb, hI₀] at e; cases e) (F'.keep b o e), F'.above⟩, fun p hp => ⟨hk₁ _ _ (by simpa using off led ha p hp) (N' p hp).1, (N' p hp).2⟩⟩
  by_cases hlt : i < n
  · refine W.item i _ _ _ hlt hst' fun v h₁ tk₁ hP hst₁ hk₁ => ?_
    obtain ⟨F₁, N₁⟩ := next h₁ hk₁
    obtain ⟨oI, hoI⟩ := hIo _ _ hst₁
    have N₂ : News h₀ L h₁ ((I, oI) :: led) := fun p hp => by
      rcases List.mem_cons.mp hp with rfl | hp
      · exact ⟨hoI, Ne.symm hLI, hI₀⟩
      · exact N₁ p hp
    refine wpAny_noRaise (wpAny_mono (turn i v m led h₁ tk₁ oI hlt hP hJ ha F₁ N₂) (fun _ s₂ h₂ => wpAny_noRaise (wpAny_mono h₂ (fun f s₃ h₃ => ?_) fun _ _ e => e)) fun _ _ e => e)
    have fin : (∃ h' tk' m' led' news', s₃ = { s with heap := h', toks := tk' } ∧ Fr h₀ L h' m' ∧ News h₀ L h' news' ∧ (I, oI) ∈ news' ∧ (∀ p ∈ led', p ∈ news') ∧ led'.map (·.1) = led₀.map (·.1) ∧ Inv (i + 1) m' led') →
        ∃ m, m < n + 1 - i ∧ ∃ h' tk m' led i, s₃ = { s with heap := h', toks := tk } ∧ St i h' ∧ Fr h₀ L h' m' ∧ News h₀ L h' led ∧ led.map (·.1) = led₀.map (·.1) ∧ Inv i m' led ∧ i ≤ n ∧ m = n + 1 - i := by
      rintro ⟨g₃, tk₃, m₃, led₃, news₃, rfl, F₃, N₃, hI₃, hs₃, ha₃, hJ₃⟩
      refine ⟨n + 1 - (i + 1), by omega, g₃, tk₃, m₃, led₃, i + 1, rfl, ?_, F₃, fun p hp => N₃ p (hs₃ p hp), ha₃, hJ₃, hlt, rfl⟩
      refine W.frame _ _ _ hst₁ fun b hb o e => ?_
      have kk : ∀ o', (b, o') ∈ kept → g₃.get? b = some o := by
        intro o' hm
        have q : h₁.get? b = some o' := by
          rcases hkept _ _ _ hJ _ hm with h1 | h1
          · exact (N₁ _ h1).1
          · exact F₁.keep _ _ h1
        rw [e] at q
        cases q
        rcases hkept _ _ _ hJ₃ _ hm with h1 | h1
        · exact (N₃ _ (hs₃ _ h1)).1
        · exact F₃.keep _ _ h1
      rcases hfp b hb with rfl | ⟨o', hm⟩
      · rw [hoI] at e
        cases e
        exact (N₃ _ hI₃).1
      · exact kk o' hm
    cases f with
    | ret v => exact h₃
    | brk => exact h₃
    | next => exact fin h₃
    | cont => exact fin h₃
  · obtain rfl : i = n := Nat.le_antisymm hi (Nat.not_lt.mp hlt)
    refine W.done _ _ _ hst' fun h₁ tk₁ hk₁ => ?_
    obtain ⟨F₁, N₁⟩ := next h₁ hk₁
    exact wpAny_noRaise (done m led h₁ tk₁ hJ F₁ N₁)

theorem loop_range {target : Expr} {body orelse : List Stmt} {r : Addr} {a b c : Int} {t u v : Tok} {n : Nat} {m₀ : Str → Option Value} {led₀ : List (Addr × Obj)}
    (Inv : Nat → (Str → Option Value) → List (Addr × Obj) → Prop)
    (hh : A.handled = none) (hr : IsRange s.heap r a b c t u v) (hsmall : Builtin.Range.small a b c = true) (hn : Builtin.Range.rangeSize a b c = (n : Int))
    (F : Fr h₀ L s.heap m₀) (N : News h₀ L s.heap led₀) (h0 : Inv 0 m₀ led₀)
    (turn : ∀ i t m led h tk I oI, i < n → Inv i m led → led.map (·.1) = led₀.map (·.1) → (∀ p ∈ led, p.1 < I) → Fr h₀ L h m → News h₀ L h ((I, oI) :: led) →
      wpAny (model prog w) A (assign target env (.int (a + (i : Int) * c) t)) (fun _ s₂ => wpAny (model prog w) A (execs body env) (StepF h₀ L I oI (led₀.map (·.1)) { s with heap := h, toks := tk } (Inv (i + 1)) Q) NoE s₂) NoE { s with heap := h, toks := tk })
    (done : ∀ m led h tk, Inv n m led → Fr h₀ L h m → News h₀ L h led → wpAny (model prog w) A (execs orelse env) Q NoE { s with heap := h, toks := tk })
    (ht : ∀ I v, letOwnedTupleGo target (.ref I) v = pure () := by intro _ _; rfl) :
    wpAny (model prog w) A (pyIter (.ref r)) (fun it s₂ => LoopF prog w A env target body orelse Q it s₂) NoE s := by
  refine wpAny_pyIter_range hr hsmall ?_
  refine loop_walk (kept := []) (led₀ := led₀) (m₀ := m₀) Inv (Walks.range hh s.heap.objs.size a c n) (by show IsRangeIter _ _ _ _ _; rw [hn]; simpa using Heap.get?_push_size _ rfl) (fun i h e => ⟨_, e⟩) (fun b hb => .inl (List.mem_singleton.mp hb)) (fun _ _ _ _ p hp => nomatch hp)
    (next_is_new F) (Nat.ne_of_lt F.ns.lt) (fun p hp => Nat.ne_of_lt (Heap.lt_size (N p hp).1)) (F.push _) (fun p hp => ⟨Heap.get?_push_of_some _ (N p hp).1, (N p hp).2⟩) h0 ?_ done (ht _)
  rintro i v m led h tk oI hi ⟨t, rfl⟩ hJ ha F₁ N₁
  refine turn i t m led h tk _ oI hi hJ ha (fun p hp => ?_) F₁ N₁
  have : p.1 ∈ led₀.map (·.1) := ha ▸ List.mem_map.mpr ⟨p, hp, rfl⟩
  obtain ⟨q, hq, e⟩ := List.mem_map.mp this
  exact e ▸ Heap.lt_size (N q hq).1

theorem loop_seq {target : Expr} {body orelse : List Stmt} {l : Addr} {ol : Obj} {its : Array Value} {k : Nat} {T : String} {m₀ : Str → Option Value} {led₀ : List (Addr × Obj)}
    (Inv : Nat → (Str → Option Value) → List (Addr × Obj) → Prop)
    (hh : A.handled = none) (hc : ol.cls = .type T) (hd : ol.data = .seq its k) (hT : T = "list" ∨ T = "tuple") (hl : ∀ i m led, Inv i m led → (l, ol) ∈ led ∨ h₀.get? l = some ol)
    (F : Fr h₀ L s.heap m₀) (N : News h₀ L s.heap led₀) (h0 : Inv 0 m₀ led₀)
    (turn : ∀ i v m led h tk I oI, its[i]? = some v → Inv i m led → led.map (·.1) = led₀.map (·.1) → (∀ p ∈ led, p.1 < I) → Fr h₀ L h m → News h₀ L h ((I, oI) :: led) →
      wpAny (model prog w) A (assign target env v) (fun _ s₂ => wpAny (model prog w) A (execs body env) (StepF h₀ L I oI (led₀.map (·.1)) { s with heap := h, toks := tk } (Inv (i + 1)) Q) NoE s₂) NoE { s with heap := h, toks := tk })
    (done : ∀ m led h tk, Inv its.size m led → Fr h₀ L h m → News h₀ L h led → wpAny (model prog w) A (execs orelse env) Q NoE { s with heap := h, toks := tk })
    (ht : ∀ I v, letOwnedTupleGo target (.ref I) v = pure () := by intro _ _; rfl) :
    wpAny (model prog w) A (pyIter (.ref l)) (fun it s₂ => LoopF prog w A env target body orelse Q it s₂) NoE s := by
  have hol : s.heap.get? l = some ol := (hl _ _ _ h0).elim (fun h => (N _ h).1) fun h => F.keep _ _ h
  have hlt : l < s.heap.objs.size := Heap.lt_size hol
  have tn : ∀ i v m led h tk oI, its[i]? = some v → Inv i m led → led.map (·.1) = led₀.map (·.1) → Fr h₀ L h m → News h₀ L h ((s.heap.objs.size, oI) :: led) →
      wpAny (model prog w) A (assign target env v) (fun _ s₂ => wpAny (model prog w) A (execs body env) (StepF h₀ L s.heap.objs.size oI (led₀.map (·.1)) { s with heap := h, toks := tk } (Inv (i + 1)) Q) NoE s₂) NoE { s with heap := h, toks := tk } := by
    intro i v m led h tk oI hi hJ ha F₁ N₁
    refine turn i v m led h tk _ oI hi hJ ha (fun p hp => ?_) F₁ N₁
    have : p.1 ∈ led₀.map (·.1) := ha ▸ List.mem_map.mpr ⟨p, hp, rfl⟩
    obtain ⟨q, hq, e⟩ := List.mem_map.mp this
    exact e ▸ Heap.lt_size (N q hq).1
  have fp : ∀ b ∈ [s.heap.objs.size, l], b = s.heap.objs.size ∨ ∃ o, (b, o) ∈ [(l, ol)] := fun b hb => by
    rcases List.mem_cons.mp hb with e | hb
    · exact .inl e
    · exact .inr ⟨ol, by rw [List.mem_singleton.mp hb]; exact List.mem_singleton.mpr rfl⟩
  have kp : ∀ i m led, Inv i m led → ∀ p ∈ [(l, ol)], p ∈ led ∨ h₀.get? p.1 = some p.2 := fun i m led hJ p hp => by
    rw [List.mem_singleton.mp hp]; exact hl _ _ _ hJ
  rcases hT with rfl | rfl
  · have hls : s.heap.IsList l its := ⟨ol, hol, hc, k, hd⟩
    refine wpAny_pyIter_list hls ?_
    refine loop_walk (kept := [(l, ol)]) (led₀ := led₀) (m₀ := m₀) Inv (Walks.list hh s.heap.objs.size l (Nat.ne_of_lt hlt) its) ⟨⟨_, Heap.get?_push_size _ rfl, rfl, rfl⟩, hls.at fun o e => Heap.get?_push_of_some _ e⟩ (fun i h e => ⟨_, e.1.choose_spec.1⟩) fp kp
      (next_is_new F) (Nat.ne_of_lt F.ns.lt) (fun p hp => Nat.ne_of_lt (Heap.lt_size (N p hp).1)) (F.push _) (fun p hp => ⟨Heap.get?_push_of_some _ (N p hp).1, (N p hp).2⟩) h0 ?_ done (ht _)
    intro i v m led h tk oI _ hv hJ ha F₁ N₁
    exact tn i v m led h tk oI hv hJ ha F₁ N₁
  · have hls : s.heap.IsTuple l its := ⟨ol, hol, hc, k, hd⟩
    refine wpAny_pyIter_tuple hls ?_
    refine loop_walk (kept := [(l, ol)]) (led₀ := led₀) (m₀ := m₀) Inv (Walks.tuple hh s.heap.objs.size l (Nat.ne_of_lt hlt) its) ⟨⟨_, Heap.get?_push_size _ rfl, rfl, rfl⟩, hls.at fun o e => Heap.get?_push_of_some _ e⟩ (fun i h e => ⟨_, e.1.choose_spec.1⟩) fp kp
      (next_is_new F) (Nat.ne_of_lt F.ns.lt) (fun p hp => Nat.ne_of_lt (Heap.lt_size (N p hp).1)) (F.push _) (fun p hp => ⟨Heap.get?_push_of_some _ (N p hp).1, (N p hp).2⟩) h0 ?_ done (ht _)
    intro i v m led h tk oI _ hv hJ ha F₁ N₁
    exact tn i v m led h tk oI hv hJ ha F₁ N₁

theorem loop_up {target : Expr} {body orelse : List Stmt} {r : Addr} {t u v : Tok} {n : Nat} {m₀ : Str → Option Value} {led₀ : List (Addr × Obj)}
    (Inv : Nat → (Str → Option Value) → List (Addr × Obj) → Prop)
    (hh : A.handled = none) {b : Int} (hr : IsRange s.heap r 0 b 1 t u v) (hb : b = (n : Int)) (hn : n < 2 ^ 60)
    (F : Fr h₀ L s.heap m₀) (N : News h₀ L s.heap led₀) (h0 : Inv 0 m₀ led₀)
    (turn : ∀ i t m led h tk I oI, i < n → Inv i m led → led.map (·.1) = led₀.map (·.1) → (∀ p ∈ led, p.1 < I) → Fr h₀ L h m → News h₀ L h ((I, oI) :: led) →
      wpAny (model prog w) A (assign target env (.int (i : Int) t)) (fun _ s₂ => wpAny (model prog w) A (execs body env) (StepF h₀ L I oI (led₀.map (·.1)) { s with heap := h, toks := tk } (Inv (i + 1)) Q) NoE s₂) NoE { s with heap := h, toks := tk })
    (done : ∀ m led h tk, Inv n m led → Fr h₀ L h m → News h₀ L h led → wpAny (model prog w) A (execs orelse env) Q NoE { s with heap := h, toks := tk })
    (ht : ∀ I v, letOwnedTupleGo target (.ref I) v = pure () := by intro _ _; rfl) :
    wpAny (model prog w) A (pyIter (.ref r)) (fun it s₂ => LoopF prog w A env target body orelse Q it s₂) NoE s := by
  subst hb
  refine loop_range (n := n) Inv hh hr (small_one (by omega) (by omega) (by omega) (by omega)) (by rw [rangeSize_nat]; simp) F N h0 ?_ done ht
  intro i t m led h tk I oI hi hJ ha hl F₁ N₁
  rw [show (0 : Int) + (i : Int) * 1 = (i : Int) by omega]
  exact turn i t m led h tk I oI hi hJ ha hl F₁ N₁

theorem loop_down {target : Expr} {body orelse : List Stmt} {r : Addr} {t u v : Tok} {n : Nat} {m₀ : Str → Option Value} {led₀ : List (Addr × Obj)}
    (Inv : Nat → (Str → Option Value) → List (Addr × Obj) → Prop)
    (hh : A.handled = none) {b : Int} (hr : IsRange s.heap r b 0 (-1) t u v) (hb : b = (n : Int)) (hn : n < 2 ^ 60)
    (F : Fr h₀ L s.heap m₀) (N : News h₀ L s.heap led₀) (h0 : Inv n m₀ led₀)
    (turn : ∀ i t m led h tk I oI, i < n → Inv (i + 1) m led → led.map (·.1) = led₀.map (·.1) → (∀ p ∈ led, p.1 < I) → Fr h₀ L h m → News h₀ L h ((I, oI) :: led) →
      wpAny (model prog w) A (assign target env (.int ((i + 1 : Nat) : Int) t)) (fun _ s₂ => wpAny (model prog w) A (execs body env) (StepF h₀ L I oI (led₀.map (·.1)) { s with heap := h, toks := tk } (Inv i) Q) NoE s₂) NoE { s with heap := h, toks := tk })
    (done : ∀ m led h tk, Inv 0 m led → Fr h₀ L h m → News h₀ L h led → wpAny (model prog w) A (execs orelse env) Q NoE { s with heap := h, toks := tk })
    (ht : ∀ I v, letOwnedTupleGo target (.ref I) v = pure () := by intro _ _; rfl) :
    wpAny (model prog w) A (pyIter (.ref r)) (fun it s₂ => LoopF prog w A env target body orelse Q it s₂) NoE s := by
  subst hb
  refine loop_range (n := n) (fun i m led => i ≤ n ∧ Inv (n - i) m led) hh hr (small_down (by omega) (by omega) (by omega) (by omega)) (by rw [rangeSize_downNat]; simp) F N ⟨Nat.zero_le _, h0⟩ ?_ (fun m led h tk hJ F₁ N₁ => done m led h tk (by have := hJ.2; rwa [Nat.sub_self] at this) F₁ N₁) ht
  intro i t m led h tk I oI hi hJ ha hl F₁ N₁
  obtain ⟨j, hj⟩ : ∃ j, n - i = j + 1 := ⟨n - i - 1, by omega⟩
  rw [show (n : Int) + (i : Int) * (-1) = ((j + 1 : Nat) : Int) by omega]
  refine wpAny_mono (turn j t m led h tk I oI (by omega) (by rw [← hj]; exact hJ.2) ha hl F₁ N₁) (fun _ s₂ h₂ => wpAny_mono h₂ (fun f s₃ h₃ => ?_) fun _ _ e => e) fun _ _ e => e
  have e : n - (i + 1) = j := by omega
  cases f with
  | ret v => exact h₃
  | brk => exact h₃
  | next => obtain ⟨a, b, c, d, e', q1, q2, q3, q4, q5, q6, q7⟩ := h₃; exact ⟨a, b, c, d, e', q1, q2, q3, q4, q5, q6, by omega, by rw [e]; exact q7⟩
  | cont => obtain ⟨a, b, c, d, e', q1, q2, q3, q4, q5, q6, q7⟩ := h₃; exact ⟨a, b, c, d, e', q1, q2, q3, q4, q5, q6, by omega, by rw [e]; exact q7⟩

/-- the end of a while's turn -/
def StepW (h₀ : Heap) (L : Addr) (s : Shared) (k : Nat) (Inv : Nat → (Str → Option Value) → List (Addr × Obj) → Prop) (Q : Flow → Shared → Prop) (f : Flow) (s₃ : Shared) : Prop :=
  match f with
  | .ret v => Q (.ret v) s₃
  | .brk => Q .next s₃
  | _ => ∃ h' tk' m' led' news' k', s₃ = { s with heap := h', toks := tk' } ∧ Fr h₀ L h' m' ∧ News h₀ L h' news' ∧ (∀ p ∈ led', p ∈ news') ∧ k' < k ∧ Inv k' m' led'

theorem while_F {test : Expr} {body orelse : List Stmt} {pos : Pos} {m₀ : Str → Option Value} {led₀ : List (Addr × Obj)} {k₀ : Nat}
    (Inv : Nat → (Str → Option Value) → List (Addr × Obj) → Prop) (F : Fr h₀ L s.heap m₀) (N : News h₀ L s.heap led₀) (h0 : Inv k₀ m₀ led₀)
    (turn : ∀ k m led h tk, Inv k m led → Fr h₀ L h m → News h₀ L h led →
      wpAny (model prog w) A (isTrue test env (eval test env)) (fun b s₂ =>
        if b = true then wpAny (model prog w) A (execs body env) (StepW h₀ L s k Inv Q) NoE s₂ else wpAny (model prog w) A (execs orelse env) Q NoE s₂) NoE { s with heap := h, toks := tk }) :
    wpAny (model prog w) A (exec (.While test body orelse pos) env) Q NoE s := by
  refine wpAny_While (codeAny_whileLoop (fun n s' => ∃ h₁ tk₁ m₁ led₁, s' = { s with heap := h₁, toks := tk₁ } ∧ Fr h₀ L h₁ m₁ ∧ News h₀ L h₁ led₁ ∧ Inv n m₁ led₁) ?_ k₀ ⟨s.heap, s.toks, m₀, led₀, rfl, F, N, h0⟩)
  rintro n s' ⟨h₁, tk₁, m₁, led₁, rfl, F₁, N₁, J₁⟩
  refine wpAny_noRaise (wpAny_mono (turn n m₁ led₁ h₁ tk₁ J₁ F₁ N₁) (fun b s₂ h₂ => ?_) fun _ _ e => e)
  cases b with
  | false =>
    simp only [Bool.false_eq_true, if_false] at h₂ ⊢
    exact wpAny_noRaise h₂
  | true =>
    simp only [if_true] at h₂ ⊢
    refine wpAny_noRaise (wpAny_mono h₂ (fun f s₃ h₃ => ?_) fun _ _ e => e)
    cases f with
    | next =>
      obtain ⟨h', tk, m₂, led₂, news₂, n', rfl, F₂, N₂, hs, hn, J₂⟩ := h₃
      exact ⟨n', hn, h', tk, m₂, led₂, rfl, F₂, fun p hp => N₂ p (hs p hp), J₂⟩
    | cont =>
      obtain ⟨h', tk, m₂, led₂, news₂, n', rfl, F₂, N₂, hs, hn, J₂⟩ := h₃
      exact ⟨n', hn, h', tk, m₂, led₂, rfl, F₂, fun p hp => N₂ p (hs p hp), J₂⟩
    | brk => exact h₃
    | ret v => exact h₃

/-- the frame in named places -/
theorem fr_named {h : Heap} {m : Str → Option Value} (ps : List (Str × Value)) (F : Fr h₀ L h m) (hp : ∀ p ∈ ps, m p.1 = some p.2) : Fr h₀ L h (kstB m ps) := by
  have e : kstB m ps = m := funext fun z => kstB_eq hp fun _ => rfl
  rw [e]; exact F
end
end Mine
end

section
open PySem PySem.W PySem.Calls PyProof.Rows
set_option maxRecDepth 100000
namespace Mine
section
variable {prog : Program} {w : World} {A : Around} {E : Value → Shared → Prop} {s : Shared} {h₀ : Heap} {L : Addr} {m : Str → Option Value} {env : Env}
theorem eq_nil {l b : Addr} {ys : List Value} {k k' : Nat} {Q : Value → Shared → Prop} {news : List (Addr × Obj)} (N : News h₀ L s.heap news) (hl : (l, listOf ys.toArray k) ∈ news) (hb : (b, listOf #[] k') ∈ news) (hu : A.units < cLine)
    (h : Q (.bool ys.isEmpty) s) : wpAny (model prog w) A (compareOp .Eq (.ref l) (.ref b)) Q E s := by
  have e1 : s.heap.IsList l ys.toArray := ⟨_, (N _ hl).1, rfl, k, rfl⟩
  have e2 : s.heap.IsList b #[] := ⟨_, (N _ hb).1, rfl, k', rfl⟩
  cases ys with
  | nil => exact SeqAt.eq_listAt (e := fun _ => true) e1 e2 rfl hu (fun j h1 _ => absurd h1 (Nat.not_lt_zero _)) h
  | cons y r => exact SeqAt.eq_list_lengthsAt e1 e2 (by simp) hu h
/-- the end of a comprehension's turn -/
def TurnC (h₀ : Heap) (L : Addr) (m : Str → Option Value) (s : Shared) (led : List (Addr × Obj)) (P : Prop) (s' : Shared) : Prop :=
  ∃ h' tk' news', s' = { s with heap := h', toks := tk' } ∧ Fr h₀ L h' m ∧ News h₀ L h' news' ∧ (∀ p ∈ led, p ∈ news') ∧ P

theorem rest_T {ct elt : Expr} {x : Str} {scope : Scope} {cl : List (Str × Addr)} {S : List (Addr × Obj) → Prop} {P : Nat → Value → Prop} {Fin : List Value → List (Addr × Obj) → Prop} {n : Nat} {news : List (Addr × Obj)}
    (hS : S news) (Inv : Nat → List Value → Prop) (h0 : Inv 0 [])
    (turn : ∀ i v ys I oI C oC D m₂ h tk, i < n → P i v → Inv i ys → LCg.NsObj oC m₂ → m₂ x = some v → Fr h₀ L h m → News h₀ L h ((I, oI) :: (C, oC) :: (D, LCg.lst ys) :: news) → LCg.Off3 I C D news → ((@Ne Nat I C) ∧ (@Ne Nat I D) ∧ (@Ne Nat C D)) →
      wpAny (model prog w) A (isTrue ct (compEnvC scope cl C env) (eval ct (compEnvC scope cl C env))) (fun ok s' => if ok = true then
        wpAny (model prog w) A (eval elt (compEnvC scope cl C env)) (fun y s'' => TurnC h₀ L m { s with heap := h, toks := tk } ((I, oI) :: (C, oC) :: (D, LCg.lst ys) :: news) (Inv (i + 1) (ys ++ [y])) s'') NoE s'
        else TurnC h₀ L m { s with heap := h, toks := tk } ((I, oI) :: (C, oC) :: (D, LCg.lst ys) :: news) (Inv (i + 1) ys) s') NoE { s with heap := h, toks := tk })
    (fin : ∀ ys, Inv n ys → Fin ys news) : LCt.CompRestT prog w A h₀ L m env ct elt x scope cl s S P Fin n 0 [] news := by
  have key : ∀ (k i : Nat) (ys : List Value), i + k = n → Inv i ys → LCt.CompRestT prog w A h₀ L m env ct elt x scope cl s S P Fin k i ys news := by
    intro k
    induction k with
    | zero =>
      intro i ys hi hy
      obtain rfl : i = n := by omega
      exact LCt.CompRestT.zero (fin ys hy)
    | succ k ih =>
      intro i ys hi hy
      refine LCt.CompRestT.succ ?_
      intro v I oI C oC D m₂ h tk E' hv hC hx F N off ne
      refine wpAny_noRaise (wpAny_mono (turn i v ys I oI C oC D m₂ h tk (by omega) hv hy hC hx F N off ne) (fun ok s' h' => ?_) fun _ _ e => e)
      cases ok with
      | true =>
        simp only [if_true] at h' ⊢
        refine wpAny_noRaise (wpAny_mono h' (fun y s'' h'' => ?_) fun _ _ e => e)
        obtain ⟨g, tg, ng, e, F', N', hs, hI⟩ := h''
        exact ⟨g, tg, news, e, F', fun p hp => N' p (hs p hp), off, hS, ih (i + 1) _ (by omega) hI⟩
      | false =>
        simp only [Bool.false_eq_true, if_false] at h' ⊢
        obtain ⟨g, tg, ng, e, F', N', hs, hI⟩ := h'
        exact ⟨g, tg, news, e, F', fun p hp => N' p (hs p hp), off, hS, ih (i + 1) _ (by omega) hI⟩
  exact key n 0 [] (by omega) h0

theorem rest_U {elt : Expr} {x : Str} {scope : Scope} {cl : List (Str × Addr)} {S : List (Addr × Obj) → Prop} {P : Nat → Value → Prop} {Fin : List Value → List (Addr × Obj) → Prop} {n : Nat} {news : List (Addr × Obj)}
    (hS : S news) (Inv : Nat → List Value → Prop) (h0 : Inv 0 [])
    (turn : ∀ i v ys I oI C oC D m₂ h tk, i < n → P i v → Inv i ys → LCg.NsObj oC m₂ → m₂ x = some v → Fr h₀ L h m → News h₀ L h ((I, oI) :: (C, oC) :: (D, LCg.lst ys) :: news) → LCg.Off3 I C D news → ((@Ne Nat I C) ∧ (@Ne Nat I D) ∧ (@Ne Nat C D)) →
      wpAny (model prog w) A (eval elt (compEnvC scope cl C env)) (fun y s'' => TurnC h₀ L m { s with heap := h, toks := tk } ((I, oI) :: (C, oC) :: (D, LCg.lst ys) :: news) (Inv (i + 1) (ys ++ [y])) s'') NoE { s with heap := h, toks := tk })
    (fin : ∀ ys, Inv n ys → Fin ys news) : LCg.CompRest prog w A h₀ L m env elt x scope cl s S P Fin n 0 [] news := by
  have key : ∀ (k i : Nat) (ys : List Value), i + k = n → Inv i ys → LCg.CompRest prog w A h₀ L m env elt x scope cl s S P Fin k i ys news := by
    intro k
    induction k with
    | zero =>
      intro i ys hi hy
      obtain rfl : i = n := by omega
      exact LCg.CompRest.zero (fin ys hy)
    | succ k ih =>
      intro i ys hi hy
      refine LCg.CompRest.succ ?_
      intro v I oI C oC D m₂ h tk E' hv hC hx F N off ne
      refine wpAny_noRaise (wpAny_mono (turn i v ys I oI C oC D m₂ h tk (by omega) hv hy hC hx F N off ne) (fun y s'' h'' => ?_) fun _ _ e => e)
      obtain ⟨g, tg, ng, e, F', N', hs, hI⟩ := h''
      exact ⟨g, tg, news, e, F', fun p hp => N' p (hs p hp), off, hS, ih (i + 1) _ (by omega) hI⟩
  exact key n 0 [] (by omega) h0

/-- a comprehension with one test over a list of the ledger -/
theorem comp_T {ct elt : Expr} {x : Str} {scope : Scope} {cl : List (Str × Addr)} {Q : Value → Shared → Prop} {ax : Addr} {its : Array Value} {k : Nat} {news : List (Addr × Obj)} {s₁ : Shared}
    (Inv : Nat → List Value → Prop) (hh : A.handled = none) (F : Fr h₀ L s₁.heap m) (N : News h₀ L s₁.heap news) (hm : (ax, ({ cls := .type "list", data := .seq its k } : Obj)) ∈ news) (hsz : its.size ≤ sizeLine) (h0 : Inv 0 [])
    (turn : ∀ i v ys I oI C oC D m₂ h tk, its[i]? = some v → Inv i ys → LCg.NsObj oC m₂ → m₂ x = some v → Fr h₀ L h m → News h₀ L h ((I, oI) :: (C, oC) :: (D, LCg.lst ys) :: news) → LCg.Off3 I C D news → ((@Ne Nat I C) ∧ (@Ne Nat I D) ∧ (@Ne Nat C D)) →
      wpAny (model prog w) A (isTrue ct (compEnvC scope cl C env) (eval ct (compEnvC scope cl C env))) (fun ok s' => if ok = true then
        wpAny (model prog w) A (eval elt (compEnvC scope cl C env)) (fun y s'' => TurnC h₀ L m { s₁ with heap := h, toks := tk } ((I, oI) :: (C, oC) :: (D, LCg.lst ys) :: news) (Inv (i + 1) (ys ++ [y])) s'') NoE s'
        else TurnC h₀ L m { s₁ with heap := h, toks := tk } ((I, oI) :: (C, oC) :: (D, LCg.lst ys) :: news) (Inv (i + 1) ys) s') NoE { s₁ with heap := h, toks := tk })
    (fin : ∀ ys D h tk, Inv its.size ys → Fr h₀ L h m → News h₀ L h ((D, LCg.lst ys) :: news) → LCg.Off1 D news → Q (.ref D) { s₁ with heap := h, toks := tk }) :
    LCt.CompSrcT prog w A h₀ L m env ct elt x scope cl (fun s₂ => LCg.FinE h₀ L m s₂ Q) (.ref ax) s₁ :=
  LCt.CompSrcT.ledger hh F N hm hsz fun _ => rest_T (.inr ⟨_, hm, rfl, _, rfl⟩) Inv h0 (fun i v ys I oI C oC D m₂ h tk _ hv => turn i v ys I oI C oC D m₂ h tk hv) fun ys hI D h tk F' N' o1 => fin ys D h tk hI F' N' o1

theorem comp_U {elt : Expr} {x : Str} {scope : Scope} {cl : List (Str × Addr)} {Q : Value → Shared → Prop} {ax : Addr} {its : Array Value} {k : Nat} {news : List (Addr × Obj)} {s₁ : Shared}
    (Inv : Nat → List Value → Prop) (hh : A.handled = none) (F : Fr h₀ L s₁.heap m) (N : News h₀ L s₁.heap news) (hm : (ax, ({ cls := .type "list", data := .seq its k } : Obj)) ∈ news) (hsz : its.size ≤ sizeLine) (h0 : Inv 0 [])
    (turn : ∀ i v ys I oI C oC D m₂ h tk, its[i]? = some v → Inv i ys → LCg.NsObj oC m₂ → m₂ x = some v → Fr h₀ L h m → News h₀ L h ((I, oI) :: (C, oC) :: (D, LCg.lst ys) :: news) → LCg.Off3 I C D news → ((@Ne Nat I C) ∧ (@Ne Nat I D) ∧ (@Ne Nat C D)) →
      wpAny (model prog w) A (eval elt (compEnvC scope cl C env)) (fun y s'' => TurnC h₀ L m { s₁ with heap := h, toks := tk } ((I, oI) :: (C, oC) :: (D, LCg.lst ys) :: news) (Inv (i + 1) (ys ++ [y])) s'') NoE { s₁ with heap := h, toks := tk })
    (fin : ∀ ys D h tk, Inv its.size ys → Fr h₀ L h m → News h₀ L h ((D, LCg.lst ys) :: news) → LCg.Off1 D news → Q (.ref D) { s₁ with heap := h, toks := tk }) :
    LCg.CompSrc prog w A h₀ L m env elt x scope cl (fun s₂ => LCg.FinE h₀ L m s₂ Q) (.ref ax) s₁ :=
  LCg.CompSrc.ledger hh F N hm hsz fun _ => rest_U (.inr ⟨_, hm, rfl, _, rfl⟩) Inv h0 (fun i v ys I oI C oC D m₂ h tk _ hv => turn i v ys I oI C oC D m₂ h tk hv) fun ys hI D h tk F' N' o1 => fin ys D h tk hI F' N' o1

theorem comp_R {elt : Expr} {x : Str} {scope : Scope} {cl : List (Str × Addr)} {Q : Value → Shared → Prop} {r : Addr} {b : Int} {t u v : Tok} {n : Nat} {news : List (Addr × Obj)} {s₁ : Shared}
    (Inv : Nat → List Value → Prop) (hh : A.handled = none) (F : Fr h₀ L s₁.heap m) (N : News h₀ L s₁.heap news) (hr : IsRange s₁.heap r 0 b 1 t u v) (hb : b = (n : Int)) (hn : n ≤ 1000) (h0 : Inv 0 [])
    (turn : ∀ (i : Nat) t ys I oI C oC D m₂ h tk, i < n → Inv i ys → LCg.NsObj oC m₂ → m₂ x = some (.int (i : Int) t) → Fr h₀ L h m → News h₀ L h ((I, oI) :: (C, oC) :: (D, LCg.lst ys) :: news) → LCg.Off3 I C D news → ((@Ne Nat I C) ∧ (@Ne Nat I D) ∧ (@Ne Nat C D)) →
      wpAny (model prog w) A (eval elt (compEnvC scope cl C env)) (fun y s'' => TurnC h₀ L m { s₁ with heap := h, toks := tk } ((I, oI) :: (C, oC) :: (D, LCg.lst ys) :: news) (Inv (i + 1) (ys ++ [y])) s'') NoE { s₁ with heap := h, toks := tk })
    (fin : ∀ ys D h tk, Inv n ys → Fr h₀ L h m → News h₀ L h ((D, LCg.lst ys) :: news) → LCg.Off1 D news → Q (.ref D) { s₁ with heap := h, toks := tk }) :
    LCg.CompSrc prog w A h₀ L m env elt x scope cl (fun s₂ => LCg.FinE h₀ L m s₂ Q) (.ref r) s₁ := by
  subst hb
  refine LCg.CompSrc.range hh F N hr (small_one (by omega) (by omega) (by omega) (by omega)) (n := n) (by rw [rangeSize_nat]; simp) (by rw [sizeLine_eq]; omega) fun _ => rest_U trivial Inv h0 (fun i v ys I oI C oC D m₂ h tk hi hv hI hC hx => ?_) fun ys hI D h tk F' N' o1 => fin ys D h tk hI F' N' o1
  obtain ⟨t', rfl⟩ := hv
  rw [Int.zero_add] at hx
  exact turn i t' ys I oI C oC D m₂ h tk hi hI hC hx

/-- the source of a comprehension that is a tuple of the ledger -/
def SrcTup (prog : Program) (w : World) (A : Around) (h₀ : Heap) (L : Addr) (m : Str → Option Value) (env : Env) (elt : Expr) (x : Str) (scope : Scope) (cl : List (Str × Addr)) (Fin : Shared → List Value → List (Addr × Obj) → Prop) (xv : Value) (s₁ : Shared) : Prop :=
  ∃ ax its k news, xv = .ref ax ∧ A.handled = none ∧ Fr h₀ L s₁.heap m ∧ News h₀ L s₁.heap news ∧ (ax, ({ cls := .type "tuple", data := .seq its k } : Obj)) ∈ news ∧ its.size ≤ sizeLine ∧
    ∀ s₂ : Shared, (∃ h, s₂ = { s₁ with heap := h }) → LCg.CompRest prog w A h₀ L m env elt x scope cl s₂ (fun nw => (ax, ({ cls := .type "tuple", data := .seq its k } : Obj)) ∈ nw) (fun i v => its[i]? = some v) (Fin s₂) its.size 0 [] news

theorem ListComp_tup {elt iter : Expr} {x : Str} {px : Pos} {scope : Scope} {cl : List (Str × Addr)} {pos : Pos} {Q : Value → Shared → Prop} (F₀ : Fr h₀ L s.heap m)
    (hclos : closureFor scope env = pure cl) (hcell : ∀ y ∈ scope.names, y.2 ≠ .cell) (hkind : scope.kind = .function)
    (hnames : ∀ y ∈ scope.names, y.2 = .local → scope.names.lookup y.1 = some .local) (hx : scope.names.lookup x = some .local)
    (h : wpAny (model prog w) A (eval iter env) (SrcTup prog w A h₀ L m env elt x scope cl (fun s₂ => LCg.FinE h₀ L m s₂ Q)) E s)
    (hs : ∀ x, foldedSetIterable iter env x = pure x := by intro _; rfl) :
    wpAny (model prog w) A (eval (.ListComp elt [⟨.Name x px, iter, [], 0⟩] scope pos) env) Q E s := by
  rw [eval_ListComp]
  refine wpAny_comprehension_free (use := none) rfl hs hclos hkind hnames (wpAny_mono h (fun xv s₁ h₁ => ?_) fun _ _ e => e)
  obtain ⟨ax, its, k, news, rfl, hh, F, N, hm, hsz, R⟩ := h₁
  have hl : s₁.heap.IsTuple ax its := ⟨_, (N _ hm).1, rfl, k, rfl⟩
  have hlt : ax < s₁.heap.objs.size := by obtain ⟨_, e, _⟩ := hl; exact Heap.lt_size e
  refine wpAny_pyIter_tuple hl ?_
  have up : ∀ b o, s₁.heap.get? b = some o → (s₁.heap.push { cls := .type "tuple_iterator", data := .fields #[.ref ax, .int 0 0] }).get? b = some o := fun b o e => Heap.get?_push_of_some _ e
  refine LCg.block_U (Walks.tuple hh s₁.heap.objs.size ax (Nat.ne_of_lt hlt) its) hsz (fun i h st => by obtain ⟨o, e, _⟩ := st.1; exact ⟨o, e⟩) ?_ hcell hkind hx ⟨⟨_, Heap.get?_push_size _ rfl, rfl, rfl⟩, hl.at fun o e => Heap.get?_push_of_some _ e⟩ (fun b hb => ?_)
    (F.keeps up) (N.grown up) (Nat.ne_of_lt F.ns.lt) (next_is_new F) (fun p hp => Nat.ne_of_lt (Heap.lt_size (N p hp).1)) hm (R _ ⟨_, rfl⟩) ?_
  · intro i h h' o nw st e e' k' N' S
    exact ⟨by obtain ⟨o', q, r⟩ := st.1; rw [e] at q; cases q; exact ⟨o, e', r⟩, ⟨_, (N' _ S).1, rfl, k, rfl⟩⟩
  · show b < (s₁.heap.push _).objs.size
    rw [Heap.size_push]
    rcases List.mem_cons.mp hb with rfl | hb
    · exact Nat.lt_succ_self _
    · rw [List.mem_singleton.mp hb]; exact Nat.lt_succ_of_lt hlt
  · intro D C h tk m' ys news' F' N' o1 hn hC₀ hD₀ hCL hDL hCD offC fin
    refine ⟨m', hn, fun h'' hs'' => fin D h'' tk (F'.change hs'' hCL hC₀) (fun p hp => ?_) o1⟩
    refine ⟨hs''.extBut _ _ ?_ (N' p hp).1, (N' p hp).2⟩
    rcases List.mem_cons.mp hp with rfl | hp
    · exact Ne.symm hCD
    · exact offC p hp

theorem comp_tup {elt : Expr} {x : Str} {scope : Scope} {cl : List (Str × Addr)} {Q : Value → Shared → Prop} {ax : Addr} {its : Array Value} {k : Nat} {news : List (Addr × Obj)} {s₁ : Shared}
    (Inv : Nat → List Value → Prop) (hh : A.handled = none) (F : Fr h₀ L s₁.heap m) (N : News h₀ L s₁.heap news) (hm : (ax, ({ cls := .type "tuple", data := .seq its k } : Obj)) ∈ news) (hsz : its.size ≤ sizeLine) (h0 : Inv 0 [])
    (turn : ∀ i v ys I oI C oC D m₂ h tk, its[i]? = some v → Inv i ys → LCg.NsObj oC m₂ → m₂ x = some v → Fr h₀ L h m → News h₀ L h ((I, oI) :: (C, oC) :: (D, LCg.lst ys) :: news) → LCg.Off3 I C D news → ((@Ne Nat I C) ∧ (@Ne Nat I D) ∧ (@Ne Nat C D)) →
      wpAny (model prog w) A (eval elt (compEnvC scope cl C env)) (fun y s'' => TurnC h₀ L m { s₁ with heap := h, toks := tk } ((I, oI) :: (C, oC) :: (D, LCg.lst ys) :: news) (Inv (i + 1) (ys ++ [y])) s'') NoE { s₁ with heap := h, toks := tk })
    (fin : ∀ ys D h tk, Inv its.size ys → Fr h₀ L h m → News h₀ L h ((D, LCg.lst ys) :: news) → LCg.Off1 D news → Q (.ref D) { s₁ with heap := h, toks := tk }) :
    SrcTup prog w A h₀ L m env elt x scope cl (fun s₂ => LCg.FinE h₀ L m s₂ Q) (.ref ax) s₁ :=
  ⟨ax, its, k, news, rfl, hh, F, N, hm, hsz, fun _ ⟨g, e⟩ => e ▸ rest_U hm Inv h0 (fun i v ys I oI C oC D m₂ h tk _ hv => turn i v ys I oI C oC D m₂ h tk hv) fun ys hI D h tk F' N' o1 => fin ys D h tk hI F' N' o1⟩

theorem ListComp_TS {ct elt iter : Expr} {x : Str} {px : Pos} {scope : Scope} {cl : List (Str × Addr)} {pos : Pos} {Q : Value → Shared → Prop} (F₀ : Fr h₀ L s.heap m)
    (hclos : closureFor scope env = pure cl) (hcell : ∀ y ∈ scope.names, y.2 ≠ .cell) (hkind : scope.kind = .function)
    (hnames : ∀ y ∈ scope.names, y.2 = .local → scope.names.lookup y.1 = some .local) (hx : scope.names.lookup x = some .local)
    (h : wpAny (model prog w) A (eval iter env) (fun v s' => Stopped (LCt.CompSrcT prog w A h₀ L m env ct elt x scope cl (fun s₂ => LCg.FinE h₀ L m s₂ Q) v s')) E s)
    (hs : ∀ x, foldedSetIterable iter env x = pure x := by intro _; rfl) :
    wpAny (model prog w) A (eval (.ListComp elt [⟨.Name x px, iter, [ct], 0⟩] scope pos) env) Q E s := LCt.ListComp_T F₀ hclos hcell hkind hnames hx h hs
theorem ListComp_US {elt iter : Expr} {x : Str} {px : Pos} {scope : Scope} {cl : List (Str × Addr)} {pos : Pos} {Q : Value → Shared → Prop} (F₀ : Fr h₀ L s.heap m)
    (hclos : closureFor scope env = pure cl) (hcell : ∀ y ∈ scope.names, y.2 ≠ .cell) (hkind : scope.kind = .function)
    (hnames : ∀ y ∈ scope.names, y.2 = .local → scope.names.lookup y.1 = some .local) (hx : scope.names.lookup x = some .local)
    (h : wpAny (model prog w) A (eval iter env) (fun v s' => Stopped (LCg.CompSrc prog w A h₀ L m env elt x scope cl (fun s₂ => LCg.FinE h₀ L m s₂ Q) v s')) E s)
    (hs : ∀ x, foldedSetIterable iter env x = pure x := by intro _; rfl) :
    wpAny (model prog w) A (eval (.ListComp elt [⟨.Name x px, iter, [], 0⟩] scope pos) env) Q E s := LCg.ListComp_U F₀ hclos hcell hkind hnames hx h hs
theorem ListComp_tupS {elt iter : Expr} {x : Str} {px : Pos} {scope : Scope} {cl : List (Str × Addr)} {pos : Pos} {Q : Value → Shared → Prop} (F₀ : Fr h₀ L s.heap m)
    (hclos : closureFor scope env = pure cl) (hcell : ∀ y ∈ scope.names, y.2 ≠ .cell) (hkind : scope.kind = .function)
    (hnames : ∀ y ∈ scope.names, y.2 = .local → scope.names.lookup y.1 = some .local) (hx : scope.names.lookup x = some .local)
    (h : wpAny (model prog w) A (eval iter env) (fun v s' => Stopped (SrcTup prog w A h₀ L m env elt x scope cl (fun s₂ => LCg.FinE h₀ L m s₂ Q) v s')) E s)
    (hs : ∀ x, foldedSetIterable iter env x = pure x := by intro _; rfl) :
    wpAny (model prog w) A (eval (.ListComp elt [⟨.Name x px, iter, [], 0⟩] scope pos) env) Q E s := ListComp_tup F₀ hclos hcell hkind hnames hx h hs
end
end Mine
end

section
open PySem PySem.W PySem.Calls PyProof.Rows
set_option maxRecDepth 100000
namespace Mine
section
variable {prog : Program} {w : World} {A A₀ : Around} {s : Shared} {K : Frag} {L : Addr} {h₀ base : Heap} {m mg mb : Str → Option Value} {news : List (Addr × Obj)} {p : Program} {loose : List Str} {mean : ExcName → Option Value}
/-- a def with a star parameter whose names are captured -/
theorem rest_cells {env : Env} {outer : List Env} {R : Result → Shared → Prop} {name qual : Str} {params : Arguments} {body : List Stmt} {scope : Scope} {dV kV doc pm cdv ct oc : Value} {an od : Option Addr} {osl : Array (Option Value)} {f : Addr} {args : Args} {vs : List Value} {g₁ : Addr → Option (List (Str × Value))} {binds : Addr → List (Str × Value)}
    (B : Below A₀ base outer h₀) (F : Fr h₀ L s.heap m) (X₀ : K.In h₀) (N : News h₀ L s.heap news) (T : Top p loose mean mg mb h₀) (hA : A.frames = some (env :: outer)) (hf : env.frame = some L) (hke : env.scope.kind = .function)
    (ho : K.lookup f = some ⟨oc, od, .func (fnOf name qual params body scope dV kV doc pm an cdv ct), osl⟩) (hcd : codeIn K cdv qual = true) (hroom : A.depth < recursionLimit)
    (hv : args.pos.drop (params.posonlyargs.length + params.args.length) = vs)
    (hp : peek1 K ⟨prog, w.params⟩ (bindArgs (fnOf name qual params body scope dV kV doc pm an cdv ct) args) = some (({ cls := .type "tuple", data := .seq vs.toArray } : Obj), g₁))
    (hg : ∀ D, g₁ D = some (binds D)) (hkind : ∀ D, ((binds D).all fun y => scope.names.lookup y.1 == some .local || scope.names.lookup y.1 == some .cell) = true)
    (hnd : ((cellsFrom 0 scope.names []).map (·.1)).Nodup)
    (h : ∀ D g L' h₁ tk cells, (∀ p ∈ news, p.1 < D) → Fr h₀ L g m → Fr g L' h₁ (bindL (envOfC qual scope L' f cdv).kindOf (binds D) fun _ => none) → News g L' h₁ (cells ++ (D, ({ cls := .type "tuple", data := .seq vs.toArray } : Obj)) :: news) →
      CellsAre (bindC (envOfC qual scope L' f cdv).kindOf (binds D) fun _ => none) (cellsFrom (L' + 1) scope.names []) cells → Below A base (env :: outer) g → K.In g → Top p loose mean mg mb g → (∀ p ∈ (D, ({ cls := .type "tuple", data := .seq vs.toArray } : Obj)) :: news, p.1 < L') →
      wpAny (model prog w) (A.deeper (envOfC qual scope L' f cdv)) (execs body (envOfC qual scope L' f cdv))
        (fun fl s' => LeaveK h₀ L m g R (match fl with | .ret v => v | _ => .none) s')
        (fun e s' => wpAny (model prog w) (A.deeper (envOfC qual scope L' f cdv)) (leaving (envOfC qual scope L' f cdv) e) (fun _ s'' => R (.error e) s'') (fun e' s'' => R (.error e') s'') s')
        { s with heap := h₁, toks := tk })
    (hco : scope.isCoroutine = false) (hgen : scope.isGenerator = false) (hk : scope.kind = .function) : codeAny (model prog w) A (.call (.ref f) args) R s := by
  have _ := hv
  refine codeAny_call_function (fd := fnOf name qual params body scope dV kV doc pm an cdv ct) (body := body) hroom ((X₀.keeps F.keep) _ _ ho) rfl hco hgen rfl (codeRec_of (X₀.keeps F.keep) hcd) ?_
  refine wp_of_peek1 (o := ({ cls := .type "tuple", data := .seq vs.toArray } : Obj)) F N (X₀.keeps F.keep) rfl (r := binds) (fun D h' F' N' l => ?_) _ g₁ hp hg
  obtain ⟨FG, BG, st, lv⟩ := groundX (R := R) (s := { s with heap := h' }) B F' N' hA hf hke
  refine wpAny_newFunctionEnv_cells hk (kindsX (hkind D) _) fun env' he s' x => ?_
  subst he
  refine ⟨(T.nolimit.keeps F'.keep).keeps x.toInCall.keep, codeAny_func ?_⟩
  obtain ⟨h₁, tk, rfl, _⟩ := x.done
  have hk₁ := x.toInCall.keep
  obtain ⟨cells, NC, Y⟩ := Cl.news (h₀ := h') (Nat.le_refl _) fun n c hm => ⟨x.cell n c (lookup_of_mem_nodup (cellsFrom_names scope.names 0 (h'.objs.size + 1) [] [] rfl ▸ hnd) hm), x.above n c hm⟩
  refine wpAny_mono (h D _ h'.objs.size h₁ tk cells l FG ⟨x.toInCall.ns, fun b o e => hk₁ b o (of_hideAll _ e), Nat.le_of_eq (hideAll_size _ _)⟩ (fun p hp => ?_) Y BG (X₀.keeps st) (T.keeps st) (fun p hp => Heap.lt_size (N' p hp).1)) (fun fl s' hl => lv _ _ hl) fun _ _ y => y
  rcases List.mem_append.mp hp with hp | hp
  · refine ⟨(NC p hp).1, (NC p hp).2.1, ?_⟩
    cases q : (hideAll h' (((D, ({ cls := .type "tuple", data := .seq vs.toArray } : Obj)) :: news).map (·.1))).get? p.1 with
    | none => rfl
    | some o => have := of_hideAll _ q; rw [(NC p hp).2.2] at this; cases this
  · exact ⟨hk₁ _ _ (N' p hp).1, Nat.ne_of_lt (Heap.lt_size (N' p hp).1), hideAll_none _ (List.mem_map_of_mem hp)⟩
end
end Mine
end

section
open PySem
namespace Mine
/-- the length of the piece that two texts share from their start on -/
def cpl : List Nat → List Nat → Nat
  | x :: xs, y :: ys => if x = y then cpl xs ys + 1 else 0
  | _, _ => 0
def stepB (x y : List Nat) (a : Nat) (st : Nat × Nat) (b : Nat) : Nat × Nat :=
  if cpl (x.drop a) (y.drop b) > st.2 then (a, cpl (x.drop a) (y.drop b)) else st
def runB (x y : List Nat) (a : Nat) (st : Nat × Nat) (n : Nat) : Nat × Nat := (List.range n).foldl (stepB x y a) st
def runA (x y : List Nat) (n : Nat) : Nat × Nat := (List.range n).foldl (fun st a => runB x y a st y.length) (0, 0)
/-- the piece that _standart finds -/
def std (x y : List Nat) : List Nat := (x.drop (runA x y x.length).1).take (runA x y x.length).2
/-- f[st:st + size] -/
def sub (f : Str) (st size : Nat) : Str := ⟨((f.cps.toList.drop st).take size).toArray⟩
def inAll (ws : List Str) (p : Str) : Bool := ws.all fun w => Txt.contains w p
/-- the first place of a piece of this size that all words have -/
def pieceRow (f : Str) (ws : List Str) (size : Nat) : Nat → Option Nat
  | 0 => none
  | n + 1 => match pieceRow f ws size n with
    | some st => some st
    | none => if inAll ws (sub f n size) then some n else none
/-- the longest piece of f, of at most n letters, that all words have -/
def pieceGo (f : Str) (ws : List Str) : Nat → Str
  | 0 => ⟨#[]⟩
  | n + 1 => match pieceRow f ws (n + 1) (f.length - n) with
    | some st => sub f st (n + 1)
    | none => pieceGo f ws n
def piece (f : Str) (ws : List Str) : Str := pieceGo f ws f.length
/-- the letters of the longest piece, then those of what stands ahead of it and behind it (the fuel above the first text's length) -/
def cntF : Nat → Str → Str → Int
  | 0, _, _ => 0
  | n + 1, a, b => if piece a [a, b] = ⟨#[]⟩ then 0 else
      cntF n (Txt.slice a none (some (Txt.find a (piece a [a, b])))) (Txt.slice b none (some (Txt.find b (piece a [a, b])))) + ((piece a [a, b]).length : Int)
      + cntF n (Txt.slice a (some (Txt.find a (piece a [a, b]) + ((piece a [a, b]).length : Int))) none) (Txt.slice b (some (Txt.find b (piece a [a, b]) + ((piece a [a, b]).length : Int))) none)
end Mine
end

section
open PySem PySem.W PyProof.Rows
set_option maxRecDepth 100000
namespace Mine
theorem len_l (x : Str) : x.cps.toList.length = x.length := by simp [Str.length]

theorem slice_ss (x : Str) {a b : Nat} (hab : a ≤ b) (hb : b ≤ x.length) : Txt.slice x (some (a : Int)) (some (b : Int)) = ⟨((x.cps.toList.drop a).take (b - a)).toArray⟩ :=
  StrLaws.sliceText_nat x hab hb

theorem item_at (x : Str) (k : Int) (n : Nat) (hk : k = (n : Int)) (h : n < x.length) : ∃ c, x.cps.toList[n]? = some c ∧ Txt.item x k = ⟨#[c]⟩ := by
  subst hk
  obtain ⟨c, hc⟩ := StrLaws.some_at (x := x) (i := (n : Int)) (by omega) (by omega)
  have hc' : x.cps[n]? = some c := by simpa using hc
  refine ⟨c, by simpa using hc', ?_⟩
  unfold Txt.item Txt.charAt
  rw [StrLaws.at_nonneg (x := x) (i := (n : Int)) (n := c) (by omega) hc]
  rfl

theorem cpl_cons (x y : Nat) (xs ys : List Nat) : cpl (x :: xs) (y :: ys) = if x = y then cpl xs ys + 1 else 0 := rfl
theorem cpl_nil_right (x : List Nat) : cpl x [] = 0 := by cases x <;> rfl
theorem cpl_nil_left (y : List Nat) : cpl [] y = 0 := rfl

theorem drop_at {l : List Nat} {n c : Nat} (h : l[n]? = some c) : l.drop n = c :: l.drop (n + 1) := by
  obtain ⟨hl, e⟩ := List.getElem?_eq_some_iff.mp h
  rw [List.drop_eq_getElem_cons hl, e]

theorem items_cpl (x y : Str) (a b : Int) (i j : Nat) (ha : a = (i : Int)) (hb : b = (j : Int)) (hi : i < x.length) (hj : j < y.length) :
    cpl (x.cps.toList.drop i) (y.cps.toList.drop j) = if (Txt.item x a == Txt.item y b) = true then cpl (x.cps.toList.drop (i + 1)) (y.cps.toList.drop (j + 1)) + 1 else 0 := by
  obtain ⟨c, hc, ec⟩ := item_at x a i ha hi
  obtain ⟨d, hd, ed⟩ := item_at y b j hb hj
  rw [drop_at hc, drop_at hd, cpl_cons, ec, ed]
  by_cases h : c = d
  · subst h; simp
  · have : ¬ (((⟨#[c]⟩ : Str) == ⟨#[d]⟩) = true) := by
      rw [beq_iff_eq]
      intro e
      apply h
      have := congrArg Str.cps e
      simpa using this
    rw [if_neg h, if_neg this]

theorem cpl_end1 (x : Str) (i : Nat) (z : List Nat) (hi : x.length ≤ i) : cpl (x.cps.toList.drop i) z = 0 := by
  rw [List.drop_of_length_le (by rw [len_l]; exact hi)]; rfl
theorem cpl_end2 (y : Str) (j : Nat) (z : List Nat) (hj : y.length ≤ j) : cpl z (y.cps.toList.drop j) = 0 := by
  rw [List.drop_of_length_le (by rw [len_l]; exact hj)]; exact cpl_nil_right _

theorem runB_succ (x y : List Nat) (a : Nat) (st : Nat × Nat) (n : Nat) : runB x y a st (n + 1) = stepB x y a (runB x y a st n) n := by
  unfold runB; rw [List.range_succ, List.foldl_append]; rfl
theorem runA_succ (x y : List Nat) (n : Nat) : runA x y (n + 1) = runB x y n (runA x y n) y.length := by
  unfold runA; rw [List.range_succ, List.foldl_append]; rfl
theorem runB_yes {x y : List Nat} {a : Nat} {st : Nat × Nat} {n c : Nat} (h : cpl (x.drop a) (y.drop n) = c) (hlt : (runB x y a st n).2 < c) : runB x y a st (n + 1) = (a, c) := by
  rw [runB_succ]; unfold stepB; rw [h, if_pos hlt]
theorem runB_no {x y : List Nat} {a : Nat} {st : Nat × Nat} {n c : Nat} (h : cpl (x.drop a) (y.drop n) = c) (hlt : ¬ (runB x y a st n).2 < c) : runB x y a st (n + 1) = runB x y a st n := by
  rw [runB_succ]; unfold stepB; rw [h, if_neg hlt]

theorem cpl_le_left : ∀ (x y : List Nat), cpl x y ≤ x.length
  | [], _ => Nat.zero_le _
  | _ :: _, [] => Nat.zero_le _
  | a :: x, b :: y => by
    rw [cpl_cons]
    split
    · have := cpl_le_left x y; simp; omega
    · exact Nat.zero_le _

/-- what a search by runs has found: the greatest common piece, at its first place -/
theorem runB_fit (x y : List Nat) (a : Nat) (ha : a ≤ x.length) (st : Nat × Nat) (h : st.1 + st.2 ≤ x.length) : ∀ n, (runB x y a st n).1 + (runB x y a st n).2 ≤ x.length
  | 0 => h
  | n + 1 => by
    rw [runB_succ]; unfold stepB
    split
    · have := cpl_le_left (x.drop a) (y.drop n)
      rw [List.length_drop] at this
      show a + _ ≤ _
      omega
    · exact runB_fit x y a ha st h n
theorem runA_fit (x y : List Nat) : ∀ n, n ≤ x.length → (runA x y n).1 + (runA x y n).2 ≤ x.length
  | 0, _ => Nat.zero_le _
  | n + 1, h => by
    rw [runA_succ]
    exact runB_fit x y n (by omega) _ (runA_fit x y n (by omega)) _
theorem std_slice (x : Str) (y : List Nat) : Txt.slice x (some ((runA x.cps.toList y x.length).1 : Int)) (some ((runA x.cps.toList y x.length).1 + (runA x.cps.toList y x.length).2)) = ⟨(std x.cps.toList y).toArray⟩ := by
  have h := runA_fit x.cps.toList y x.length (by rw [len_l]; exact Nat.le_refl _)
  rw [len_l] at h
  have := slice_ss x (a := (runA x.cps.toList y x.length).1) (b := (runA x.cps.toList y x.length).1 + (runA x.cps.toList y x.length).2) (by omega) h
  rw [Int.natCast_add] at this
  rw [this]
  unfold std
  rw [len_l]
  congr 3
  omega
theorem slice_sub (f : Str) (a b : Int) (st size : Nat) (ha : a = (st : Int)) (hb : b = (st : Int) + (size : Int)) (h : st + size ≤ f.length) : Txt.slice f (some a) (some b) = sub f st size := by
  subst ha hb
  have e := slice_ss f (a := st) (b := st + size) (by omega) h
  rw [Int.natCast_add] at e
  rw [e]; unfold sub
  congr 3; omega
theorem contains_of (y p : Str) : Txt.contains y p = !(Builtin.Str.occurrences y p 0 y.length 1).isEmpty := rfl
theorem inAll_iff (ws : List Str) (p : Str) : inAll ws p = true ↔ ∀ x ∈ ws, Txt.contains x p = true := by simp [inAll]
theorem pieceRow_yes {f : Str} {ws : List Str} {size j : Nat} (h : pieceRow f ws size j = none) (hi : inAll ws (sub f j size) = true) : ∀ n, j < n → pieceRow f ws size n = some j := by
  intro n hn
  induction n with
  | zero => omega
  | succ n ih =>
    unfold pieceRow
    by_cases e : j = n
    · subst e; rw [h, hi]; rfl
    · rw [ih (by omega)]
theorem pieceRow_no {f : Str} {ws : List Str} {size j : Nat} (h : pieceRow f ws size j = none) (hi : inAll ws (sub f j size) = false) : pieceRow f ws size (j + 1) = none := by
  unfold pieceRow; rw [h, hi]; rfl
theorem pieceGo_yes {f : Str} {ws : List Str} {n j : Nat} (h : pieceRow f ws (n + 1) j = none) (hi : inAll ws (sub f j (n + 1)) = true) (hj : j < f.length - n) : pieceGo f ws (n + 1) = sub f j (n + 1) := by
  unfold pieceGo; rw [pieceRow_yes h hi _ hj]
theorem pieceGo_no {f : Str} {ws : List Str} {n : Nat} (h : pieceRow f ws (n + 1) (f.length - n) = none) : pieceGo f ws (n + 1) = pieceGo f ws n := by
  conv => lhs; unfold pieceGo
  rw [h]
theorem empty_is : Str.ofString "" = ⟨#[]⟩ := by decide +kernel
theorem fmod7 (i : Int) : ∃ n : Nat, n ≤ 6 ∧ i.fmod (6 + 1) = (n : Int) := by
  have a := fmod_lo i (n := 6 + 1) (by decide)
  have b := fmod_hi i (n := 6 + 1) (by decide)
  exact ⟨(i.fmod (6 + 1)).toNat, by omega, by omega⟩
theorem join_flat : ∀ ys : List Str, (Txt.join (Str.ofString "") ys).cps.toList = ys.flatMap (·.cps.toList) := by
  have key : ∀ ys : List Str, (Str.join (Str.ofString "") ys).cps.toList = ys.flatMap (·.cps.toList) := by
    intro ys
    induction ys with
    | nil => rfl
    | cons y r ih =>
      cases r with
      | nil => simp [Str.join]
      | cons z r =>
        show (y ++ Str.ofString "" ++ Str.join (Str.ofString "") (z :: r)).cps.toList = _
        rw [empty_is] at ih ⊢
        simp only [Str.cps_append, Array.toList_append, ih]
        simp
  intro ys
  show (Builtin.Str.glued (Str.ofString "") ys).cps.toList = _
  rw [StrLaws.glued_eq_join]
  exact key ys
theorem flat_ones : ∀ {zs : List Str}, (∀ z ∈ zs, ∃ c, z = (⟨#[c]⟩ : Str) ∧ c ≠ 120) → (zs.flatMap (·.cps.toList)).length = zs.length ∧ 120 ∉ zs.flatMap (·.cps.toList)
  | [], _ => by simp
  | z :: r, h => by
    obtain ⟨c, rfl, hc⟩ := h z (.head _)
    obtain ⟨a, b⟩ := flat_ones (zs := r) fun y hy => h y (.tail _ hy)
    refine ⟨by simpa using a, ?_⟩
    simp only [List.flatMap_cons, List.mem_append, not_or]
    exact ⟨by simpa using Ne.symm hc, b⟩
theorem sum_ones : ∀ {zs : List Str}, (∀ z ∈ zs, ∃ c, z = (⟨#[c]⟩ : Str) ∧ c ≠ 120) → (zs.map (·.length)).sum = zs.length
  | [], _ => rfl
  | z :: r, h => by
    obtain ⟨c, rfl, hc⟩ := h z (.head _)
    have := sum_ones (zs := r) fun y hy => h y (.tail _ hy)
    simp only [List.map_cons, List.sum_cons, List.length_cons, this]; show 1 + _ = _; omega
theorem letter3 (i : Int) (k : Int) (hk : k = 3) : ∃ c, Txt.item (Str.ofString "abB") (i.fmod k) = (⟨#[c]⟩ : Str) ∧ c ≠ 120 := by
  subst hk
  have a := fmod_lo i (n := 3) (by decide)
  have b := fmod_hi i (n := 3) (by decide)
  have : i.fmod 3 = 0 ∨ i.fmod 3 = 1 ∨ i.fmod 3 = 2 := by omega
  rcases this with e | e | e <;> rw [e]
  · exact ⟨97, by decide +kernel, by decide⟩
  · exact ⟨98, by decide +kernel, by decide⟩
  · exact ⟨66, by decide +kernel, by decide⟩
theorem pieceRow_some {f : Str} {ws : List Str} {size : Nat} : ∀ {n st : Nat}, pieceRow f ws size n = some st → st < n ∧ inAll ws (sub f st size) = true
  | 0, _, h => by cases h
  | n + 1, st, h => by
    unfold pieceRow at h
    cases e : pieceRow f ws size n with
    | some k =>
      rw [e] at h; cases h
      have := pieceRow_some e
      exact ⟨by omega, this.2⟩
    | none =>
      rw [e] at h
      dsimp only at h
      split at h
      · cases h; exact ⟨by omega, by assumption⟩
      · cases h
theorem pieceGo_in {f : Str} {ws : List Str} : ∀ {n : Nat}, pieceGo f ws n = ⟨#[]⟩ ∨ inAll ws (pieceGo f ws n) = true
  | 0 => .inl rfl
  | n + 1 => by
    unfold pieceGo
    cases e : pieceRow f ws (n + 1) (f.length - n) with
    | none => exact pieceGo_in
    | some st => exact .inr (pieceRow_some e).2
theorem piece_in {f : Str} {ws : List Str} (h : piece f ws ≠ ⟨#[]⟩) : ∀ x ∈ ws, Txt.contains x (piece f ws) = true :=
  (inAll_iff _ _).mp (pieceGo_in.resolve_left h)
theorem beq_empty {x : Str} (h : x ≠ ⟨#[]⟩) : (x == Str.ofString "") = false := by
  rw [empty_is]; simpa using h
theorem len_pos {p : Str} (h : p ≠ ⟨#[]⟩) : 1 ≤ p.length := by
  obtain ⟨⟨l⟩⟩ := p
  cases l with
  | nil => exact absurd rfl h
  | cons c r => show 1 ≤ (c :: r).length; simp
theorem find_facts {a p : Str} (hc : Txt.contains a p = true) : ∃ i : Nat, Txt.find a p = (i : Int) ∧ i + p.length ≤ a.length := by
  unfold Txt.contains at hc
  unfold Txt.find
  rcases StrLaws.occ_head a p 1 (Nat.le_refl _) with ⟨e, _⟩ | ⟨i, r, e, h, _⟩
  · rw [e] at hc; cases hc
  · rw [e]; exact ⟨i, rfl, h.1⟩
theorem slice_to_len (a : Str) (i : Nat) (h : i ≤ a.length) : (Txt.slice a none (some (i : Int))).length = i := by
  have e := StrLaws.sliceText_to (x := a) (j := (i : Int)) ⟨by omega, by rw [len_l]; omega⟩
  have e' : Txt.slice a none (some (i : Int)) = _ := e
  rw [e']
  show (List.toArray _).size = i
  rw [List.size_toArray]
  simp [Str.length] at h ⊢
  omega
theorem slice_from_len (a : Str) (i : Nat) (h : i ≤ a.length) : (Txt.slice a (some (i : Int)) none).length = a.length - i := by
  have e := StrLaws.sliceText_from (x := a) (i := (i : Int)) ⟨by omega, by rw [len_l]; omega⟩
  have e' : Txt.slice a (some (i : Int)) none = _ := e
  rw [e']
  show (List.toArray _).size = _
  rw [List.size_toArray]
  simp [Str.length] at h ⊢
theorem cut_facts {a p : Str} (hp : p ≠ ⟨#[]⟩) (hc : Txt.contains a p = true) : 0 ≤ Txt.find a p ∧ Txt.find a p + (p.length : Int) ≤ a.length ∧ (Txt.slice a none (some (Txt.find a p))).length < a.length ∧ (Txt.slice a (some (Txt.find a p + (p.length : Int))) none).length < a.length := by
  obtain ⟨i, e, h⟩ := find_facts hc
  have h1 := len_pos hp
  rw [e]
  refine ⟨by omega, by omega, ?_, ?_⟩
  · rw [slice_to_len a i (by omega)]; omega
  · rw [← Int.natCast_add, slice_from_len a _ (by omega)]; omega
theorem strs_get {vs : List Value} {ys : List Str} (hs : StrsAre vs ys) : ∀ {i : Nat} {v : Value}, vs[i]? = some v → ∃ y t, ys[i]? = some y ∧ v = .str y t := by
  induction hs with
  | nil => intro i v h; simp at h
  | cons y t r ih =>
    intro i v h
    cases i with
    | zero =>
      have e : Value.str y t = v := by simpa using h
      exact ⟨y, t, rfl, e.symm⟩
    | succ i =>
      rw [List.getElem?_cons_succ] at h
      obtain ⟨y', t', e, e'⟩ := ih h
      exact ⟨y', t', by rw [List.getElem?_cons_succ]; exact e, e'⟩
theorem strs_at {vs : List Value} {ys : List Str} (h : StrsAre vs ys) {i : Nat} {v : Value} (hv : vs.toArray[i]? = some v) : ∃ y t, ys[i]? = some y ∧ v = .str y t :=
  strs_get h (by simpa using hv)
theorem strs_len : ∀ {vs : List Value} {ys : List Str}, StrsAre vs ys → vs.length = ys.length
  | _, _, .nil => rfl
  | _, _, .cons _ _ r => by simp [strs_len r]
theorem strs_snoc {y : Str} {t : Tok} : ∀ {vs : List Value} {ys : List Str}, StrsAre vs ys → StrsAre (vs ++ [.str y t]) (ys ++ [y])
  | _, _, .nil => .cons y t .nil
  | _, _, .cons z u r => .cons z u (strs_snoc r)
end Mine
end

section
open PySem PySem.W PySem.Calls PyProof.Rows
set_option maxRecDepth 100000
namespace Mine
section
variable {prog : Program} {w : World} {A : Around} {E : Value → Shared → Prop} {s : Shared} {R : Result → Shared → Prop} {I : Addr} {fp wr : List Addr} {n : Nat} {P : Nat → Value → Prop} {St : Nat → Heap → Prop}

theorem all_loop_strs (W : Walks prog w A.in1 I fp wr n P St) (tr : Nat → Bool)
    (htr : ∀ i v (s : Shared) (Q : Bool → Shared → Prop) (E : Value → Shared → Prop), P i v → (∀ tk, Q (tr i) { s with toks := tk }) → wpAny (model prog w) A.in1 (truthy v) Q E s) :
    ∀ (k i : Nat) (s : Shared), n - i = k → i ≤ n → St i s.heap →
    (∀ h' tk, (∀ b o, b ∉ wr → s.heap.get? b = some o → h'.get? b = some o) → R (.ok (.ret (.bool (((List.range n).drop i).all tr)))) { s with heap := h', toks := tk }) →
    codeAny (model prog w) A (.builtin "all.loop" ⟨[.ref I], []⟩) R s := by
  intro k
  induction k with
  | zero =>
    intro i s hk hi hst hR
    have hin : i = n := by omega
    subst hin
    refine codeAny_builtin F.entry_all_loop ?_
    rw [Around.under_plainId F.plain_all_loop _]
    show wpAny _ A.in1 (pyNext (.ref I) >>= _) _ _ s
    refine wpAny_bind (W.done s _ _ hst fun h' tk hk' => ?_)
    refine wpAny_bind (wpAny_rule (wpAny_pure ?_))
    have := hR h' tk hk'
    rw [List.drop_of_length_le (by simp)] at this
    exact this
  | succ k ih =>
    intro i s hk hi hst hR
    have hlt : i < n := by omega
    have hd : (List.range n).drop i = i :: (List.range n).drop (i + 1) := by
      rw [List.drop_eq_getElem_cons (by simpa using hlt)]; simp
    refine codeAny_builtin F.entry_all_loop ?_
    rw [Around.under_plainId F.plain_all_loop _]
    show wpAny _ A.in1 (pyNext (.ref I) >>= _) _ _ s
    refine wpAny_bind (W.item i s _ _ hlt hst fun v h' tk hP hst' hk' => ?_)
    show wpAny _ A.in1 (holding [v] (truthy v) >>= _) _ _ _
    refine wpAny_bind (wpAny_holding (htr i v _ _ _ hP fun tk2 => ?_))
    refine wpAny_bind (wpAny_letGo ?_)
    cases hb : tr i with
    | true =>
      simp only [if_true]
      refine wpAny_pure ⟨plainId_quiet F.plain_all_loop _, ih (i + 1) _ (by omega) hlt hst' fun h'' tk'' hk'' => ?_⟩
      have := hR h'' tk'' fun b o hbw e => hk'' b o hbw (hk' b o hbw e)
      rw [hd, List.all_cons, hb, Bool.true_and] at this
      exact this
    | false =>
      simp only [Bool.false_eq_true, if_false]
      refine wpAny_bind (wpAny_rule (wpAny_pure ?_))
      have := hR h' tk2 hk'
      rw [hd, List.all_cons, hb, Bool.false_and] at this
      exact this
end
section
variable {prog : Program} {w : World} {A : Around} {E : Value → Shared → Prop} {s : Shared} {h₀ : Heap} {L l : Addr} {m : Str → Option Value} {news : List (Addr × Obj)} {vs : List Value} {Q : Value → Shared → Prop}

/-- all over a tuple of strings -/
theorem all_tup {xs : List Str} (F : Fr h₀ L s.heap m) (N : News h₀ L s.heap news) (hh : A.handled = none) (hl : s.heap.IsTuple l vs.toArray) (hx : StrsAre vs xs) (hs : ∀ x ∈ xs, x.length ≤ 1000)
    (h : ∀ h' tk, Fr h₀ L h' m → News h₀ L h' news → Q (.bool (xs.all fun x => !x.cps.toList.isEmpty)) { s with heap := h', toks := tk }) :
    wpAny (model prog w) A (call (.builtin "all") [.ref l]) Q E s := by
  have hlt : l < s.heap.objs.size := by obtain ⟨_, e, _⟩ := hl; exact Heap.lt_size e
  refine call_function_tree PySem.F.kind_all PySem.F.plain_all PySem.F.entry_all (PySem.F.args_all1 _) ?_
  unfold Builtin.«all»
  refine wpAny_bind (m := oneArg "all" _) (wpAny_pure ?_)
  refine wpAny_bind (wpAny_pyIter_tuple hl ?_)
  refine wpAny_pure ⟨plainId_quiet PySem.F.plain_all_loop _, all_loop_strs (Walks.tuple (A := A.in1) hh _ l (Nat.ne_of_lt hlt) vs.toArray) (fun i => ((xs[i]?).map fun x => !x.cps.toList.isEmpty).getD true) (fun i v s' Q' E' hP hQ => ?_) _ 0 _ rfl (Nat.zero_le _)
    ⟨⟨_, Heap.get?_push_size _ rfl, rfl, rfl⟩, hl.push _⟩ fun h' tk hk => ?_⟩
  · obtain ⟨x, t, e, rfl⟩ := strs_get hx (by simpa using hP)
    have hlen := hs x (List.mem_of_getElem? e)
    refine PySem.P.truthy_str (by omega) ?_
    simp only [e, Option.map_some, Option.getD_some] at hQ
    have e1 : ((x.length : Int) != 0) = !x.cps.toList.isEmpty := by
      have : x.length = x.cps.toList.length := by simp [Str.length]
      rw [this]
      cases x.cps.toList <;> simp <;> omega
    rw [e1]
    exact hQ _
  · have e : ((List.range vs.toArray.size).drop 0).all (fun i => ((xs[i]?).map fun x => !x.cps.toList.isEmpty).getD true) = xs.all fun x => !x.cps.toList.isEmpty := by
      have hlen : vs.toArray.size = xs.length := by simpa using strs_len hx
      rw [hlen, List.drop_zero, Bool.eq_iff_iff, List.all_eq_true, List.all_eq_true]
      constructor
      · intro h x hx
        obtain ⟨i, hi, e⟩ := List.getElem_of_mem hx
        have := h i (List.mem_range.mpr hi)
        simpa [List.getElem?_eq_getElem hi, e] using this
      · intro h i hi
        have hi' := List.mem_range.mp hi
        simpa [List.getElem?_eq_getElem hi'] using h _ (List.getElem_mem hi')
    rw [e]
    exact h h' tk (F.keeps (LSm.kept_iter hk)) (N.grown (LSm.kept_iter hk))
end

def lenAt (xs : List Str) (i : Nat) : Int := ((xs[i]?).map fun x => (x.length : Int)).getD 0
/-- the first of the shortest -/
def FirstMin (xs : List Str) (i : Nat) : Prop := ∀ j, j < xs.length → lenAt xs i ≤ lenAt xs j ∧ (j < i → lenAt xs i < lenAt xs j)
section
variable {prog : Program} {w : World} {A : Around} {E : Value → Shared → Prop} {s : Shared} {R : Result → Shared → Prop} {I : Addr} {fp wr : List Addr} {n : Nat} {P : Nat → Value → Prop} {St : Nat → Heap → Prop}

theorem len_key {xs : List Str} (hP : ∀ i v, P i v → ∃ x t, xs[i]? = some x ∧ v = Value.str x t) (hs : ∀ x ∈ xs, x.length ≤ 1000) {i : Nat} {v : Value} (h : P i v) {Q : Value → Shared → Prop} {E : Value → Shared → Prop} {s : Shared}
    (hQ : ∀ t tk, Q (.int (lenAt xs i) t) { s with toks := tk }) : wpAny (model prog w) A (call (.builtin "len") [v]) Q E s := by
  obtain ⟨x, t, e, rfl⟩ := hP i v h
  have hlen := hs x (List.mem_of_getElem? e)
  refine PySem.P.len_str (by omega) ?_
  have : lenAt xs i = x.length := by simp [lenAt, e]
  rw [← this]
  exact hQ _ _

theorem min_len_loop (W : Walks prog w A.in1 I fp wr n P St) (xs : List Str) (hP : ∀ i v, P i v → ∃ x t, xs[i]? = some x ∧ v = Value.str x t) (hs : ∀ x ∈ xs, x.length ≤ 1000) (hn : n = xs.length) (S : Addr) (hSf : S ∉ fp) :
    ∀ (k j : Nat) (s : Shared) (vb : Value) (c i : Nat) (tb : Tok), n - (j + 1) = k → j + 1 ≤ n → St (j + 1) s.heap → P i vb → i ≤ j → (∀ j', j' ≤ j → lenAt xs i ≤ lenAt xs j' ∧ (j' < i → lenAt xs i < lenAt xs j')) →
    s.heap.get? S = some { cls := .type "list", dict := none, data := .seq #[vb, .int (lenAt xs i) tb] c, slots := #[] } →
    (∀ i v h' tk, P i v → FirstMin xs i → (∀ b o, b ∉ wr → b ≠ S → s.heap.get? b = some o → h'.get? b = some o) → R (.ok (.ret v)) { s with heap := h', toks := tk }) →
    codeAny (model prog w) A (.builtin "min.loop" ⟨[.ref I, .builtin "len", .ref S], []⟩) R s := by
  have hSw : S ∉ wr := fun h => hSf (W.sub _ h)
  have hname : (toString "min" ++ toString ".loop" : String) = "min.loop" := by decide
  intro k
  induction k with
  | zero =>
    intro j s vb c i tb hk hj hst hPb hij hbest hS hR
    have hin : j + 1 = n := by omega
    refine codeAny_builtin PySem.F.entry_min_loop ?_
    rw [Around.under_plainId PySem.F.plain_min_loop _]
    show wpAny _ A.in1 (seqItems? (.ref S) >>= _) _ _ s
    refine wpAny_bind (wpAny_seqItems hS rfl ?_)
    show wpAny _ A.in1 (tryCatch (pyNext (.ref I)) _ >>= _) _ _ s
    refine wpAny_bind (wpAny_tryCatch (W.done s _ _ (hin ▸ hst) fun h' tk hk' => ?_))
    have hS' := hk' S _ hSw hS
    show wpAny _ A.in1 (updateSeq S (fun _ => #[]) >>= _) _ _ _
    refine wpAny_bind ?_
    refine wpAny_updateSeq hS' rfl (wpAny_bind (wpAny_letGo (wpAny_pure ?_)))
    exact hR i vb _ tk hPb (fun j' hj' => hbest j' (by omega)) fun b o hbw hbS e => (Heap.get?_update_other _ _ (Ne.symm hbS)).trans (hk' b o hbw e)
  | succ k ih =>
    intro j s vb c i tb hk hj hst hPb hij hbest hS hR
    have hlt : j + 1 < n := by omega
    refine codeAny_builtin PySem.F.entry_min_loop ?_
    rw [Around.under_plainId PySem.F.plain_min_loop _]
    show wpAny _ A.in1 (seqItems? (.ref S) >>= _) _ _ s
    refine wpAny_bind (wpAny_seqItems hS rfl ?_)
    show wpAny _ A.in1 (tryCatch (pyNext (.ref I)) _ >>= _) _ _ s
    refine wpAny_bind (wpAny_tryCatch (W.item (j + 1) s _ _ hlt hst fun v h' tk hPv hst' hk' => ?_))
    have hS' := hk' S _ hSw hS
    show wpAny _ A.in1 (tryCatch (holding [v] (call (.builtin "len") [v])) _ >>= _) _ _ _
    refine wpAny_bind (wpAny_tryCatch (wpAny_holding (len_key hP hs hPv fun t2 tk2 => ?_)))
    show wpAny _ A.in1 (tryCatch (holding [v, .int (lenAt xs (j + 1)) t2] (richCompare .Lt (.int (lenAt xs (j + 1)) t2) (.int (lenAt xs i) tb) >>= _)) _ >>= _) _ _ _
    refine wpAny_bind (wpAny_tryCatch (wpAny_holding (wpAny_bind (CmpOf.ints_lt (prog := prog) (w := w) (A := A.in1) (P := fun i v => ∃ t, v = .int (lenAt xs i) t) (lenAt xs) (fun i v h => h) (j + 1) i _ _ _ _ _ ⟨t2, rfl⟩ ⟨tb, rfl⟩ ?_))))
    refine wpAny_bind (wpAny_holding (wpAny_truthy_bool ?_))
    refine wpAny_bind (wpAny_letGo (wpAny_pure ?_))
    by_cases hb : lenAt xs (j + 1) < lenAt xs i
    · simp only [hb, decide_true, if_true]
      refine wpAny_bind ?_
      refine wpAny_updateSeq hS' rfl (wpAny_bind (wpAny_letGo ?_))
      rw [hname]
      refine wpAny_pure ⟨plainId_quiet PySem.F.plain_min_loop _, ih (j + 1) _ v _ (j + 1) t2 (by omega) hlt (W.frame _ _ _ hst' fun b hbf o e => ?_) hPv (Nat.le_refl _) (fun j' hj' => ?_) (Heap.get?_update_self _ hS' rfl)
        fun i' v' h'' tk'' hP' hm' hk'' => ?_⟩
      · exact (Heap.get?_update_other _ _ (fun h : S = b => hSf (by rw [h]; exact hbf))).trans e
      · by_cases e : j' = j + 1
        · subst e
          exact ⟨by omega, fun _ => by omega⟩
        · have hb1 := hbest j' (by omega)
          have hb2 := hb1.1
          exact ⟨by omega, fun _ => by omega⟩
      · exact hR i' v' h'' tk'' hP' hm' fun b o hbw hbS e => hk'' b o hbw hbS ((Heap.get?_update_other _ _ (Ne.symm hbS)).trans (hk' b o hbw e))
    · simp only [hb, decide_false, Bool.false_eq_true, if_false]
      refine wpAny_bind (wpAny_letGo ?_)
      rw [hname]
      refine wpAny_pure ⟨plainId_quiet PySem.F.plain_min_loop _, ih (j + 1) _ vb c i tb (by omega) hlt hst' hPb (by omega) (fun j' hj' => ?_) hS' fun i' v' h'' tk'' hP' hm' hk'' => ?_⟩
      · by_cases e : j' = j + 1
        · subst e
          exact ⟨by omega, fun _ => by omega⟩
        · exact hbest j' (by omega)
      · exact hR i' v' h'' tk'' hP' hm' fun b o hbw hbS e => hk'' b o hbw hbS (hk' b o hbw e)
end
section
variable {prog : Program} {w : World} {A : Around} {E : Value → Shared → Prop} {s : Shared} {h₀ : Heap} {L l : Addr} {m : Str → Option Value} {news : List (Addr × Obj)} {vs : List Value} {Q : Value → Shared → Prop}

/-- min over a tuple of strings by len: the first of the shortest -/
theorem min_len_tup {xs : List Str} (F : Fr h₀ L s.heap m) (N : News h₀ L s.heap news) (hh : A.handled = none) (hl : s.heap.IsTuple l vs.toArray) (hx : StrsAre vs xs) (hs : ∀ x ∈ xs, x.length ≤ 1000) (hne : 0 < xs.length)
    (h : ∀ i x t h' tk, xs[i]? = some x → FirstMin xs i → Fr h₀ L h' m → News h₀ L h' news → Q (.str x t) { s with heap := h', toks := tk }) :
    wpAny (model prog w) A (call (.builtin "min") [.ref l] [(Str.ofString "key", .builtin "len")]) Q E s := by
  have hname : (toString "min" ++ toString ".loop" : String) = "min.loop" := by decide
  have hlt : l < s.heap.objs.size := by obtain ⟨_, e, _⟩ := hl; exact Heap.lt_size e
  have hlen : vs.toArray.size = xs.length := by simpa using strs_len hx
  have hP : ∀ i v, vs.toArray[i]? = some v → ∃ x t, xs[i]? = some x ∧ v = Value.str x t := fun i v e => strs_at hx e
  refine kmk_tree PySem.F.kind_min PySem.F.plain_min PySem.F.entry_min (kmk_min_key _ _) ?_
  show wpAny _ A.in1 (Builtin.Builtins.bindParams "min" ["key", "default"] 0 ⟨[], [(Str.ofString "key", .builtin "len")]⟩ >>= _) _ _ s
  refine wpAny_bind (wpAny_of_eq (show Builtin.Builtins.bindParams "min" ["key", "default"] 0 ⟨[], [(Str.ofString "key", .builtin "len")]⟩ = pure [some (.builtin "len"), none] from rfl) ?_)
  refine wpAny_bind (wpAny_pure ?_)
  refine wpAny_bind (wpAny_pyIter_tuple hl ?_)
  refine wpAny_bind (wpAny_newList ?_ (Nat.zero_le _))
  rw [hname]
  have W := Walks.tuple (prog := prog) (w := w) (A := A.in1) hh s.heap.objs.size l (Nat.ne_of_lt hlt) vs.toArray
  generalize hh1 : s.heap.push { cls := .type "tuple_iterator", data := .fields #[.ref l, .int 0 0] } = g1
  have z1 : g1.objs.size = s.heap.objs.size + 1 := by rw [← hh1]; exact size_push' ..
  have gI : g1.IsTupleIter s.heap.objs.size l 0 := by rw [← hh1]; exact ⟨_, Heap.get?_push_size _ rfl, rfl, rfl⟩
  have gl : g1.IsTuple l vs.toArray := by rw [← hh1]; exact hl.push _
  have up : ∀ b o, s.heap.get? b = some o → g1.get? b = some o := fun b o e => by rw [← hh1]; exact Heap.get?_push_of_some _ e
  have hSf : g1.objs.size ∉ [s.heap.objs.size, l] := fun hm => by
    rw [z1] at hm
    rcases List.mem_cons.mp hm with e | hm
    · exact Nat.succ_ne_self _ (show s.heap.objs.size + 1 = s.heap.objs.size from e)
    · have e : s.heap.objs.size + 1 = l := List.mem_singleton.mp hm
      exact Nat.lt_irrefl _ (Nat.lt_trans hlt (e ▸ Nat.lt_succ_self s.heap.objs.size))
  have hS : (g1.push (seqObj "list" #[] 0)).get? g1.objs.size = some (seqObj "list" #[] 0) := Heap.get?_push_size _ rfl
  have st0 : (g1.push (seqObj "list" #[] 0)).IsTupleIter s.heap.objs.size l 0 ∧ (g1.push (seqObj "list" #[] 0)).IsTuple l vs.toArray :=
    ⟨gI.at fun o e => Heap.get?_push_of_some _ e, gl.push _⟩
  refine wpAny_pure ⟨plainId_quiet PySem.F.plain_min_loop _, ?_⟩
  refine codeAny_builtin PySem.F.entry_min_loop ?_
  rw [Around.under_plainId PySem.F.plain_min_loop _]
  show wpAny _ A.in1 (seqItems? (.ref _) >>= _) _ _ _
  refine wpAny_bind (wpAny_seqItems hS rfl ?_)
  show wpAny _ A.in1 (tryCatch (pyNext (.ref s.heap.objs.size)) _ >>= _) _ _ _
  refine wpAny_bind (wpAny_tryCatch (W.item 0 _ _ _ (by rw [hlen]; exact hne) st0 fun v h' tk hPv hst' hk' => ?_))
  have hSw : g1.objs.size ∉ [s.heap.objs.size] := fun hm => hSf (by rw [List.mem_singleton.mp hm]; exact .head _)
  have hS' := hk' _ _ hSw hS
  show wpAny _ A.in1 (tryCatch (holding [v] (call (.builtin "len") [v])) _ >>= _) _ _ _
  refine wpAny_bind (wpAny_tryCatch (wpAny_holding (len_key (A := A.in1) hP hs hPv fun t2 tk2 => ?_)))
  show wpAny _ A.in1 (updateSeq g1.objs.size (fun _ => #[v, .int (lenAt xs 0) t2]) >>= _) _ _ _
  refine wpAny_bind ?_
  refine wpAny_updateSeq hS' rfl ?_
  rw [hname]
  refine wpAny_pure ⟨plainId_quiet PySem.F.plain_min_loop _, min_len_loop W xs hP hs hlen g1.objs.size hSf _ 0 _ v _ 0 t2 rfl (by rw [hlen]; exact hne) (W.frame _ _ _ hst' fun b hbf o e => ?_) hPv (Nat.le_refl _) (fun j' hj' => ?_)
    (Heap.get?_update_self _ hS' rfl) fun i v' h'' tk'' hP' hm' hk'' => ?_⟩
  · exact (Heap.get?_update_other _ _ (fun h : g1.objs.size = b => hSf (by rw [h]; exact hbf))).trans e
  · have : j' = 0 := by omega
    subst this
    exact ⟨Int.le_refl _, fun h => absurd h (Nat.lt_irrefl _)⟩
  · obtain ⟨x, t, e, rfl⟩ := hP i v' hP'
    have keep : ∀ b o, s.heap.get? b = some o → h''.get? b = some o := fun b o e => by
      have l1 := Heap.lt_size e
      have n1 : b ∉ [s.heap.objs.size] := fun hm => Nat.ne_of_lt l1 (List.mem_singleton.mp hm)
      have n2 : b ≠ g1.objs.size := by rw [z1]; exact Nat.ne_of_lt (Nat.lt_succ_of_lt l1)
      exact hk'' b o n1 n2 ((Heap.get?_update_other _ _ (Ne.symm n2)).trans (hk' b o n1 (Heap.get?_push_of_some _ (up b o e))))
    exact h i x t h'' tk'' e hm' (F.keeps keep) (N.grown keep)
end
end Mine
end

section
open PySem PySem.W PySem.Calls PyProof.Rows
set_option maxRecDepth 100000
namespace Mine
theorem map_owner : Manifest.owners.lookup (String.ofList ['p', 'a', 'm'].reverse) = some Manifest.sig_map := by kernel_rfl
theorem map_slot_init : Slot "map" "__init__" "object.__init__" :=
  .of (owner := "object") (n := "__init__") (by rw [typeLookup_type, builtinLookup_eq_fast]; kernel_rfl) (by decide +kernel) (by decide +kernel) (by decide +kernel)
    (by first | exact .inl (by decide +kernel) | exact .inr (by decide +kernel)) (by rw [isSubtype_type]; kernel_rfl)
theorem map_slot_iter : Slot "map" "__iter__" "map.__iter__" :=
  .of (owner := "map") (n := "__iter__") (by rw [typeLookup_type, builtinLookup_eq_fast]; kernel_rfl) (by decide +kernel) (by decide +kernel) (by decide +kernel)
    (by first | exact .inl (by decide +kernel) | exact .inr (by decide +kernel)) (by rw [isSubtype_type]; kernel_rfl)
theorem map_slot_next : Slot "map" "__next__" "map.__next__" :=
  .of (owner := "map") (n := "__next__") (by rw [typeLookup_type, builtinLookup_eq_fast]; kernel_rfl) (by decide +kernel) (by decide +kernel) (by decide +kernel)
    (by first | exact .inl (by decide +kernel) | exact .inr (by decide +kernel)) (by rw [isSubtype_type]; kernel_rfl)
theorem map_entry_next : entryFor table "map.__next__" = some Builtin.«map.__next__» := entryFor_of_tree (by kernel_rfl)
theorem map_entry_new : entryFor table "map.__new__" = some Builtin.«map.__new__» := entryFor_of_tree (by kernel_rfl)
theorem map_entry_iter : entryFor table "map.__iter__" = some Builtin.«dict_keyiterator.__iter__» :=
  entryFor_alias (id' := "dict_keyiterator.__iter__") (by kernel_rfl) (by first | rfl | decide +kernel | (unfold String.splitOn; simp +decide [String.splitOnAux])) (by decide +kernel) (by kernel_rfl)
theorem map_args_next (a : Value) : argsOk "map.__next__" ⟨[a], []⟩ := by
  unfold argsOk; rw [signature?_of (id := "map.__next__") (n := ['_', '_', 't', 'x', 'e', 'n', '_', '_']) (o := ['p', 'a', 'm']) (by kernel_rfl) map_owner]; kernel_rfl
theorem map_args_iter (a : Value) : argsOk "map.__iter__" ⟨[a], []⟩ := by
  unfold argsOk; rw [signature?_of (id := "map.__iter__") (n := ['_', '_', 'r', 'e', 't', 'i', '_', '_']) (o := ['p', 'a', 'm']) (by kernel_rfl) map_owner]; kernel_rfl
theorem map_mro : mroOf (.type "map") = pure [.type "map", .type "object"] := by rw [mroOf_type]; kernel_rfl
theorem map_lookup_new : typeLookup (.type "map") "__new__" = pure (some (.builtin "map.__new__")) := by rw [typeLookup_type, builtinLookup_eq_fast]; kernel_rfl
theorem map_called : TypeCalled "map" "map.__new__" "object.__init__" :=
  ⟨by decide +kernel, by decide +kernel, ⟨_, _, map_mro⟩, madeBy_type map_mro map_lookup_new (by decide +kernel), by decide +kernel, by rw [isSubtype_type]; kernel_rfl, map_slot_init⟩
theorem map_typeCall (a b : Value) : checkTypeCall "map" ⟨[a, b], []⟩ = pure () := by kernel_rfl
theorem map_newCall (a b : Value) : checkBuiltinCall "map.__new__" ⟨[.type "map", a, b], []⟩ = pure () := by kernel_rfl
theorem map_sub : isSubtype (.type "map") (.type "map") = pure true := by rw [isSubtype_type]; kernel_rfl

abbrev IsMap (h : Heap) (M TI : Addr) : Prop := h.get? M = some { cls := .type "map", dict := none, data := .fields #[.ref TI, .builtin "len"], slots := #[] }
abbrev IsOne (h : Heap) (T it : Addr) : Prop := h.get? T = some { cls := .type "tuple", data := .seq #[.ref it] }

section
variable {prog : Program} {w : World} {A : Around} {E : Value → Shared → Prop} {s : Shared}

theorem pyIter_map {M TI : Addr} {Q : Value → Shared → Prop} (hM : IsMap s.heap M TI) (h : Q (.ref M) s) : wpAny (model prog w) A (pyIter (.ref M)) Q E s := by
  have hT : s.TypeIs (.ref M) "map" := ⟨_, hM, rfl⟩
  refine wpAny_pyIter_slot hT map_slot_iter (wpAny_call_entry map_slot_iter hT map_entry_iter ?_ (map_args_iter _))
  show wpAny _ _ (ret (.ref M)) _ _ s
  exact wpAny_pure ⟨_, rfl, "map", _, hT, map_slot_next.lookup, h⟩

theorem map_next_item {M TI it : Addr} {fp : List Addr} {n i : Nat} {P : Nat → Value → Prop} {St : Nat → Heap → Prop} {xs : List Str} (D : Draws prog w A it fp n P St)
    (hP : ∀ i v, P i v → ∃ x t, xs[i]? = some x ∧ v = Value.str x t) (hs : ∀ x ∈ xs, x.length ≤ 1000) (hM : IsMap s.heap M TI) (hT : IsOne s.heap TI it) (hlt : i < n) (hst : St i s.heap) (hMi : M ≠ it) {Q : Value → Shared → Prop}
    (hQ : ∀ t h' tk, St (i + 1) h' → Heap.SameBut it s.heap h' → Q (.int (lenAt xs i) t) { s with heap := h', toks := tk }) :
    wpAny (model prog w) A (Builtin.«map.__next__» ⟨[.ref M], []⟩) (fun fin s' => ∃ v, fin = .done (.ret v) ∧ Q v s') E s := by
  show wpAny _ _ (field (.ref M) 0 >>= _) _ _ _
  refine wpAny_bind (wpAny_field hM rfl (x := .ref TI) rfl ?_)
  refine wpAny_bind (wpAny_seqItems hT rfl ?_)
  simp only [List.forIn_toArray, List.forIn_cons, List.forIn_nil, bind_assoc, pure_bind]
  refine wpAny_bind (wpAny_holding (D.item i _ _ _ hlt hst fun x h' tk hPx hst' hsb => ?_))
  have hM' : IsMap h' M TI := (hsb.2 M hMi).trans hM
  refine wpAny_bind (wpAny_field hM' rfl (x := .builtin "len") rfl ?_)
  show wpAny _ _ (holding [x] (call (.builtin "len") [x]) >>= _) _ _ _
  refine wpAny_bind (wpAny_holding (len_key hP hs hPx fun t tk' => ?_))
  refine wpAny_bind (wpAny_letGo (wpAny_pure ⟨_, rfl, hQ t h' tk' hst' hsb⟩))

theorem map_next_end {M TI it : Addr} {fp : List Addr} {n : Nat} {P : Nat → Value → Prop} {St : Nat → Heap → Prop} (D : Draws prog w A it fp n P St)
    (hM : IsMap s.heap M TI) (hT : IsOne s.heap TI it) (hst : St n s.heap) {Q : Fin → Shared → Prop}
    (hE : ∀ h' e, Heap.ExtBut it s.heap h' → (∃ o, h'.get? e = some o ∧ o.cls = .type "StopIteration") → E (.ref e) { s with heap := h' }) :
    wpAny (model prog w) A (Builtin.«map.__next__» ⟨[.ref M], []⟩) Q E s := by
  show wpAny _ _ (field (.ref M) 0 >>= _) _ _ _
  refine wpAny_bind (wpAny_field hM rfl (x := .ref TI) rfl ?_)
  refine wpAny_bind (wpAny_seqItems hT rfl ?_)
  simp only [List.forIn_toArray, List.forIn_cons, List.forIn_nil, bind_assoc, pure_bind]
  refine wpAny_bind (wpAny_holding (D.done _ _ _ hst fun h' e he ho => hE h' e he ho))

theorem Walks.map {M TI it : Addr} {fp : List Addr} {n : Nat} {P : Nat → Value → Prop} {St : Nat → Heap → Prop} {xs : List Str} (D : Draws prog w A.in1 it fp n P St)
    (hP : ∀ i v, P i v → ∃ x t, xs[i]? = some x ∧ v = Value.str x t) (hs : ∀ x ∈ xs, x.length ≤ 1000) (hMi : M ≠ it) (hTi : TI ≠ it) (hif : it ∈ fp) :
    Walks prog w A M (M :: TI :: fp) [it] n (fun i v => ∃ t, v = .int (lenAt xs i) t) (fun i h => IsMap h M TI ∧ IsOne h TI it ∧ St i h) where
  sub := fun b hb => by rw [List.mem_singleton.mp hb]; exact .tail _ (.tail _ hif)
  frame := fun i h h' st hk => ⟨hk M (.head _) _ st.1, hk TI (.tail _ (.head _)) _ st.2.1, D.frame _ _ _ st.2.2 fun b hb => hk b (.tail _ (.tail _ hb))⟩
  item := fun i s Q E hi st hQ => by
    have hT : s.TypeIs (.ref M) "map" := ⟨_, st.1, rfl⟩
    unfold pyNext
    refine wpAny_bind (wpAny_attempt (wpAny_callSpecial?_slot (name := Str.ofString "__next__") hT map_slot_next (wpAny_call_entry map_slot_next hT map_entry_next
      (map_next_item D hP hs st.1 st.2.1 hi st.2.2 hMi fun t h' tk st' hsb => wpAny_pure (hQ _ h' tk ⟨t, rfl⟩ ⟨(hsb.2 M hMi).trans st.1, (hsb.2 TI hTi).trans st.2.1, st'⟩ fun b o hb e => hsb.extBut b o (fun x => hb (by rw [x]; exact .head _)) e)) (map_args_next _))))
  done := fun s Q E st hQ => by
    have hT : s.TypeIs (.ref M) "map" := ⟨_, st.1, rfl⟩
    unfold pyNext
    refine wpAny_bind (wpAny_attempt (wpAny_callSpecial?_slot (name := Str.ofString "__next__") hT map_slot_next (wpAny_call_entry map_slot_next hT map_entry_next
      (map_next_end D st.1 st.2.1 st.2.2 fun h' e hk he => ?_) (map_args_next _))))
    obtain ⟨o, ho, hc⟩ := he
    refine wpAny_bind (wpAny_isInstance (T := "StopIteration") (b := true) ⟨o, ho, hc⟩ isSubtype_stop ?_)
    exact wpAny_pure (hQ _ _ fun b o hb e => hk b o (fun x => hb (by rw [x]; exact .head _)) e)
  self := fun i s Q E st hQ => pyIter_map st.1 hQ

theorem nextOf_tuple_item {it t : Addr} {i : Nat} {items : Array Value} {x : Value} {Q : Value → Shared → Prop} (hit : s.heap.IsTupleIter it t i)
    (ht : s.heap.IsTuple t items) (hx : items[i]? = some x)
    (hQ : ∀ h', h'.IsTupleIter it t (i + 1) → Heap.SameBut it s.heap h' → Q x { s with heap := h' }) :
    wpAny (model prog w) A (Builtin.SmallTypes.nextOf (.ref it)) Q E s := by
  obtain ⟨o, ho, hc, hd⟩ := id hit
  obtain ⟨ol, hol, _, nl, hdl⟩ := ht
  unfold Builtin.SmallTypes.nextOf
  refine wpAny_bind (wpAny_callSpecial?_slot (name := Str.ofString "__next__") hit.typeIs PySem.F.slot_tuple_iterator_next
    (wpAny_call_entry PySem.F.slot_tuple_iterator_next hit.typeIs PySem.F.entry_tuple_iterator_next ?_ (PySem.F.args_tuple_iterator_next_1 _)))
  show wpAny _ _ (field (.ref it) 0 >>= _) _ _ s
  refine wpAny_bind (wpAny_field ho hd (x := .ref t) rfl ?_)
  show wpAny _ _ (if (Value.ref t == Value.none) = true then _ else _) _ _ s
  rw [if_neg (show ¬ ((Value.ref t == Value.none) = true) from Bool.false_ne_true)]
  show wpAny _ _ (field (.ref it) 1 >>= _) _ _ s
  refine wpAny_bind (wpAny_field ho hd (x := .int i 0) rfl ?_)
  show wpAny _ _ (seqItems? (.ref t) >>= _) _ _ s
  refine wpAny_bind (wpAny_seqItems hol hdl ?_)
  simp only [Int.toNat_natCast, hx]
  refine wpAny_bind (wpAny_setField ho hd (by simp) (wpAny_pure ⟨x, rfl, wpAny_pure (hQ _ ?_ (Heap.SameBut.update ..))⟩))
  exact ⟨_, Heap.get?_update_self _ ho (Obj.isFreed_of_fields (Obj.data_mapFields hd _)), (Obj.cls_mapFields ..).trans hc, by
    rw [Obj.data_mapFields hd]; simp [rawInt]⟩

theorem nextOf_tuple_end {it t : Addr} {i : Nat} {items : Array Value} {Q : Value → Shared → Prop} (hh : A.handled = none)
    (hit : s.heap.IsTupleIter it t i) (ht : s.heap.IsTuple t items) (hx : items[i]? = none)
    (hE : ∀ h' e, Heap.ExtBut it s.heap h' → (∃ o, h'.get? e = some o ∧ o.cls = .type "StopIteration") → E (.ref e) { s with heap := h' }) :
    wpAny (model prog w) A (Builtin.SmallTypes.nextOf (.ref it)) Q E s := by
  obtain ⟨o, ho, hc, hd⟩ := id hit
  obtain ⟨ol, hol, _, nl, hdl⟩ := ht
  unfold Builtin.SmallTypes.nextOf
  refine wpAny_bind (wpAny_callSpecial?_slot (name := Str.ofString "__next__") hit.typeIs PySem.F.slot_tuple_iterator_next
    (wpAny_call_entry PySem.F.slot_tuple_iterator_next hit.typeIs PySem.F.entry_tuple_iterator_next ?_ (PySem.F.args_tuple_iterator_next_1 _)))
  show wpAny _ _ (field (.ref it) 0 >>= _) _ _ s
  refine wpAny_bind (wpAny_field ho hd (x := .ref t) rfl ?_)
  show wpAny _ _ (if (Value.ref t == Value.none) = true then _ else _) _ _ s
  rw [if_neg (show ¬ ((Value.ref t == Value.none) = true) from Bool.false_ne_true)]
  show wpAny _ _ (field (.ref it) 1 >>= _) _ _ s
  refine wpAny_bind (wpAny_field ho hd (x := .int i 0) rfl ?_)
  show wpAny _ _ (seqItems? (.ref t) >>= _) _ _ s
  refine wpAny_bind (wpAny_seqItems hol hdl ?_)
  simp only [Int.toNat_natCast, hx]
  refine wpAny_bind (wpAny_rule (wpAny_bind (wpAny_setField ho hd (by simp) ?_)))
  show wpAny _ _ (newExc (.type "StopIteration") [] >>= _) _ _ _
  refine wpAny_bind ?_
  simp only [newExc, newTuple]
  refine wpAny_bind (wpAny_newObj_type ?_ (by size_fits))
  refine wpAny_bind (m := firstArgMember _ _) (wpAny_of_eq (a := Value.none) (by first | rfl | (simp only [firstArgMember]; rfl)) ?_)
  refine wpAny_newObj_type ?_ (by size_fits)
  simp only [raiseNew]
  refine wpAny_bind (wpAny_handled ?_)
  first | rw [show A.in1.handled = none from hh] | rw [hh]
  refine wpAny_bind (wpAny_pure (wpAny_throw ?_))
  exact hE _ _ (((Heap.SameBut.update ..).extBut.push _).push _) ⟨_, Heap.get?_push_size _ rfl, rfl⟩
end

theorem Draws.tuple {prog : Program} {w : World} {A : Around} (hh : A.handled = none) (it l : Addr) (hne : l ≠ it) (items : Array Value) :
    Draws prog w A it [it, l] items.size (fun i v => items[i]? = some v) (fun i h => h.IsTupleIter it l i ∧ h.IsTuple l items) where
  live := fun _ _ st => let ⟨o, ho, _⟩ := st.1; ⟨o, ho⟩
  frame := fun _ _ _ st hk => ⟨st.1.at fun o e => hk it (by simp) o e, st.2.at fun o e => hk l (by simp) o e⟩
  item := fun i s Q E hi st hQ => by
    refine nextOf_tuple_item st.1 st.2 (x := items[i]) (by simp [hi]) fun h' hit' hs' => ?_
    exact hQ _ h' s.toks (by simp [hi]) ⟨hit', st.2.extBut hs'.extBut hne⟩ hs'
  done := fun s Q E st hE => nextOf_tuple_end hh st.1 st.2 (by simp) hE
end Mine
end

section
open PySem PySem.W PySem.Calls PyProof.Rows
set_option maxRecDepth 100000
namespace Mine
abbrev itObj (T : String) (l : Addr) : Obj := { cls := .type T, data := .fields #[.ref l, .int 0 0] }
abbrev mapObj (TI : Addr) : Obj := { cls := .type "map", data := .fields #[.ref TI, .builtin "len"] }
abbrev oneObj (it : Addr) : Obj := { cls := .type "tuple", data := .seq #[.ref it] }
abbrev mapH1 (h : Heap) (T : String) (l : Addr) : Heap := h.push (itObj T l)
abbrev mapH2 (h : Heap) (T : String) (l : Addr) : Heap := (mapH1 h T l).push (oneObj h.objs.size)
abbrev mapH3 (h : Heap) (T : String) (l : Addr) : Heap := (mapH2 h T l).push (mapObj (mapH1 h T l).objs.size)

theorem meets_map_tup (l : Addr) (xs : Array Value) :
    Meets (Builtin.«map.__new__» ⟨[.type "map", .builtin "len", .ref l], []⟩) (fun _ R s => s.heap.IsTuple l xs ∧
      R (.ok (.ret (.ref (mapH2 s.heap "tuple_iterator" l).objs.size))) { s with heap := mapH3 s.heap "tuple_iterator" l }) :=
  .of_wp fun prog w A R s h => by
    obtain ⟨hp, g, d, tk, os⟩ := s; obtain ⟨hl1, h⟩ := h
    have hsub := map_sub
    have hL1 : Heap.IsTuple (Shared.heap ⟨hp, g, d, tk, os⟩) l xs := hl1
    wp_walk using wpAny_pyIter_tuple hL1
    exact ⟨_, rfl, h⟩
theorem meets_map_list (l : Addr) (xs : Array Value) :
    Meets (Builtin.«map.__new__» ⟨[.type "map", .builtin "len", .ref l], []⟩) (fun _ R s => s.heap.IsList l xs ∧
      R (.ok (.ret (.ref (mapH2 s.heap "list_iterator" l).objs.size))) { s with heap := mapH3 s.heap "list_iterator" l }) :=
  .of_wp fun prog w A R s h => by
    obtain ⟨hp, g, d, tk, os⟩ := s; obtain ⟨hl1, h⟩ := h
    have hsub := map_sub
    have hL1 : Heap.IsList (Shared.heap ⟨hp, g, d, tk, os⟩) l xs := hl1
    wp_walk using wpAny_pyIter_list hL1
    exact ⟨_, rfl, h⟩
section
variable {prog : Program} {w : World} {A : Around} {E : Value → Shared → Prop} {s : Shared} {h₀ : Heap} {L l : Addr} {m : Str → Option Value} {news : List (Addr × Obj)} {vs : List Value} {Q : Value → Shared → Prop}

theorem call_map_end (T : String) (F : Fr h₀ L s.heap m) (N : News h₀ L s.heap news)
    (h : ∀ it TI M h', M ≠ it → TI ≠ it → it ≠ l → (∀ p ∈ news, p.1 ≠ it) → Fr h₀ L h' m → News h₀ L h' ((M, mapObj TI) :: (TI, oneObj it) :: (it, itObj T l) :: news) → Q (.ref M) { s with heap := h' }) (hl : l < s.heap.objs.size) :
    (Shared.TypeIs { s with heap := mapH3 s.heap T l } (.ref (mapH2 s.heap T l).objs.size) "map") ∧ Q (.ref (mapH2 s.heap T l).objs.size) { s with heap := mapH3 s.heap T l } := by
  have z1 : (mapH1 s.heap T l).objs.size = s.heap.objs.size + 1 := Heap.size_push ..
  have z2 : (mapH2 s.heap T l).objs.size = s.heap.objs.size + 2 := by rw [Heap.size_push, z1]
  have g3 : (mapH3 s.heap T l).get? (mapH2 s.heap T l).objs.size = some (mapObj (mapH1 s.heap T l).objs.size) := Heap.get?_push_size _ rfl
  refine ⟨⟨_, g3, rfl⟩, h s.heap.objs.size (mapH1 s.heap T l).objs.size _ _ (by rw [z2]; exact Nat.ne_of_gt (Nat.lt_succ_of_lt (Nat.lt_succ_self _))) (by rw [z1]; exact Nat.ne_of_gt (Nat.lt_succ_self _)) (Nat.ne_of_gt hl)
    (fun p hp => Nat.ne_of_lt (Heap.lt_size (N p hp).1)) (((F.push _).push _).push _) fun p hp => ?_⟩
  have fresh : ∀ b, L < b → h₀.get? b = none := fun b hb => Heap.get?_none_of_le (Nat.le_trans F.above (Nat.le_of_lt hb))
  have hL : L < s.heap.objs.size := F.ns.lt
  rcases List.mem_cons.mp hp with rfl | hp
  · have : L < (mapH2 s.heap T l).objs.size := by rw [z2]; exact Nat.lt_succ_of_lt (Nat.lt_succ_of_lt hL)
    exact ⟨g3, Nat.ne_of_gt this, fresh _ this⟩
  rcases List.mem_cons.mp hp with rfl | hp
  · have : L < (mapH1 s.heap T l).objs.size := by rw [z1]; exact Nat.lt_succ_of_lt hL
    exact ⟨Heap.get?_push_of_some _ (Heap.get?_push_size _ rfl), Nat.ne_of_gt this, fresh _ this⟩
  rcases List.mem_cons.mp hp with rfl | hp
  · exact ⟨Heap.get?_push_of_some _ (Heap.get?_push_of_some _ (Heap.get?_push_size _ rfl)), Nat.ne_of_gt hL, fresh _ hL⟩
  · exact ⟨Heap.get?_push_of_some _ (Heap.get?_push_of_some _ (Heap.get?_push_of_some _ (N p hp).1)), (N p hp).2⟩

theorem call_map_tup {its : Array Value} (F : Fr h₀ L s.heap m) (N : News h₀ L s.heap news) (hl : s.heap.IsTuple l its)
    (h : ∀ it TI M h', M ≠ it → TI ≠ it → it ≠ l → (∀ p ∈ news, p.1 ≠ it) → Fr h₀ L h' m → News h₀ L h' ((M, mapObj TI) :: (TI, oneObj it) :: (it, itObj "tuple_iterator" l) :: news) → Q (.ref M) { s with heap := h' }) :
    wpAny (model prog w) A (call (.type "map") [.builtin "len", .ref l]) Q E s := by
  have hlt : l < s.heap.objs.size := by obtain ⟨_, e, _⟩ := hl; exact Heap.lt_size e
  exact callType_new map_called (by decide) (map_typeCall _ _) (map_newCall _ _) (fun obj => PySem.F.args_object_init_3 obj _ _) map_entry_new
    (meets_map_tup l its) ⟨hl, call_map_end "tuple_iterator" F N h hlt⟩
theorem call_map_list {its : Array Value} (F : Fr h₀ L s.heap m) (N : News h₀ L s.heap news) (hl : s.heap.IsList l its)
    (h : ∀ it TI M h', M ≠ it → TI ≠ it → it ≠ l → (∀ p ∈ news, p.1 ≠ it) → Fr h₀ L h' m → News h₀ L h' ((M, mapObj TI) :: (TI, oneObj it) :: (it, itObj "list_iterator" l) :: news) → Q (.ref M) { s with heap := h' }) :
    wpAny (model prog w) A (call (.type "map") [.builtin "len", .ref l]) Q E s := by
  have hlt : l < s.heap.objs.size := by obtain ⟨_, e, _⟩ := hl; exact Heap.lt_size e
  exact callType_new map_called (by decide) (map_typeCall _ _) (map_newCall _ _) (fun obj => PySem.F.args_object_init_3 obj _ _) map_entry_new
    (meets_map_list l its) ⟨hl, call_map_end "list_iterator" F N h hlt⟩

def MaxLen (xs : List Str) (k : Int) : Prop := (∀ x ∈ xs, (x.length : Int) ≤ k) ∧ ∃ x ∈ xs, (x.length : Int) = k
theorem maxLen_of {xs : List Str} (hne : 0 < xs.length) : MaxLen xs (lenAt xs (argBest (fun i j => decide (lenAt xs i > lenAt xs j)) (xs.length - 1))) := by
  obtain ⟨a, b⟩ := argBest_gt (lenAt xs) (xs.length - 1)
  refine ⟨fun x hx => ?_, ?_⟩
  · obtain ⟨i, hi, e⟩ := List.getElem_of_mem hx
    have := b i (by omega)
    rw [show lenAt xs i = x.length from by simp [lenAt, List.getElem?_eq_getElem hi, e]] at this
    exact this
  · have hlt : argBest (fun i j => decide (lenAt xs i > lenAt xs j)) (xs.length - 1) < xs.length := by omega
    generalize argBest (fun i j => decide (lenAt xs i > lenAt xs j)) (xs.length - 1) = i at hlt
    refine ⟨_, List.getElem_mem hlt, ?_⟩
    simp [lenAt, List.getElem?_eq_getElem hlt]

theorem max_map {xs : List Str} {M TI it : Addr} {its : Array Value} {nw : List (Addr × Obj)} {P : Nat → Value → Prop} {St : Nat → Heap → Prop} {fp : List Addr} (hnw : ∀ p ∈ nw, p.1 ≠ it)
    (D : Draws prog w A.in1.in1 it fp its.size P St) (hP : ∀ i v, P i v → ∃ x t, xs[i]? = some x ∧ v = Value.str x t) (hs : ∀ x ∈ xs, x.length ≤ 1000) (hif : it ∈ fp) (hfp : ∀ b ∈ fp, b < s.heap.objs.size) (hsz : its.size = xs.length)
    (F : Fr h₀ L s.heap m) (N : News h₀ L s.heap nw) (hM : IsMap s.heap M TI) (hTI : IsOne s.heap TI it) (hMi : M ≠ it) (hTi : TI ≠ it) (hst : St 0 s.heap) (hne : 0 < xs.length) (hiL : it ≠ L) (hi0 : h₀.get? it = none)
    (h : ∀ k t h' tk, MaxLen xs k → Fr h₀ L h' m → News h₀ L h' nw → Q (.int k t) { s with heap := h', toks := tk }) :
    wpAny (model prog w) A (call (.builtin "max") [.ref M]) Q E s := by
  refine call_max_walk (pyIter_map hM ?_)
  refine ⟨M, _, _, _, _, _, _, rfl, Walks.map (A := A.in1) D hP hs hMi hTi hif, ⟨hM, hTI, hst⟩, fun b hb => ?_, by rw [hsz]; exact hne, CmpOf.ints_gt (lenAt xs) (fun _ _ h => h), fun v h' tk hv hk => ?_⟩
  · rcases List.mem_cons.mp hb with rfl | hb
    · exact Heap.lt_size hM
    rcases List.mem_cons.mp hb with rfl | hb
    · exact Heap.lt_size hTI
    exact hfp b hb
  · rw [hsz] at hv
    obtain ⟨t, rfl⟩ := hv
    exact h _ _ h' tk (maxLen_of hne) (kmk_fr F hk hiL hi0) (kmk_news N hk hnw)

theorem max_map_tup {xs : List Str} {M TI it : Addr} (hh : A.handled = none) (hMi : M ≠ it) (hTi : TI ≠ it) (hil : it ≠ l) (hni : ∀ p ∈ news, p.1 ≠ it) (F : Fr h₀ L s.heap m) (N : News h₀ L s.heap ((M, mapObj TI) :: (TI, oneObj it) :: (it, itObj "tuple_iterator" l) :: news))
    (hl : s.heap.IsTuple l vs.toArray) (hx : StrsAre vs xs) (hs : ∀ x ∈ xs, x.length ≤ 1000) (hne : 0 < xs.length)
    (h : ∀ k t h' tk, MaxLen xs k → Fr h₀ L h' m → News h₀ L h' news → Q (.int k t) { s with heap := h', toks := tk }) :
    wpAny (model prog w) A (call (.builtin "max") [.ref M]) Q E s := by
  have hlt : l < s.heap.objs.size := by obtain ⟨_, e, _⟩ := hl; exact Heap.lt_size e
  have hit := N _ (.tail _ (.tail _ (.head _)))
  refine max_map (nw := news) hni (Draws.tuple (A := A.in1.in1) hh it l (Ne.symm hil) vs.toArray) (fun i v e => strs_at hx e) hs (.head _) (fun b hb => ?_) (by simpa using strs_len hx)
    F (fun p hp => N p (.tail _ (.tail _ (.tail _ hp)))) (N _ (.head _)).1 (N _ (.tail _ (.head _))).1 hMi hTi ⟨⟨_, hit.1, rfl, rfl⟩, hl⟩ hne hit.2.1 hit.2.2 h
  rcases List.mem_cons.mp hb with rfl | hb
  · exact Heap.lt_size hit.1
  · rw [List.mem_singleton.mp hb]; exact hlt
theorem max_map_list {xs : List Str} {M TI it : Addr} (hh : A.handled = none) (hMi : M ≠ it) (hTi : TI ≠ it) (hil : it ≠ l) (hni : ∀ p ∈ news, p.1 ≠ it) (F : Fr h₀ L s.heap m) (N : News h₀ L s.heap ((M, mapObj TI) :: (TI, oneObj it) :: (it, itObj "list_iterator" l) :: news))
    (hl : s.heap.IsList l vs.toArray) (hx : StrsAre vs xs) (hs : ∀ x ∈ xs, x.length ≤ 1000) (hne : 0 < xs.length)
    (h : ∀ k t h' tk, MaxLen xs k → Fr h₀ L h' m → News h₀ L h' news → Q (.int k t) { s with heap := h', toks := tk }) :
    wpAny (model prog w) A (call (.builtin "max") [.ref M]) Q E s := by
  have hlt : l < s.heap.objs.size := by obtain ⟨_, e, _⟩ := hl; exact Heap.lt_size e
  have hit := N _ (.tail _ (.tail _ (.head _)))
  refine max_map (nw := news) hni (Draws.list (A := A.in1.in1) hh it l (Ne.symm hil) vs.toArray) (fun i v e => strs_at hx e) hs (.head _) (fun b hb => ?_) (by simpa using strs_len hx)
    F (fun p hp => N p (.tail _ (.tail _ (.tail _ hp)))) (N _ (.head _)).1 (N _ (.tail _ (.head _))).1 hMi hTi ⟨⟨_, hit.1, rfl, rfl⟩, hl⟩ hne hit.2.1 hit.2.2 h
  rcases List.mem_cons.mp hb with rfl | hb
  · exact Heap.lt_size hit.1
  · rw [List.mem_singleton.mp hb]; exact hlt
end
end Mine
end

section
open PySem PySem.W PySem.Calls PyProof.Rows
set_option maxRecDepth 100000
namespace Mine
section
variable {M : Model} {A : Around} {E : Value → Shared → Prop} {s : Shared} {K : Frag} {env : Env} {pos p : Pos} {x C : Addr} {ox : Obj} {od : Option Obj} {first : List Value} {Q : Value → Shared → Prop} {e : Expr} {h₀ : Heap}
/-- an object called with one starred argument -/
theorem inst_star {args : List (Bool × Sem Value)} (hst : args.any (·.1) = true) (hd : ox.data = .plain)
    (h : wpAny M A (evalArgs (.ref x) true args []) (fun a s₁ => kco_P K x C ox od s₁.heap ∧ wpAny M A (call (.ref x) (first ++ a.pos) a.kw) Q E s₁) E s) : wpAny M A (callWith pos (.ref x) first args []) Q E s := by
  unfold callWith
  refine wpAny_bind (wpAny_holding (wpAny_mono h (fun a s₁ h₁ => wpAny_bind (wpAny_standAt ?_)) fun _ _ x => x))
  have L := kco_keeper (M := M) h₁.1.2 hd
  simp only [hst, Bool.true_or]
  refine wpAny_bind (L.here ?_)
  have tail : ∀ {t : Sem Value}, wpAny M A t Q E s₁ → wpAny M A (t >>= fun r => holding [r] point >>= fun _ => pure r) Q E s₁ :=
    fun ht => wpAny_bind (wpAny_mono ht (fun r s₂ hr => wpAny_bind (wpAny_holding (wpAny_point (wpAny_pure hr)))) fun _ _ x => x)
  exact tail (wpAny_operating h₁.2)
theorem inst_S {f : Addr} (_X : K.In h₀) (_I : InstAt s.heap x ox C od) (hd : ox.data = .plain) (_hs : findIn K (.ref C) "__call__" = some (some (.ref f)))
    (h : wpAny M A (eval e env) (fun v s₁ => StarOf M A E v (fun vs s₂ => kco_P K x C ox od s₂.heap ∧ wpAny M A (call (.ref x) (first ++ vs)) Q E s₂) s₁) E s)
    (he : starEach [.Starred e p] env = [(true, eval e env)] := by rfl) :
    wpAny M A (callWith pos (.ref x) first (backTo pos (starEach [.Starred e p] env)) []) Q E s := by
  rw [he]
  exact inst_star rfl hd (ks_lone h)
end
section
variable {prog : Program} {w : World} {A : Around} {E : Value → Shared → Prop} {s : Shared} {h₀ : Heap} {L a : Addr} {m : Str → Option Value} {news : List (Addr × Obj)}
theorem star_any {T : String} {o : Obj} {its : Array Value} {n : Nat} {Q : List Value → Shared → Prop} (F : Fr h₀ L s.heap m) (N : News h₀ L s.heap news) (ha : (a, o) ∈ news) (hc : o.cls = .type T) (hd : o.data = .seq its n) (hT : T = "list" ∨ T = "tuple")
    (hz : its.size ≤ sizeLine) (h : ∀ h', Fr h₀ L h' m → News h₀ L h' news → Q its.toList { s with heap := h' }) : StarOf (model prog w) A E (.ref a) Q s :=
  star_seq F N ha hc hd hT rfl hz h
end
/-- the dict of a plain LCSStr -/
abbrev lcsD (w : World) (k1 k2 : Tok) : Obj := dictOf [⟨PyData.keyHash w.params (Str.ofString "qval"), .str (Str.ofString "qval") k1, .int 1 216⟩, ⟨PyData.keyHash w.params (Str.ofString "external"), .str (Str.ofString "external") k2, .bool true⟩] 2
section
variable {prog : Program} {w : World} {A : Around} {E : Value → Shared → Prop} {s : Shared} {h₀ : Heap} {L l : Addr} {m : Str → Option Value} {news : List (Addr × Obj)} {vs : List Value} {xs : List Str} {Q : Value → Shared → Prop}
theorem le1000 (h : ∀ x ∈ xs, x.length ≤ 40) : ∀ x ∈ xs, x.length ≤ 1000 := fun x hx => Nat.le_trans (h x hx) (by decide)
abbrev tupObj (its : Array Value) : Obj := { cls := .type "tuple", data := .seq its }
theorem br_tup {its : Array Value} (N : News h₀ L s.heap news) (h : (l, tupObj its) ∈ news) : s.heap.IsTuple l its := ⟨_, (N _ h).1, rfl, 0, rfl⟩
theorem br_list {its : Array Value} {o : Obj} {k : Nat} (N : News h₀ L s.heap news) (h : (l, o) ∈ news) (hc : o.cls = .type "list") (hd : o.data = .seq its k) : s.heap.IsList l its := ⟨_, (N _ h).1, hc, k, hd⟩
theorem all_n {b : Bool} (F : Fr h₀ L s.heap m) (N : News h₀ L s.heap news) (hl : (l, tupObj vs.toArray) ∈ news) (hh : A.handled = none) (hx : StrsAre vs xs) (hs : ∀ x ∈ xs, x.length ≤ 40) (hb : (xs.all fun x => !x.cps.toList.isEmpty) = b)
    (h : ∀ h' tk, Fr h₀ L h' m → News h₀ L h' news → Q (.bool b) { s with heap := h', toks := tk }) :
    wpAny (model prog w) A (call (.builtin "all") [.ref l]) Q E s := by
  subst hb
  exact all_tup F N hh (br_tup N hl) hx (le1000 hs) h
theorem min_n (F : Fr h₀ L s.heap m) (N : News h₀ L s.heap news) (hl : (l, tupObj vs.toArray) ∈ news) (hh : A.handled = none) (hx : StrsAre vs xs) (hs : ∀ x ∈ xs, x.length ≤ 40) (hne : 0 < xs.length)
    (h : ∀ i x t h' tk, xs[i]? = some x → x.length ≤ 40 → FirstMin xs i → Fr h₀ L h' m → News h₀ L h' news → Q (.str x t) { s with heap := h', toks := tk }) :
    wpAny (model prog w) A (call (.builtin "min") [.ref l] [(Str.ofString "key", .builtin "len")]) Q E s :=
  min_len_tup F N hh (br_tup N hl) hx (le1000 hs) hne fun i x t h' tk e => h i x t h' tk e (hs x (List.mem_of_getElem? e))
/-- max(map(len, a tuple)), in one step from the map on -/
theorem map_tup_n {its : Array Value} (F : Fr h₀ L s.heap m) (N : News h₀ L s.heap news) (hl : (l, tupObj its) ∈ news)
    (h : ∀ it TI M h', M ≠ it → TI ≠ it → it ≠ l → (∀ p ∈ news, p.1 ≠ it) → Fr h₀ L h' m → News h₀ L h' ((M, mapObj TI) :: (TI, oneObj it) :: (it, itObj "tuple_iterator" l) :: news) → Q (.ref M) { s with heap := h' }) :
    wpAny (model prog w) A (call (.type "map") [.builtin "len", .ref l]) Q E s := call_map_tup F N (br_tup N hl) h
theorem map_list_n {its : Array Value} {o : Obj} {k : Nat} (F : Fr h₀ L s.heap m) (N : News h₀ L s.heap news) (hl : (l, o) ∈ news) (hc : o.cls = .type "list") (hd : o.data = .seq its k)
    (h : ∀ it TI M h', M ≠ it → TI ≠ it → it ≠ l → (∀ p ∈ news, p.1 ≠ it) → Fr h₀ L h' m → News h₀ L h' ((M, mapObj TI) :: (TI, oneObj it) :: (it, itObj "list_iterator" l) :: news) → Q (.ref M) { s with heap := h' }) :
    wpAny (model prog w) A (call (.type "map") [.builtin "len", .ref l]) Q E s := call_map_list F N (br_list N hl hc hd) h
theorem maxLen_le {k : Int} (h : MaxLen xs k) (hs : ∀ x ∈ xs, x.length ≤ 40) : 0 ≤ k ∧ k ≤ 40 := by
  obtain ⟨_, x, hx, e⟩ := h
  have := hs x hx
  omega
theorem max_tup_n {M TI it : Addr} (hMi : M ≠ it) (hTi : TI ≠ it) (hil : it ≠ l) (hni : ∀ p ∈ news, p.1 ≠ it) (F : Fr h₀ L s.heap m) (N : News h₀ L s.heap ((M, mapObj TI) :: (TI, oneObj it) :: (it, itObj "tuple_iterator" l) :: news))
    (hl : (l, tupObj vs.toArray) ∈ news) (hh : A.handled = none) (hx : StrsAre vs xs) (hs : ∀ x ∈ xs, x.length ≤ 40) (hne : 0 < xs.length)
    (h : ∀ k t h' tk, MaxLen xs k → 0 ≤ k → k ≤ 40 → Fr h₀ L h' m → News h₀ L h' news → Q (.int k t) { s with heap := h', toks := tk }) :
    wpAny (model prog w) A (call (.builtin "max") [.ref M]) Q E s :=
  max_map_tup hh hMi hTi hil hni F N (br_tup N (.tail _ (.tail _ (.tail _ hl)))) hx (le1000 hs) hne fun k t h' tk hk => h k t h' tk hk (maxLen_le hk hs).1 (maxLen_le hk hs).2
theorem max_list_n {M TI it : Addr} {o : Obj} {k : Nat} (hMi : M ≠ it) (hTi : TI ≠ it) (hil : it ≠ l) (hni : ∀ p ∈ news, p.1 ≠ it) (F : Fr h₀ L s.heap m) (N : News h₀ L s.heap ((M, mapObj TI) :: (TI, oneObj it) :: (it, itObj "list_iterator" l) :: news))
    (hl : (l, o) ∈ news) (hc : o.cls = .type "list") (hd : o.data = .seq vs.toArray k) (hh : A.handled = none) (hx : StrsAre vs xs) (hs : ∀ x ∈ xs, x.length ≤ 40) (hne : 0 < xs.length)
    (h : ∀ k t h' tk, MaxLen xs k → 0 ≤ k → k ≤ 40 → Fr h₀ L h' m → News h₀ L h' news → Q (.int k t) { s with heap := h', toks := tk }) :
    wpAny (model prog w) A (call (.builtin "max") [.ref M]) Q E s :=
  max_map_list hh hMi hTi hil hni F N (br_list N (.tail _ (.tail _ (.tail _ hl))) hc hd) hx (le1000 hs) hne fun k t h' tk hk => h k t h' tk hk (maxLen_le hk hs).1 (maxLen_le hk hs).2
end
section
variable {M : Model} {A : Around} {E : Value → Shared → Prop} {s : Shared} {K : Frag} {env : Env} {pos p : Pos} {first : List Value} {Q : Value → Shared → Prop} {e : Expr} {h₀ : Heap}
/-- a method called with starred arguments: the attribute is read first -/
theorem starMeth {o : Expr} {name : Str} {apos : Pos} {args : List Expr}
    (h : wpAny M A (eval o env) (fun ov s₁ => wpAny M A (getAttr ov name true) (fun f s₂ => wpAny M A (callWith pos f [] (backTo pos (starEach args env)) []) Q E s₂) E s₁) E s)
    (he : eval (.Call (.Attribute o name apos) args [] pos) env = (do
      let ov ← eval o env
      standAt apos.atName
      let (f, first) ← holding [ov] (do pure (← getAttr ov name true, []))
      let callPos ← pure pos
      callWith callPos f first (backTo pos (starEach args env)) []) := by rfl) :
    wpAny M A (eval (.Call (.Attribute o name apos) args [] pos) env) Q E s := by
  rw [he]
  refine wpAny_bind (wpAny_mono h (fun ov s₁ h₁ => wpAny_bind (wpAny_standAt (wpAny_bind (wpAny_holding (wpAny_bind (wpAny_mono h₁ (fun fx s₂ h₂ => wpAny_pure ?_) fun _ _ x => x)))))) fun _ _ x => x)
  exact wpAny_bind (wpAny_pure h₂)
theorem callWith_SM {L : Addr} {news : List (Addr × Obj)} {q g : Addr} {self : Value} (_X : K.In h₀) (_N : News h₀ L s.heap news) (_q : (q, methodObj (.ref g) self) ∈ news) (hf : fnIn K g = true)
    (h : wpAny M A (eval e env) (fun v s₁ => StarOf M A E v (fun vs s₂ => MethP K q g self s₂.heap ∧ wpAny M A (call (.ref q) (first ++ vs)) Q E s₂) s₁) E s)
    (he : starEach [.Starred e p] env = [(true, eval e env)] := by rfl) :
    wpAny M A (callWith pos (.ref q) first (backTo pos (starEach [.Starred e p] env)) []) Q E s := by
  rw [he]
  exact ks_call rfl (keeps_M hf) (ks_lone h)
end
end Mine
end

section
open PySem PySem.W PySem.Calls PyProof.Rows
set_option maxRecDepth 100000
namespace Mine
/-- Meet, of the code itself: for methods and for instances -/
def MeetC (w : World) (d u : Nat) (f : Addr) (args : List Value) (need : List (Addr × Obj)) (pre : Heap → Prop) (R : Value → Prop) : Prop :=
  ∀ (p : Program) (loose : List Str) (mean : ExcName → Option Value) (mg mb : Str → Option Value) (dp un : Nat) (gd : Option (List Code)) (cn : Str) (cs : Scope) (a : Addr) (ccd : Value) (cl : List (Str × Addr)) (outer : List Env) (A₀ : Around) (base h₀ : Heap) (L : Addr) (m : Str → Option Value) (news : List (Addr × Obj)) (s : Shared) (Q E : Value → Shared → Prop),
    Below A₀ base outer h₀ → Fr h₀ L s.heap m → (Mine.hd.heap_39 w.params).In h₀ → News h₀ L s.heap news → Top p loose mean mg mb h₀ → cs.kind = .function → pre base →
    (∀ q ∈ need, q ∈ news) → dp + d < recursionLimit → un + u < cLine →
    (∀ v h' tk', R v → Fr h₀ L h' m → News h₀ L h' news → Q v { s with heap := h', toks := tk' }) →
    codeAny (model PySem.Challenge.rw_br0032_01.prog w) (ktrTop dp un gd cn cs L a ccd cl outer) (.call (.ref f) ⟨args, []⟩) (fun r s' => match r with | .ok (.ret v) => Q v s' | .ok _ => False | .error e => E e s') s
theorem MeetC.meet {w : World} {d u : Nat} {f : Addr} {args : List Value} {need : List (Addr × Obj)} {pre : Heap → Prop} {R : Value → Prop} (H : MeetC w d u f args need pre R) : Meet w d u f args need pre R :=
  fun p loose mean mg mb dp un gd cn cs a ccd cl outer A₀ base h₀ L m news s Q E B F X N T hk hp hn hd hu ret => wpAny_call (H p loose mean mg mb dp un gd cn cs a ccd cl outer A₀ base h₀ L m news s Q E B F X N T hk hp hn hd hu ret)
section
variable {w : World} {d u : Nat} {f : Addr} {args : List Value} {need : List (Addr × Obj)} {pre : Heap → Prop} {R : Value → Prop}
  {p : Program} {loose : List Str} {mean : ExcName → Option Value} {mg mb : Str → Option Value} {dp un : Nat} {gd : Option (List Code)} {cn : Str} {cs : Scope} {a : Addr} {ccd : Value} {cl : List (Str × Addr)} {outer : List Env} {A₀ : Around} {base h₀ : Heap} {L : Addr} {m : Str → Option Value} {news : List (Addr × Obj)} {s : Shared} {Q E : Value → Shared → Prop}
/-- a bound method -/
theorem MeetC.meth {q : Addr} {self : Value} (H : MeetC w d u f (self :: args) need pre R) (hq : (q, methodObj (.ref f) self) ∈ news)
    (B : Below A₀ base outer h₀) (F : Fr h₀ L s.heap m) (X : (Mine.hd.heap_39 w.params).In h₀) (N : News h₀ L s.heap news) (T : Top p loose mean mg mb h₀) (hk : cs.kind = .function) (hp : pre base)
    (hn : ∀ q ∈ need, q ∈ news) (hd : dp + d < recursionLimit) (hu : un + u < cLine)
    (ret : ∀ v h' tk', R v → Fr h₀ L h' m → News h₀ L h' news → Q v { s with heap := h', toks := tk' }) :
    wpAny (model PySem.Challenge.rw_br0032_01.prog w) (ktrTop dp un gd cn cs L a ccd cl outer) (call (.ref q) args) Q E s :=
  call_meth N hq (H p loose mean mg mb dp un gd cn cs a ccd cl outer A₀ base h₀ L m news s Q E B F X N T hk hp hn hd hu ret)
/-- an object called -/
theorem MeetC.inst {x C : Addr} {ox : Obj} {od : Option Obj} (H : MeetC w d u f (.ref x :: args) need pre R) (I : InstAt s.heap x ox C od) (hdd : ox.data = .plain)
    (hs : findIn (Mine.hd.heap_39 w.params) (.ref C) "__call__" = some (some (.ref f))) (hf : isFn (Mine.hd.heap_39 w.params) (.ref f) = true) (hfn : fnIn (Mine.hd.heap_39 w.params) f = true)
    (B : Below A₀ base outer h₀) (F : Fr h₀ L s.heap m) (X : (Mine.hd.heap_39 w.params).In h₀) (N : News h₀ L s.heap news) (T : Top p loose mean mg mb h₀) (hk : cs.kind = .function) (hp : pre base)
    (hn : ∀ q ∈ need, q ∈ news) (hd : dp + d < recursionLimit) (hu : un + u < cLine)
    (ret : ∀ v h' tk', R v → Fr h₀ L h' m → News h₀ L h' news → Q v { s with heap := h', toks := tk' }) :
    wpAny (model PySem.Challenge.rw_br0032_01.prog w) (ktrTop dp un gd cn cs L a ccd cl outer) (call (.ref x) args) Q E s := by
  refine wpAny_call ?_
  refine kco_code (X.keeps F.keep) I hdd hs hf hfn ?_
  exact H p loose mean mg mb dp un gd cn cs a ccd cl outer A₀ base h₀ L m news s Q E B F X N T hk hp hn hd hu ret
end
end Mine
end

section
open PySem PySem.W PySem.Calls PyProof.Rows
set_option maxRecDepth 100000
namespace Mine
section
variable {prog : Program} {w : World} {A : Around} {E : Value → Shared → Prop} {s : Shared} {h₀ : Heap} {L : Addr} {m : Str → Option Value} {env : Env}
/-- a name bound to a comprehension over a tuple of the ledger -/
theorem Assign_tup {elt iter : Expr} {x y : Str} {px py : Pos} {scope : Scope} {cl : List (Str × Addr)} {pos spos : Pos} {Q : Flow → Shared → Prop} (_F₀ : Fr h₀ L s.heap m) (hLe : env.locals = L)
    (hsw : swapsWith (.ListComp elt [⟨.Name x px, iter, [], 0⟩] scope pos) (some (.Name y py)) spos.line env = pure true)
    (hclos : closureFor scope env = pure cl) (hcell : ∀ z ∈ scope.names, z.2 ≠ .cell) (hkind : scope.kind = .function)
    (hnames : ∀ z ∈ scope.names, z.2 = .local → scope.names.lookup z.1 = some .local) (hx : scope.names.lookup x = some .local)
    (hy : env.kindOf y = some .local) (hp : (env.scope.kind == .class || (env.scope.kind == .module && env.locals != env.globals)) = false)
    (h : wpAny (model prog w) A (eval iter env) (fun v s' => Stopped (SrcTup prog w A h₀ L m env elt x scope cl (fun s₂ => LCg.FinA h₀ L m s₂ y Q) v s')) E s)
    (hs : ∀ x, foldedSetIterable iter env x = pure x := by intro _; rfl) :
    wpAny (model prog w) A (exec (.Assign [.Name y py] (.ListComp elt [⟨.Name x px, iter, [], 0⟩] scope pos) spos) env) Q E s := by
  subst hLe
  rw [exec_Assign_Name_used _ _ _ _ hsw]
  refine wpAny_bind (wpAny_standAt (wpAny_bind ?_))
  show wpAny _ A (do let _ ← comprehension (.ListComp elt [⟨.Name x px, iter, [], 0⟩] scope pos) scope env _ (newList []) false (eval iter env) (some (assign (.Name y py) env))) _ _ s
  refine wpAny_bind (wpAny_mono (wpAny_comprehension_free (use := some (assign (.Name y py) env)) (Q := fun _ s' => Q .next s') rfl hs hclos hkind hnames
    (wpAny_mono h (fun xv s₁ h₁ => ?_) fun _ _ e => e)) (fun _ s' hq => wpAny_pure (wpAny_pure hq)) fun _ _ e => e)
  obtain ⟨ax, its, k, news, rfl, hh, F, N, hm, hsz, R⟩ := h₁
  have hl : s₁.heap.IsTuple ax its := ⟨_, (N _ hm).1, rfl, k, rfl⟩
  have hlt : ax < s₁.heap.objs.size := by obtain ⟨_, e, _⟩ := hl; exact Heap.lt_size e
  refine wpAny_pyIter_tuple hl ?_
  have up : ∀ b o, s₁.heap.get? b = some o → (s₁.heap.push { cls := .type "tuple_iterator", data := .fields #[.ref ax, .int 0 0] }).get? b = some o := fun b o e => Heap.get?_push_of_some _ e
  refine LCg.block_U (Walks.tuple hh s₁.heap.objs.size ax (Nat.ne_of_lt hlt) its) hsz (fun i h st => by obtain ⟨o, e, _⟩ := st.1; exact ⟨o, e⟩) ?_ hcell hkind hx ⟨⟨_, Heap.get?_push_size _ rfl, rfl, rfl⟩, hl.at fun o e => Heap.get?_push_of_some _ e⟩ (fun b hb => ?_)
    (F.keeps up) (N.grown up) (Nat.ne_of_lt F.ns.lt) (next_is_new F) (fun p hp => Nat.ne_of_lt (Heap.lt_size (N p hp).1)) hm (R _ ⟨_, rfl⟩) ?_
  · intro i h h' o nw st e e' k' N' S
    exact ⟨by obtain ⟨o', q, r⟩ := st.1; rw [e] at q; cases q; exact ⟨o, e', r⟩, ⟨_, (N' _ S).1, rfl, k, rfl⟩⟩
  · show b < (s₁.heap.push _).objs.size
    rw [Heap.size_push]
    rcases List.mem_cons.mp hb with rfl | hb
    · exact Nat.lt_succ_self _
    · rw [List.mem_singleton.mp hb]; exact Nat.lt_succ_of_lt hlt
  · intro D C h' tk m' ys news' F' N' o1 hn hC₀ hD₀ hCL hDL hCD offC fin
    show wpAny _ A (assign (.Name y py) env (.ref D)) _ _ _
    refine wpAny_assign_Name (wpAny_storeName_local hy F'.ns (fun h₂ hn₂ hs₂ => ?_) hp)
    have hL₀ : h₀.get? env.locals = none := Heap.get?_none_of_le F'.above
    have F₂ : Fr h₀ env.locals h₂ (fun z => if z = y then some (.ref D) else m z) := ⟨hn₂, fun b o e => hs₂.extBut b o (fun q => by rw [q, hL₀] at e; cases e) (F'.keep b o e), F'.above⟩
    refine ⟨m', hn.sameBut hs₂ hCL, fun h'' hs'' => fin D h'' _ (F₂.change hs'' hCL hC₀) (fun p hp => ?_) o1⟩
    have z : h₂.get? p.1 = some p.2 := hs₂.extBut _ _ (N' p hp).2.1 (N' p hp).1
    refine ⟨hs''.extBut _ _ ?_ z, (N' p hp).2⟩
    rcases List.mem_cons.mp hp with rfl | hp
    · exact Ne.symm hCD
    · exact offC p hp
theorem Assign_US {elt iter : Expr} {x y : Str} {px py : Pos} {scope : Scope} {cl : List (Str × Addr)} {pos spos : Pos} {Q : Flow → Shared → Prop} (F₀ : Fr h₀ L s.heap m) (hLe : env.locals = L)
    (hsw : swapsWith (.ListComp elt [⟨.Name x px, iter, [], 0⟩] scope pos) (some (.Name y py)) spos.line env = pure true)
    (hclos : closureFor scope env = pure cl) (hcell : ∀ z ∈ scope.names, z.2 ≠ .cell) (hkind : scope.kind = .function)
    (hnames : ∀ z ∈ scope.names, z.2 = .local → scope.names.lookup z.1 = some .local) (hx : scope.names.lookup x = some .local)
    (hy : env.kindOf y = some .local) (hp : (env.scope.kind == .class || (env.scope.kind == .module && env.locals != env.globals)) = false)
    (h : wpAny (model prog w) A (eval iter env) (fun v s' => Stopped (LCg.CompSrc prog w A h₀ L m env elt x scope cl (fun s₂ => LCg.FinA h₀ L m s₂ y Q) v s')) E s)
    (hs : ∀ x, foldedSetIterable iter env x = pure x := by intro _; rfl) :
    wpAny (model prog w) A (exec (.Assign [.Name y py] (.ListComp elt [⟨.Name x px, iter, [], 0⟩] scope pos) spos) env) Q E s :=
  LCg.Assign_ListComp_U F₀ hLe hsw hclos hcell hkind hnames hx hy hp h hs
theorem comp_tupA {elt : Expr} {x y : Str} {scope : Scope} {cl : List (Str × Addr)} {Q : Flow → Shared → Prop} {ax : Addr} {its : Array Value} {k : Nat} {news : List (Addr × Obj)} {s₁ : Shared}
    (Inv : Nat → List Value → Prop) (hh : A.handled = none) (F : Fr h₀ L s₁.heap m) (N : News h₀ L s₁.heap news) (hm : (ax, ({ cls := .type "tuple", data := .seq its k } : Obj)) ∈ news) (hsz : its.size ≤ sizeLine) (h0 : Inv 0 [])
    (turn : ∀ i v ys I oI C oC D m₂ h tk, its[i]? = some v → Inv i ys → LCg.NsObj oC m₂ → m₂ x = some v → Fr h₀ L h m → News h₀ L h ((I, oI) :: (C, oC) :: (D, LCg.lst ys) :: news) → LCg.Off3 I C D news → ((@Ne Nat I C) ∧ (@Ne Nat I D) ∧ (@Ne Nat C D)) →
      wpAny (model prog w) A (eval elt (compEnvC scope cl C env)) (fun y s'' => TurnC h₀ L m { s₁ with heap := h, toks := tk } ((I, oI) :: (C, oC) :: (D, LCg.lst ys) :: news) (Inv (i + 1) (ys ++ [y])) s'') NoE { s₁ with heap := h, toks := tk })
    (fin : ∀ ys D h tk, Inv its.size ys → Fr h₀ L h (fun z => if z = y then some (.ref D) else m z) → News h₀ L h ((D, LCg.lst ys) :: news) → LCg.Off1 D news → Q .next { s₁ with heap := h, toks := tk }) :
    SrcTup prog w A h₀ L m env elt x scope cl (fun s₂ => LCg.FinA h₀ L m s₂ y Q) (.ref ax) s₁ :=
  ⟨ax, its, k, news, rfl, hh, F, N, hm, hsz, fun _ ⟨g, e⟩ => e ▸ rest_U hm Inv h0 (fun i v ys I oI C oC D m₂ h tk _ hv => turn i v ys I oI C oC D m₂ h tk hv) fun ys hI D h tk F' N' o1 => fin ys D h tk hI F' N' o1⟩
theorem comp_RA {elt : Expr} {x y : Str} {scope : Scope} {cl : List (Str × Addr)} {Q : Flow → Shared → Prop} {r : Addr} {b : Int} {t u v : Tok} {n : Nat} {news : List (Addr × Obj)} {s₁ : Shared}
    (Inv : Nat → List Value → Prop) (hh : A.handled = none) (F : Fr h₀ L s₁.heap m) (N : News h₀ L s₁.heap news) (hr : IsRange s₁.heap r 0 b 1 t u v) (hb : b = (n : Int)) (hn : n ≤ 1000) (h0 : Inv 0 [])
    (turn : ∀ (i : Nat) t ys I oI C oC D m₂ h tk, i < n → Inv i ys → LCg.NsObj oC m₂ → m₂ x = some (.int (i : Int) t) → Fr h₀ L h m → News h₀ L h ((I, oI) :: (C, oC) :: (D, LCg.lst ys) :: news) → LCg.Off3 I C D news → ((@Ne Nat I C) ∧ (@Ne Nat I D) ∧ (@Ne Nat C D)) →
      wpAny (model prog w) A (eval elt (compEnvC scope cl C env)) (fun y s'' => TurnC h₀ L m { s₁ with heap := h, toks := tk } ((I, oI) :: (C, oC) :: (D, LCg.lst ys) :: news) (Inv (i + 1) (ys ++ [y])) s'') NoE { s₁ with heap := h, toks := tk })
    (fin : ∀ ys D h tk, Inv n ys → Fr h₀ L h (fun z => if z = y then some (.ref D) else m z) → News h₀ L h ((D, LCg.lst ys) :: news) → LCg.Off1 D news → Q .next { s₁ with heap := h, toks := tk }) :
    LCg.CompSrc prog w A h₀ L m env elt x scope cl (fun s₂ => LCg.FinA h₀ L m s₂ y Q) (.ref r) s₁ := by
  subst hb
  refine LCg.CompSrc.range hh F N hr (small_one (by omega) (by omega) (by omega) (by omega)) (n := n) (by rw [rangeSize_nat]; simp) (by rw [sizeLine_eq]; omega) fun _ => rest_U trivial Inv h0 (fun i v ys I oI C oC D m₂ h tk hi hv hI hC hx => ?_) fun ys hI D h tk F' N' o1 => fin ys D h tk hI F' N' o1
  obtain ⟨t', rfl⟩ := hv
  rw [Int.zero_add] at hx
  exact turn i t' ys I oI C oC D m₂ h tk hi hI hC hx
end
end Mine
end

section
open PySem PySem.W PyProof.Rows
set_option maxRecDepth 100000
namespace Mine
theorem has_iff (y p : Str) : Txt.contains y p = true ↔ ∃ i, i + p.length ≤ y.length ∧ (y.cps.toList.drop i).take p.length = p.cps.toList := by
  rw [contains_of, StrLaws.found_iff]
  simp only [StrLaws.subAt_eq, beq_iff_eq]
theorem cpl_ge : ∀ (x y : List Nat) (s : Nat), s ≤ cpl x y ↔ s ≤ x.length ∧ s ≤ y.length ∧ x.take s = y.take s
  | [], y, s => by
    rw [cpl_nil_left]
    constructor
    · intro h; have : s = 0 := by omega
      subst this; simp
    · intro h; simpa using h.1
  | a :: x, [], s => by
    rw [cpl_nil_right]
    constructor
    · intro h; have : s = 0 := by omega
      subst this; simp
    · intro h; simpa using h.2.1
  | a :: x, b :: y, 0 => by simp
  | a :: x, b :: y, s + 1 => by
    rw [cpl_cons]
    by_cases e : a = b
    · subst e
      have := cpl_ge x y s
      simp only [if_true, List.length_cons, List.take_succ_cons, List.cons.injEq, true_and, Nat.add_le_add_iff_right]
      exact this
    · simp [e]
theorem sub_len (f : Str) (st n : Nat) (h : st + n ≤ f.length) : (sub f st n).length = n := by
  have := len_l f
  show ((f.cps.toList.drop st).take n).toArray.size = n
  rw [List.size_toArray, List.length_take, List.length_drop]
  omega
theorem sub_list (f : Str) (st n : Nat) : (sub f st n).cps.toList = (f.cps.toList.drop st).take n := by simp [sub]
theorem has_self (x : Str) (st n : Nat) (h : st + n ≤ x.length) : Txt.contains x (sub x st n) = true :=
  (has_iff _ _).mpr ⟨st, by rw [sub_len _ _ _ h]; exact h, by rw [sub_len _ _ _ h, sub_list]⟩
theorem has_sub (x y : Str) (st n : Nat) (h : st + n ≤ x.length) (hn : 1 ≤ n) : Txt.contains y (sub x st n) = true ↔ ∃ b, b < y.length ∧ n ≤ cpl (x.cps.toList.drop st) (y.cps.toList.drop b) := by
  rw [has_iff, sub_len _ _ _ h, sub_list]
  have lx := len_l x
  have ly := len_l y
  constructor
  · rintro ⟨i, hi, e⟩
    refine ⟨i, by omega, (cpl_ge _ _ _).mpr ⟨by rw [List.length_drop]; omega, by rw [List.length_drop]; omega, e.symm⟩⟩
  · rintro ⟨b, hb, e⟩
    obtain ⟨_, h2, h3⟩ := (cpl_ge _ _ _).mp e
    rw [List.length_drop] at h2
    exact ⟨b, by omega, h3.symm⟩
theorem pieceRow_none {f : Str} {ws : List Str} {size : Nat} : ∀ {n : Nat}, (∀ j, j < n → inAll ws (sub f j size) = false) → pieceRow f ws size n = none
  | 0, _ => rfl
  | n + 1, h => pieceRow_no (pieceRow_none fun j hj => h j (by omega)) (h n (by omega))

def cc (x y : List Nat) (a b : Nat) : Nat := cpl (x.drop a) (y.drop b)
structure Best (x y : List Nat) (a n : Nat) (st : Nat × Nat) : Prop where
  old : ∀ a' b, a' < a → b < y.length → cc x y a' b ≤ st.2
  row : ∀ b, b < n → cc x y a b ≤ st.2
  at_ : 0 < st.2 → (∃ b, b < y.length ∧ cc x y st.1 b = st.2) ∧ ∀ a' b, a' < st.1 → b < y.length → cc x y a' b < st.2
  low : 0 < st.2 → st.1 ≤ a
theorem best_row {x y : List Nat} {a : Nat} {st : Nat × Nat} (h : Best x y a 0 st) : ∀ n, n ≤ y.length → Best x y a n (runB x y a st n)
  | 0, _ => h
  | n + 1, hn => by
    have I := best_row h n (by omega)
    rw [runB_succ]
    unfold stepB
    split
    · rename_i hgt
      have hgt' : cc x y a n > (runB x y a st n).2 := hgt
      refine ⟨fun a' b h1 h2 => ?_, fun b hb => ?_, fun _ => ⟨⟨n, by omega, rfl⟩, fun a' b h1 h2 => ?_⟩, fun _ => Nat.le_refl _⟩
      · exact Nat.le_of_lt (Nat.lt_of_le_of_lt (I.old a' b h1 h2) hgt')
      · by_cases e : b = n
        · subst e; exact Nat.le_refl _
        · exact Nat.le_of_lt (Nat.lt_of_le_of_lt (I.row b (by omega)) hgt')
      · exact Nat.lt_of_le_of_lt (I.old a' b h1 h2) hgt'
    · rename_i hgt
      have hgt' : ¬ cc x y a n > (runB x y a st n).2 := hgt
      refine ⟨I.old, fun b hb => ?_, I.at_, I.low⟩
      by_cases e : b = n
      · subst e; omega
      · exact I.row b (by omega)
theorem best_all (x y : List Nat) : ∀ n, Best x y n 0 (runA x y n)
  | 0 => ⟨fun _ _ h => absurd h (Nat.not_lt_zero _), fun _ h => absurd h (Nat.not_lt_zero _), fun h => absurd h (Nat.lt_irrefl _), fun h => absurd h (Nat.lt_irrefl _)⟩
  | n + 1 => by
    rw [runA_succ]
    have I := best_row (best_all x y n) y.length (Nat.le_refl _)
    refine ⟨fun a' b h1 h2 => ?_, fun _ h => absurd h (Nat.not_lt_zero _), I.at_, fun h => Nat.le_succ_of_le (I.low h)⟩
    by_cases e : a' = n
    · subst e; exact I.row b h2
    · exact I.old a' b (by omega) h2

def stdS (a b : Str) : Str := ⟨(std a.cps.toList b.cps.toList).toArray⟩
theorem pieceGo_skip {f : Str} {ws : List Str} {m : Nat} (h : ∀ st n, m < n → st + n ≤ f.length → inAll ws (sub f st n) = false) : ∀ k, m + k ≤ f.length → pieceGo f ws (m + k) = pieceGo f ws m
  | 0, _ => rfl
  | k + 1, hk => by
    rw [show m + (k + 1) = (m + k) + 1 from rfl, pieceGo_no (pieceRow_none fun j hj => h j _ (by omega) (by omega))]
    exact pieceGo_skip h k (by omega)
theorem std_piece (x y : Str) : stdS x y = piece x [x, y] := by
  have I := best_all x.cps.toList y.cps.toList x.cps.toList.length
  have fit := runA_fit x.cps.toList y.cps.toList _ (Nat.le_refl _)
  unfold stdS std piece
  generalize runA x.cps.toList y.cps.toList x.cps.toList.length = st at I fit
  obtain ⟨p, m⟩ := st
  rw [len_l] at I fit
  dsimp only at I fit ⊢
  have no : ∀ st n, m < n → st + n ≤ x.length → inAll [x, y] (sub x st n) = false := by
    intro st n h1 h2
    rw [Bool.eq_false_iff]
    intro h
    have hy := (inAll_iff _ _).mp h y (.tail _ (.head _))
    obtain ⟨b, hb, e⟩ := (has_sub x y st n h2 (by omega)).mp hy
    have := I.old st b (by omega) (by rw [len_l]; exact hb)
    unfold cc at this
    dsimp only at this
    omega
  have sk := pieceGo_skip no (x.length - m) (by omega)
  rw [show m + (x.length - m) = x.length from by omega] at sk
  rw [sk]
  cases m with
  | zero => simp [pieceGo]
  | succ m =>
    obtain ⟨⟨b, hb, e⟩, fst⟩ := I.at_ (Nat.zero_lt_succ _)
    dsimp only at e fst
    have hin : inAll [x, y] (sub x p (m + 1)) = true := (inAll_iff _ _).mpr fun w hw => by
      rcases List.mem_cons.mp hw with rfl | hw
      · exact has_self w p _ (by omega)
      · rw [List.mem_singleton.mp hw]
        exact (has_sub x y p (m + 1) (by omega) (by omega)).mpr ⟨b, by rw [len_l] at hb; exact hb, by unfold cc at e; omega⟩
    rw [pieceGo_yes (pieceRow_none fun j hj => ?_) hin (by omega)]
    · rfl
    · rw [Bool.eq_false_iff]
      intro h
      have hy := (inAll_iff _ _).mp h y (.tail _ (.head _))
      obtain ⟨b, hb, e⟩ := (has_sub x y j (m + 1) (by omega) (by omega)).mp hy
      have := fst j b hj (by rw [len_l]; exact hb)
      unfold cc at this
      omega
theorem std_none (x y : Str) (h : x.cps.toList = [] ∨ y.cps.toList = []) : stdS x y = ⟨#[]⟩ := by
  have I := best_all x.cps.toList y.cps.toList x.cps.toList.length
  unfold stdS std
  generalize runA x.cps.toList y.cps.toList x.cps.toList.length = st at I
  obtain ⟨p, m⟩ := st
  rcases h with h | h
  · simp [h]
  · cases m with
    | zero => simp
    | succ m =>
      obtain ⟨⟨b, hb, _⟩, _⟩ := I.at_ (Nat.zero_lt_succ _)
      rw [h] at hb
      exact absurd hb (Nat.not_lt_zero _)

theorem pieceRow_fit {f : Str} {ws : List Str} {size n st : Nat} (h : pieceRow f ws size n = some st) : st < n := (pieceRow_some h).1
theorem pieceGo_len (f : Str) (ws : List Str) : ∀ n, n ≤ f.length → (pieceGo f ws n).length ≤ f.length
  | 0, _ => Nat.zero_le _
  | n + 1, h => by
    unfold pieceGo
    cases e : pieceRow f ws (n + 1) (f.length - n) with
    | none => exact pieceGo_len f ws n (by omega)
    | some st =>
      have := pieceRow_fit e
      dsimp only
      rw [sub_len _ _ _ (by omega)]
      omega
theorem piece_len (f : Str) (ws : List Str) : (piece f ws).length ≤ f.length := pieceGo_len f ws _ (Nat.le_refl _)

theorem firstMin_ex : ∀ {xs : List Str}, xs ≠ [] → ∃ i y, xs[i]? = some y ∧ FirstMin xs i := by
  intro xs hne
  have key : ∀ n, n < xs.length → ∃ i, i ≤ n ∧ ∀ j, j ≤ n → lenAt xs i ≤ lenAt xs j ∧ (j < i → lenAt xs i < lenAt xs j) := by
    intro n
    induction n with
    | zero =>
      intro _
      refine ⟨0, Nat.le_refl _, fun j hj => ?_⟩
      have : j = 0 := by omega
      subst this
      exact ⟨Int.le_refl _, fun h => absurd h (Nat.lt_irrefl _)⟩
    | succ n ih =>
      intro hn
      obtain ⟨i, hi, hb⟩ := ih (by omega)
      by_cases h : lenAt xs (n + 1) < lenAt xs i
      · refine ⟨n + 1, Nat.le_refl _, fun j hj => ?_⟩
        by_cases e : j = n + 1
        · subst e; exact ⟨Int.le_refl _, fun h => absurd h (Nat.lt_irrefl _)⟩
        · have := (hb j (by omega)).1
          exact ⟨by omega, fun _ => by omega⟩
      · refine ⟨i, by omega, fun j hj => ?_⟩
        by_cases e : j = n + 1
        · subst e; exact ⟨by omega, fun _ => by omega⟩
        · exact hb j (by omega)
  have hl : 0 < xs.length := List.length_pos_iff.mpr hne
  obtain ⟨i, hi, hb⟩ := key (xs.length - 1) (by omega)
  exact ⟨i, xs[i], List.getElem?_eq_getElem (by omega), fun j hj => hb j (by omega)⟩
theorem firstMin_le {xs : List Str} {i : Nat} {y x : Str} (hi : xs[i]? = some y) (h : FirstMin xs i) (hx : x ∈ xs) : y.length ≤ x.length := by
  obtain ⟨j, hj, e⟩ := List.getElem_of_mem hx
  have := (h j hj).1
  simp only [lenAt, hi, List.getElem?_eq_getElem hj, e, Option.map_some, Option.getD_some] at this
  omega
theorem all_no {xs : List Str} (h : (xs.all fun x => !x.cps.toList.isEmpty) = false) : ∃ i y, xs[i]? = some y ∧ FirstMin xs i ∧ piece y xs = ⟨#[]⟩ := by
  obtain ⟨x, hx, he⟩ : ∃ x ∈ xs, x.cps.toList = [] := by
    rw [List.all_eq_false] at h
    obtain ⟨x, hx, he⟩ := h
    exact ⟨x, hx, by simpa using he⟩
  obtain ⟨i, y, hi, hm⟩ := firstMin_ex (List.ne_nil_of_mem hx)
  have h1 := firstMin_le hi hm hx
  have h2 := len_l x
  rw [he] at h2
  have h3 : y.length = 0 := by simp at h2; omega
  refine ⟨i, y, hi, hm, ?_⟩
  unfold piece
  rw [h3]
  rfl

theorem lcs_len {xs : List Str} {i : Nat} {y : Str} (h6 : ∀ x ∈ xs, x.length ≤ 6) (hi : xs[i]? = some y) : (piece y xs).length ≤ 6 :=
  Nat.le_trans (piece_len y xs) (h6 y (List.mem_of_getElem? hi))
end Mine
end

section
open PySem PySem.W PyProof.Rows
set_option maxRecDepth 100000
namespace Mine
theorem inAll_dup {f : Str} {ws : List Str} {i : Nat} (h : ws[i]? = some f) (p : Str) : inAll (f :: ws) p = inAll ws p := by
  have hm := List.mem_of_getElem? h
  rw [Bool.eq_iff_iff, inAll_iff, inAll_iff]
  exact ⟨fun a x hx => a x (.tail _ hx), fun a x hx => (List.mem_cons.mp hx).elim (fun e => e ▸ a f hm) (a x)⟩
theorem pieceRow_dup {f g : Str} {ws : List Str} {i : Nat} (h : ws[i]? = some f) (size : Nat) : ∀ n, pieceRow g (f :: ws) size n = pieceRow g ws size n
  | 0 => rfl
  | n + 1 => by unfold pieceRow; rw [pieceRow_dup h size n, inAll_dup h]
theorem pieceGo_dup {f g : Str} {ws : List Str} {i : Nat} (h : ws[i]? = some f) : ∀ n, pieceGo g (f :: ws) n = pieceGo g ws n
  | 0 => rfl
  | n + 1 => by unfold pieceGo; rw [pieceRow_dup h, pieceGo_dup h n]
theorem piece_dup {f : Str} {ws : List Str} {i : Nat} (h : ws[i]? = some f) : piece f (f :: ws) = piece f ws := pieceGo_dup h _
theorem first_uniq {xs : List Str} {i j : Nat} {y z : Str} (hi : xs[i]? = some y) (hm : FirstMin xs i) (hj : xs[j]? = some z) (hm' : FirstMin xs j) : y = z := by
  have li := (List.getElem?_eq_some_iff.mp hi).1
  have lj := (List.getElem?_eq_some_iff.mp hj).1
  have a := hm j lj
  have b := hm' i li
  have : i = j := by
    rcases Nat.lt_trichotomy i j with h | h | h
    · have := b.2 h; omega
    · exact h
    · have := a.2 h; omega
  subst this
  rw [hi] at hj
  cases hj; rfl
theorem sub_all (f : Str) : sub f 0 f.length = f := by
  unfold sub
  have : (f.cps.toList.drop 0).take f.length = f.cps.toList := by rw [List.drop_zero, ← len_l, List.take_length]
  rw [this]
theorem piece_self {f : Str} {ws : List Str} (h : ∀ x ∈ ws, Txt.contains x f = true) : piece f ws = f := by
  unfold piece
  cases e : f.length with
  | zero =>
    obtain ⟨⟨l⟩⟩ := f
    have : l = [] := List.length_eq_zero_iff.mp e
    subst this; rfl
  | succ n =>
    have e1 : sub f 0 (n + 1) = f := by rw [← e]; exact sub_all f
    rw [pieceGo_yes rfl (by rw [e1]; exact (inAll_iff _ _).mpr h) (by omega), e1]
theorem has_refl (f : Str) : Txt.contains f f = true := by
  have := has_self f 0 f.length (by omega)
  rwa [sub_all] at this
/-- a text stands in what is glued around it -/
theorem has_mid (a f b : Str) : Txt.contains (a ++ f ++ b) f = true := by
  rw [has_iff]
  have h1 : (a ++ f ++ b).length = a.length + f.length + b.length := by rw [Str.length_append, Str.length_append]
  refine ⟨a.length, by omega, ?_⟩
  have e : (a ++ f ++ b).cps.toList = a.cps.toList ++ (f.cps.toList ++ b.cps.toList) := by simp [Str.cps_append]
  rw [e, ← len_l a, List.drop_left', ← len_l f, List.take_left']
  · rfl
  · rfl
theorem piece_mid (a f b : Str) : piece f [f, a ++ f ++ b] = f := piece_self fun x hx => by
  rcases List.mem_cons.mp hx with rfl | hx
  · exact has_refl _
  · rw [List.mem_singleton.mp hx]; exact has_mid a f b
theorem piece_none (f : Str) : piece f [f, Str.ofString ""] = Str.ofString "" := by
  rw [← std_piece, std_none f _ (.inr (by rw [empty_is])), empty_is]
/-- x ahead of a text, y behind it, x not in it: the longest common piece is the text -/
theorem piece_xy (f : Str) (h : 120 ∉ f.cps.toList) : piece (Str.ofString "x" ++ f) [Str.ofString "x" ++ f, f ++ Str.ofString "y"] = f := by
  have hx : (Str.ofString "x").cps.toList = [120] := by decide +kernel
  have hy : (Str.ofString "y").cps.toList = [121] := by decide +kernel
  have lx : (Str.ofString "x").length = 1 := by decide +kernel
  have ly : (Str.ofString "y").length = 1 := by decide +kernel
  have el : (Str.ofString "x" ++ f).length = f.length + 1 := by rw [Str.length_append, lx]; omega
  have ec : (Str.ofString "x" ++ f).cps.toList = 120 :: f.cps.toList := by simp [Str.cps_append, hx]
  have ey : (f ++ Str.ofString "y").cps.toList = f.cps.toList ++ [121] := by simp [Str.cps_append, hy]
  have lf := len_l f
  -- nothing that starts with x stands in the other text
  have no : ∀ n, 1 ≤ n → inAll [Str.ofString "x" ++ f, f ++ Str.ofString "y"] (sub (Str.ofString "x" ++ f) 0 n) = false := by
    intro n hn
    rw [Bool.eq_false_iff]
    intro hh
    have h2 := (inAll_iff _ _).mp hh (f ++ Str.ofString "y") (.tail _ (.head _))
    obtain ⟨i, hi, e⟩ := (has_iff _ _).mp h2
    rw [sub_list, ec, List.drop_zero] at e
    have h3 : 120 ∈ (120 :: f.cps.toList).take n := by
      cases n with
      | zero => omega
      | succ n => simp
    rw [← e] at h3
    have h4 := List.mem_of_mem_drop (List.mem_of_mem_take h3)
    rw [ey] at h4
    rcases List.mem_append.mp h4 with h5 | h5
    · exact h h5
    · simp at h5
  unfold piece
  rw [el, pieceGo_no (pieceRow_none fun j hj => by
    rw [el] at hj
    have : j = 0 := by omega
    subst this; exact no _ (by omega))]
  cases e : f.length with
  | zero =>
    obtain ⟨⟨l⟩⟩ := f
    have : l = [] := List.length_eq_zero_iff.mp e
    subst this; rfl
  | succ m =>
    have e1 : sub (Str.ofString "x" ++ f) 1 (m + 1) = f := by
      unfold sub
      rw [ec, List.drop_succ_cons, List.drop_zero, ← e, ← lf, List.take_length]
    have hin : inAll [Str.ofString "x" ++ f, f ++ Str.ofString "y"] (sub (Str.ofString "x" ++ f) 1 (m + 1)) = true := by
      refine (inAll_iff _ _).mpr fun w hw => ?_
      rcases List.mem_cons.mp hw with rfl | hw
      · exact has_self _ 1 _ (by omega)
      · rw [List.mem_singleton.mp hw, e1, has_iff]
        refine ⟨0, by rw [Str.length_append]; omega, ?_⟩
        rw [ey, List.drop_zero, ← lf, List.take_left']
        rfl
    rw [pieceGo_yes (pieceRow_none fun j hj => by
      have : j = 0 := by omega
      subst this; exact no _ (by omega)) hin (by omega), e1]
end Mine
end

section
open PySem PySem.W PySem.Calls PyProof.Rows
set_option maxRecDepth 100000
namespace Mine
/-- an iterator over a text, at its i-th letter -/
def SAt (it : Addr) (x : Str) (i : Nat) (h : Heap) : Prop := ∃ t, h.IsStrIter it "str_ascii_iterator" x t i ∨ h.IsStrIter it "str_iterator" x t i
theorem SAt.at' {it : Addr} {x : Str} {i : Nat} {h h' : Heap} (S : SAt it x i h) (e : ∀ o, h.get? it = some o → h'.get? it = some o) : SAt it x i h' := by
  obtain ⟨t, ⟨o, ho, r⟩ | ⟨o, ho, r⟩⟩ := S
  · exact ⟨t, .inl ⟨o, e _ ho, r⟩⟩
  · exact ⟨t, .inr ⟨o, e _ ho, r⟩⟩
theorem SAt.live {it : Addr} {x : Str} {i : Nat} {h : Heap} (S : SAt it x i h) : it < h.objs.size := by
  obtain ⟨t, ⟨o, ho, r⟩ | ⟨o, ho, r⟩⟩ := S <;> exact Heap.lt_size ho
def chr (x : Str) (i : Nat) : Str := ⟨#[(x.cps[i]?).getD 0]⟩
abbrev tupO (its : Array Value) : Obj := { cls := .type "tuple", data := .seq its }
abbrev zipObj (f0 : Value) (f1 : Bool) (TI TO : Addr) : Obj := { cls := .type "zip", data := .fields #[f0, .bool f1, .bool false, .ref TI, .ref TO] }
def refs (ps : List (Addr × Str)) : List Value := ps.map fun p => Value.ref p.1
section
variable {prog : Program} {w : World} {A : Around} {E : Value → Shared → Prop} {s : Shared}
theorem wpAny_alive {M : Model} {A : Around} {E : Value → Shared → Prop} {s : Shared} {a : Addr} {Q : Option Obj → Shared → Prop} (h : Q (s.heap.get? a) s) : wpAny M A (loadIfAlive a) Q E s := fun Γ p _ => by
  show Sem.wp M Γ (.loadIfAlive a .pure) _ _ p s
  rw [Sem.wp_loadIfAlive]
  exact h
theorem sat_next {it : Addr} {x : Str} {i : Nat} {Q : Value → Shared → Prop} (S : SAt it x i s.heap) (hi : i < x.cps.size)
    (hQ : ∀ u h' tk, SAt it x (i + 1) h' → Heap.SameBut it s.heap h' → Q (.str (chr x i) u) { s with heap := h', toks := tk }) :
    wpAny (model prog w) A (Builtin.SmallTypes.nextOf (.ref it)) Q E s := by
  have hc : x.cps[i]? = some x.cps[i] := by simp [hi]
  have e : chr x i = ⟨#[x.cps[i]]⟩ := by unfold chr; rw [hc]; rfl
  rw [e] at hQ
  obtain ⟨t, h | h⟩ := S
  · exact wpAny_nextOf_ascii_item h hc fun h' a b => hQ _ _ _ ⟨t, .inl a⟩ b
  · exact wpAny_nextOf_wide_item h hc fun h' a b => hQ _ _ _ ⟨t, .inr a⟩ b
theorem sat_end {it : Addr} {x : Str} {i : Nat} {Q : Value → Shared → Prop} (hh : A.handled = none) (S : SAt it x i s.heap) (hi : x.cps.size ≤ i)
    (hE : ∀ h' e, Heap.ExtBut it s.heap h' → (∃ o, h'.get? e = some o ∧ o.cls = .type "StopIteration") → E (.ref e) { s with heap := h' }) :
    wpAny (model prog w) A (Builtin.SmallTypes.nextOf (.ref it)) Q E s := by
  have hc : x.cps[i]? = none := by simp [hi]
  obtain ⟨t, h | h⟩ := S
  · exact wpAny_nextOf_ascii_end hh h hc hE
  · exact wpAny_nextOf_wide_end hh h hc hE
theorem sat_iter {x : Str} {t : Tok} {Q : Value → Shared → Prop} (hQ : ∀ o, SAt s.heap.objs.size x 0 (s.heap.push o) → Q (.ref s.heap.objs.size) { s with heap := s.heap.push o }) : wpAny (model prog w) A (pyIter (.str x t)) Q E s := by
  cases ha : x.cps.all (· < 128)
  · exact wpAny_pyIter_wide ha (hQ _ ⟨t, .inr ⟨_, Heap.get?_push_size _ rfl, rfl, rfl⟩⟩)
  · exact wpAny_pyIter_ascii ha (hQ _ ⟨t, .inl ⟨_, Heap.get?_push_size _ rfl, rfl, rfl⟩⟩)

/-- a draw from each iterator, into an array -/
theorem draw_all (hh : A.handled = none) (i : Nat) (f : Value → Option Fin × Array Value → Sem (ForInStep (Option Fin × Array Value)))
    (hf : ∀ (it : Addr) (acc : Array Value) (s : Shared) (Q : ForInStep (Option Fin × Array Value) → Shared → Prop) (E : Value → Shared → Prop),
      wpAny (model prog w) A (Builtin.SmallTypes.nextOf (.ref it)) (fun v s' => Q (.yield (none, acc.push v)) s') E s → wpAny (model prog w) A (f (.ref it) (none, acc)) Q E s) {Q : Option Fin × Array Value → Shared → Prop} {E : Value → Shared → Prop} :
    ∀ (ps : List (Addr × Str)) (acc : Array Value) (s : Shared), (ps.map (·.1)).Nodup → (∀ p ∈ ps, SAt p.1 p.2 i s.heap) →
    ((∀ p ∈ ps, i < p.2.cps.size) → ∀ vs h' tk, StrsAre vs (ps.map fun p => chr p.2 i) → (∀ p ∈ ps, SAt p.1 p.2 (i + 1) h') → (∀ b o, b ∉ ps.map (·.1) → s.heap.get? b = some o → h'.get? b = some o) → h'.objs.size = s.heap.objs.size → Q (none, (acc.toList ++ vs).toArray) { s with heap := h', toks := tk }) →
    ((∃ p ∈ ps, p.2.cps.size ≤ i) → ∀ h' tk e, (∀ b o, b ∉ ps.map (·.1) → s.heap.get? b = some o → h'.get? b = some o) → (∃ o, h'.get? e = some o ∧ o.cls = .type "StopIteration") → E (.ref e) { s with heap := h', toks := tk }) →
    wpAny (model prog w) A (forIn (refs ps) (none, acc) f) Q E s := by
  intro ps
  induction ps with
  | nil =>
    intro acc s _ _ hQ _
    rw [show refs [] = [] from rfl, List.forIn_nil]
    have := hQ (fun p hp => nomatch hp) [] s.heap s.toks .nil (fun p hp => nomatch hp) (fun _ _ _ e => e) rfl
    exact wpAny_pure (by simpa using this)
  | cons p ps ih =>
    intro acc s hnd hS hQ hE
    rw [List.map_cons, List.nodup_cons] at hnd
    rw [show refs (p :: ps) = Value.ref p.1 :: refs ps from rfl, List.forIn_cons]
    have Sp := hS p (.head _)
    refine wpAny_bind (hf p.1 acc s _ _ ?_)
    by_cases hi : i < p.2.cps.size
    · refine sat_next Sp hi fun u h' tk S' sb => ?_
      refine ih (acc.push _) _ hnd.2 (fun q hq => (hS q (.tail _ hq)).at' fun o e => sb.extBut _ _ (fun x => hnd.1 (x ▸ List.mem_map_of_mem hq)) e) (fun hall vs h2 tk2 hvs S2 k2 z2 => ?_) (fun hex h2 tk2 e k2 he => ?_)
      · have := hQ (fun q hq => (List.mem_cons.mp hq).elim (fun e => e ▸ hi) (hall q)) (.str (chr p.2 i) u :: vs) h2 tk2 (.cons _ _ hvs)
          (fun q hq => (List.mem_cons.mp hq).elim (fun e => e ▸ S'.at' fun o e' => k2 _ _ hnd.1 e') (S2 q))
          (fun b o hb e => k2 b o (fun x => hb (by rw [List.map_cons]; exact .tail _ x)) (sb.extBut b o (fun x => hb (by rw [x, List.map_cons]; exact .head _)) e)) (z2.trans sb.1)
        simpa using this
      · obtain ⟨q, hq, hs⟩ := hex
        exact hE ⟨q, .tail _ hq, hs⟩ h2 tk2 e (fun b o hb e => k2 b o (fun x => hb (by rw [List.map_cons]; exact .tail _ x)) (sb.extBut b o (fun x => hb (by rw [x, List.map_cons]; exact .head _)) e)) he
    · refine sat_end hh Sp (by omega) fun h' e eb he => hE ⟨p, .head _, by omega⟩ h' s.toks e (fun b o hb e => eb b o (fun x => hb (by rw [x, List.map_cons]; exact .head _)) e) he

/-- the first draw, into the kept tuple -/
theorem draw_own (i : Nat) (TO : Addr) (f : Value × Nat → Option Fin × Unit → Sem (ForInStep (Option Fin × Unit)))
    (hf : ∀ (it : Addr) (k : Nat) (s : Shared) (Q : ForInStep (Option Fin × Unit) → Shared → Prop) (E : Value → Shared → Prop),
      wpAny (model prog w) A (Builtin.SmallTypes.nextOf (.ref it)) (fun v s' => ∃ arr, arr.size ≤ 40 ∧ s'.heap.get? TO = some (tupO arr) ∧ ∀ h', h'.get? TO = some (tupO (arr.setIfInBounds k v)) → Heap.SameBut TO s'.heap h' → Q (.yield (none, ())) { s' with heap := h' }) (fun _ _ => False) s →
      wpAny (model prog w) A (f (.ref it, k) (none, ())) Q E s) {Q : Option Fin × Unit → Shared → Prop} {E : Value → Shared → Prop} :
    ∀ (ps : List (Addr × Str)) (pre : List Value) (k : Nat) (arr : Array Value) (s : Shared), pre.length = k → arr.toList = pre ++ List.replicate ps.length Value.none → arr.size ≤ 40 → (ps.map (·.1)).Nodup → (∀ p ∈ ps, p.1 ≠ TO) → (∀ p ∈ ps, SAt p.1 p.2 i s.heap ∧ i < p.2.cps.size) →
    s.heap.get? TO = some (tupO arr) →
    (∀ vs h' tk, StrsAre vs (ps.map fun p => chr p.2 i) → (∀ p ∈ ps, SAt p.1 p.2 (i + 1) h') → (∀ b o, b ∉ ps.map (·.1) → b ≠ TO → s.heap.get? b = some o → h'.get? b = some o) → h'.objs.size = s.heap.objs.size →
      h'.get? TO = some (tupO (pre ++ vs).toArray) → Q (none, ()) { s with heap := h', toks := tk }) →
    wpAny (model prog w) A (forIn ((refs ps).zipIdx k) (none, ()) f) Q E s := by
  intro ps
  induction ps with
  | nil =>
    intro pre k arr s hk ha _ _ _ _ hT hQ
    rw [show refs [] = [] from rfl, List.zipIdx_nil, List.forIn_nil]
    refine wpAny_pure (hQ [] s.heap s.toks .nil (fun p hp => nomatch hp) (fun _ _ _ _ e => e) rfl ?_)
    rw [hT]
    have : arr = (pre ++ []).toArray := by rw [List.append_nil]; simpa using congrArg List.toArray ha
    rw [this]
  | cons p ps ih =>
    intro pre k arr s hk ha hz hnd hTO hS hT hQ
    rw [List.map_cons, List.nodup_cons] at hnd
    rw [show refs (p :: ps) = Value.ref p.1 :: refs ps from rfl, List.zipIdx_cons, List.forIn_cons]
    obtain ⟨Sp, hi⟩ := hS p (.head _)
    have hpT := hTO p (.head _)
    refine wpAny_bind (hf p.1 k s _ _ (sat_next Sp hi fun u h' tk S' sb => ?_))
    have hT' : h'.get? TO = some (tupO arr) := sb.extBut _ _ (Ne.symm hpT) hT
    refine ⟨arr, hz, hT', fun h2 hT2 sb2 => ?_⟩
    have ha2 : (arr.setIfInBounds k (.str (chr p.2 i) u)).toList = (pre ++ [.str (chr p.2 i) u]) ++ List.replicate ps.length Value.none := by
      rw [Array.toList_setIfInBounds, ha, List.length_cons, List.replicate_succ, ← hk, List.set_append_right _ _ (Nat.le_refl _)]
      simp
    refine ih (pre ++ [.str (chr p.2 i) u]) (k + 1) _ _ (by simp [hk]) ha2 (by simpa using hz) hnd.2 (fun q hq => hTO q (.tail _ hq))
      (fun q hq => ⟨(hS q (.tail _ hq)).1.at' fun o e => sb2.extBut _ _ (hTO q (.tail _ hq)) (sb.extBut _ _ (fun x => hnd.1 (x ▸ List.mem_map_of_mem hq)) e), (hS q (.tail _ hq)).2⟩) hT2 fun vs h3 tk3 hvs S3 k3 z3 hT3 => ?_
    refine hQ (.str (chr p.2 i) u :: vs) h3 tk3 (.cons _ _ hvs)
      (fun q hq => (List.mem_cons.mp hq).elim (fun e => e ▸ (S'.at' fun o e' => k3 _ _ hnd.1 hpT (sb2.extBut _ _ hpT e'))) (S3 q))
      (fun b o hb hbT e => k3 b o (fun x => hb (by rw [List.map_cons]; exact .tail _ x)) hbT (sb2.extBut b o hbT (sb.extBut b o (fun x => hb (by rw [x, List.map_cons]; exact .head _)) e))) (z3.trans (sb2.1.trans sb.1)) (by simpa using hT3)
end
end Mine
end

section
open PySem PySem.W PySem.Calls PyProof.Rows
set_option maxRecDepth 100000
namespace Mine
structure ZFix (L N0 z TI TO B : Addr) (ps : List (Addr × Str)) (news : List (Addr × Obj)) : Prop where
  nd : (ps.map (·.1)).Nodup
  lt : ∀ p ∈ ps, N0 ≤ p.1 ∧ p.1 < TI
  t1 : N0 ≤ TI
  t2 : TI < TO
  t3 : TO < z
  t4 : z < B
  low : L < N0
  old : ∀ p ∈ news, p.1 < N0
  len : ps.length ≤ 40
  pos : 0 < ps.length
structure ZSt (h₀ : Heap) (L : Addr) (m : Str → Option Value) (news : List (Addr × Obj)) (z TI TO B : Addr) (ps : List (Addr × Str)) (i : Nat) (tups : List (Addr × List Value)) (h : Heap) : Prop where
  fr : Fr h₀ L h m
  nw : News h₀ L h (tups.map (fun p => (p.1, tupO p.2.toArray)) ++ news)
  z : ∃ f0 f1, h.get? z = some (zipObj f0 f1 TI TO) ∧ ((tups = [] ∧ f0 = .none ∧ f1 = false) ∨ ∃ p ∈ tups, f0 = rawInt (p.1 : Nat))
  ti : h.get? TI = some (tupO (refs ps).toArray)
  to : ∃ arr, h.get? TO = some (tupO arr) ∧ (tups = [] → arr.toList = List.replicate ps.length .none)
  sat : ∀ p ∈ ps, SAt p.1 p.2 i h
  new : ∀ p ∈ tups, B < p.1
  top : B < h.objs.size
theorem fr_low {h₀ h h' : Heap} {L N0 : Addr} {m : Str → Option Value} (F : Fr h₀ L h m) (hL : L < N0) (k : ∀ b o, b < N0 → h.get? b = some o → h'.get? b = some o) : Fr h₀ L h' m := by
  obtain ⟨oL, a1, a2, hoL, a3⟩ := F.ns
  refine ⟨⟨oL, a1, a2, k _ _ hL hoL, a3⟩, fun b x e => k b x ?_ (F.keep b x e), F.above⟩
  have := Heap.lt_size e
  exact Nat.lt_trans (Nat.lt_of_lt_of_le this F.above) hL
theorem zfresh {h₀ h : Heap} {L b : Addr} {m : Str → Option Value} (F : Fr h₀ L h m) (hb : L < b) : b ≠ L ∧ h₀.get? b = none :=
  ⟨Nat.ne_of_gt hb, Heap.get?_none_of_le (Nat.le_trans F.above (Nat.le_of_lt hb))⟩
section
variable {prog : Program} {w : World} {A : Around} {E : Value → Shared → Prop} {s : Shared} {h₀ : Heap} {L N0 z TI TO B : Addr} {m : Str → Option Value} {news : List (Addr × Obj)} {ps : List (Addr × Str)} {i : Nat} {tups : List (Addr × List Value)}
theorem ps_ne {b : Addr} (X : ZFix L N0 z TI TO B ps news) (h : b < N0 ∨ TI ≤ b) : b ∉ ps.map (·.1) := fun hm => by
  obtain ⟨p, hp, rfl⟩ := List.mem_map.mp hm
  obtain ⟨a, c⟩ := X.lt p hp
  rcases h with h | h
  · exact Nat.lt_irrefl _ (Nat.lt_of_lt_of_le h a)
  · exact Nat.lt_irrefl _ (Nat.lt_of_lt_of_le c h)
/-- what a state of the zip keeps when its own parts alone change -/
theorem ZSt.step {T : Addr} {vs : List Value} {h h' : Heap} {f1 : Bool} {arr : Array Value} (X : ZFix L N0 z TI TO B ps news) (Z : ZSt h₀ L m news z TI TO B ps i tups h)
    (hz : h'.get? z = some (zipObj (rawInt T) f1 TI TO) ∨ (tups ≠ [] ∧ ∃ f0 f1, h'.get? z = some (zipObj f0 f1 TI TO) ∧ ∃ p ∈ tups, f0 = rawInt (p.1 : Nat)))
    (hTO : h'.get? TO = some (tupO arr)) (hS : ∀ p ∈ ps, SAt p.1 p.2 (i + 1) h') (hT : h'.get? T = some (tupO vs.toArray)) (hBT : B < T)
    (hk : ∀ b o, b ∉ ps.map (·.1) → b ≠ TO → b ≠ z → h.get? b = some o → h'.get? b = some o) (hsz : B < h'.objs.size) : ZSt h₀ L m news z TI TO B ps (i + 1) (tups ++ [(T, vs)]) h' := by
  have F' : Fr h₀ L h' m := fr_low Z.fr X.low fun b o hb e => hk b o (ps_ne X (.inl hb)) (Nat.ne_of_lt (Nat.lt_trans (Nat.lt_of_lt_of_le hb X.t1) X.t2)) (Nat.ne_of_lt (Nat.lt_trans (Nat.lt_trans (Nat.lt_of_lt_of_le hb X.t1) X.t2) X.t3)) e
  have up : ∀ b, N0 ≤ b → L < b := fun b hb => Nat.lt_of_lt_of_le X.low hb
  have zT : L < T := Nat.lt_trans (up z (Nat.le_trans X.t1 (Nat.le_of_lt (Nat.lt_trans X.t2 X.t3)))) (Nat.lt_trans X.t4 hBT)
  refine ⟨F', fun p hp => ?_, ?_, hk _ _ (ps_ne X (.inr (Nat.le_refl _))) (Nat.ne_of_lt X.t2) (Nat.ne_of_lt (Nat.lt_trans X.t2 X.t3)) Z.ti, ⟨arr, hTO, fun e => by simp at e⟩, hS, fun p hp => ?_, hsz⟩
  · rw [List.map_append, List.append_assoc] at hp
    rcases List.mem_append.mp hp with hp | hp
    · have q := Z.nw p (List.mem_append_left _ hp)
      obtain ⟨r, hr, rfl⟩ := List.mem_map.mp hp
      have hB := X.t4
      have hb : B < r.1 := Z.new r hr
      have z1 : z < r.1 := Nat.lt_trans X.t4 hb
      have z2 : TO < r.1 := Nat.lt_trans X.t3 z1
      exact ⟨hk _ _ (ps_ne X (.inr (Nat.le_of_lt (Nat.lt_trans X.t2 z2)))) (Nat.ne_of_gt z2) (Nat.ne_of_gt z1) q.1, q.2⟩
    · rcases List.mem_cons.mp hp with rfl | hp
      · exact ⟨hT, zfresh F' zT⟩
      · have q := Z.nw p (List.mem_append_right _ hp)
        have hb := X.old p hp
        exact ⟨hk _ _ (ps_ne X (.inl hb)) (Nat.ne_of_lt (Nat.lt_trans (Nat.lt_of_lt_of_le hb X.t1) X.t2)) (Nat.ne_of_lt (Nat.lt_trans (Nat.lt_trans (Nat.lt_of_lt_of_le hb X.t1) X.t2) X.t3)) q.1, q.2⟩
  · rcases hz with hz | ⟨_, f0, f1, hz, p, hp, e⟩
    · exact ⟨_, _, hz, .inr ⟨(T, vs), List.mem_append_right _ (.head _), rfl⟩⟩
    · exact ⟨_, _, hz, .inr ⟨p, List.mem_append_left _ hp, e⟩⟩
  · rcases List.mem_append.mp hp with hp | hp
    · exact Z.new p hp
    · rw [List.mem_singleton.mp hp]; exact hBT

theorem zip_first (X : ZFix L N0 z TI TO B ps news) (Z : ZSt h₀ L m news z TI TO B ps i [] s.heap) (hi : ∀ p ∈ ps, i < p.2.cps.size) {Q : Value → Shared → Prop}
    (hQ : ∀ T vs h' tk, ZSt h₀ L m news z TI TO B ps (i + 1) [(T, vs)] h' → StrsAre vs (ps.map fun p => chr p.2 i) → (∀ o, s.heap.get? B = some o → h'.get? B = some o) → Q (.ref T) { s with heap := h', toks := tk }) :
    wpAny (model prog w) A (Builtin.«zip.__next__» ⟨[.ref z], []⟩) (fun fin s' => ∃ v, fin = .done (.ret v) ∧ Q v s') E s := by
  obtain ⟨f0, f1, hz, hf⟩ := Z.z
  obtain ⟨rfl, rfl⟩ : f0 = .none ∧ f1 = false := by
    rcases hf with ⟨_, a, b⟩ | ⟨p, hp, _⟩
    · exact ⟨a, b⟩
    · cases hp
  obtain ⟨arr, hTO, harr⟩ := Z.to
  have ha := harr rfl
  have hasz : arr.size = ps.length := by have := congrArg List.length ha; simpa using this
  have hne : (refs ps).toArray.isEmpty = false := by
    have := X.pos
    cases ps with
    | nil => exact absurd this (Nat.lt_irrefl _)
    | cons p r => rfl
  show wpAny _ _ (field (.ref z) 2 >>= _) _ _ _
  refine wpAny_bind (wpAny_field hz rfl (x := .bool false) rfl ?_)
  show wpAny _ _ (field (.ref z) 3 >>= _) _ _ _
  refine wpAny_bind (wpAny_field hz rfl (x := .ref TI) rfl ?_)
  refine wpAny_bind (wpAny_seqItems Z.ti rfl ?_)
  dsimp only
  rw [hne]
  simp only [Bool.false_eq_true, if_false]
  show wpAny _ _ (Builtin.SmallTypes.ownedTupleIsFree (.ref z) >>= _) _ _ _
  refine wpAny_bind ?_
  unfold Builtin.SmallTypes.ownedTupleIsFree
  refine wpAny_bind (wpAny_field hz rfl (x := .none) rfl (wpAny_pure ?_))
  simp only [if_true]
  refine wpAny_bind (wpAny_rule ?_)
  refine wpAny_bind (wpAny_field hz rfl (x := .ref TO) rfl ?_)
  refine wpAny_bind (wpAny_setField_rec hz (by simp) fun h₁ hz₁ hs₁ => ?_)
  replace hz₁ : h₁.get? z = some (zipObj .ellipsis false TI TO) := hz₁
  have nz : ∀ p ∈ ps, p.1 ≠ z := fun p hp => Nat.ne_of_lt (Nat.lt_trans (X.lt p hp).2 (Nat.lt_trans X.t2 X.t3))
  have nTO : ∀ p ∈ ps, p.1 ≠ TO := fun p hp => Nat.ne_of_lt (Nat.lt_trans (X.lt p hp).2 X.t2)
  refine wpAny_bind ?_
  refine draw_own i TO _ (fun it k s' Q' E' hn => ?_) ps [] 0 arr _ rfl (by simpa using ha) (by rw [hasz]; exact X.len) X.nd nTO
    (fun p hp => ⟨(Z.sat p hp).at' fun o e => hs₁.extBut _ _ (nz p hp) e, hi p hp⟩) (hs₁.extBut _ _ (Nat.ne_of_lt X.t3) hTO) fun vs h₂ tk₂ hvs S₂ k₂ z₂ hTO₂ => ?_
  · dsimp only
    refine wpAny_bind (wpAny_onRaise ?_)
    show wpAny _ _ (Builtin.SmallTypes.nextOf (.ref it) >>= _) _ _ _
    refine wpAny_bind (wpAny_mono hn (fun v s'' h'' => wpAny_pure ?_) fun _ _ hF => hF.elim)
    obtain ⟨a2, hz2, ht2, fin⟩ := h''
    dsimp only
    refine wpAny_bind (wpAny_seqItems ht2 rfl ?_)
    dsimp only
    refine wpAny_bind (wpAny_updateSeq ht2 rfl ?_ (Nat.le_trans hz2 (by decide)) (by rw [Array.size_setIfInBounds]; exact Nat.le_trans hz2 (by decide)))
    refine wpAny_bind (wpAny_letGo (wpAny_pure (fin _ ?_ (Heap.SameBut.update ..))))
    rw [Heap.get?_update_self _ ht2 rfl]
    simp [Obj.mapSeq]
  · dsimp only
    have hvl : vs.length = ps.length := by rw [strs_len hvs, List.length_map]
    refine wpAny_bind (wpAny_seqItems hTO₂ rfl ?_)
    dsimp only
    rw [List.nil_append]
    refine wpAny_bind (wpAny_newTuple ?_ (by rw [hvl]; exact Nat.le_trans X.len (by decide)))
    have hz₂ : h₂.get? z = some (zipObj .ellipsis false TI TO) := k₂ _ _ (ps_ne X (.inr (Nat.le_of_lt (Nat.lt_trans X.t2 X.t3)))) (Nat.ne_of_gt X.t3) hz₁
    refine wpAny_bind ?_
    unfold Builtin.SmallTypes.ownedTupleHandOut
    have hz₆ : (h₂.push (tupO vs.toArray)).get? z = some (zipObj .ellipsis false TI TO) := Heap.get?_push_of_some _ hz₂
    refine wpAny_bind (wpAny_setField_rec hz₆ (by simp) fun h₇ hz₇ hs₇ => ?_)
    replace hz₇ : h₇.get? z = some (zipObj (rawInt (h₂.objs.size : Nat)) false TI TO) := hz₇
    refine wpAny_setField_rec hz₇ (by simp) fun h₈ hz₈ hs₈ => ?_
    replace hz₈ : h₈.get? z = some (zipObj (rawInt (h₂.objs.size : Nat)) false TI TO) := hz₈
    have hsz2 : h₂.objs.size = s.heap.objs.size := z₂.trans hs₁.1
    have hBs : B < h₂.objs.size := by rw [hsz2]; exact Z.top
    have up : ∀ b o, b ≠ z → h₂.get? b = some o → h₈.get? b = some o := fun b o hb e => hs₈.extBut _ _ hb (hs₇.extBut _ _ hb (Heap.get?_push_of_some _ e))
    have hzT : h₂.objs.size ≠ z := Nat.ne_of_gt (Nat.lt_trans X.t4 hBs)
    have hT₈ : h₈.get? h₂.objs.size = some (tupO vs.toArray) := hs₈.extBut _ _ hzT (hs₇.extBut _ _ hzT (Heap.get?_push_size _ rfl))
    have hsz8 : h₈.objs.size = h₂.objs.size + 1 := by rw [hs₈.1, hs₇.1, Heap.size_push]
    have keep : ∀ b o, b ∉ ps.map (·.1) → b ≠ TO → b ≠ z → s.heap.get? b = some o → h₈.get? b = some o := fun b o b1 b2 b3 e => up _ _ b3 (k₂ _ _ b1 b2 (hs₁.extBut _ _ b3 e))
    refine wpAny_pure ⟨_, rfl, hQ h₂.objs.size vs h₈ tk₂ ?_ hvs fun o e => keep _ _ (ps_ne X (.inr (Nat.le_of_lt (Nat.lt_trans X.t2 (Nat.lt_trans X.t3 X.t4))))) (Nat.ne_of_gt (Nat.lt_trans X.t3 X.t4)) (Nat.ne_of_gt X.t4) e⟩
    exact Z.step X (.inl hz₈) (up _ _ (Nat.ne_of_lt X.t3) hTO₂) (fun p hp => (S₂ p hp).at' fun o e => up _ _ (nz p hp) e) hT₈ hBs keep (by rw [hsz8]; exact Nat.lt_succ_of_lt hBs)

/-- the zip asks whether its kept tuple is free: it is not, once a tuple has been handed out -/
theorem zip_busy (X : ZFix L N0 z TI TO B ps news) (Z : ZSt h₀ L m news z TI TO B ps i tups s.heap) (hne : tups ≠ []) {Q : Bool → Shared → Prop}
    (hQ : ∀ h', ZSt h₀ L m news z TI TO B ps i tups h' → Heap.SameBut z s.heap h' → Q false { s with heap := h' }) : wpAny (model prog w) A (Builtin.SmallTypes.ownedTupleIsFree (.ref z)) Q E s := by
  obtain ⟨f0, f1, hz, hf⟩ := Z.z
  obtain ⟨p, hp, rfl⟩ : ∃ p ∈ tups, f0 = rawInt (p.1 : Nat) := by
    rcases hf with ⟨a, _⟩ | h
    · exact absurd a hne
    · exact h
  have hpo := (Z.nw (p.1, tupO p.2.toArray) (List.mem_append_left _ (List.mem_map.mpr ⟨p, hp, rfl⟩))).1
  unfold Builtin.SmallTypes.ownedTupleIsFree
  refine wpAny_bind (wpAny_field hz rfl (x := rawInt (p.1 : Nat)) rfl ?_)
  show wpAny _ _ (loadIfAlive ((p.1 : Nat) : Int).toNat >>= _) _ _ _
  refine wpAny_bind (wpAny_alive ?_)
  rw [Int.toNat_natCast, hpo]
  simp only [Option.isNone_some, Bool.false_eq_true, if_false]
  refine wpAny_bind (wpAny_field hz rfl (x := .bool f1) rfl ?_)
  cases f1 with
  | true =>
    exact wpAny_pure (hQ s.heap Z ⟨rfl, fun _ _ => rfl⟩)
  | false =>
    refine wpAny_bind (wpAny_setField_rec hz (by simp) fun h' hz' hs' => wpAny_pure (hQ h' ?_ hs'))
    replace hz' : h'.get? z = some (zipObj (rawInt (p.1 : Nat)) true TI TO) := hz'
    have k : ∀ b o, b ≠ z → s.heap.get? b = some o → h'.get? b = some o := fun b o hb e => hs'.extBut _ _ hb e
    have hzB := X.t4
    refine ⟨fr_low Z.fr X.low fun b o hb e => k b o (Nat.ne_of_lt (Nat.lt_trans (Nat.lt_trans (Nat.lt_of_lt_of_le hb X.t1) X.t2) X.t3)) e, fun q hq => ⟨k _ _ ?_ (Z.nw q hq).1, (Z.nw q hq).2⟩, ⟨_, _, hz', .inr ⟨p, hp, rfl⟩⟩,
      k _ _ (Nat.ne_of_lt (Nat.lt_trans X.t2 X.t3)) Z.ti, ?_, fun q hq => (Z.sat q hq).at' fun o e => k _ _ (Nat.ne_of_lt (Nat.lt_trans (X.lt q hq).2 (Nat.lt_trans X.t2 X.t3))) e, Z.new, by rw [hs'.1]; exact Z.top⟩
    · rcases List.mem_append.mp hq with hq | hq
      · obtain ⟨r, hr, rfl⟩ := List.mem_map.mp hq
        exact Nat.ne_of_gt (Nat.lt_trans X.t4 (Z.new r hr))
      · exact Nat.ne_of_lt (Nat.lt_trans (Nat.lt_trans (Nat.lt_of_lt_of_le (X.old q hq) X.t1) X.t2) X.t3)
    · obtain ⟨arr, hTO, ha⟩ := Z.to
      exact ⟨arr, k _ _ (Nat.ne_of_lt X.t3) hTO, ha⟩

theorem zip_more (hh : A.handled = none) (X : ZFix L N0 z TI TO B ps news) (Z : ZSt h₀ L m news z TI TO B ps i tups s.heap) (hne : tups ≠ []) {Q : Value → Shared → Prop}
    (hQ : (∀ p ∈ ps, i < p.2.cps.size) → ∀ T vs h' tk, ZSt h₀ L m news z TI TO B ps (i + 1) (tups ++ [(T, vs)]) h' → StrsAre vs (ps.map fun p => chr p.2 i) → (∀ o, s.heap.get? B = some o → h'.get? B = some o) → Q (.ref T) { s with heap := h', toks := tk })
    (hE : (∃ p ∈ ps, p.2.cps.size ≤ i) → ∀ h' tk e, Fr h₀ L h' m → News h₀ L h' (tups.map (fun p => (p.1, tupO p.2.toArray)) ++ news) → (∀ o, s.heap.get? B = some o → h'.get? B = some o) → (∃ o, h'.get? e = some o ∧ o.cls = .type "StopIteration") → E (.ref e) { s with heap := h', toks := tk }) :
    wpAny (model prog w) A (Builtin.«zip.__next__» ⟨[.ref z], []⟩) (fun fin s' => ∃ v, fin = .done (.ret v) ∧ Q v s') E s := by
  obtain ⟨f0, f1, hz, hf⟩ := Z.z
  have hne' : (refs ps).toArray.isEmpty = false := by
    have := X.pos
    cases ps with
    | nil => exact absurd this (Nat.lt_irrefl _)
    | cons p r => rfl
  show wpAny _ _ (field (.ref z) 2 >>= _) _ _ _
  refine wpAny_bind (wpAny_field hz rfl (x := .bool false) rfl ?_)
  show wpAny _ _ (field (.ref z) 3 >>= _) _ _ _
  refine wpAny_bind (wpAny_field hz rfl (x := .ref TI) rfl ?_)
  refine wpAny_bind (wpAny_seqItems Z.ti rfl ?_)
  dsimp only
  rw [hne']
  simp only [Bool.false_eq_true, if_false]
  show wpAny _ _ (Builtin.SmallTypes.ownedTupleIsFree (.ref z) >>= _) _ _ _
  refine wpAny_bind (zip_busy X Z hne fun h₁ Z₁ hs₁ => ?_)
  simp only [Bool.false_eq_true, if_false]
  rw [← Array.forIn_toList]
  refine wpAny_bind ?_
  have nz : ∀ p ∈ ps, p.1 ≠ z := fun p hp => Nat.ne_of_lt (Nat.lt_trans (X.lt p hp).2 (Nat.lt_trans X.t2 X.t3))
  have nB : B ∉ ps.map (·.1) := ps_ne X (.inr (Nat.le_of_lt (Nat.lt_trans X.t2 (Nat.lt_trans X.t3 X.t4))))
  obtain ⟨g0, g1, hz₁, hg⟩ := Z₁.z
  obtain ⟨arr, hTO, _⟩ := Z₁.to
  refine draw_all hh i _ (fun it acc s' Q' E' hn => ?_) ps #[] _ X.nd Z₁.sat (fun hall vs h₂ tk₂ hvs S₂ k₂ z₂ => ?_) (fun hex h₂ tk₂ e k₂ he => ?_)
  · dsimp only
    refine wpAny_bind (wpAny_holding ?_)
    show wpAny _ _ (Builtin.SmallTypes.nextOf (.ref it) >>= _) _ _ _
    exact wpAny_bind (wpAny_mono hn (fun v s'' h'' => wpAny_pure (wpAny_pure h'')) fun _ _ h => h)
  · dsimp only
    have hvl : vs.length = ps.length := by rw [strs_len hvs, List.length_map]
    rw [List.nil_append]
    refine wpAny_bind (wpAny_newTuple ?_ (by show vs.length ≤ _; rw [hvl]; exact Nat.le_trans X.len (by decide)))
    have hBs : B < h₂.objs.size := by rw [z₂]; exact Z₁.top
    have keep : ∀ b o, b ∉ ps.map (·.1) → h₁.get? b = some o → (h₂.push (tupO vs.toArray)).get? b = some o := fun b o b1 e => Heap.get?_push_of_some _ (k₂ _ _ b1 e)
    refine wpAny_pure ⟨_, rfl, hQ hall h₂.objs.size vs _ tk₂ ?_ hvs fun o e => keep _ _ nB (hs₁.extBut _ _ (Nat.ne_of_gt X.t4) e)⟩
    refine Z₁.step X (f1 := true) (arr := arr) (.inr ⟨hne, g0, g1, keep _ _ (ps_ne X (.inr (Nat.le_of_lt (Nat.lt_trans X.t2 X.t3)))) hz₁, ?_⟩) (keep _ _ (ps_ne X (.inr (Nat.le_of_lt X.t2))) hTO) (fun p hp => (S₂ p hp).at' fun o e => Heap.get?_push_of_some _ e)
      (Heap.get?_push_size _ rfl) hBs (fun b o b1 _ _ e => keep b o b1 e) (by rw [Heap.size_push]; exact Nat.lt_succ_of_lt hBs)
    · rcases hg with ⟨a, _⟩ | h
      · exact absurd a hne
      · exact h
  · refine hE hex h₂ tk₂ e (fr_low Z₁.fr X.low fun b o hb e => k₂ _ _ (ps_ne X (.inl hb)) e) (fun q hq => ⟨k₂ _ _ ?_ (Z₁.nw q hq).1, (Z₁.nw q hq).2⟩) (fun o e => k₂ _ _ nB (hs₁.extBut _ _ (Nat.ne_of_gt X.t4) e)) he
    rcases List.mem_append.mp hq with hq | hq
    · obtain ⟨r, hr, rfl⟩ := List.mem_map.mp hq
      exact ps_ne X (.inr (Nat.le_of_lt (Nat.lt_trans X.t2 (Nat.lt_trans X.t3 (Nat.lt_trans X.t4 (Z₁.new r hr))))))
    · exact ps_ne X (.inl (X.old q hq))
end
end Mine
end

section
open PySem PySem.W PySem.Calls PyProof.Rows
set_option maxRecDepth 100000
namespace Mine
theorem zip_no_len : typeLookup (.type "zip") "__len__" = pure none := by rw [typeLookup_type, builtinLookup_eq_fast]; kernel_rfl
theorem zip_no_hint : typeLookup (.type "zip") "__length_hint__" = pure none := by rw [typeLookup_type, builtinLookup_eq_fast]; kernel_rfl
theorem zip_typeCall (vs : List Value) : checkTypeCall "zip" ⟨vs, []⟩ = pure () := by kernel_rfl
theorem zip_newCall (vs : List Value) (h : vs.length ≤ 6) : checkBuiltinCall "zip.__new__" ⟨.type "zip" :: vs, []⟩ = pure () := by
  match vs, h with
  | [], _ => kernel_rfl
  | [_], _ => kernel_rfl
  | [_, _], _ => kernel_rfl
  | [_, _, _], _ => kernel_rfl
  | [_, _, _, _], _ => kernel_rfl
  | [_, _, _, _, _], _ => kernel_rfl
  | [_, _, _, _, _, _], _ => kernel_rfl
  | _ :: _ :: _ :: _ :: _ :: _ :: _ :: _, h => simp at h
theorem zip_initArgs (obj : Value) (vs : List Value) (h : vs.length ≤ 6) : argsOk "object.__init__" ⟨obj :: vs, []⟩ := by
  unfold argsOk
  rw [signature?_of (id := "object.__init__") (n := ['_', '_', 't', 'i', 'n', 'i', '_', '_']) (o := ['t', 'c', 'e', 'j', 'b', 'o']) (by kernel_rfl) PySem.F.owner_object]
  match vs, h with
  | [], _ => kernel_rfl
  | [_], _ => kernel_rfl
  | [_, _], _ => kernel_rfl
  | [_, _, _], _ => kernel_rfl
  | [_, _, _, _], _ => kernel_rfl
  | [_, _, _, _, _], _ => kernel_rfl
  | [_, _, _, _, _, _], _ => kernel_rfl
  | _ :: _ :: _ :: _ :: _ :: _ :: _ :: _, h => simp at h
theorem zip_newClass (vs : List Value) : Builtin.SmallTypes.newClass "zip" ⟨.type "zip" :: vs, []⟩ = pure (.type "zip", vs) := by
  unfold Builtin.SmallTypes.newClass
  simp only [show isType (.type "zip") = pure true from rfl, sub_zip]
  rfl
section
variable {prog : Program} {w : World} {A : Around} {E : Value → Shared → Prop} {s : Shared} {h₀ : Heap} {L N0 z TI TO B : Addr} {m : Str → Option Value} {news : List (Addr × Obj)} {ps : List (Addr × Str)} {i : Nat} {tups : List (Addr × List Value)}
theorem iter_all {vs : List Value} {xs : List Str} (hx : StrsAre vs xs) (f : Value → Array Value → Sem (ForInStep (Array Value)))
    (hf : ∀ (v : Value) (acc : Array Value) (s : Shared) (Q : ForInStep (Array Value) → Shared → Prop) (E : Value → Shared → Prop),
      wpAny (model prog w) A (pyIter v) (fun it s' => Q (.yield (acc.push it)) s') E s → wpAny (model prog w) A (f v acc) Q E s) {Q : Array Value → Shared → Prop} {E : Value → Shared → Prop} :
    ∀ (acc : Array Value) (s : Shared),
    (∀ ps h', ps.map (·.2) = xs → (ps.map (·.1)).Nodup → (∀ p ∈ ps, s.heap.objs.size ≤ p.1 ∧ p.1 < s.heap.objs.size + xs.length) → (∀ p ∈ ps, SAt p.1 p.2 0 h') → h'.objs.size = s.heap.objs.size + xs.length →
      (∀ b o, s.heap.get? b = some o → h'.get? b = some o) → Q (acc.toList ++ refs ps).toArray { s with heap := h' }) →
    wpAny (model prog w) A (forIn vs acc f) Q E s := by
  induction hx with
  | nil =>
    intro acc s hQ
    rw [List.forIn_nil]
    have := hQ [] s.heap rfl (by simp) (fun p hp => nomatch hp) (fun p hp => nomatch hp) rfl (fun _ _ e => e)
    exact wpAny_pure (by simpa [refs] using this)
  | cons x t r ih =>
    rename_i vs' ys'
    intro acc s hQ
    rw [List.forIn_cons]
    refine wpAny_bind (hf _ acc s _ _ (sat_iter fun o So => ?_))
    have z1 : (s.heap.push o).objs.size = s.heap.objs.size + 1 := Heap.size_push ..
    refine ih (acc.push _) _ fun ps h' e1 e2 e3 e4 e5 e6 => ?_
    have e3' : ∀ p ∈ ps, s.heap.objs.size + 1 ≤ p.1 ∧ p.1 < s.heap.objs.size + 1 + ys'.length := fun p hp => by have := e3 p hp; rw [z1] at this; exact this
    have e5' : h'.objs.size = s.heap.objs.size + 1 + ys'.length := by rw [e5, z1]
    have := hQ ((s.heap.objs.size, x) :: ps) h' (by rw [List.map_cons, e1]) (by
        rw [List.map_cons, List.nodup_cons]
        refine ⟨fun hm => ?_, e2⟩
        obtain ⟨q, hq, e⟩ := List.mem_map.mp hm
        have := (e3' q hq).1
        have e' : q.1 = s.heap.objs.size := e
        rw [e'] at this
        exact Nat.lt_irrefl _ this)
      (fun p hp => by
        rcases List.mem_cons.mp hp with rfl | hp
        · exact ⟨Nat.le_refl _, by rw [List.length_cons]; exact Nat.lt_add_of_pos_right (Nat.succ_pos _)⟩
        · obtain ⟨a, b⟩ := e3' p hp
          refine ⟨Nat.le_of_succ_le a, ?_⟩
          rw [List.length_cons, Nat.add_comm _ 1, ← Nat.add_assoc]; exact b)
      (fun p hp => by
        rcases List.mem_cons.mp hp with rfl | hp
        · exact So.at' fun o e => e6 _ _ e
        · exact e4 p hp)
      (by rw [List.length_cons, e5']; exact Nat.add_right_comm ..) (fun b o e => e6 _ _ (Heap.get?_push_of_some _ e))
    simpa [refs] using this

theorem meets_zip (vs : List Value) (xs : List Str) (hx : StrsAre vs xs) (hn : xs.length ≤ 40) :
    Meets (Builtin.«zip.__new__» ⟨.type "zip" :: vs, []⟩) (fun _ R s =>
      ∀ ps h', ps.map (·.2) = xs → (ps.map (·.1)).Nodup → (∀ p ∈ ps, s.heap.objs.size ≤ p.1 ∧ p.1 < s.heap.objs.size + xs.length) → (∀ p ∈ ps, SAt p.1 p.2 0 h') → h'.objs.size = s.heap.objs.size + xs.length + 3 →
        (∀ b o, s.heap.get? b = some o → h'.get? b = some o) → h'.get? (s.heap.objs.size + xs.length) = some (tupO (refs ps).toArray) → h'.get? (s.heap.objs.size + xs.length + 1) = some (tupO (List.replicate ps.length Value.none).toArray) →
        h'.get? (s.heap.objs.size + xs.length + 2) = some (zipObj .none false (s.heap.objs.size + xs.length) (s.heap.objs.size + xs.length + 1)) →
        R (.ok (.ret (.ref (s.heap.objs.size + xs.length + 2)))) { s with heap := h' }) :=
  .of_wp fun prog w A R s h => by
    unfold Builtin.«zip.__new__»
    rw [zip_newClass]
    refine wpAny_bind (wpAny_pure ?_)
    dsimp only
    show wpAny _ _ (Builtin.SmallTypes.iterAll vs >>= _) _ _ _
    refine wpAny_bind ?_
    unfold Builtin.SmallTypes.iterAll
    refine wpAny_bind (iter_all hx _ (fun v acc s Q E hp => wpAny_bind (wpAny_holding (wpAny_mono hp (fun it s' h => wpAny_pure h) fun _ _ h => h))) #[] s fun ps h' e1 e2 e3 e4 e5 e6 => wpAny_pure ?_)
    have hpl : ps.length = xs.length := by rw [← e1, List.length_map]
    have hrl : (refs ps).length = xs.length := by unfold refs; rw [List.length_map, hpl]
    rw [List.nil_append, List.toList_toArray]
    refine wpAny_bind (wpAny_newTuple ?_ (by rw [hrl]; exact Nat.le_trans hn (by decide)))
    refine wpAny_bind (wpAny_newTuple ?_ (by rw [List.length_map, hrl]; exact Nat.le_trans hn (by decide)))
    refine wpAny_bind ?_
    unfold Builtin.SmallTypes.newRecord
    dsimp only
    refine wpAny_newObj_type (hd := show 5 ≤ sizeLine + 2 by decide) ?_
    refine wpAny_pure ⟨_, rfl, ?_⟩
    have e5' : h'.objs.size = s.heap.objs.size + xs.length := e5
    generalize hh2 : h'.push { cls := .type "tuple", data := .seq (refs ps).toArray } = g2
    have z2 : g2.objs.size = s.heap.objs.size + xs.length + 1 := by rw [← hh2, Heap.size_push, e5']
    have m1 : (refs ps).map (fun _ => Value.none) = List.replicate ps.length Value.none := by
      unfold refs
      rw [List.map_map]
      exact List.map_const' ..
    rw [m1]
    generalize hh3 : g2.push { cls := .type "tuple", data := .seq (List.replicate ps.length Value.none).toArray } = g3
    have z3 : g3.objs.size = s.heap.objs.size + xs.length + 2 := by rw [← hh3, Heap.size_push, z2]
    have t1 : g2.get? (s.heap.objs.size + xs.length) = some (tupO (refs ps).toArray) := by rw [← hh2, ← e5']; exact Heap.get?_push_size _ rfl
    have t2 : g3.get? (s.heap.objs.size + xs.length + 1) = some (tupO (List.replicate ps.length Value.none).toArray) := by rw [← hh3, ← z2]; exact Heap.get?_push_size _ rfl
    have up2 : ∀ b o, h'.get? b = some o → g2.get? b = some o := fun b o e => by rw [← hh2]; exact Heap.get?_push_of_some _ e
    have up3 : ∀ b o, g2.get? b = some o → g3.get? b = some o := fun b o e => by rw [← hh3]; exact Heap.get?_push_of_some _ e
    have z : (g3.push (zipObj .none false (s.heap.objs.size + xs.length) (s.heap.objs.size + xs.length + 1))).objs.size = s.heap.objs.size + xs.length + 3 := by rw [Heap.size_push, z3]
    have up4 : ∀ b o, g3.get? b = some o → (g3.push (zipObj .none false (s.heap.objs.size + xs.length) (s.heap.objs.size + xs.length + 1))).get? b = some o := fun b o e => Heap.get?_push_of_some _ e
    have := h ps (g3.push (zipObj .none false (s.heap.objs.size + xs.length) (s.heap.objs.size + xs.length + 1))) e1 e2 e3
      (fun p hp => (e4 p hp).at' fun o e => up4 _ _ (up3 _ _ (up2 _ _ e))) z (fun b o e => up4 _ _ (up3 _ _ (up2 _ _ (e6 _ _ e)))) (up4 _ _ (up3 _ _ t1)) (up4 _ _ t2) (by rw [← z3]; exact Heap.get?_push_size _ rfl)
    show R (.ok (.ret (.ref g3.objs.size))) { s with heap := g3.push { cls := .type "zip", data := .fields #[.none, .bool false, .bool false, .ref h'.objs.size, .ref g2.objs.size] } }
    rw [z3, e5', z2]
    exact this
end
end Mine
end

section
open PySem PySem.W PySem.Calls PyProof.Rows
set_option maxRecDepth 100000
namespace Mine
/-- a zip over texts that has not been drawn from -/
def ZStart (h₀ : Heap) (L : Addr) (m : Str → Option Value) (news : List (Addr × Obj)) (xs : List Str) (z : Addr) (h : Heap) : Prop :=
  ∃ N0 TI TO ps, ZFix L N0 z TI TO h.objs.size ps news ∧ ps.map (·.2) = xs ∧ h.get? z = some (zipObj .none false TI TO) ∧ h.get? TI = some (tupO (refs ps).toArray) ∧
    h.get? TO = some (tupO (List.replicate ps.length Value.none).toArray) ∧ (∀ p ∈ ps, SAt p.1 p.2 0 h) ∧ Fr h₀ L h m ∧ News h₀ L h news
section
variable {prog : Program} {w : World} {A : Around} {E : Value → Shared → Prop} {s : Shared} {h₀ : Heap} {L N0 z TI TO B : Addr} {m : Str → Option Value} {news : List (Addr × Obj)} {ps : List (Addr × Str)} {i : Nat} {tups : List (Addr × List Value)}
theorem call_zip {vs : List Value} {xs : List Str} (F : Fr h₀ L s.heap m) (N : News h₀ L s.heap news) (hx : StrsAre vs xs) (hn : xs.length ≤ 6) (hp : 0 < xs.length) {Q : Value → Shared → Prop}
    (hQ : ∀ z h', ZStart h₀ L m news xs z h' → Fr h₀ L h' m → News h₀ L h' news → Q (.ref z) { s with heap := h' }) : wpAny (model prog w) A (call (.type "zip") vs) Q E s := by
  have hvl : vs.length ≤ 6 := by rw [strs_len hx]; exact hn
  refine callType_new PySem.F.called_zip (by decide) (zip_typeCall _) (zip_newCall _ hvl) (fun obj => zip_initArgs obj _ hvl) PySem.F.entry_zip_new (meets_zip vs xs hx (Nat.le_trans hn (by decide))) ?_
  intro ps h' e1 e2 e3 e4 e5 e6 t1 t2 t3
  have F' := F.keeps e6
  have N' := N.grown e6
  have hl : ps.length = xs.length := by rw [← e1, List.length_map]
  refine ⟨⟨_, t3, rfl⟩, hQ _ h' ⟨s.heap.objs.size, _, _, ps, ⟨e2, e3, Nat.le_add_right _ _, Nat.lt_succ_self _, Nat.lt_succ_self _, ?_, F.ns.lt, fun p hp => Heap.lt_size (N p hp).1, ?_, ?_⟩, e1, t3, t1, t2, e4, F', N'⟩ F' N'⟩
  · rw [e5]; exact Nat.lt_succ_self _
  · rw [hl]; exact Nat.le_trans hn (by decide)
  · rw [hl]; exact hp

theorem ZSt.frameB {h h' : Heap} (X : ZFix L N0 z TI TO B ps news) (Z : ZSt h₀ L m news z TI TO B ps i tups h) (k : Heap.SameBut B h h') : ZSt h₀ L m news z TI TO B ps i tups h' := by
  have zB := X.t4
  have tB := Nat.lt_trans X.t3 zB
  have iB := Nat.lt_trans X.t2 tB
  have up : ∀ b o, b ≠ B → h.get? b = some o → h'.get? b = some o := fun b o hb e => k.extBut _ _ hb e
  obtain ⟨f0, f1, hz, hf⟩ := Z.z
  obtain ⟨arr, hTO, ha⟩ := Z.to
  refine ⟨fr_low Z.fr X.low fun b o hb e => up b o (Nat.ne_of_lt (Nat.lt_trans (Nat.lt_of_lt_of_le hb X.t1) iB)) e, fun q hq => ⟨up _ _ ?_ (Z.nw q hq).1, (Z.nw q hq).2⟩, ⟨f0, f1, up _ _ (Nat.ne_of_lt zB) hz, hf⟩,
    up _ _ (Nat.ne_of_lt iB) Z.ti, ⟨arr, up _ _ (Nat.ne_of_lt tB) hTO, ha⟩, fun q hq => (Z.sat q hq).at' fun o e => up _ _ (Nat.ne_of_lt (Nat.lt_trans (X.lt q hq).2 iB)) e, Z.new, by rw [k.1]; exact Z.top⟩
  rcases List.mem_append.mp hq with hq | hq
  · obtain ⟨r, hr, rfl⟩ := List.mem_map.mp hq
    exact Nat.ne_of_gt (Z.new r hr)
  · exact Nat.ne_of_lt (Nat.lt_trans (Nat.lt_of_lt_of_le (X.old q hq) X.t1) iB)

theorem zip_pyNext (hh : A.handled = none) (X : ZFix L N0 z TI TO B ps news) (Z : ZSt h₀ L m news z TI TO B ps i tups s.heap) (h0 : tups = [] → ∀ p ∈ ps, i < p.2.cps.size) {Q : Option Value → Shared → Prop}
    (hQ : (∀ p ∈ ps, i < p.2.cps.size) → ∀ T vs h' tk, ZSt h₀ L m news z TI TO B ps (i + 1) (tups ++ [(T, vs)]) h' → StrsAre vs (ps.map fun p => chr p.2 i) → (∀ o, s.heap.get? B = some o → h'.get? B = some o) → Q (some (.ref T)) { s with heap := h', toks := tk })
    (hN : (∃ p ∈ ps, p.2.cps.size ≤ i) → ∀ h' tk, Fr h₀ L h' m → News h₀ L h' (tups.map (fun p => (p.1, tupO p.2.toArray)) ++ news) → (∀ o, s.heap.get? B = some o → h'.get? B = some o) → Q none { s with heap := h', toks := tk }) :
    wpAny (model prog w) A (pyNext (.ref z)) Q E s := by
  obtain ⟨f0, f1, hz, hf⟩ := Z.z
  have hT : s.TypeIs (.ref z) "zip" := ⟨_, hz, rfl⟩
  unfold pyNext
  refine wpAny_bind (wpAny_attempt (wpAny_callSpecial?_slot (name := Str.ofString "__next__") hT PySem.F.slot_zip_next (wpAny_call_entry PySem.F.slot_zip_next hT PySem.F.entry_zip_next ?_ (PySem.F.args_zip_next_1 _))))
  by_cases hne : tups = []
  · subst hne
    refine zip_first X Z (h0 rfl) fun T vs h' tk Z' hv k => ?_
    exact wpAny_pure (hQ (h0 rfl) T vs h' tk Z' hv k)
  · refine zip_more (A := A.in1) hh X Z hne (fun hall T vs h' tk Z' hv k => ?_) fun hex h' tk e F' N' k he => ?_
    · exact wpAny_pure (hQ hall T vs h' tk Z' hv k)
    obtain ⟨o, ho, hc⟩ := he
    refine wpAny_bind (wpAny_isInstance (T := "StopIteration") (b := true) ⟨o, ho, hc⟩ isSubtype_stop ?_)
    exact wpAny_pure (hN hex h' tk F' N' k)

abbrev refsT (tups : List (Addr × List Value)) : List Value := tups.map fun p => Value.ref p.1
abbrev listO (its : Array Value) (c : Nat) : Obj := { cls := .type "list", data := .seq its c }
theorem zip_ext_loop (hh : A.handled = none) (X : ZFix L N0 z TI TO B ps news) (K : Nat) (hK : K ≤ 1000) (hlo : ∀ p ∈ ps, K ≤ p.2.cps.size) (hhi : ∃ p ∈ ps, p.2.cps.size ≤ K) (hpos : 0 < K) (hBL : L < B) (res : Value) {R : Result → Shared → Prop} :
    ∀ (k i : Nat) (tups : List (Addr × List Value)) (s : Shared) (c : Nat), K - i = k → i ≤ K → tups.length = i → (∀ j p, tups[j]? = some p → StrsAre p.2 (ps.map fun q => chr q.2 j)) → ZSt h₀ L m news z TI TO B ps i tups s.heap →
    s.heap.get? B = some (listO (refsT tups).toArray c) →
    (∀ (tups : List (Addr × List Value)) h' tk c, tups.length = K → (∀ j p, tups[j]? = some p → StrsAre p.2 (ps.map fun q => chr q.2 j)) → (∀ p ∈ tups, B < p.1) → Fr h₀ L h' m → News h₀ L h' (tups.map (fun p => (p.1, tupO p.2.toArray)) ++ news) →
      h'.get? B = some (listO (refsT tups).toArray c) → R (.ok (.ret res)) { s with heap := h', toks := tk }) →
    codeAny (model prog w) A (.builtin "list.extend.loop" ⟨[.ref B, .ref z, res], []⟩) R s := by
  intro k
  induction k with
  | zero =>
    intro i tups s c hk hi htl htu Z hS hR
    have hin : i = K := by omega
    subst hin
    refine codeAny_builtin PySem.F.entry_extend_loop ?_
    rw [Around.under_plainId PySem.F.plain_extend_loop _]
    show wpAny _ A.in1 (pyNext (.ref z) >>= _) _ _ s
    refine wpAny_bind (zip_pyNext (A := A.in1) hh X Z (fun e => by rw [e] at htl; simp at htl; omega) (fun hall => ?_) fun _ h' tk F' N' kB => ?_)
    · obtain ⟨p, hp, hs⟩ := hhi
      exact absurd (hall p hp) (by omega)
    · exact wpAny_pure (hR tups h' tk c htl htu Z.new F' N' (kB _ hS))
  | succ k ih =>
    intro i tups s c hk hi htl htu Z hS hR
    have hlt : i < K := by omega
    refine codeAny_builtin PySem.F.entry_extend_loop ?_
    rw [Around.under_plainId PySem.F.plain_extend_loop _]
    show wpAny _ A.in1 (pyNext (.ref z) >>= _) _ _ s
    refine wpAny_bind (zip_pyNext (A := A.in1) hh X Z (fun _ p hp => Nat.lt_of_lt_of_le hlt (hlo p hp)) (fun _ T vs h' tk Z' hv kB => ?_) fun hex => ?_)
    · have hS' := kB _ hS
      show wpAny _ A.in1 (updateSeq B (·.push (.ref T)) >>= _) _ _ _
      refine wpAny_bind ?_
      have hsz : (refsT tups).toArray.size = i := by rw [List.size_toArray, List.length_map, htl]
      have e1 : ((refsT tups).toArray.push (.ref T)) = (refsT (tups ++ [(T, vs)])).toArray := by simp [refsT]
      refine wpAny_updateSeq hS' rfl (wpAny_pure ⟨plainId_quiet PySem.F.plain_extend_loop _, ih (i + 1) (tups ++ [(T, vs)]) _ _ (by omega) hlt (by rw [List.length_append, htl]; rfl) (fun j p hj => ?_) (Z'.frameB X (Heap.SameBut.update ..)) (by rw [← e1]; exact Heap.get?_update_self _ hS' rfl) fun tups' h'' tk' c' a1 a2 a3 a4 a5 a6 => hR tups' h'' tk' c' a1 a2 a3 a4 a5 a6⟩)
        (by rw [hsz]; exact Nat.le_trans (by omega) (show 1000 ≤ sizeLine by decide)) (by show ((refsT tups).toArray.push _).size ≤ sizeLine + 1; rw [Array.size_push, hsz]; exact Nat.le_trans (by omega) (show 1000 ≤ sizeLine + 1 by decide))
      rw [List.getElem?_append] at hj
      split at hj
      · exact htu j p hj
      · have : j = i := by
          have := (List.getElem?_eq_some_iff.mp hj).1
          rw [List.length_singleton] at this
          omega
        subst this
        rw [htl, Nat.sub_self] at hj
        cases hj
        exact hv
    · exfalso
      obtain ⟨p, hp, hs⟩ := hex
      exact absurd (hlo p hp) (by omega)

theorem ext_zip (hh : A.handled = none) (X : ZFix L N0 z TI TO B ps news) (K : Nat) (hK : K ≤ 1000) (hlo : ∀ p ∈ ps, K ≤ p.2.cps.size) (hhi : ∃ p ∈ ps, p.2.cps.size ≤ K) (hpos : 0 < K) (hBL : L < B) (res : Value) {R : Result → Shared → Prop} {c : Nat}
    (Z : ZSt h₀ L m news z TI TO B ps 0 [] s.heap) (hS : s.heap.get? B = some (listO #[] c))
    (hR : ∀ (tups : List (Addr × List Value)) h' tk c, tups.length = K → (∀ j p, tups[j]? = some p → StrsAre p.2 (ps.map fun q => chr q.2 j)) → (∀ p ∈ tups, B < p.1) → Fr h₀ L h' m → News h₀ L h' (tups.map (fun p => (p.1, tupO p.2.toArray)) ++ news) →
      h'.get? B = some (listO (refsT tups).toArray c) → R (.ok (.ret res)) { s with heap := h', toks := tk }) :
    wpAny (model prog w) A.in1 (Builtin.List.listExtendWith (.ref B) (.ref z) res)
      (fun fin s' => match fin with | .done f => R (.ok f) s' | .again c' => c'.quiet = true ∧ codeAny (model prog w) A c' R s') (fun e s' => R (.error e) s') s := by
  obtain ⟨f0, f1, hz, hf⟩ := Z.z
  obtain ⟨rfl, rfl⟩ : f0 = .none ∧ f1 = false := by
    rcases hf with ⟨_, a, b⟩ | ⟨p, hp, _⟩
    · exact ⟨a, b⟩
    · cases hp
  have hT : s.TypeIs (.ref z) "zip" := ⟨_, hz, rfl⟩
  have hSI : B ≠ z := Nat.ne_of_gt X.t4
  unfold Builtin.List.listExtendWith
  refine wpAny_bind (wpAny_typeOf hT ?_)
  have h1 : Builtin.List.listSameRef (.ref B) (.ref z) = false := by simp [Builtin.List.listSameRef, hSI]
  have h2 : (Value.type "zip" == Value.type "list") = false := by decide
  have h3 : (Value.type "zip" == Value.type "tuple") = false := by decide
  simp only [h1, h2, h3, Bool.or_false, Bool.false_eq_true, if_false]
  refine wpAny_bind (wpAny_pyIter_zip hz ?_)
  refine wpAny_bind (wpAny_holding ?_)
  unfold Builtin.List.listLengthHint
  refine wpAny_bind (wpAny_specialOf hT zip_no_len ?_)
  show wpAny _ A.in1 (specialOf (Value.ref z) (Str.ofString "__length_hint__") >>= _) _ _ _
  refine wpAny_bind (wpAny_specialOf hT zip_no_hint ?_)
  refine wpAny_pure ?_
  show wpAny _ A.in1 (rule "list.extend.makes-room" >>= fun _ => Builtin.List.listTouch (.ref B) >>= fun _ =>
    again (.builtin "list.extend.loop" ⟨[.ref B, .ref z, res], []⟩)) _ _ _
  refine wpAny_bind (wpAny_rule ?_)
  refine wpAny_bind ?_
  show wpAny _ A.in1 (updateSeq B (·.push .none) >>= fun _ => updateSeq B (·.pop)) _ _ _
  refine wpAny_bind (wpAny_updateSeq hS rfl ?_)
  have hS₂ := Heap.get?_update_self (Obj.mapSeq (·.push Value.none)) hS rfl
  refine wpAny_updateSeq (hz := by seq_fits) hS₂ rfl ?_
  have hS₃ := Heap.get?_update_self (Obj.mapSeq (·.pop)) hS₂ rfl
  refine wpAny_pure ⟨plainId_quiet PySem.F.plain_extend_loop _, zip_ext_loop hh X K hK hlo hhi hpos hBL res K 0 [] _ _ (by omega) (Nat.zero_le _) rfl (fun j p h => by simp at h) ((Z.frameB X (Heap.SameBut.update ..)).frameB X (Heap.SameBut.update ..)) hS₃ hR⟩

theorem list_zip (hh : A.handled = none) {xs : List Str} (Zs : ZStart h₀ L m news xs z s.heap) (K : Nat) (hK : K ≤ 1000) (hlo : ∀ x ∈ xs, K ≤ x.cps.size) (hhi : ∃ x ∈ xs, x.cps.size ≤ K) (hpos : 0 < K) {Q : Value → Shared → Prop}
    (hQ : ∀ S (tups : List (Addr × List Value)) h' tk c, tups.length = K → (∀ j p, tups[j]? = some p → StrsAre p.2 (xs.map fun x => chr x j)) → (∀ p ∈ tups, S < p.1) → (∀ p ∈ news, p.1 < S) → Fr h₀ L h' m →
      News h₀ L h' ((S, listO (refsT tups).toArray c) :: (tups.map (fun p => (p.1, tupO p.2.toArray)) ++ news)) → Q (.ref S) { s with heap := h', toks := tk }) :
    wpAny (model prog w) A (call (.type "list") [.ref z]) Q E s := by
  obtain ⟨N0, TI, TO, ps, X, e1, hz, hTI, hTO, hS, F, N⟩ := Zs
  refine callType_codes (Q₁ := fun obj s₁ => obj = .ref s.heap.objs.size ∧ s₁ = { s with heap := s.heap.push { cls := .type "list", data := .seq #[] } }) PySem.F.called_list (PySem.F.typeCall_list_1 _) PySem.F.entry_list_init
    (code_list_new _ ⟨rfl, rfl⟩) fun obj s₁ h₁ => ?_
  obtain ⟨rfl, rfl⟩ := h₁
  have hS0 : (s.heap.push { cls := .type "list", data := .seq #[] }).get? s.heap.objs.size = some { cls := .type "list", data := .seq #[] } := Heap.get?_push_size _ rfl
  refine ⟨⟨_, hS0, rfl⟩, PySem.F.args_list_init_2 _ _, ?_⟩
  have up : ∀ b o, s.heap.get? b = some o → (s.heap.push { cls := .type "list", data := .seq #[] }).get? b = some o := fun b o e => Heap.get?_push_of_some _ e
  have Z0 : ZSt h₀ L m news z TI TO s.heap.objs.size ps 0 [] (s.heap.push { cls := .type "list", data := .seq #[] }) :=
    ⟨F.keeps up, by simpa using N.grown up, ⟨_, _, up _ _ hz, .inl ⟨rfl, rfl, rfl⟩⟩, up _ _ hTI, ⟨_, up _ _ hTO, fun _ => by simp⟩, fun p hp => (hS p hp).at' fun o e => up _ _ e, (fun p hp => nomatch hp), by rw [Heap.size_push]; exact Nat.lt_succ_self _⟩
  have hL : L < s.heap.objs.size := F.ns.lt
  show wpAny _ A.in1.in1 (do let old ← Builtin.List.listItems (.ref s.heap.objs.size); Builtin.List.listUpdate (.ref s.heap.objs.size) (fun _ => #[]); letGo old.toList.reverse; Builtin.List.listExtendWith (.ref s.heap.objs.size) (.ref z) .none) _ _ _
  refine wpAny_bind ?_
  unfold Builtin.List.listItems
  refine wpAny_bind (wpAny_seqItems hS0 rfl (wpAny_pure ?_))
  show wpAny _ A.in1.in1 (updateSeq s.heap.objs.size (fun _ => #[]) >>= fun _ => letGo (#[] : Array Value).toList.reverse >>= fun _ => Builtin.List.listExtendWith (.ref s.heap.objs.size) (.ref z) .none) _ _ _
  refine wpAny_bind (wpAny_updateSeq hS0 rfl ?_)
  have hS₂ := Heap.get?_update_self (Obj.mapSeq (fun _ => (#[] : Array Value))) hS0 rfl
  refine wpAny_bind (wpAny_letGo ?_)
  have hpl : ∀ p ∈ ps, p.2 ∈ xs := fun p hp => e1 ▸ List.mem_map_of_mem hp
  refine ext_zip (A := A.in1) hh X K hK (fun p hp => hlo _ (hpl p hp)) ?_ hpos hL .none (Z0.frameB X (Heap.SameBut.update ..)) hS₂ fun tups h' tk c a1 a2 a3 a4 a5 a6 => ?_
  · obtain ⟨x, hx, hs⟩ := hhi
    rw [← e1] at hx
    obtain ⟨p, hp, rfl⟩ := List.mem_map.mp hx
    exact ⟨p, hp, hs⟩
  · refine ⟨rfl, hQ s.heap.objs.size tups h' tk c a1 (fun j p hj => ?_) a3 (fun p hp => Heap.lt_size (N p hp).1) a4 fun p hp => ?_⟩
    · have := a2 j p hj
      rw [← e1, List.map_map]
      exact this
    · rcases List.mem_cons.mp hp with rfl | hp
      · exact ⟨a6, Nat.ne_of_gt hL, Heap.get?_none_of_le (Nat.le_trans F.above (Nat.le_of_lt hL))⟩
      · exact a5 p hp
end
end Mine
end

section
open PySem PySem.W PySem.Calls PyProof.Rows
set_option maxRecDepth 100000
namespace Mine
/-- Meet, of a call that leaves new objects in the ledger -/
def MeetX (w : World) (d u : Nat) (f : Addr) (args : List Value) (need : List (Addr × Obj)) (pre : Heap → Prop) (R : Value → List (Addr × Obj) → Prop) : Prop :=
  ∀ (p : Program) (loose : List Str) (mean : ExcName → Option Value) (mg mb : Str → Option Value) (dp un : Nat) (gd : Option (List Code)) (cn : Str) (cs : Scope) (a : Addr) (ccd : Value) (cl : List (Str × Addr)) (outer : List Env) (A₀ : Around) (base h₀ : Heap) (L : Addr) (m : Str → Option Value) (news : List (Addr × Obj)) (s : Shared) (Q E : Value → Shared → Prop),
    Below A₀ base outer h₀ → Fr h₀ L s.heap m → (Mine.hd.heap_39 w.params).In h₀ → News h₀ L s.heap news → Top p loose mean mg mb h₀ → cs.kind = .function → pre base →
    (∀ q ∈ need, q ∈ news) → dp + d < recursionLimit → un + u < cLine →
    (∀ v ex h' tk', R v ex → Fr h₀ L h' m → News h₀ L h' (ex ++ news) → Q v { s with heap := h', toks := tk' }) →
    wpAny (model PySem.Challenge.rw_br0032_01.prog w) (ktrTop dp un gd cn cs L a ccd cl outer) (call (.ref f) args) Q E s
theorem MeetX.use {w : World} {d u : Nat} {f : Addr} {args : List Value} {need : List (Addr × Obj)} {pre : Heap → Prop} {R : Value → List (Addr × Obj) → Prop} (H : MeetX w d u f args need pre R)
    {p : Program} {loose : List Str} {mean : ExcName → Option Value} {mg mb : Str → Option Value} {dp un : Nat} {gd : Option (List Code)} {cn : Str} {cs : Scope} {a : Addr} {ccd : Value} {cl : List (Str × Addr)} {outer : List Env} {A₀ : Around} {base h₀ : Heap} {L : Addr} {m : Str → Option Value} {news : List (Addr × Obj)} {s : Shared} {Q E : Value → Shared → Prop}
    (B : Below A₀ base outer h₀) (F : Fr h₀ L s.heap m) (X : (Mine.hd.heap_39 w.params).In h₀) (N : News h₀ L s.heap news) (T : Top p loose mean mg mb h₀) (hk : cs.kind = .function) (hp : pre base)
    (hn : ∀ q ∈ need, q ∈ news) (hd : dp + d < recursionLimit) (hu : un + u < cLine)
    (ret : ∀ v ex h' tk', R v ex → Fr h₀ L h' m → News h₀ L h' (ex ++ news) → Q v { s with heap := h', toks := tk' }) :
    wpAny (model PySem.Challenge.rw_br0032_01.prog w) (ktrTop dp un gd cn cs L a ccd cl outer) (call (.ref f) args) Q E s :=
  H p loose mean mg mb dp un gd cn cs a ccd cl outer A₀ base h₀ L m news s Q E B F X N T hk hp hn hd hu ret
section
variable {M : Model} {A : Around} {E : Value → Shared → Prop} {s : Shared} {env : Env} {pos p : Pos} {first : List Value} {Q : Value → Shared → Prop} {e : Expr}
theorem type_S {T : String} (h : wpAny M A (eval e env) (fun v s₁ => StarOf M A E v (fun vs s₂ => wpAny M A (call (.type T) (first ++ vs)) Q E s₂) s₁) E s)
    (he : starEach [.Starred e p] env = [(true, eval e env)] := by rfl) :
    wpAny M A (callWith pos (.type T) first (backTo pos (starEach [.Starred e p] env)) []) Q E s := by
  rw [he]
  unfold callWith
  refine wpAny_bind (wpAny_holding (wpAny_mono (ks_lone (Q := fun a s₁ => wpAny M A (call (.type T) (first ++ a.pos) a.kw) Q E s₁) h) (fun a s₁ h₁ => wpAny_bind (wpAny_standAt ?_)) fun _ _ x => x))
  have hst : (backTo pos [(true, eval e env)]).any (·.1) = true := rfl
  simp only [hst, Bool.true_or]
  have tail : ∀ {t : Sem Value}, wpAny M A t Q E s₁ → wpAny M A (t >>= fun r => holding [r] point >>= fun _ => pure r) Q E s₁ :=
    fun ht => wpAny_bind (wpAny_mono ht (fun r s₂ hr => wpAny_bind (wpAny_holding (wpAny_point (wpAny_pure hr)))) fun _ _ x => x)
  have marked (mk : Value) : wpAny M A (callMarked mk (.type T) (first ++ a.pos) a.kw) Q E s₁ := by unfold callMarked; exact Calls.wpAny_keep h₁
  refine wpAny_bind (wpAny_pure ?_)
  first
    | exact tail (marked _)
    | exact tail (wpAny_operating h₁)
    | exact tail h₁
end
theorem slice_from (a : Str) (i : Nat) (h : i ≤ a.length) : Txt.slice a (some (i : Int)) none = ⟨(a.cps.toList.drop i).toArray⟩ := by
  have e := StrLaws.sliceText_from (x := a) (i := (i : Int)) ⟨by omega, by rw [len_l]; omega⟩
  have e' : Txt.slice a (some (i : Int)) none = _ := e
  rw [e']
  have : (List.drop i a.cps.toList).length ≤ a.cps.size - i := by simp
  simp [List.take_of_length_le this]
/-- what the n-grams of f are, in the ledger -/
def Grams (f : Str) (n : Nat) (v : Value) (ex : List (Addr × Obj)) : Prop :=
  ∃ (S : Addr) (tups : List (Addr × List Value)) (c : Nat), v = .ref S ∧ ex = (S, listO (refsT tups).toArray c) :: tups.map (fun p => (p.1, tupO p.2.toArray)) ∧ tups.length = f.length + 1 - n ∧
    ∀ j p, tups[j]? = some p → StrsAre p.2 ((List.range n).map fun i => chr f (i + j))
def tails (f : Str) (n : Nat) : List Str := (List.range n).map fun i => Txt.slice f (some ((i : Nat) : Int)) none
theorem tails_chr (f : Str) (n : Nat) (h : n ≤ f.length) (j : Nat) : (tails f n).map (fun x => chr x j) = (List.range n).map fun i => chr f (i + j) := by
  unfold tails
  rw [List.map_map]
  refine List.map_congr_left fun i hi => ?_
  have := List.mem_range.mp hi
  show chr (Txt.slice f (some ((i : Nat) : Int)) none) j = _
  rw [slice_from f i (by omega)]
  unfold chr
  simp
theorem tails_size (f : Str) (n : Nat) (h : n ≤ f.length) (hn : 1 ≤ n) : (∀ x ∈ tails f n, f.length + 1 - n ≤ x.cps.size) ∧ ∃ x ∈ tails f n, x.cps.size ≤ f.length + 1 - n := by
  have sz : ∀ i, i < n → (Txt.slice f (some ((i : Nat) : Int)) none).cps.size = f.length - i := fun i hi => slice_from_len f i (by omega)
  constructor
  · intro x hx
    obtain ⟨i, hi, rfl⟩ := List.mem_map.mp hx
    have := List.mem_range.mp hi
    rw [sz i this]
    omega
  · refine ⟨_, List.mem_map.mpr ⟨n - 1, List.mem_range.mpr (by omega), rfl⟩, ?_⟩
    rw [sz (n - 1) (by omega)]
    omega
theorem tails_succ (f : Str) (i : Nat) : tails f (i + 1) = tails f i ++ [Txt.slice f (some ((i : Nat) : Int)) none] := by
  unfold tails
  rw [List.range_succ, List.map_append]; rfl
theorem tails_len (f : Str) (n : Nat) : (tails f n).length = n := by simp [tails]
end Mine
end

section
open PySem PySem.W PySem.Calls PyProof.Rows Builtin Builtin.ObjectAttr
set_option maxRecDepth 100000
namespace Mine
section
variable {prog : Program} {w : World} {A : Around} {E : Value → Shared → Prop} {s : Shared} {K : Frag} {x C p L : Addr} {ox : Obj} {name : Str} {h₀ : Heap} {m : Str → Option Value} {es : List DictEntry} {n : Nat} {Q : Value → Shared → Prop} {fv : Value} {rest : List Value} {expr : Bool}
/-- a static method read off an object -/
theorem sm_attr (F : Fr h₀ L s.heap m) (X₀ : K.In h₀) (I : InstAt s.heap x ox C (some (dictOf es n))) (hg : plainGet K C name = true) (hh : hasDictIn K C = true) (ha : findIn K (.ref C) name = some (some (.ref p)))
    (hgf : specialIn K (.ref p) "__get__" = some (some (.builtin "staticmethod.__get__"))) (hts : takesIn K (.ref p) = some false) (hc : copiedNames.contains name = false) (hl : getL name es = some none) (hp : recIn K p "staticmethod" = some (fv :: rest)) (hv : handedIn fv = true)
    (h : Q fv { s with toks := s.toks + 1 }) : wpAny (model prog w) A (getAttr (.ref x) name expr) Q E s :=
  get_bind (X₀.keeps F.keep) I (plainGet_of hg).1 (findObj_fn hh ha hgf hts hc (by show lookIn name (dictOf es n) = _; rw [lookIn_dict, hl])) (plainGet_of hg).2
    (wpAny_call (sm_get (s := { s with toks := s.toks + 1 }) (X₀.keeps F.keep) hp (handed_on hv h)))
end
end Mine
end

section
open PySem PySem.W PySem.Calls PyProof.Rows
set_option maxRecDepth 100000
namespace Mine
section
variable {prog : Program} {w : World} {A : Around} {E : Value → Shared → Prop} {s : Shared} {h₀ : Heap} {L l : Addr} {m : Str → Option Value} {news : List (Addr × Obj)} {vs : List Value} {Q : Value → Shared → Prop} {ns : List Int}
theorem num_at {xs : Array (Int × Tok)} (e : ns = xs.toList.map (·.1)) {i : Nat} (hi : i < xs.size) : ns[i]? = some (numAt xs i) := by
  subst e
  simp [numAt, hi]
theorem min_ints (F : Fr h₀ L s.heap m) (N : News h₀ L s.heap news) (hh : A.handled = none) (hl : s.heap.IsList l vs.toArray) (hi : IntsAre vs ns) (hne : 0 < ns.length)
    (h : ∀ k t h' tk, k ∈ ns → (∀ n ∈ ns, k ≤ n) → Fr h₀ L h' m → News h₀ L h' news → Q (.int k t) { s with heap := h', toks := tk }) : wpAny (model prog w) A (call (.builtin "min") [.ref l]) Q E s := by
  obtain ⟨xs, hx⟩ := hi.allInts.items
  have hl' : s.heap.IsList l (intItems xs) := hx ▸ hl
  have e1 : ns = xs.toList.map (·.1) := by
    rw [← nums_intItems, ← hx]
    exact (show numsOf vs.toArray.toList = ns from hi.numsOf).symm
  have hs : ns.length = xs.size := by rw [e1]; simp
  refine min_intList hh hl' (by omega) fun v h' tk hv hk => ?_
  obtain ⟨t, rfl⟩ := intItems_at hv
  obtain ⟨a, b⟩ := argBest_lt (numAt xs) (xs.size - 1)
  refine h _ t h' tk ?_ (fun n hn => ?_) (F.keeps hk) (N.grown hk)
  · exact List.mem_of_getElem? (num_at e1 (by omega))
  · obtain ⟨j, hj, e⟩ := List.getElem_of_mem hn
    have := num_at e1 (i := j) (by omega)
    rw [List.getElem?_eq_getElem hj, e] at this
    cases this
    exact b j (by omega)
theorem max_ints (F : Fr h₀ L s.heap m) (N : News h₀ L s.heap news) (hh : A.handled = none) (hl : s.heap.IsList l vs.toArray) (hi : IntsAre vs ns) (hne : 0 < ns.length)
    (h : ∀ k t h' tk, k ∈ ns → (∀ n ∈ ns, n ≤ k) → Fr h₀ L h' m → News h₀ L h' news → Q (.int k t) { s with heap := h', toks := tk }) : wpAny (model prog w) A (call (.builtin "max") [.ref l]) Q E s := by
  obtain ⟨xs, hx⟩ := hi.allInts.items
  have hl' : s.heap.IsList l (intItems xs) := hx ▸ hl
  have e1 : ns = xs.toList.map (·.1) := by
    rw [← nums_intItems, ← hx]
    exact (show numsOf vs.toArray.toList = ns from hi.numsOf).symm
  have hs : ns.length = xs.size := by rw [e1]; simp
  refine max_intList hh hl' (by omega) fun v h' tk hv hk => ?_
  obtain ⟨t, rfl⟩ := intItems_at hv
  obtain ⟨a, b⟩ := argBest_gt (numAt xs) (xs.size - 1)
  refine h _ t h' tk ?_ (fun n hn => ?_) (F.keeps hk) (N.grown hk)
  · exact List.mem_of_getElem? (num_at e1 (by omega))
  · obtain ⟨j, hj, e⟩ := List.getElem_of_mem hn
    have := num_at e1 (i := j) (by omega)
    rw [List.getElem?_eq_getElem hj, e] at this
    cases this
    exact b j (by omega)
def lens (zs : List Str) : List Int := zs.map fun z => (z.length : Int)
theorem lens_snoc {zs : List Str} {i : Nat} {y : Str} (h : zs[i]? = some y) : lens (zs.take (i + 1)) = lens (zs.take i) ++ [(y.length : Int)] := by
  unfold lens
  rw [List.take_add_one, h]; simp
theorem ints_snoc {k : Int} {t : Tok} : ∀ {vs : List Value} {ns : List Int}, IntsAre vs ns → IntsAre (vs ++ [.int k t]) (ns ++ [k])
  | _, _, .nil => .cons _ _ .nil
  | _, _, .cons _ _ r => .cons _ _ (ints_snoc r)
/-- the least length is that of the first of the shortest -/
theorem min_lens {zs : List Str} {i : Nat} {y : Str} (hi : zs[i]? = some y) (hm : FirstMin zs i) {k : Int} (hk : k ∈ lens zs) (hl : ∀ n ∈ lens zs, k ≤ n) : k = y.length := by
  have a : (y.length : Int) ∈ lens zs := List.mem_map.mpr ⟨y, List.mem_of_getElem? hi, rfl⟩
  have b := hl _ a
  obtain ⟨z, hz, rfl⟩ := List.mem_map.mp hk
  obtain ⟨j, hj, e⟩ := List.getElem_of_mem hz
  have := (hm j hj).1
  simp only [lenAt, hi, List.getElem?_eq_getElem hj, e, Option.map_some, Option.getD_some] at this
  omega
theorem max_lens {zs : List Str} {k k' : Int} (hk : k ∈ lens zs) (hl : ∀ n ∈ lens zs, n ≤ k) (h : MaxLen zs k') : k = k' := by
  obtain ⟨a, x, hx, e⟩ := h
  have b := hl _ (List.mem_map.mpr ⟨x, hx, rfl⟩)
  obtain ⟨z, hz, rfl⟩ := List.mem_map.mp hk
  have := a z hz
  omega
/-- the words of the least length: the first of them is the first of the shortest -/
def shorts (zs : List Str) (y : Str) : List Str := zs.filter fun z => decide ((z.length : Int) = y.length)
theorem shorts_head {zs : List Str} {i : Nat} {y : Str} (hi : zs[i]? = some y) (hm : FirstMin zs i) : (shorts zs y)[0]? = some y := by
  have hlt : i < zs.length := (List.getElem?_eq_some_iff.mp hi).1
  have e : zs = zs.take i ++ y :: zs.drop (i + 1) := by
    have h1 := (List.getElem?_eq_some_iff.mp hi).2
    rw [← h1, List.getElem_cons_drop, List.take_append_drop]
  have hnone : (zs.take i).filter (fun z => decide ((z.length : Int) = y.length)) = [] := by
    rw [List.filter_eq_nil_iff]
    intro z hz
    obtain ⟨j, hj, e⟩ := List.getElem_of_mem hz
    rw [List.length_take] at hj
    have := (hm j (by omega)).2 (by omega)
    have e2 : zs[j]? = some z := by
      rw [List.getElem_take] at e
      rw [List.getElem?_eq_getElem (by omega), e]
    simp only [lenAt, hi, e2, Option.map_some, Option.getD_some] at this
    simp
    omega
  unfold shorts
  rw [e, List.filter_append, hnone]
  simp
theorem shorts_snoc {zs : List Str} {y q : Str} {i : Nat} (h : zs[i]? = some q) : shorts (zs.take (i + 1)) y = if (q.length : Int) = y.length then shorts (zs.take i) y ++ [q] else shorts (zs.take i) y := by
  unfold shorts
  rw [List.take_add_one, h]
  by_cases e : (q.length : Int) = y.length <;> simp [e]
end
end Mine
end

section
open PySem PySem.W PyProof.Rows
set_option maxRecDepth 100000
namespace Mine
local macro_rules | `(tactic| walk_at "br enter") => `(tactic| first
  | (refine' code_def ?k1 ?k2 ?k3 ?k4 ?k5 ?kA ?kF ?kK ?k6 ?k7 ?k8 ?k9 ?kB ?_ ?c2 ?c3 ?c4 ?c5; (case kA => exact rfl); (case kF => exact rfl); (case kK => first | assumption | exact rfl); (case k1 => k_asm); (case k2 => k_asm); (case k3 => k_asm); (case k4 => k_asm); (case k5 => k_asm); (case k6 => k_is); (case k7 => k_is); (case k8 => ktr_room); (case k9 => first | exact BindsTo.of_eq rfl | exact binds_K (by k_in) rfl (by k_is) rfl rfl rfl); (case c5 => decide); (case kB => exact locs rfl); (case c2 => exact rfl); (case c3 => exact rfl); (case c4 => exact rfl); k_whole; intro g' L' h' FG' F' N' B' X' T'; (try dsimp only); (try k_lift B'); refine wpAny_noRaise ?_; (try k_fold))
  | (refine' code_defC ?k1 ?k2 ?k3 ?k4 ?k5 ?kA ?kF ?kK ?k6 ?k7 ?k8 ?k9 ?kB ?kD ?_ ?c2 ?c3 ?c4; (case kA => exact rfl); (case kF => exact rfl); (case kK => first | assumption | exact rfl); (case k1 => k_asm); (case k2 => k_asm); (case k3 => k_asm); (case k4 => k_asm); (case k5 => k_asm); (case k6 => k_is); (case k7 => k_is); (case k8 => ktr_room); (case k9 => first | exact BindsTo.of_eq rfl | exact binds_K (by k_in) rfl (by k_is) rfl rfl rfl); (case kB => exact rfl); (case kD => decide +kernel); (case c2 => exact rfl); (case c3 => exact rfl); (case c4 => exact rfl); k_whole; intro g' L' h' tk' cells' FG' F' N' Y' B' X' T' l1; (have lAll := l1); (try k_lt l1); k_cells Y'; (try simp only [List.cons_append, List.nil_append] at N'); (try dsimp only); (try k_lift B'); refine wpAny_noRaise ?_; (try k_fold)))
local macro_rules | `(tactic| walk_at "exec For") => `(tactic| (k_here; k_dflt (refine' for_F ?_); k_whole))
local macro_rules | `(tactic| walk_at "exec For Name Call cons nil") => `(tactic| (k_here; k_dflt (refine' for_F ?_); k_whole))
local macro_rules | `(tactic| walk_at "exec While BoolOp cons nil") => `(tactic| (k_here; refine Stopped.out ?_))
local macro_rules | `(tactic| walk_at "br frs") => `(tactic| simp only [List.forall_mem_cons, List.not_mem_nil, false_implies, implies_true, and_true])
local macro_rules | `(tactic| k_all) => `(tactic| (rename (∀ p ∈ (_ : List (Addr × Obj)), p.1 < _) => kAl'; exact fun p hp => br_ne (kAl' p (by first | exact hp | exact .tail _ hp | exact .tail _ (.tail _ hp) | exact .tail _ (.tail _ (.tail _ hp)))) (by omega)))
local macro_rules | `(tactic| walk_at "br enterC") => `(tactic| (refine' code_defC ?k1 ?k2 ?k3 ?k4 ?k5 ?kA ?kF ?kK ?k6 ?k7 ?k8 ?k9 ?kB ?kD ?_ ?c2 ?c3 ?c4; (case kA => exact rfl); (case kF => exact rfl); (case kK => first | assumption | exact rfl); (case k1 => k_asm); (case k2 => k_asm); (case k3 => k_asm); (case k4 => k_asm); (case k5 => k_asm); (case k6 => k_is); (case k7 => k_is); (case k8 => ktr_room); (case k9 => first | exact BindsTo.of_eq rfl | exact binds_K (by k_in) rfl (by k_is) rfl rfl rfl); (case kB => exact rfl); (case kD => decide +kernel); (case c2 => exact rfl); (case c3 => exact rfl); (case c4 => exact rfl); k_whole))
local macro_rules | `(tactic| walk_at "eval ListComp") => `(tactic| (k_here; first
  | ((with_reducible show wpAny _ _ (eval (PySem.Expr.ListComp _ [PySem.Comprehension.mk _ _ [_] _] _ _) _) _ _ _); k_dflt (refine ListComp_TS (F₀ := by k_asm) (by with_unfolding_all rfl) (by decide) (by rfl) (by decide) (by rfl) ?_))
  | ((with_reducible show wpAny _ _ (eval (PySem.Expr.ListComp _ [PySem.Comprehension.mk _ _ [] _] _ _) _) _ _ _); k_dflt (refine ListComp_US (F₀ := by k_asm) (by with_unfolding_all rfl) (by decide) (by rfl) (by decide) (by rfl) ?_))))
local macro_rules | `(tactic| walk_at "br ends") => `(tactic| repeat (first | (dsimp only [StepF, StepW]) | k_unfold))
local macro_rules | `(tactic| walk_at "br enterR") => `(tactic| (refine' kp_rest ?k1 ?k2 ?k3 ?k4 ?k5 ?kA ?kF ?kK ?k6 ?k7 ?k8 ?kV ?kP ?kG ?kB ?_ ?c2 ?c3 ?c4 ?c5; (case kA => exact rfl); (case kF => exact rfl); (case kK => first | assumption | exact rfl); (case k1 => k_asm); (case k2 => k_asm); (case k3 => k_asm); (case k4 => k_asm); (case k5 => k_asm); (case k6 => k_is); (case k7 => k_is); (case k8 => ktr_room); (case kV => first | kl_lit | exact rfl); (case kP => exact rfl); (case kG => exact fun _ => rfl); (case kB => exact fun _ => locs rfl); (case c5 => decide); (case c2 => exact rfl); (case c3 => exact rfl); (case c4 => exact rfl); k_whole))
local macro_rules | `(tactic| walk_at "br enterRC") => `(tactic| (refine' rest_cells ?k1 ?k2 ?k3 ?k4 ?k5 ?kA ?kF ?kK ?k6 ?k7 ?k8 ?kV ?kP ?kG ?kB ?kD ?_ ?c2 ?c3 ?c4; (case kA => exact rfl); (case kF => exact rfl); (case kK => first | assumption | exact rfl); (case k1 => k_asm); (case k2 => k_asm); (case k3 => k_asm); (case k4 => k_asm); (case k5 => k_asm); (case k6 => k_is); (case k7 => k_is); (case k8 => ktr_room); (case kV => kl_lit); (case kP => exact rfl); (case kG => exact fun _ => rfl); (case kB => exact fun _ => rfl); (case kD => decide +kernel); (case c2 => exact rfl); (case c3 => exact rfl); (case c4 => exact rfl); k_whole))
local macro_rules | `(tactic| k_room) => `(tactic| ktr_room)
local macro_rules | `(tactic| k_units) => `(tactic| ktr_units)
local macro_rules | `(tactic| walk_at "callWith ref") => `(tactic| (k_here; (with_reducible show wpAny _ _ (callWith _ (Value.ref _) _ (backTo _ (starEach [Expr.Starred _ _] _)) []) _ _ _); kco_here; k_dflt (refine' inst_S ?k1 ?k2 ?k3 ?k4 ?_; (case k1 => k_asm); (case k2 => k_inst); (case k3 => rfl); (case k4 => k_is); k_whole)))
local macro_rules | `(tactic| walk_at "StarOf ref") => `(tactic| (k_here; k_dflt (refine' star_seq ?k1 ?k2 ?m ?c ?d ?T ?e ?z ?_; (case k1 => k_asm); (case k2 => k_asm); (case m => k_mem); (case c => exact rfl); (case d => exact rfl); (case T => first | exact .inl rfl | exact .inr rfl); (case e => first | exact List.toList_toArray .. | kl_lit); (case z => first | assumption | exact Nat.le_of_ble_eq_true rfl); k_whole); intro h' F' N'; (try k_sweep); try dsimp only [List.nil_append, List.cons_append]))
local macro_rules | `(tactic| walk_at "call builtin:all") => `(tactic| (k_here; (with_reducible show wpAny _ _ (call (Value.builtin "all") [Value.ref _]) _ _ _); k_dflt (refine' all_n ?k1 ?k2 ?k3 ?k4 ?k5 ?k6 ?k7 ?_; (case k1 => k_asm); (case k2 => k_asm); (case k3 => k_mem); (case k4 => exact rfl); (case k5 => assumption); (case k6 => assumption); (case k7 => assumption); k_whole); intro h' tk' F' N'))
local macro_rules | `(tactic| walk_at "call builtin:min") => `(tactic| (k_here; (show wpAny _ _ (call (Value.builtin "min") [Value.ref _] [(PySem.Str.ofString "key", Value.builtin "len")]) _ _ _); k_dflt (refine' min_n ?k1 ?k2 ?k3 ?k4 ?k5 ?k6 ?k7 ?_; (case k1 => k_asm); (case k2 => k_asm); (case k3 => k_mem); (case k4 => exact rfl); (case k5 => assumption); (case k6 => assumption); (case k7 => assumption); k_whole); intro iMin xMin tMin h' tk' hiMin hlMin hMin F' N'))
local macro_rules | `(tactic| walk_at "call type:map") => `(tactic| (k_here; (with_reducible show wpAny _ _ (call (Value.type "map") [Value.builtin "len", Value.ref _]) _ _ _); first
  | (k_dflt (refine' map_tup_n ?k1 ?k2 ?k3 ?_; (case k1 => k_asm); (case k2 => k_asm); (case k3 => k_mem); k_whole); intro it' TI' M' h' hm1 hm2 hm3 hm4 F' N')
  | (k_dflt (refine' map_list_n ?k1 ?k2 ?k3 ?k4 ?k5 ?_; (case k1 => k_asm); (case k2 => k_asm); (case k3 => k_mem); (case k4 => exact rfl); (case k5 => exact rfl); k_whole); intro it' TI' M' h' hm1 hm2 hm3 hm4 F' N')))
local macro_rules | `(tactic| walk_at "call builtin:max") => `(tactic| (k_here; (with_reducible show wpAny _ _ (call (Value.builtin "max") [Value.ref _]) _ _ _); first
  | (k_dflt (refine' max_tup_n ?a1 ?a2 ?a3 ?a4 ?k1 ?k2 ?k3 ?k4 ?k5 ?k6 ?k7 ?_; (case k1 => k_asm); (case k2 => k_asm); (case a1 => assumption); (case a2 => assumption); (case a3 => assumption); (case a4 => assumption); (case k3 => k_mem); (case k4 => exact rfl); (case k5 => assumption); (case k6 => assumption); (case k7 => assumption); k_whole); intro kMax tMax h' tk' hMax hMax0 hMax1 F' N')
  | (k_dflt (refine' max_list_n ?a1 ?a2 ?a3 ?a4 ?k1 ?k2 ?k3 ?k3a ?k3b ?k4 ?k5 ?k6 ?k7 ?_; (case k1 => k_asm); (case k2 => k_asm); (case a1 => assumption); (case a2 => assumption); (case a3 => assumption); (case a4 => assumption); (case k3 => k_mem); (case k3a => exact rfl); (case k3b => exact rfl); (case k4 => exact rfl); (case k5 => assumption); (case k6 => assumption); (case k7 => assumption); k_whole); intro kMax tMax h' tk' hMax hMax0 hMax1 F' N')))
local macro_rules | `(tactic| walk_at "eval Call Attribute") => `(tactic| (k_here; (with_reducible show wpAny _ _ (eval (PySem.Expr.Call (PySem.Expr.Attribute _ _ _) [PySem.Expr.Starred _ _] _ _) _) _ _ _); refine starMeth ?_))
local macro_rules | `(tactic| walk_at "callWith ref") => `(tactic| (k_here; (with_reducible show wpAny _ _ (callWith _ (Value.ref _) _ (backTo _ (starEach [Expr.Starred _ _] _)) []) _ _ _); k_dflt (refine' callWith_SM ?k1 ?k2 ?k3 ?k4 ?_; (case k1 => k_asm); (case k2 => k_asm); (case k3 => k_mem); (case k4 => k_is); k_whole)))
local macro_rules | `(tactic| walk_at "call ref") => `(tactic| (k_here; (with_reducible show wpAny _ _ (call (Value.ref _) _) _ _ _); k_dflt (refine' call_meth (f := .ref 108) ?k1 ?k2 ?_; (case k1 => k_asm); (case k2 => k_mem); k_whole); k_dflt (walk_at "br enterRC"); intro D' g' L' h' tk' cells' lD' FG' F' N' Y' B' X' T' l1; (have lAll := l1); (try k_lt l1); k_cells Y'; (try simp only [List.cons_append, List.nil_append] at N'); (try dsimp only); (try k_lift B'); refine wpAny_noRaise ?_; (try k_fold)))
local macro_rules | `(tactic| walk_at "br mem") => `(tactic| first | assumption | (refine List.Mem.tail _ ?_; walk_at "br mem"))
local macro_rules | `(tactic| k_in) => `(tactic| (refine' Frag.In.keeps ?kinX (Fr.keep ?kinF); (case kinF => k_asm); (case kinX => first | with_reducible assumption | k_asm)))
local macro_rules | `(tactic| k_in) => `(tactic| with_reducible assumption)
-- the walker as at a file's start (open_top turns it to the top's lines)
theorem fresh_standart : True := by
  w_top off
  trivial
set_option maxHeartbeats 8000000 in
theorem standart_meet (w : World) (x : Addr) (s1 s2 : Str) (t1 t2 : Tok) (hl1 : s1.length ≤ 40) (hl2 : s2.length ≤ 40) :
    MeetC w 1 8 197 [.ref x, .str s1 t1, .str s2 t2] [] (fun _ => True) (fun v => ∃ t, v = .str ⟨(std s1.cps.toList s2.cps.toList).toArray⟩ t) := by
  unfold MeetC
  k_fill
  intro p loose mean mg mb dp un gd cn cs a ccd cl outer A₀ base h₀ L m news s Q E B F X N T hk hpre hneed hd hu hret
  k_dflt (walk_at "br enter")
  k_steps
  rename Fr _ _ _ _ => F1
  rename News _ _ _ _ => N1
  rename IsRange _ _ _ _ _ _ _ _ => R1
  refine loop_up (fun i m led => news = led ∧ m "self" = some (.ref x) ∧ m "s1" = some (.str s1 t1) ∧ m "s2" = some (.str s2 t2) ∧ (∃ t, m "place" = some (.int (runA s1.cps.toList s2.cps.toList i).1 t)) ∧ (∃ t, m "best" = some (.int (runA s1.cps.toList s2.cps.toList i).2 t))) rfl R1 rfl (by omega) F1 N1 ?_ ?_ ?_
  · exact ⟨rfl, rfl, rfl, rfl, ⟨_, rfl⟩, ⟨_, rfl⟩⟩
  · intro i t m₁ led h tk I oI hi ⟨hled, e1, e2, e3, ⟨tp, e4⟩, ⟨tb, e5⟩⟩ ha hlt F₁ N₁
    subst hled
    have F₂ := fr_named [(Str.ofString "self", _), (Str.ofString "s1", _), (Str.ofString "s2", _), (Str.ofString "place", _), (Str.ofString "best", _)] F₁ (by walk_at "br frs"; exact ⟨e1, e2, e3, e4, e5⟩)
    dsimp only [kstB] at F₂
    clear F₁ F1 N1 R1 e1 e2 e3 e4 e5
    (try k_fold)
    k_steps
    rename Fr _ _ _ _ => F1
    rename News _ _ _ _ => N1
    rename IsRange _ _ _ _ _ _ _ _ => R1
    refine loop_up (fun j m led' => (I, oI) :: news = led' ∧ m "self" = some (.ref x) ∧ m "s1" = some (.str s1 t1) ∧ m "s2" = some (.str s2 t2) ∧ (∃ t, m "a" = some (.int (i : Int) t)) ∧
      (∃ t, m "place" = some (.int (runB s1.cps.toList s2.cps.toList i (runA s1.cps.toList s2.cps.toList i) j).1 t)) ∧ (∃ t, m "best" = some (.int (runB s1.cps.toList s2.cps.toList i (runA s1.cps.toList s2.cps.toList i) j).2 t))) rfl R1 rfl (by omega) F1 N1 ?_ ?_ ?_
    · exact ⟨rfl, rfl, rfl, rfl, ⟨_, rfl⟩, ⟨_, rfl⟩, ⟨_, rfl⟩⟩
    · intro j t m₁ led' h tk I' oI' hj ⟨hled, e1, e2, e3, ⟨ta, e4⟩, ⟨tp, e5⟩, ⟨tb, e6⟩⟩ ha hlt' F₁ N₁
      subst hled
      have F₂ := fr_named [(Str.ofString "self", _), (Str.ofString "s1", _), (Str.ofString "s2", _), (Str.ofString "a", _), (Str.ofString "place", _), (Str.ofString "best", _)] F₁ (by walk_at "br frs"; exact ⟨e1, e2, e3, e4, e5, e6⟩)
      dsimp only [kstB] at F₂
      clear F₁ F1 N1 R1 e1 e2 e3 e4 e5 e6
      (try k_fold)
      k_steps
      refine Stopped.of ?_
      rename Fr _ _ _ _ => F1
      rename News _ _ _ _ => N1
      refine while_F (fun k m led' => (I', oI') :: (I, oI) :: news = led' ∧ ∃ c : Nat, k = 50 - c ∧ i + c ≤ s1.length ∧ j + c ≤ s2.length ∧ cpl (s1.cps.toList.drop i) (s2.cps.toList.drop j) = c + cpl (s1.cps.toList.drop (i + c)) (s2.cps.toList.drop (j + c)) ∧ m "self" = some (.ref x) ∧ m "s1" = some (.str s1 t1) ∧ m "s2" = some (.str s2 t2) ∧ (∃ t, m "a" = some (.int (i : Int) t)) ∧ (∃ t, m "b" = some (.int (j : Int) t)) ∧
        (∃ t, m "place" = some (.int (runB s1.cps.toList s2.cps.toList i (runA s1.cps.toList s2.cps.toList i) j).1 t)) ∧ (∃ t, m "best" = some (.int (runB s1.cps.toList s2.cps.toList i (runA s1.cps.toList s2.cps.toList i) j).2 t)) ∧ (∃ t, m "size" = some (.int (c : Int) t))) F1 N1 (k₀ := 50) ?_ ?_
      · exact ⟨rfl, 0, rfl, by omega, by omega, by simp, rfl, rfl, rfl, ⟨_, rfl⟩, ⟨_, rfl⟩, ⟨_, rfl⟩, ⟨_, rfl⟩, ⟨_, rfl⟩⟩
      · intro k m₁ led' h tk ⟨hled, c, hk, hc1, hc2, hcp, e1, e2, e3, ⟨ta, e4⟩, ⟨tbb, e5⟩, ⟨tp, e6⟩, ⟨tb, e7⟩, ⟨tc, e8⟩⟩ F₁ N₁
        subst hled
        have F₂ := fr_named [(Str.ofString "self", _), (Str.ofString "s1", _), (Str.ofString "s2", _), (Str.ofString "a", _), (Str.ofString "b", _), (Str.ofString "place", _), (Str.ofString "best", _), (Str.ofString "size", _)] F₁ (by walk_at "br frs"; exact ⟨e1, e2, e3, e4, e5, e6, e7, e8⟩)
        dsimp only [kstB] at F₂
        clear F₁ F1 N1 e1 e2 e3 e4 e5 e6 e7 e8
        (try k_fold)
        k_steps
        · -- one more letter
          have q := items_cpl s1 s2 (i + c) (j + c) (i + c) (j + c) (by omega) (by omega) (by omega) (by omega)
          rw [if_pos (by assumption)] at q
          refine ⟨_, _, _, _, _, k - 1, rfl, by k_asm, by k_asm, fun _ hp => hp, by omega, rfl, c + 1, by omega, by omega, by omega, ?_, rfl, rfl, rfl, ⟨_, rfl⟩, ⟨_, rfl⟩, ⟨_, rfl⟩, ⟨_, rfl⟩, ⟨_, rfl⟩⟩
          rw [hcp, q, Nat.add_assoc i, Nat.add_assoc j]; omega
        · have q := items_cpl s1 s2 (i + c) (j + c) (i + c) (j + c) (by omega) (by omega) (by omega) (by omega)
          rw [if_neg (by simp only [*]; simp)] at q
          rw [q] at hcp
          have z := runB_yes (st := runA s1.cps.toList s2.cps.toList i) hcp (by omega)
          refine ⟨_, _, _, _, _, rfl, by k_asm, by k_asm, by k_memK, by k_sub, rfl, rfl, rfl, rfl, rfl, ⟨_, rfl⟩, ⟨_, by rw [z]; rfl⟩, ⟨_, by rw [z]; rfl⟩⟩
        · have q := items_cpl s1 s2 (i + c) (j + c) (i + c) (j + c) (by omega) (by omega) (by omega) (by omega)
          rw [if_neg (by simp only [*]; simp)] at q
          rw [q] at hcp
          have z := runB_no (st := runA s1.cps.toList s2.cps.toList i) hcp (by omega)
          refine ⟨_, _, _, _, _, rfl, by k_asm, by k_asm, by k_memK, by k_sub, rfl, rfl, rfl, rfl, rfl, ⟨_, rfl⟩, ⟨_, by rw [z]; rfl⟩, ⟨_, by rw [z]; rfl⟩⟩
        · rw [cpl_end2 s2 (j + c) _ (by omega)] at hcp
          have z := runB_yes (st := runA s1.cps.toList s2.cps.toList i) hcp (by omega)
          refine ⟨_, _, _, _, _, rfl, by k_asm, by k_asm, by k_memK, by k_sub, rfl, rfl, rfl, rfl, rfl, ⟨_, rfl⟩, ⟨_, by rw [z]; rfl⟩, ⟨_, by rw [z]; rfl⟩⟩
        · rw [cpl_end2 s2 (j + c) _ (by omega)] at hcp
          have z := runB_no (st := runA s1.cps.toList s2.cps.toList i) hcp (by omega)
          refine ⟨_, _, _, _, _, rfl, by k_asm, by k_asm, by k_memK, by k_sub, rfl, rfl, rfl, rfl, rfl, ⟨_, rfl⟩, ⟨_, by rw [z]; rfl⟩, ⟨_, by rw [z]; rfl⟩⟩
        · rw [cpl_end1 s1 (i + c) _ (by omega)] at hcp
          have z := runB_yes (st := runA s1.cps.toList s2.cps.toList i) hcp (by omega)
          refine ⟨_, _, _, _, _, rfl, by k_asm, by k_asm, by k_memK, by k_sub, rfl, rfl, rfl, rfl, rfl, ⟨_, rfl⟩, ⟨_, by rw [z]; rfl⟩, ⟨_, by rw [z]; rfl⟩⟩
        · rw [cpl_end1 s1 (i + c) _ (by omega)] at hcp
          have z := runB_no (st := runA s1.cps.toList s2.cps.toList i) hcp (by omega)
          refine ⟨_, _, _, _, _, rfl, by k_asm, by k_asm, by k_memK, by k_sub, rfl, rfl, rfl, rfl, rfl, ⟨_, rfl⟩, ⟨_, by rw [z]; rfl⟩, ⟨_, by rw [z]; rfl⟩⟩
    · intro m₁ led' h tk ⟨hled, e1, e2, e3, ⟨ta, e4⟩, ⟨tp, e5⟩, ⟨tb, e6⟩⟩ F₁ N₁
      subst hled
      have F₂ := fr_named [(Str.ofString "self", _), (Str.ofString "s1", _), (Str.ofString "s2", _), (Str.ofString "a", _), (Str.ofString "place", _), (Str.ofString "best", _)] F₁ (by walk_at "br frs"; exact ⟨e1, e2, e3, e4, e5, e6⟩)
      dsimp only [kstB] at F₂
      clear F₁ F1 N1 R1 e1 e2 e3 e4 e5 e6
      (try k_fold)
      k_steps
      have z := runA_succ s1.cps.toList s2.cps.toList i
      rw [len_l] at z
      refine ⟨_, _, _, _, _, rfl, by k_asm, by k_asm, by k_memK, by k_sub, rfl, rfl, rfl, rfl, rfl, ⟨_, by rw [z]; rfl⟩, ⟨_, by rw [z]; rfl⟩⟩
  · intro m₁ led h tk ⟨hled, e1, e2, e3, ⟨tp, e4⟩, ⟨tb, e5⟩⟩ F₁ N₁
    subst hled
    have F₂ := fr_named [(Str.ofString "self", _), (Str.ofString "s1", _), (Str.ofString "s2", _), (Str.ofString "place", _), (Str.ofString "best", _)] F₁ (by walk_at "br frs"; exact ⟨e1, e2, e3, e4, e5⟩)
    dsimp only [kstB] at F₂
    clear F₁ F1 N1 R1 e1 e2 e3 e4 e5
    (try k_fold)
    k_steps
    (try (dsimp only; k_steps))
    rw [std_slice]
    exact hret _ _ _ ⟨_, rfl⟩ (by k_asm) (by k_asm)
end Mine
end

section
open PySem PySem.W PyProof.Rows
set_option maxRecDepth 100000
namespace Mine
local macro_rules | `(tactic| walk_at "pad") => `(tactic| fail "pad")
local macro_rules | `(tactic| walk_at "br enter") => `(tactic| first
  | (refine' code_def ?k1 ?k2 ?k3 ?k4 ?k5 ?kA ?kF ?kK ?k6 ?k7 ?k8 ?k9 ?kB ?_ ?c2 ?c3 ?c4 ?c5; (case kA => exact rfl); (case kF => exact rfl); (case kK => first | assumption | exact rfl); (case k1 => k_asm); (case k2 => k_asm); (case k3 => k_asm); (case k4 => k_asm); (case k5 => k_asm); (case k6 => k_is); (case k7 => k_is); (case k8 => ktr_room); (case k9 => first | exact BindsTo.of_eq rfl | exact binds_K (by k_in) rfl (by k_is) rfl rfl rfl); (case c5 => decide); (case kB => exact locs rfl); (case c2 => exact rfl); (case c3 => exact rfl); (case c4 => exact rfl); k_whole; intro g' L' h' FG' F' N' B' X' T'; (try dsimp only); (try k_lift B'); refine wpAny_noRaise ?_; (try k_fold))
  | (refine' code_defC ?k1 ?k2 ?k3 ?k4 ?k5 ?kA ?kF ?kK ?k6 ?k7 ?k8 ?k9 ?kB ?kD ?_ ?c2 ?c3 ?c4; (case kA => exact rfl); (case kF => exact rfl); (case kK => first | assumption | exact rfl); (case k1 => k_asm); (case k2 => k_asm); (case k3 => k_asm); (case k4 => k_asm); (case k5 => k_asm); (case k6 => k_is); (case k7 => k_is); (case k8 => ktr_room); (case k9 => first | exact BindsTo.of_eq rfl | exact binds_K (by k_in) rfl (by k_is) rfl rfl rfl); (case kB => exact rfl); (case kD => decide +kernel); (case c2 => exact rfl); (case c3 => exact rfl); (case c4 => exact rfl); k_whole; intro g' L' h' tk' cells' FG' F' N' Y' B' X' T' l1; (have lAll := l1); (try k_lt l1); k_cells Y'; (try simp only [List.cons_append, List.nil_append] at N'); (try dsimp only); (try k_lift B'); refine wpAny_noRaise ?_; (try k_fold)))
local macro_rules | `(tactic| walk_at "exec For") => `(tactic| (k_here; k_dflt (refine' for_F ?_); k_whole))
local macro_rules | `(tactic| walk_at "exec For Name Call cons nil") => `(tactic| (k_here; k_dflt (refine' for_F ?_); k_whole))
local macro_rules | `(tactic| walk_at "exec While BoolOp cons nil") => `(tactic| (k_here; refine Stopped.out ?_))
local macro_rules | `(tactic| walk_at "br frs") => `(tactic| simp only [List.forall_mem_cons, List.not_mem_nil, false_implies, implies_true, and_true])
local macro_rules | `(tactic| k_all) => `(tactic| (rename (∀ p ∈ (_ : List (Addr × Obj)), p.1 < _) => kAl'; exact fun p hp => br_ne (kAl' p (by first | exact hp | exact .tail _ hp | exact .tail _ (.tail _ hp) | exact .tail _ (.tail _ (.tail _ hp)))) (by omega)))
local macro_rules | `(tactic| walk_at "br enterC") => `(tactic| (refine' code_defC ?k1 ?k2 ?k3 ?k4 ?k5 ?kA ?kF ?kK ?k6 ?k7 ?k8 ?k9 ?kB ?kD ?_ ?c2 ?c3 ?c4; (case kA => exact rfl); (case kF => exact rfl); (case kK => first | assumption | exact rfl); (case k1 => k_asm); (case k2 => k_asm); (case k3 => k_asm); (case k4 => k_asm); (case k5 => k_asm); (case k6 => k_is); (case k7 => k_is); (case k8 => ktr_room); (case k9 => first | exact BindsTo.of_eq rfl | exact binds_K (by k_in) rfl (by k_is) rfl rfl rfl); (case kB => exact rfl); (case kD => decide +kernel); (case c2 => exact rfl); (case c3 => exact rfl); (case c4 => exact rfl); k_whole))
local macro_rules | `(tactic| walk_at "eval ListComp") => `(tactic| (k_here; first
  | ((with_reducible show wpAny _ _ (eval (PySem.Expr.ListComp _ [PySem.Comprehension.mk _ _ [_] _] _ _) _) _ _ _); k_dflt (refine ListComp_TS (F₀ := by k_asm) (by with_unfolding_all rfl) (by decide) (by rfl) (by decide) (by rfl) ?_))
  | ((with_reducible show wpAny _ _ (eval (PySem.Expr.ListComp _ [PySem.Comprehension.mk _ _ [] _] _ _) _) _ _ _); k_dflt (refine ListComp_US (F₀ := by k_asm) (by with_unfolding_all rfl) (by decide) (by rfl) (by decide) (by rfl) ?_))))
local macro_rules | `(tactic| walk_at "br ends") => `(tactic| repeat (first | (dsimp only [StepF, StepW]) | k_unfold))
local macro_rules | `(tactic| walk_at "br enterR") => `(tactic| (refine' kp_rest ?k1 ?k2 ?k3 ?k4 ?k5 ?kA ?kF ?kK ?k6 ?k7 ?k8 ?kV ?kP ?kG ?kB ?_ ?c2 ?c3 ?c4 ?c5; (case kA => exact rfl); (case kF => exact rfl); (case kK => first | assumption | exact rfl); (case k1 => k_asm); (case k2 => k_asm); (case k3 => k_asm); (case k4 => k_asm); (case k5 => k_asm); (case k6 => k_is); (case k7 => k_is); (case k8 => ktr_room); (case kV => first | kl_lit | exact rfl); (case kP => exact rfl); (case kG => exact fun _ => rfl); (case kB => exact fun _ => locs rfl); (case c5 => decide); (case c2 => exact rfl); (case c3 => exact rfl); (case c4 => exact rfl); k_whole))
local macro_rules | `(tactic| walk_at "br enterRC") => `(tactic| (refine' rest_cells ?k1 ?k2 ?k3 ?k4 ?k5 ?kA ?kF ?kK ?k6 ?k7 ?k8 ?kV ?kP ?kG ?kB ?kD ?_ ?c2 ?c3 ?c4; (case kA => exact rfl); (case kF => exact rfl); (case kK => first | assumption | exact rfl); (case k1 => k_asm); (case k2 => k_asm); (case k3 => k_asm); (case k4 => k_asm); (case k5 => k_asm); (case k6 => k_is); (case k7 => k_is); (case k8 => ktr_room); (case kV => kl_lit); (case kP => exact rfl); (case kG => exact fun _ => rfl); (case kB => exact fun _ => rfl); (case kD => decide +kernel); (case c2 => exact rfl); (case c3 => exact rfl); (case c4 => exact rfl); k_whole))
local macro_rules | `(tactic| k_room) => `(tactic| ktr_room)
local macro_rules | `(tactic| k_units) => `(tactic| ktr_units)
local macro_rules | `(tactic| walk_at "callWith ref") => `(tactic| (k_here; (with_reducible show wpAny _ _ (callWith _ (Value.ref _) _ (backTo _ (starEach [Expr.Starred _ _] _)) []) _ _ _); kco_here; k_dflt (refine' inst_S ?k1 ?k2 ?k3 ?k4 ?_; (case k1 => k_asm); (case k2 => k_inst); (case k3 => rfl); (case k4 => k_is); k_whole)))
local macro_rules | `(tactic| walk_at "StarOf ref") => `(tactic| (k_here; k_dflt (refine' star_seq ?k1 ?k2 ?m ?c ?d ?T ?e ?z ?_; (case k1 => k_asm); (case k2 => k_asm); (case m => k_mem); (case c => exact rfl); (case d => exact rfl); (case T => first | exact .inl rfl | exact .inr rfl); (case e => first | exact List.toList_toArray .. | kl_lit); (case z => first | assumption | exact Nat.le_of_ble_eq_true rfl); k_whole); intro h' F' N'; (try k_sweep); try dsimp only [List.nil_append, List.cons_append]))
local macro_rules | `(tactic| walk_at "call builtin:all") => `(tactic| (k_here; (with_reducible show wpAny _ _ (call (Value.builtin "all") [Value.ref _]) _ _ _); k_dflt (refine' all_n ?k1 ?k2 ?k3 ?k4 ?k5 ?k6 ?k7 ?_; (case k1 => k_asm); (case k2 => k_asm); (case k3 => k_mem); (case k4 => exact rfl); (case k5 => assumption); (case k6 => assumption); (case k7 => assumption); k_whole); intro h' tk' F' N'))
local macro_rules | `(tactic| walk_at "call builtin:min") => `(tactic| (k_here; (show wpAny _ _ (call (Value.builtin "min") [Value.ref _] [(PySem.Str.ofString "key", Value.builtin "len")]) _ _ _); k_dflt (refine' min_n ?k1 ?k2 ?k3 ?k4 ?k5 ?k6 ?k7 ?_; (case k1 => k_asm); (case k2 => k_asm); (case k3 => k_mem); (case k4 => exact rfl); (case k5 => assumption); (case k6 => assumption); (case k7 => assumption); k_whole); intro iMin xMin tMin h' tk' hiMin hlMin hMin F' N'))
local macro_rules | `(tactic| walk_at "call type:map") => `(tactic| (k_here; (with_reducible show wpAny _ _ (call (Value.type "map") [Value.builtin "len", Value.ref _]) _ _ _); first
  | (k_dflt (refine' map_tup_n ?k1 ?k2 ?k3 ?_; (case k1 => k_asm); (case k2 => k_asm); (case k3 => k_mem); k_whole); intro it' TI' M' h' hm1 hm2 hm3 hm4 F' N')
  | (k_dflt (refine' map_list_n ?k1 ?k2 ?k3 ?k4 ?k5 ?_; (case k1 => k_asm); (case k2 => k_asm); (case k3 => k_mem); (case k4 => exact rfl); (case k5 => exact rfl); k_whole); intro it' TI' M' h' hm1 hm2 hm3 hm4 F' N')))
local macro_rules | `(tactic| walk_at "call builtin:max") => `(tactic| (k_here; (with_reducible show wpAny _ _ (call (Value.builtin "max") [Value.ref _]) _ _ _); first
  | (k_dflt (refine' max_tup_n ?a1 ?a2 ?a3 ?a4 ?k1 ?k2 ?k3 ?k4 ?k5 ?k6 ?k7 ?_; (case k1 => k_asm); (case k2 => k_asm); (case a1 => assumption); (case a2 => assumption); (case a3 => assumption); (case a4 => assumption); (case k3 => k_mem); (case k4 => exact rfl); (case k5 => assumption); (case k6 => assumption); (case k7 => assumption); k_whole); intro kMax tMax h' tk' hMax hMax0 hMax1 F' N')
  | (k_dflt (refine' max_list_n ?a1 ?a2 ?a3 ?a4 ?k1 ?k2 ?k3 ?k3a ?k3b ?k4 ?k5 ?k6 ?k7 ?_; (case k1 => k_asm); (case k2 => k_asm); (case a1 => assumption); (case a2 => assumption); (case a3 => assumption); (case a4 => assumption); (case k3 => k_mem); (case k3a => exact rfl); (case k3b => exact rfl); (case k4 => exact rfl); (case k5 => assumption); (case k6 => assumption); (case k7 => assumption); k_whole); intro kMax tMax h' tk' hMax hMax0 hMax1 F' N')))
local macro_rules | `(tactic| walk_at "eval Call Attribute") => `(tactic| (k_here; (with_reducible show wpAny _ _ (eval (PySem.Expr.Call (PySem.Expr.Attribute _ _ _) [PySem.Expr.Starred _ _] _ _) _) _ _ _); refine starMeth ?_))
local macro_rules | `(tactic| walk_at "callWith ref") => `(tactic| (k_here; (with_reducible show wpAny _ _ (callWith _ (Value.ref _) _ (backTo _ (starEach [Expr.Starred _ _] _)) []) _ _ _); k_dflt (refine' callWith_SM ?k1 ?k2 ?k3 ?k4 ?_; (case k1 => k_asm); (case k2 => k_asm); (case k3 => k_mem); (case k4 => k_is); k_whole)))
local macro_rules | `(tactic| walk_at "call ref") => `(tactic| (k_here; (with_reducible show wpAny _ _ (call (Value.ref _) _) _ _ _); k_dflt (refine' call_meth (f := .ref 108) ?k1 ?k2 ?_; (case k1 => k_asm); (case k2 => k_mem); k_whole); k_dflt (walk_at "br enterRC"); intro D' g' L' h' tk' cells' lD' FG' F' N' Y' B' X' T' l1; (have lAll := l1); (try k_lt l1); k_cells Y'; (try simp only [List.cons_append, List.nil_append] at N'); (try dsimp only); (try k_lift B'); refine wpAny_noRaise ?_; (try k_fold)))
local macro_rules | `(tactic| walk_at "br mem") => `(tactic| first | assumption | (refine List.Mem.tail _ ?_; walk_at "br mem"))
local macro_rules | `(tactic| k_in) => `(tactic| (refine' Frag.In.keeps ?kinX (Fr.keep ?kinF); (case kinF => k_asm); (case kinX => first | with_reducible assumption | k_asm)))
local macro_rules | `(tactic| k_in) => `(tactic| with_reducible assumption)
-- the walker as at a file's start (open_top turns it to the top's lines)
theorem fresh_lawpiece : True := by
  w_top off
  trivial
theorem jn_le {j n l : Nat} (h : j < l - n) : j + (n + 1) ≤ l := by omega
local macro_rules | `(tactic| walk_at "compareOp Eq ref ref") => `(tactic| (k_here; (with_reducible show wpAny _ _ (compareOp _ (Value.ref _) (Value.ref _)) _ _ _); refine Stopped.out ?_))
set_option maxHeartbeats 8000000 in
theorem lawpiece_meet (w : World) (lw : Addr) (k : Nat) (vs : List Value) (f : Str) (ws : List Str) (hvs : StrsAre vs (f :: ws)) (hl : ∀ x ∈ f :: ws, x.length ≤ 40) (hn : ws.length ≤ 10) :
    Meet w 1 8 271 [.ref lw] [(lw, listOf vs.toArray k)] (fun _ => True) (fun v => ∃ t, v = .str (piece f (f :: ws)) t) := by
  obtain ⟨t1, vs', rfl, hvs'⟩ : ∃ t1 vs', vs = .str f t1 :: vs' ∧ StrsAre vs' ws := by cases hvs with | cons _ t r => exact ⟨t, _, rfl, r⟩
  have hf : f.length ≤ 40 := hl _ (.head _)
  unfold Meet
  k_fill
  intro p loose mean mg mb dp un gd cn cs a ccd cl outer A₀ base h₀ L m news s Q E B F X N T hk hpre hneed hd hu hret
  replace N := news_need N hneed
  simp only [List.cons_append, List.nil_append] at N
  refine wpAny_call ?_
  k_dflt (walk_at "br enterC")
  intro g L₁ h₁ tk₁ cells FG FL NL Y BL XL TL lAll
  have l1 := lAll
  k_lt l1
  k_cells Y
  simp only [List.cons_append, List.nil_append] at NL
  dsimp only
  refine wpAny_noRaise ?_
  k_fold
  k_steps
  rename Fr _ _ _ _ => F1
  rename News _ _ _ _ => N1
  rename IsRange _ _ _ _ _ _ _ _ => R1
  refine loop_down (n := f.length) (fun n m led => ∃ o1 o2 of, (L₁ + 1 + 1 + 1, o1) :: (L₁ + 1 + 1, o2) :: (L₁ + 1, of) :: (lw, listOf (.str f t1 :: vs').toArray k) :: news = led ∧ (∃ v, o1.data = .cell v) ∧ (∃ v, o2.data = .cell v) ∧ of.data = .cell (some (.str f t1)) ∧ m "words" = some (.ref lw) ∧ n ≤ f.length ∧ piece f (f :: ws) = pieceGo f (f :: ws) n) rfl R1 rfl (by omega) F1 N1 ?_ ?_ ?_
  · exact ⟨_, _, _, rfl, ⟨_, by assumption⟩, ⟨_, by assumption⟩, by assumption, rfl, Nat.le_refl _, rfl⟩
  · intro n t m₁ led h tk I oI hn ⟨o1, o2, of, hled, ⟨v1, c1⟩, ⟨v2, c2⟩, c3, e1, hle, hp⟩ ha hlt F₁ N₁
    subst hled
    have F₂ := fr_named [(Str.ofString "words", _)] F₁ (by walk_at "br frs"; exact e1)
    dsimp only [kstB] at F₂
    have i1 := ltN (hlt _ (.head _))
    have i2 := ltN (hlt _ (.tail _ (.head _)))
    have i3 := ltN (hlt _ (.tail _ (.tail _ (.head _))))
    have i4 := ltN (hlt _ (.tail _ (.tail _ (.tail _ (.head _)))))
    dsimp only at i1 i2 i3 i4
    clear F₁ F1 N1 R1 e1 hlt
    (try k_fold)
    k_steps
    rename Fr _ _ _ _ => F1
    rename News _ _ _ _ => N1
    rename IsRange _ _ _ _ _ _ _ _ => R1
    refine loop_up (n := f.length - n) (fun j m led => ∃ o1 os of, (I, oI) :: (L₁ + 1 + 1 + 1, o1) :: (L₁ + 1 + 1, os) :: (L₁ + 1, of) :: (lw, listOf (.str f t1 :: vs').toArray k) :: news = led ∧ (∃ v, o1.data = .cell v) ∧ os.data = .cell (some (.int ((n + 1 : Nat) : Int) t)) ∧ of.data = .cell (some (.str f t1)) ∧ m "words" = some (.ref lw) ∧ pieceRow f (f :: ws) (n + 1) j = none) rfl R1 (by omega) (by omega) F1 N1 ?_ ?_ ?_
    · exact ⟨_, _, _, rfl, ⟨_, by assumption⟩, by assumption, by assumption, rfl, rfl⟩
    · intro j t' m₁ led h tk I' oI' hj ⟨o1, os, of, hled, ⟨v1, c1⟩, c2, c3, e1, hr⟩ ha hlt F₁ N₁
      subst hled
      have F₂ := fr_named [(Str.ofString "words", _)] F₁ (by walk_at "br frs"; exact e1)
      dsimp only [kstB] at F₂
      have j0 := ltN (hlt _ (.head _))
      have j1 := ltN (hlt _ (.tail _ (.head _)))
      have j2 := ltN (hlt _ (.tail _ (.tail _ (.head _))))
      have j3 := ltN (hlt _ (.tail _ (.tail _ (.tail _ (.head _)))))
      have j4 := ltN (hlt _ (.tail _ (.tail _ (.tail _ (.tail _ (.head _))))))
      dsimp only at j0 j1 j2 j3 j4
      clear F₁ F1 N1 R1 e1 hlt
      (try k_fold)
      k_steps
      refine Stopped.of ?_
      refine comp_T (fun i ys => ∃ zs : List Str, StrsAre ys zs ∧ zs.length ≤ i ∧ (zs = [] ↔ ∀ x ∈ (f :: ws).take i, Txt.contains x (sub f j (n + 1)) = true)) rfl (by k_asm) (by k_asm) (by k_mem) (by rw [sizeLine_eq, List.size_toArray, strs_len hvs]; simp; omega) ⟨[], .nil, by simp, by simp⟩ ?_ ?_
      · intro i v ys Ic oIc C oC D m₂ h tk hv ⟨zs, hz1, hz2, hz3⟩ hC hx FC NC off ne
        obtain ⟨y, ty, hy, rfl⟩ := strs_at hvs hv
        have hyl : y.length ≤ 40 := hl _ (List.mem_of_getElem? hy)
        simp only [LCg.Off3] at off
        k_steps
        · rename (List.isEmpty _) = true => hq
          refine ⟨_, _, _, rfl, by k_asm, by k_asm, fun _ hp => hp, zs ++ [y], strs_snoc hz1, by simp; omega, ?_⟩
          rw [slice_sub f _ _ j (n + 1) rfl (by first | exact rfl | omega) (jn_le hj)] at hq
          refine ⟨fun e => by simp at e, fun e => ?_⟩
          have := e y (by rw [List.take_add_one, hy]; simp)
          rw [contains_of, hq] at this
          cases this
        · rename (List.isEmpty _) = false => hq
          refine ⟨_, _, _, rfl, by k_asm, by k_asm, fun _ hp => hp, zs, hz1, by omega, ?_⟩
          rw [slice_sub f _ _ j (n + 1) rfl (by first | exact rfl | omega) (jn_le hj)] at hq
          rw [hz3, List.take_add_one, hy]
          constructor
          · intro e x hx
            rcases List.mem_append.mp hx with hx | hx
            · exact e x hx
            · have : x = y := by simpa using hx
              rw [this, contains_of, hq]; rfl
          · exact fun e x hx => e x (List.mem_append_left _ hx)
      · intro ys D h tk ⟨zs, hz1, hz2, hz3⟩ FD ND off
        simp only [LCg.Off1] at off
        have hall : ys.isEmpty = inAll (f :: ws) (sub f j (n + 1)) := by
          have e1 : (Value.str f t1 :: vs').toArray.size = (f :: ws).length := by rw [List.size_toArray, strs_len hvs]
          rw [e1, List.take_length, ← inAll_iff] at hz3
          rw [Bool.eq_iff_iff, ← hz3]
          have := strs_len hz1
          cases ys <;> cases zs <;> simp at this ⊢
        (try dsimp only)
        k_steps
        refine Stopped.of ?_
        refine eq_nil (by k_asm) (by k_mem) (by k_mem) (by ktr_units) ?_
        rw [hall]
        k_steps
        · rename inAll _ _ = true => hq
          rw [slice_sub f _ _ j (n + 1) rfl (by first | exact rfl | omega) (jn_le hj), ← pieceGo_yes hr hq (by omega), ← hp]
          walk_at "br ends"
          k_steps
          rename News h₀ L _ _ => KN
          exact hret _ _ _ ⟨_, rfl⟩ (by k_asm) (news_sub KN (fun _ hp => .tail _ (.tail _ (.tail _ (.tail _ (.tail _ (.tail _ (.tail _ (.tail _ hp)))))))))
        · rename inAll _ _ = false => hq
          rename Obj.data _ = PySem.Data.cell (some (Value.int (j : Int) t')) => dj
          exact ⟨_, _, _, _, _, rfl, by k_asm, by k_asm, by k_memK, by k_sub, by rfl, _, _, _, rfl, ⟨_, dj⟩, c2, c3, rfl, pieceRow_no hr hq⟩
    · intro m₁ led h tk ⟨o1, os, of, hled, ⟨v1, c1⟩, c2, c3, e1, hr⟩ F₁ N₁
      subst hled
      have F₂ := fr_named [(Str.ofString "words", _)] F₁ (by walk_at "br frs"; exact e1)
      dsimp only [kstB] at F₂
      clear F₁ F1 N1 R1 e1
      (try k_fold)
      k_steps
      exact ⟨_, _, _, _, _, rfl, by k_asm, by k_asm, by k_memK, by k_sub, by rfl, _, _, _, rfl, ⟨_, c1⟩, ⟨_, c2⟩, c3, rfl, by omega, hp.trans (pieceGo_no hr)⟩
  · intro m₁ led h tk ⟨o1, o2, of, hled, ⟨v1, c1⟩, ⟨v2, c2⟩, c3, e1, hle, hp⟩ F₁ N₁
    subst hled
    have F₂ := fr_named [(Str.ofString "words", _)] F₁ (by walk_at "br frs"; exact e1)
    dsimp only [kstB] at F₂
    clear F₁ F1 N1 R1 e1
    (try k_fold)
    k_steps
    rw [empty_is]
    rename News h₀ L _ _ => KN
    exact hret _ _ _ ⟨_, by rw [hp]; rfl⟩ (by k_asm) (news_sub KN (fun _ hp => .tail _ (.tail _ (.tail _ (.tail _ hp)))))
end Mine
end

section
open PySem PySem.W PyProof.Rows
set_option maxRecDepth 100000
namespace Mine
local macro_rules | `(tactic| walk_at "br enter") => `(tactic| first
  | (refine' code_def ?k1 ?k2 ?k3 ?k4 ?k5 ?kA ?kF ?kK ?k6 ?k7 ?k8 ?k9 ?kB ?_ ?c2 ?c3 ?c4 ?c5; (case kA => exact rfl); (case kF => exact rfl); (case kK => first | assumption | exact rfl); (case k1 => k_asm); (case k2 => k_asm); (case k3 => k_asm); (case k4 => k_asm); (case k5 => k_asm); (case k6 => k_is); (case k7 => k_is); (case k8 => ktr_room); (case k9 => first | exact BindsTo.of_eq rfl | exact binds_K (by k_in) rfl (by k_is) rfl rfl rfl); (case c5 => decide); (case kB => exact locs rfl); (case c2 => exact rfl); (case c3 => exact rfl); (case c4 => exact rfl); k_whole; intro g' L' h' FG' F' N' B' X' T'; (try dsimp only); (try k_lift B'); refine wpAny_noRaise ?_; (try k_fold))
  | (refine' code_defC ?k1 ?k2 ?k3 ?k4 ?k5 ?kA ?kF ?kK ?k6 ?k7 ?k8 ?k9 ?kB ?kD ?_ ?c2 ?c3 ?c4; (case kA => exact rfl); (case kF => exact rfl); (case kK => first | assumption | exact rfl); (case k1 => k_asm); (case k2 => k_asm); (case k3 => k_asm); (case k4 => k_asm); (case k5 => k_asm); (case k6 => k_is); (case k7 => k_is); (case k8 => ktr_room); (case k9 => first | exact BindsTo.of_eq rfl | exact binds_K (by k_in) rfl (by k_is) rfl rfl rfl); (case kB => exact rfl); (case kD => decide +kernel); (case c2 => exact rfl); (case c3 => exact rfl); (case c4 => exact rfl); k_whole; intro g' L' h' tk' cells' FG' F' N' Y' B' X' T' l1; (have lAll := l1); (try k_lt l1); k_cells Y'; (try simp only [List.cons_append, List.nil_append] at N'); (try dsimp only); (try k_lift B'); refine wpAny_noRaise ?_; (try k_fold)))
local macro_rules | `(tactic| walk_at "exec For") => `(tactic| (k_here; k_dflt (refine' for_F ?_); k_whole))
local macro_rules | `(tactic| walk_at "exec For Name Call cons nil") => `(tactic| (k_here; k_dflt (refine' for_F ?_); k_whole))
local macro_rules | `(tactic| walk_at "exec While BoolOp cons nil") => `(tactic| (k_here; refine Stopped.out ?_))
local macro_rules | `(tactic| walk_at "br frs") => `(tactic| simp only [List.forall_mem_cons, List.not_mem_nil, false_implies, implies_true, and_true])
local macro_rules | `(tactic| k_all) => `(tactic| (rename (∀ p ∈ (_ : List (Addr × Obj)), p.1 < _) => kAl'; exact fun p hp => br_ne (kAl' p (by first | exact hp | exact .tail _ hp | exact .tail _ (.tail _ hp) | exact .tail _ (.tail _ (.tail _ hp)))) (by omega)))
local macro_rules | `(tactic| walk_at "br enterC") => `(tactic| (refine' code_defC ?k1 ?k2 ?k3 ?k4 ?k5 ?kA ?kF ?kK ?k6 ?k7 ?k8 ?k9 ?kB ?kD ?_ ?c2 ?c3 ?c4; (case kA => exact rfl); (case kF => exact rfl); (case kK => first | assumption | exact rfl); (case k1 => k_asm); (case k2 => k_asm); (case k3 => k_asm); (case k4 => k_asm); (case k5 => k_asm); (case k6 => k_is); (case k7 => k_is); (case k8 => ktr_room); (case k9 => first | exact BindsTo.of_eq rfl | exact binds_K (by k_in) rfl (by k_is) rfl rfl rfl); (case kB => exact rfl); (case kD => decide +kernel); (case c2 => exact rfl); (case c3 => exact rfl); (case c4 => exact rfl); k_whole))
local macro_rules | `(tactic| walk_at "eval ListComp") => `(tactic| (k_here; first
  | ((with_reducible show wpAny _ _ (eval (PySem.Expr.ListComp _ [PySem.Comprehension.mk _ _ [_] _] _ _) _) _ _ _); k_dflt (refine ListComp_TS (F₀ := by k_asm) (by with_unfolding_all rfl) (by decide) (by rfl) (by decide) (by rfl) ?_))
  | ((with_reducible show wpAny _ _ (eval (PySem.Expr.ListComp _ [PySem.Comprehension.mk _ _ [] _] _ _) _) _ _ _); k_dflt (refine ListComp_US (F₀ := by k_asm) (by with_unfolding_all rfl) (by decide) (by rfl) (by decide) (by rfl) ?_))))
local macro_rules | `(tactic| walk_at "br ends") => `(tactic| repeat (first | (dsimp only [StepF, StepW]) | k_unfold))
local macro_rules | `(tactic| walk_at "br enterR") => `(tactic| (refine' kp_rest ?k1 ?k2 ?k3 ?k4 ?k5 ?kA ?kF ?kK ?k6 ?k7 ?k8 ?kV ?kP ?kG ?kB ?_ ?c2 ?c3 ?c4 ?c5; (case kA => exact rfl); (case kF => exact rfl); (case kK => first | assumption | exact rfl); (case k1 => k_asm); (case k2 => k_asm); (case k3 => k_asm); (case k4 => k_asm); (case k5 => k_asm); (case k6 => k_is); (case k7 => k_is); (case k8 => ktr_room); (case kV => first | kl_lit | exact rfl); (case kP => exact rfl); (case kG => exact fun _ => rfl); (case kB => exact fun _ => locs rfl); (case c5 => decide); (case c2 => exact rfl); (case c3 => exact rfl); (case c4 => exact rfl); k_whole))
local macro_rules | `(tactic| walk_at "br enterRC") => `(tactic| (refine' rest_cells ?k1 ?k2 ?k3 ?k4 ?k5 ?kA ?kF ?kK ?k6 ?k7 ?k8 ?kV ?kP ?kG ?kB ?kD ?_ ?c2 ?c3 ?c4; (case kA => exact rfl); (case kF => exact rfl); (case kK => first | assumption | exact rfl); (case k1 => k_asm); (case k2 => k_asm); (case k3 => k_asm); (case k4 => k_asm); (case k5 => k_asm); (case k6 => k_is); (case k7 => k_is); (case k8 => ktr_room); (case kV => kl_lit); (case kP => exact rfl); (case kG => exact fun _ => rfl); (case kB => exact fun _ => rfl); (case kD => decide +kernel); (case c2 => exact rfl); (case c3 => exact rfl); (case c4 => exact rfl); k_whole))
local macro_rules | `(tactic| k_room) => `(tactic| ktr_room)
local macro_rules | `(tactic| k_units) => `(tactic| ktr_units)
local macro_rules | `(tactic| walk_at "callWith ref") => `(tactic| (k_here; (with_reducible show wpAny _ _ (callWith _ (Value.ref _) _ (backTo _ (starEach [Expr.Starred _ _] _)) []) _ _ _); kco_here; k_dflt (refine' inst_S ?k1 ?k2 ?k3 ?k4 ?_; (case k1 => k_asm); (case k2 => k_inst); (case k3 => rfl); (case k4 => k_is); k_whole)))
local macro_rules | `(tactic| walk_at "StarOf ref") => `(tactic| (k_here; k_dflt (refine' star_seq ?k1 ?k2 ?m ?c ?d ?T ?e ?z ?_; (case k1 => k_asm); (case k2 => k_asm); (case m => k_mem); (case c => exact rfl); (case d => exact rfl); (case T => first | exact .inl rfl | exact .inr rfl); (case e => first | exact List.toList_toArray .. | kl_lit); (case z => first | assumption | exact Nat.le_of_ble_eq_true rfl); k_whole); intro h' F' N'; (try k_sweep); try dsimp only [List.nil_append, List.cons_append]))
local macro_rules | `(tactic| walk_at "call builtin:all") => `(tactic| (k_here; (with_reducible show wpAny _ _ (call (Value.builtin "all") [Value.ref _]) _ _ _); k_dflt (refine' all_n ?k1 ?k2 ?k3 ?k4 ?k5 ?k6 ?k7 ?_; (case k1 => k_asm); (case k2 => k_asm); (case k3 => k_mem); (case k4 => exact rfl); (case k5 => assumption); (case k6 => assumption); (case k7 => assumption); k_whole); intro h' tk' F' N'))
local macro_rules | `(tactic| walk_at "call builtin:min") => `(tactic| (k_here; (show wpAny _ _ (call (Value.builtin "min") [Value.ref _] [(PySem.Str.ofString "key", Value.builtin "len")]) _ _ _); k_dflt (refine' min_n ?k1 ?k2 ?k3 ?k4 ?k5 ?k6 ?k7 ?_; (case k1 => k_asm); (case k2 => k_asm); (case k3 => k_mem); (case k4 => exact rfl); (case k5 => assumption); (case k6 => assumption); (case k7 => assumption); k_whole); intro iMin xMin tMin h' tk' hiMin hlMin hMin F' N'))
local macro_rules | `(tactic| walk_at "call type:map") => `(tactic| (k_here; (with_reducible show wpAny _ _ (call (Value.type "map") [Value.builtin "len", Value.ref _]) _ _ _); first
  | (k_dflt (refine' map_tup_n ?k1 ?k2 ?k3 ?_; (case k1 => k_asm); (case k2 => k_asm); (case k3 => k_mem); k_whole); intro it' TI' M' h' hm1 hm2 hm3 hm4 F' N')
  | (k_dflt (refine' map_list_n ?k1 ?k2 ?k3 ?k4 ?k5 ?_; (case k1 => k_asm); (case k2 => k_asm); (case k3 => k_mem); (case k4 => exact rfl); (case k5 => exact rfl); k_whole); intro it' TI' M' h' hm1 hm2 hm3 hm4 F' N')))
local macro_rules | `(tactic| walk_at "call builtin:max") => `(tactic| (k_here; (with_reducible show wpAny _ _ (call (Value.builtin "max") [Value.ref _]) _ _ _); first
  | (k_dflt (refine' max_tup_n ?a1 ?a2 ?a3 ?a4 ?k1 ?k2 ?k3 ?k4 ?k5 ?k6 ?k7 ?_; (case k1 => k_asm); (case k2 => k_asm); (case a1 => assumption); (case a2 => assumption); (case a3 => assumption); (case a4 => assumption); (case k3 => k_mem); (case k4 => exact rfl); (case k5 => assumption); (case k6 => assumption); (case k7 => assumption); k_whole); intro kMax tMax h' tk' hMax hMax0 hMax1 F' N')
  | (k_dflt (refine' max_list_n ?a1 ?a2 ?a3 ?a4 ?k1 ?k2 ?k3 ?k3a ?k3b ?k4 ?k5 ?k6 ?k7 ?_; (case k1 => k_asm); (case k2 => k_asm); (case a1 => assumption); (case a2 => assumption); (case a3 => assumption); (case a4 => assumption); (case k3 => k_mem); (case k3a => exact rfl); (case k3b => exact rfl); (case k4 => exact rfl); (case k5 => assumption); (case k6 => assumption); (case k7 => assumption); k_whole); intro kMax tMax h' tk' hMax hMax0 hMax1 F' N')))
local macro_rules | `(tactic| walk_at "eval Call Attribute") => `(tactic| (k_here; (with_reducible show wpAny _ _ (eval (PySem.Expr.Call (PySem.Expr.Attribute _ _ _) [PySem.Expr.Starred _ _] _ _) _) _ _ _); refine starMeth ?_))
local macro_rules | `(tactic| walk_at "callWith ref") => `(tactic| (k_here; (with_reducible show wpAny _ _ (callWith _ (Value.ref _) _ (backTo _ (starEach [Expr.Starred _ _] _)) []) _ _ _); k_dflt (refine' callWith_SM ?k1 ?k2 ?k3 ?k4 ?_; (case k1 => k_asm); (case k2 => k_asm); (case k3 => k_mem); (case k4 => k_is); k_whole)))
local macro_rules | `(tactic| walk_at "call ref") => `(tactic| (k_here; (with_reducible show wpAny _ _ (call (Value.ref _) _) _ _ _); k_dflt (refine' call_meth (f := .ref 108) ?k1 ?k2 ?_; (case k1 => k_asm); (case k2 => k_mem); k_whole); k_dflt (walk_at "br enterRC"); intro D' g' L' h' tk' cells' lD' FG' F' N' Y' B' X' T' l1; (have lAll := l1); (try k_lt l1); k_cells Y'; (try simp only [List.cons_append, List.nil_append] at N'); (try dsimp only); (try k_lift B'); refine wpAny_noRaise ?_; (try k_fold)))
local macro_rules | `(tactic| walk_at "br mem") => `(tactic| first | assumption | (refine List.Mem.tail _ ?_; walk_at "br mem"))
local macro_rules | `(tactic| k_in) => `(tactic| (refine' Frag.In.keeps ?kinX (Fr.keep ?kinF); (case kinF => k_asm); (case kinX => first | with_reducible assumption | k_asm)))
local macro_rules | `(tactic| k_in) => `(tactic| with_reducible assumption)
-- the walker as at a file's start (open_top turns it to the top's lines)
theorem fresh_lawat : True := by
  w_top off
  trivial
set_option maxHeartbeats 4000000 in
theorem at_meet (w : World) (l : Addr) (vs : List Value) (ns : List Int) (k o : Int) (t t2 : Tok) (hk0 : 0 ≤ k) (hlen : ns.length < 2^62) (hi : IntsAre vs ns) :
    Meet w 1 8 261 [.ref l, .int k t, .int o t2] [] (fun base => base.IsList l vs.toArray) (fun v => ∃ i t, v = .int i t) := by
  unfold Meet
  k_fill
  intro p loose mean mg mb dp un gd cn cs a ccd cl outer A₀ base h₀ L m news s Q E B F X N T hk hpre hneed hd hu hret
  refine wpAny_call ?_
  k_dflt (walk_at "br enter")
  k_steps
  all_goals exact hret _ _ _ ⟨_, _, rfl⟩ (by k_asm) (by k_asm)
end Mine
end

section
open PySem PySem.W PyProof.Rows
set_option maxRecDepth 100000
namespace Mine
local macro_rules | `(tactic| walk_at "pad") => `(tactic| fail "pad")
local macro_rules | `(tactic| walk_at "br enter") => `(tactic| first
  | (refine' code_def ?k1 ?k2 ?k3 ?k4 ?k5 ?kA ?kF ?kK ?k6 ?k7 ?k8 ?k9 ?kB ?_ ?c2 ?c3 ?c4 ?c5; (case kA => exact rfl); (case kF => exact rfl); (case kK => first | assumption | exact rfl); (case k1 => k_asm); (case k2 => k_asm); (case k3 => k_asm); (case k4 => k_asm); (case k5 => k_asm); (case k6 => k_is); (case k7 => k_is); (case k8 => ktr_room); (case k9 => first | exact BindsTo.of_eq rfl | exact binds_K (by k_in) rfl (by k_is) rfl rfl rfl); (case c5 => decide); (case kB => exact locs rfl); (case c2 => exact rfl); (case c3 => exact rfl); (case c4 => exact rfl); k_whole; intro g' L' h' FG' F' N' B' X' T'; (try dsimp only); (try k_lift B'); refine wpAny_noRaise ?_; (try k_fold))
  | (refine' code_defC ?k1 ?k2 ?k3 ?k4 ?k5 ?kA ?kF ?kK ?k6 ?k7 ?k8 ?k9 ?kB ?kD ?_ ?c2 ?c3 ?c4; (case kA => exact rfl); (case kF => exact rfl); (case kK => first | assumption | exact rfl); (case k1 => k_asm); (case k2 => k_asm); (case k3 => k_asm); (case k4 => k_asm); (case k5 => k_asm); (case k6 => k_is); (case k7 => k_is); (case k8 => ktr_room); (case k9 => first | exact BindsTo.of_eq rfl | exact binds_K (by k_in) rfl (by k_is) rfl rfl rfl); (case kB => exact rfl); (case kD => decide +kernel); (case c2 => exact rfl); (case c3 => exact rfl); (case c4 => exact rfl); k_whole; intro g' L' h' tk' cells' FG' F' N' Y' B' X' T' l1; (have lAll := l1); (try k_lt l1); k_cells Y'; (try simp only [List.cons_append, List.nil_append] at N'); (try dsimp only); (try k_lift B'); refine wpAny_noRaise ?_; (try k_fold)))
local macro_rules | `(tactic| walk_at "exec For") => `(tactic| (k_here; k_dflt (refine' for_F ?_); k_whole))
local macro_rules | `(tactic| walk_at "exec For Name Call cons nil") => `(tactic| (k_here; k_dflt (refine' for_F ?_); k_whole))
local macro_rules | `(tactic| walk_at "exec While BoolOp cons nil") => `(tactic| (k_here; refine Stopped.out ?_))
local macro_rules | `(tactic| walk_at "br frs") => `(tactic| simp only [List.forall_mem_cons, List.not_mem_nil, false_implies, implies_true, and_true])
local macro_rules | `(tactic| k_all) => `(tactic| (rename (∀ p ∈ (_ : List (Addr × Obj)), p.1 < _) => kAl'; exact fun p hp => br_ne (kAl' p (by first | exact hp | exact .tail _ hp | exact .tail _ (.tail _ hp) | exact .tail _ (.tail _ (.tail _ hp)))) (by omega)))
local macro_rules | `(tactic| walk_at "br enterC") => `(tactic| (refine' code_defC ?k1 ?k2 ?k3 ?k4 ?k5 ?kA ?kF ?kK ?k6 ?k7 ?k8 ?k9 ?kB ?kD ?_ ?c2 ?c3 ?c4; (case kA => exact rfl); (case kF => exact rfl); (case kK => first | assumption | exact rfl); (case k1 => k_asm); (case k2 => k_asm); (case k3 => k_asm); (case k4 => k_asm); (case k5 => k_asm); (case k6 => k_is); (case k7 => k_is); (case k8 => ktr_room); (case k9 => first | exact BindsTo.of_eq rfl | exact binds_K (by k_in) rfl (by k_is) rfl rfl rfl); (case kB => exact rfl); (case kD => decide +kernel); (case c2 => exact rfl); (case c3 => exact rfl); (case c4 => exact rfl); k_whole))
local macro_rules | `(tactic| walk_at "eval ListComp") => `(tactic| (k_here; first
  | ((with_reducible show wpAny _ _ (eval (PySem.Expr.ListComp _ [PySem.Comprehension.mk _ _ [_] _] _ _) _) _ _ _); k_dflt (refine ListComp_TS (F₀ := by k_asm) (by with_unfolding_all rfl) (by decide) (by rfl) (by decide) (by rfl) ?_))
  | ((with_reducible show wpAny _ _ (eval (PySem.Expr.ListComp _ [PySem.Comprehension.mk _ _ [] _] _ _) _) _ _ _); k_dflt (refine ListComp_US (F₀ := by k_asm) (by with_unfolding_all rfl) (by decide) (by rfl) (by decide) (by rfl) ?_))))
local macro_rules | `(tactic| walk_at "br ends") => `(tactic| repeat (first | (dsimp only [StepF, StepW]) | k_unfold))
local macro_rules | `(tactic| walk_at "br enterR") => `(tactic| (refine' kp_rest ?k1 ?k2 ?k3 ?k4 ?k5 ?kA ?kF ?kK ?k6 ?k7 ?k8 ?kV ?kP ?kG ?kB ?_ ?c2 ?c3 ?c4 ?c5; (case kA => exact rfl); (case kF => exact rfl); (case kK => first | assumption | exact rfl); (case k1 => k_asm); (case k2 => k_asm); (case k3 => k_asm); (case k4 => k_asm); (case k5 => k_asm); (case k6 => k_is); (case k7 => k_is); (case k8 => ktr_room); (case kV => first | kl_lit | exact rfl); (case kP => exact rfl); (case kG => exact fun _ => rfl); (case kB => exact fun _ => locs rfl); (case c5 => decide); (case c2 => exact rfl); (case c3 => exact rfl); (case c4 => exact rfl); k_whole))
local macro_rules | `(tactic| walk_at "br enterRC") => `(tactic| (refine' rest_cells ?k1 ?k2 ?k3 ?k4 ?k5 ?kA ?kF ?kK ?k6 ?k7 ?k8 ?kV ?kP ?kG ?kB ?kD ?_ ?c2 ?c3 ?c4; (case kA => exact rfl); (case kF => exact rfl); (case kK => first | assumption | exact rfl); (case k1 => k_asm); (case k2 => k_asm); (case k3 => k_asm); (case k4 => k_asm); (case k5 => k_asm); (case k6 => k_is); (case k7 => k_is); (case k8 => ktr_room); (case kV => kl_lit); (case kP => exact rfl); (case kG => exact fun _ => rfl); (case kB => exact fun _ => rfl); (case kD => decide +kernel); (case c2 => exact rfl); (case c3 => exact rfl); (case c4 => exact rfl); k_whole))
local macro_rules | `(tactic| k_room) => `(tactic| ktr_room)
local macro_rules | `(tactic| k_units) => `(tactic| ktr_units)
local macro_rules | `(tactic| walk_at "callWith ref") => `(tactic| (k_here; (with_reducible show wpAny _ _ (callWith _ (Value.ref _) _ (backTo _ (starEach [Expr.Starred _ _] _)) []) _ _ _); kco_here; k_dflt (refine' inst_S ?k1 ?k2 ?k3 ?k4 ?_; (case k1 => k_asm); (case k2 => k_inst); (case k3 => rfl); (case k4 => k_is); k_whole)))
local macro_rules | `(tactic| walk_at "StarOf ref") => `(tactic| (k_here; k_dflt (refine' star_seq ?k1 ?k2 ?m ?c ?d ?T ?e ?z ?_; (case k1 => k_asm); (case k2 => k_asm); (case m => k_mem); (case c => exact rfl); (case d => exact rfl); (case T => first | exact .inl rfl | exact .inr rfl); (case e => first | exact List.toList_toArray .. | kl_lit); (case z => first | assumption | exact Nat.le_of_ble_eq_true rfl); k_whole); intro h' F' N'; (try k_sweep); try dsimp only [List.nil_append, List.cons_append]))
local macro_rules | `(tactic| walk_at "call builtin:all") => `(tactic| (k_here; (with_reducible show wpAny _ _ (call (Value.builtin "all") [Value.ref _]) _ _ _); k_dflt (refine' all_n ?k1 ?k2 ?k3 ?k4 ?k5 ?k6 ?k7 ?_; (case k1 => k_asm); (case k2 => k_asm); (case k3 => k_mem); (case k4 => exact rfl); (case k5 => assumption); (case k6 => assumption); (case k7 => assumption); k_whole); intro h' tk' F' N'))
local macro_rules | `(tactic| walk_at "call builtin:min") => `(tactic| (k_here; (show wpAny _ _ (call (Value.builtin "min") [Value.ref _] [(PySem.Str.ofString "key", Value.builtin "len")]) _ _ _); k_dflt (refine' min_n ?k1 ?k2 ?k3 ?k4 ?k5 ?k6 ?k7 ?_; (case k1 => k_asm); (case k2 => k_asm); (case k3 => k_mem); (case k4 => exact rfl); (case k5 => assumption); (case k6 => assumption); (case k7 => assumption); k_whole); intro iMin xMin tMin h' tk' hiMin hlMin hMin F' N'))
local macro_rules | `(tactic| walk_at "call type:map") => `(tactic| (k_here; (with_reducible show wpAny _ _ (call (Value.type "map") [Value.builtin "len", Value.ref _]) _ _ _); first
  | (k_dflt (refine' map_tup_n ?k1 ?k2 ?k3 ?_; (case k1 => k_asm); (case k2 => k_asm); (case k3 => k_mem); k_whole); intro it' TI' M' h' hm1 hm2 hm3 hm4 F' N')
  | (k_dflt (refine' map_list_n ?k1 ?k2 ?k3 ?k4 ?k5 ?_; (case k1 => k_asm); (case k2 => k_asm); (case k3 => k_mem); (case k4 => exact rfl); (case k5 => exact rfl); k_whole); intro it' TI' M' h' hm1 hm2 hm3 hm4 F' N')))
local macro_rules | `(tactic| walk_at "call builtin:max") => `(tactic| (k_here; (with_reducible show wpAny _ _ (call (Value.builtin "max") [Value.ref _]) _ _ _); first
  | (k_dflt (refine' max_tup_n ?a1 ?a2 ?a3 ?a4 ?k1 ?k2 ?k3 ?k4 ?k5 ?k6 ?k7 ?_; (case k1 => k_asm); (case k2 => k_asm); (case a1 => assumption); (case a2 => assumption); (case a3 => assumption); (case a4 => assumption); (case k3 => k_mem); (case k4 => exact rfl); (case k5 => assumption); (case k6 => assumption); (case k7 => assumption); k_whole); intro kMax tMax h' tk' hMax hMax0 hMax1 F' N')
  | (k_dflt (refine' max_list_n ?a1 ?a2 ?a3 ?a4 ?k1 ?k2 ?k3 ?k3a ?k3b ?k4 ?k5 ?k6 ?k7 ?_; (case k1 => k_asm); (case k2 => k_asm); (case a1 => assumption); (case a2 => assumption); (case a3 => assumption); (case a4 => assumption); (case k3 => k_mem); (case k3a => exact rfl); (case k3b => exact rfl); (case k4 => exact rfl); (case k5 => assumption); (case k6 => assumption); (case k7 => assumption); k_whole); intro kMax tMax h' tk' hMax hMax0 hMax1 F' N')))
local macro_rules | `(tactic| walk_at "eval Call Attribute") => `(tactic| (k_here; (with_reducible show wpAny _ _ (eval (PySem.Expr.Call (PySem.Expr.Attribute _ _ _) [PySem.Expr.Starred _ _] _ _) _) _ _ _); refine starMeth ?_))
local macro_rules | `(tactic| walk_at "callWith ref") => `(tactic| (k_here; (with_reducible show wpAny _ _ (callWith _ (Value.ref _) _ (backTo _ (starEach [Expr.Starred _ _] _)) []) _ _ _); k_dflt (refine' callWith_SM ?k1 ?k2 ?k3 ?k4 ?_; (case k1 => k_asm); (case k2 => k_asm); (case k3 => k_mem); (case k4 => k_is); k_whole)))
local macro_rules | `(tactic| walk_at "call ref") => `(tactic| (k_here; (with_reducible show wpAny _ _ (call (Value.ref _) _) _ _ _); k_dflt (refine' call_meth (f := .ref 108) ?k1 ?k2 ?_; (case k1 => k_asm); (case k2 => k_mem); k_whole); k_dflt (walk_at "br enterRC"); intro D' g' L' h' tk' cells' lD' FG' F' N' Y' B' X' T' l1; (have lAll := l1); (try k_lt l1); k_cells Y'; (try simp only [List.cons_append, List.nil_append] at N'); (try dsimp only); (try k_lift B'); refine wpAny_noRaise ?_; (try k_fold)))
local macro_rules | `(tactic| walk_at "br mem") => `(tactic| first | assumption | (refine List.Mem.tail _ ?_; walk_at "br mem"))
local macro_rules | `(tactic| k_in) => `(tactic| (refine' Frag.In.keeps ?kinX (Fr.keep ?kinF); (case kinF => k_asm); (case kinX => first | with_reducible assumption | k_asm)))
local macro_rules | `(tactic| k_in) => `(tactic| with_reducible assumption)
-- the walker as at a file's start (open_top turns it to the top's lines)
theorem fresh_lawword : True := by
  w_top off
  trivial
local macro_rules | `(tactic| walk_at "call ref") => `(tactic| (k_here; (with_reducible show wpAny _ _ (call (Value.ref 261) _) _ _ _); k_dflt (refine' (at_meet _ _ _ _ _ _ _ _ ?h0 ?h1 ?h2).use ?k1 ?k2 ?k3 ?k4 ?k5 ?kK ?hp ?hn ?hd ?hu ?_; (case k1 => k_asm); (case k2 => k_asm); (case k3 => k_asm); (case k4 => k_asm); (case k5 => k_asm); (case kK => first | assumption | exact rfl); (case h2 => assumption); (case h1 => assumption); (case hp => assumption); (case h0 => omega); (case hn => exact fun _ h => nomatch h); (case hd => ktr_room); (case hu => ktr_units); k_whole; intro v9 h9 tk9 ho9 F9 N9; obtain ⟨i9, t9, hv9⟩ := ho9; subst hv9)))
set_option maxHeartbeats 8000000 in
theorem word_meet (w : World) (l : Addr) (vs : List Value) (ns : List Int) (st o : Int) (t t2 t3 t4 : Tok) (hk0 : 0 ≤ st) (hk1 : st ≤ 100) (ho : 0 ≤ o) (ho1 : o ≤ 100) (hlen : ns.length < 2^62) (hi : IntsAre vs ns) :
    Meet w 3 20 266 [.ref l, .int st t, .int 6 t2, .str (Str.ofString "abB") t3, .int o t4] [] (fun base => base.IsList l vs.toArray) (fun v => ∃ x t, v = .str x t ∧ x.length ≤ 6 ∧ 120 ∉ x.cps.toList) := by
  unfold Meet
  k_fill
  intro p loose mean mg mb dp un gd cn cs a ccd cl outer A₀ base h₀ L m news s Q E B F X N T hk hpre hneed hd hu hret
  refine wpAny_call ?_
  k_dflt (walk_at "br enterC")
  intro g L₁ h₁ tk₁ cells FG FL NL Y BL XL TL lAll
  have l1 := lAll
  (try k_lt l1)
  k_cells Y
  (try simp only [List.cons_append, List.nil_append] at NL)
  dsimp only
  k_lift BL
  refine wpAny_noRaise ?_
  k_fold
  k_steps
  refine Stopped.of ?_
  rename Fr _ _ _ _ => F1
  rename News _ _ _ _ => N1
  rename IsRange _ _ _ _ _ _ _ _ => R1
  rename Int => i9
  obtain ⟨n, hn6, hn⟩ := fmod7 i9
  refine comp_R (n := n) (fun i ys => ∃ zs : List Str, StrsAre ys zs ∧ zs.length = i ∧ ∀ z ∈ zs, ∃ c, z = ⟨#[c]⟩ ∧ c ≠ 120) rfl F1 N1 R1 hn (by omega) ⟨[], .nil, rfl, fun _ h => nomatch h⟩ ?_ ?_
  · intro i ti ys Ic oIc C oC D m₂ h tk hi ⟨zs, hz1, hz2, hz3⟩ hC hx FC NC off ne
    simp only [LCg.Off3] at off
    clear F1 N1 R1
    k_steps
    refine ⟨_, _, _, rfl, by k_asm, by k_asm, fun _ hp => hp, zs ++ [_], strs_snoc hz1, by simp; omega, fun z hz => ?_⟩
    rcases List.mem_append.mp hz with hz | hz
    · exact hz3 z hz
    · rw [List.mem_singleton.mp hz]; exact letter3 _ _ rfl
  · intro ys D h tk ⟨zs, hz1, hz2, hz3⟩ FD ND off
    simp only [LCg.Off1] at off
    clear F1 N1 R1
    k_steps
    refine join_listW (News.isList ND (.head _)) hz1 (by decide) (by rw [sum_ones hz3]; omega) fun t' k => ?_
    dsimp only
    k_steps
    rename News h₀ L _ _ => KN
    obtain ⟨fa, fb⟩ := flat_ones hz3
    refine hret _ _ _ ⟨_, _, rfl, ?_, ?_⟩ (by k_asm) (fun p hp => KN p (.tail _ (.tail _ (.tail _ (.tail _ (.tail _ hp))))))
    · rw [← len_l, join_flat, fa, hz2]; exact hn6
    · rw [join_flat]; exact fb
end Mine
end

section
open PySem PySem.W PyProof.Rows
set_option maxRecDepth 100000
namespace Mine
local macro_rules | `(tactic| walk_at "pad") => `(tactic| fail "pad")
local macro_rules | `(tactic| walk_at "pad") => `(tactic| fail "pad")
local macro_rules | `(tactic| walk_at "pad") => `(tactic| fail "pad")
local macro_rules | `(tactic| walk_at "br enter") => `(tactic| first
  | (refine' code_def ?k1 ?k2 ?k3 ?k4 ?k5 ?kA ?kF ?kK ?k6 ?k7 ?k8 ?k9 ?kB ?_ ?c2 ?c3 ?c4 ?c5; (case kA => exact rfl); (case kF => exact rfl); (case kK => first | assumption | exact rfl); (case k1 => k_asm); (case k2 => k_asm); (case k3 => k_asm); (case k4 => k_asm); (case k5 => k_asm); (case k6 => k_is); (case k7 => k_is); (case k8 => ktr_room); (case k9 => first | exact BindsTo.of_eq rfl | exact binds_K (by k_in) rfl (by k_is) rfl rfl rfl); (case c5 => decide); (case kB => exact locs rfl); (case c2 => exact rfl); (case c3 => exact rfl); (case c4 => exact rfl); k_whole; intro g' L' h' FG' F' N' B' X' T'; (try dsimp only); (try k_lift B'); refine wpAny_noRaise ?_; (try k_fold))
  | (refine' code_defC ?k1 ?k2 ?k3 ?k4 ?k5 ?kA ?kF ?kK ?k6 ?k7 ?k8 ?k9 ?kB ?kD ?_ ?c2 ?c3 ?c4; (case kA => exact rfl); (case kF => exact rfl); (case kK => first | assumption | exact rfl); (case k1 => k_asm); (case k2 => k_asm); (case k3 => k_asm); (case k4 => k_asm); (case k5 => k_asm); (case k6 => k_is); (case k7 => k_is); (case k8 => ktr_room); (case k9 => first | exact BindsTo.of_eq rfl | exact binds_K (by k_in) rfl (by k_is) rfl rfl rfl); (case kB => exact rfl); (case kD => decide +kernel); (case c2 => exact rfl); (case c3 => exact rfl); (case c4 => exact rfl); k_whole; intro g' L' h' tk' cells' FG' F' N' Y' B' X' T' l1; (have lAll := l1); (try k_lt l1); k_cells Y'; (try simp only [List.cons_append, List.nil_append] at N'); (try dsimp only); (try k_lift B'); refine wpAny_noRaise ?_; (try k_fold)))
local macro_rules | `(tactic| walk_at "exec For") => `(tactic| (k_here; k_dflt (refine' for_F ?_); k_whole))
local macro_rules | `(tactic| walk_at "exec For Name Call cons nil") => `(tactic| (k_here; k_dflt (refine' for_F ?_); k_whole))
local macro_rules | `(tactic| walk_at "exec While BoolOp cons nil") => `(tactic| (k_here; refine Stopped.out ?_))
local macro_rules | `(tactic| walk_at "br frs") => `(tactic| simp only [List.forall_mem_cons, List.not_mem_nil, false_implies, implies_true, and_true])
local macro_rules | `(tactic| k_all) => `(tactic| (rename (∀ p ∈ (_ : List (Addr × Obj)), p.1 < _) => kAl'; exact fun p hp => br_ne (kAl' p (by first | exact hp | exact .tail _ hp | exact .tail _ (.tail _ hp) | exact .tail _ (.tail _ (.tail _ hp)))) (by omega)))
local macro_rules | `(tactic| walk_at "br enterC") => `(tactic| (refine' code_defC ?k1 ?k2 ?k3 ?k4 ?k5 ?kA ?kF ?kK ?k6 ?k7 ?k8 ?k9 ?kB ?kD ?_ ?c2 ?c3 ?c4; (case kA => exact rfl); (case kF => exact rfl); (case kK => first | assumption | exact rfl); (case k1 => k_asm); (case k2 => k_asm); (case k3 => k_asm); (case k4 => k_asm); (case k5 => k_asm); (case k6 => k_is); (case k7 => k_is); (case k8 => ktr_room); (case k9 => first | exact BindsTo.of_eq rfl | exact binds_K (by k_in) rfl (by k_is) rfl rfl rfl); (case kB => exact rfl); (case kD => decide +kernel); (case c2 => exact rfl); (case c3 => exact rfl); (case c4 => exact rfl); k_whole))
local macro_rules | `(tactic| walk_at "eval ListComp") => `(tactic| (k_here; first
  | ((with_reducible show wpAny _ _ (eval (PySem.Expr.ListComp _ [PySem.Comprehension.mk _ _ [_] _] _ _) _) _ _ _); k_dflt (refine ListComp_TS (F₀ := by k_asm) (by with_unfolding_all rfl) (by decide) (by rfl) (by decide) (by rfl) ?_))
  | ((with_reducible show wpAny _ _ (eval (PySem.Expr.ListComp _ [PySem.Comprehension.mk _ _ [] _] _ _) _) _ _ _); k_dflt (refine ListComp_US (F₀ := by k_asm) (by with_unfolding_all rfl) (by decide) (by rfl) (by decide) (by rfl) ?_))))
local macro_rules | `(tactic| walk_at "br ends") => `(tactic| repeat (first | (dsimp only [StepF, StepW]) | k_unfold))
local macro_rules | `(tactic| walk_at "br enterR") => `(tactic| (refine' kp_rest ?k1 ?k2 ?k3 ?k4 ?k5 ?kA ?kF ?kK ?k6 ?k7 ?k8 ?kV ?kP ?kG ?kB ?_ ?c2 ?c3 ?c4 ?c5; (case kA => exact rfl); (case kF => exact rfl); (case kK => first | assumption | exact rfl); (case k1 => k_asm); (case k2 => k_asm); (case k3 => k_asm); (case k4 => k_asm); (case k5 => k_asm); (case k6 => k_is); (case k7 => k_is); (case k8 => ktr_room); (case kV => first | kl_lit | exact rfl); (case kP => exact rfl); (case kG => exact fun _ => rfl); (case kB => exact fun _ => locs rfl); (case c5 => decide); (case c2 => exact rfl); (case c3 => exact rfl); (case c4 => exact rfl); k_whole))
local macro_rules | `(tactic| walk_at "br enterRC") => `(tactic| (refine' rest_cells ?k1 ?k2 ?k3 ?k4 ?k5 ?kA ?kF ?kK ?k6 ?k7 ?k8 ?kV ?kP ?kG ?kB ?kD ?_ ?c2 ?c3 ?c4; (case kA => exact rfl); (case kF => exact rfl); (case kK => first | assumption | exact rfl); (case k1 => k_asm); (case k2 => k_asm); (case k3 => k_asm); (case k4 => k_asm); (case k5 => k_asm); (case k6 => k_is); (case k7 => k_is); (case k8 => ktr_room); (case kV => kl_lit); (case kP => exact rfl); (case kG => exact fun _ => rfl); (case kB => exact fun _ => rfl); (case kD => decide +kernel); (case c2 => exact rfl); (case c3 => exact rfl); (case c4 => exact rfl); k_whole))
local macro_rules | `(tactic| k_room) => `(tactic| ktr_room)
local macro_rules | `(tactic| k_units) => `(tactic| ktr_units)
local macro_rules | `(tactic| walk_at "callWith ref") => `(tactic| (k_here; (with_reducible show wpAny _ _ (callWith _ (Value.ref _) _ (backTo _ (starEach [Expr.Starred _ _] _)) []) _ _ _); kco_here; k_dflt (refine' inst_S ?k1 ?k2 ?k3 ?k4 ?_; (case k1 => k_asm); (case k2 => k_inst); (case k3 => rfl); (case k4 => k_is); k_whole)))
local macro_rules | `(tactic| walk_at "StarOf ref") => `(tactic| (k_here; k_dflt (refine' star_seq ?k1 ?k2 ?m ?c ?d ?T ?e ?z ?_; (case k1 => k_asm); (case k2 => k_asm); (case m => k_mem); (case c => exact rfl); (case d => exact rfl); (case T => first | exact .inl rfl | exact .inr rfl); (case e => first | exact List.toList_toArray .. | kl_lit); (case z => first | assumption | exact Nat.le_of_ble_eq_true rfl); k_whole); intro h' F' N'; (try k_sweep); try dsimp only [List.nil_append, List.cons_append]))
local macro_rules | `(tactic| walk_at "call builtin:all") => `(tactic| (k_here; (with_reducible show wpAny _ _ (call (Value.builtin "all") [Value.ref _]) _ _ _); k_dflt (refine' all_n ?k1 ?k2 ?k3 ?k4 ?k5 ?k6 ?k7 ?_; (case k1 => k_asm); (case k2 => k_asm); (case k3 => k_mem); (case k4 => exact rfl); (case k5 => assumption); (case k6 => assumption); (case k7 => assumption); k_whole); intro h' tk' F' N'))
local macro_rules | `(tactic| walk_at "call builtin:min") => `(tactic| (k_here; (show wpAny _ _ (call (Value.builtin "min") [Value.ref _] [(PySem.Str.ofString "key", Value.builtin "len")]) _ _ _); k_dflt (refine' min_n ?k1 ?k2 ?k3 ?k4 ?k5 ?k6 ?k7 ?_; (case k1 => k_asm); (case k2 => k_asm); (case k3 => k_mem); (case k4 => exact rfl); (case k5 => assumption); (case k6 => assumption); (case k7 => assumption); k_whole); intro iMin xMin tMin h' tk' hiMin hlMin hMin F' N'))
local macro_rules | `(tactic| walk_at "call type:map") => `(tactic| (k_here; (with_reducible show wpAny _ _ (call (Value.type "map") [Value.builtin "len", Value.ref _]) _ _ _); first
  | (k_dflt (refine' map_tup_n ?k1 ?k2 ?k3 ?_; (case k1 => k_asm); (case k2 => k_asm); (case k3 => k_mem); k_whole); intro it' TI' M' h' hm1 hm2 hm3 hm4 F' N')
  | (k_dflt (refine' map_list_n ?k1 ?k2 ?k3 ?k4 ?k5 ?_; (case k1 => k_asm); (case k2 => k_asm); (case k3 => k_mem); (case k4 => exact rfl); (case k5 => exact rfl); k_whole); intro it' TI' M' h' hm1 hm2 hm3 hm4 F' N')))
local macro_rules | `(tactic| walk_at "call builtin:max") => `(tactic| (k_here; (with_reducible show wpAny _ _ (call (Value.builtin "max") [Value.ref _]) _ _ _); first
  | (k_dflt (refine' max_tup_n ?a1 ?a2 ?a3 ?a4 ?k1 ?k2 ?k3 ?k4 ?k5 ?k6 ?k7 ?_; (case k1 => k_asm); (case k2 => k_asm); (case a1 => assumption); (case a2 => assumption); (case a3 => assumption); (case a4 => assumption); (case k3 => k_mem); (case k4 => exact rfl); (case k5 => assumption); (case k6 => assumption); (case k7 => assumption); k_whole); intro kMax tMax h' tk' hMax hMax0 hMax1 F' N')
  | (k_dflt (refine' max_list_n ?a1 ?a2 ?a3 ?a4 ?k1 ?k2 ?k3 ?k3a ?k3b ?k4 ?k5 ?k6 ?k7 ?_; (case k1 => k_asm); (case k2 => k_asm); (case a1 => assumption); (case a2 => assumption); (case a3 => assumption); (case a4 => assumption); (case k3 => k_mem); (case k3a => exact rfl); (case k3b => exact rfl); (case k4 => exact rfl); (case k5 => assumption); (case k6 => assumption); (case k7 => assumption); k_whole); intro kMax tMax h' tk' hMax hMax0 hMax1 F' N')))
local macro_rules | `(tactic| walk_at "eval Call Attribute") => `(tactic| (k_here; (with_reducible show wpAny _ _ (eval (PySem.Expr.Call (PySem.Expr.Attribute _ _ _) [PySem.Expr.Starred _ _] _ _) _) _ _ _); refine starMeth ?_))
local macro_rules | `(tactic| walk_at "callWith ref") => `(tactic| (k_here; (with_reducible show wpAny _ _ (callWith _ (Value.ref _) _ (backTo _ (starEach [Expr.Starred _ _] _)) []) _ _ _); k_dflt (refine' callWith_SM ?k1 ?k2 ?k3 ?k4 ?_; (case k1 => k_asm); (case k2 => k_asm); (case k3 => k_mem); (case k4 => k_is); k_whole)))
local macro_rules | `(tactic| walk_at "call ref") => `(tactic| (k_here; (with_reducible show wpAny _ _ (call (Value.ref _) _) _ _ _); k_dflt (refine' call_meth (f := .ref 108) ?k1 ?k2 ?_; (case k1 => k_asm); (case k2 => k_mem); k_whole); k_dflt (walk_at "br enterRC"); intro D' g' L' h' tk' cells' lD' FG' F' N' Y' B' X' T' l1; (have lAll := l1); (try k_lt l1); k_cells Y'; (try simp only [List.cons_append, List.nil_append] at N'); (try dsimp only); (try k_lift B'); refine wpAny_noRaise ?_; (try k_fold)))
local macro_rules | `(tactic| walk_at "br mem") => `(tactic| first | assumption | (refine List.Mem.tail _ ?_; walk_at "br mem"))
local macro_rules | `(tactic| k_in) => `(tactic| (refine' Frag.In.keeps ?kinX (Fr.keep ?kinF); (case kinF => k_asm); (case kinX => first | with_reducible assumption | k_asm)))
local macro_rules | `(tactic| k_in) => `(tactic| with_reducible assumption)
-- the walker as at a file's start (open_top turns it to the top's lines)
theorem fresh_lawcount : True := by
  w_top off
  trivial
local macro_rules | `(tactic| walk_at "call ref") => `(tactic| (k_here; (with_reducible show wpAny _ _ (call (Value.ref 271) _) _ _ _); k_dflt (refine' (lawpiece_meet _ _ _ _ _ _ (.cons _ _ (.cons _ _ .nil)) ?h1 ?h2).use ?k1 ?k2 ?k3 ?k4 ?k5 ?kK ?hp ?hn ?hd ?hu ?_; (case k1 => k_asm); (case k2 => k_asm); (case k3 => k_asm); (case k4 => k_asm); (case k5 => k_asm); (case kK => first | assumption | exact rfl); (case hn => exact List.forall_mem_singleton.mpr (by k_mem)); (case h1 => exact br_all2 (by assumption) (by assumption)); (case h2 => exact Nat.le_of_ble_eq_true rfl); (case hp => exact True.intro); (case hd => ktr_room); (case hu => ktr_units); k_whole; intro v9 h9 tk9 ho9 F9 N9; obtain ⟨t9, hv9⟩ := ho9; subst hv9)))
local macro_rules | `(tactic| walk_at "br rec") => `(tactic| (k_here; (with_reducible show wpAny _ _ (call (Value.ref 278) _) _ _ _); (rename (∀ (a b : Str) (t t2 : Tok), _) => IHr); k_dflt (refine' (IHr _ _ _ _ ?h1 ?h2 ?h3 ?h4).use ?k1 ?k2 ?k3 ?k4 ?k5 ?kK ?hp ?hn ?hd ?hu ?_; (case k1 => k_asm); (case k2 => k_asm); (case k3 => k_asm); (case k4 => k_asm); (case k5 => k_asm); (case kK => first | assumption | exact rfl); (case h1 => omega); (case h2 => omega); (case h3 => omega); (case h4 => omega); (case hp => exact True.intro); (case hn => exact fun _ h => nomatch h); (case hd => ktr_room); (case hu => ktr_units); k_whole; intro v9 h9 tk9 ho9 F9 N9; obtain ⟨t9, hv9⟩ := ho9; subst hv9)))
local macro_rules | `(tactic| walk_at "call ref") => `(tactic| walk_at "br rec")
set_option maxHeartbeats 8000000 in
theorem count_meet (w : World) : ∀ (n : Nat) (a b : Str) (t t2 : Tok), a.length < n → a.length ≤ 40 → b.length ≤ 40 → n ≤ 41 →
    Meet w (n + 3) (8 * n + 20) 278 [.str a t, .str b t2] [] (fun _ => True) (fun v => ∃ t, v = .int (cntF n a b) t) := by
  intro n
  induction n with
  | zero => intro a b t t2 h; omega
  | succ n IH =>
  intro sa sb t t2 han ha hb hn
  unfold Meet
  k_fill
  intro p loose mean mg mb dp un gd cn cs a ccd cl outer A₀ base h₀ L m news s Q E B F X N T hk hpre hneed hd hu hret
  by_cases hp : piece sa [sa, sb] = ⟨#[]⟩
  · refine wpAny_call ?_
    k_dflt (walk_at "br enter")
    have e : (piece sa [sa, sb] == Str.ofString "") = true := by rw [hp]; decide +kernel
    k_steps
    · exact hret _ _ _ ⟨_, by rw [cntF, if_pos hp]⟩ (by k_asm) (news_sub (by k_asm) (by k_sub))
    all_goals (exfalso; rename (_ == _) = false => q; rw [e] at q; cases q)
  · have e := beq_empty hp
    have ca := piece_in hp sa (.head _)
    have cb := piece_in hp sb (.tail _ (.head _))
    obtain ⟨a1, a2, a3, a4⟩ := cut_facts hp ca
    obtain ⟨b1, b2, b3, b4⟩ := cut_facts hp cb
    refine wpAny_call ?_
    k_dflt (walk_at "br enter")
    k_steps
    rename News h₀ L _ _ => KN
    exact hret _ _ _ ⟨_, by rw [cntF, if_neg hp]⟩ (by k_asm) (fun p h => KN p (.tail _ (.tail _ h)))
end Mine
end

section
open PySem PySem.W PyProof.Rows
set_option maxRecDepth 100000
namespace Mine
local macro_rules | `(tactic| walk_at "br enter") => `(tactic| first
  | (refine' code_def ?k1 ?k2 ?k3 ?k4 ?k5 ?kA ?kF ?kK ?k6 ?k7 ?k8 ?k9 ?kB ?_ ?c2 ?c3 ?c4 ?c5; (case kA => exact rfl); (case kF => exact rfl); (case kK => first | assumption | exact rfl); (case k1 => k_asm); (case k2 => k_asm); (case k3 => k_asm); (case k4 => k_asm); (case k5 => k_asm); (case k6 => k_is); (case k7 => k_is); (case k8 => ktr_room); (case k9 => first | exact BindsTo.of_eq rfl | exact binds_K (by k_in) rfl (by k_is) rfl rfl rfl); (case c5 => decide); (case kB => exact locs rfl); (case c2 => exact rfl); (case c3 => exact rfl); (case c4 => exact rfl); k_whole; intro g' L' h' FG' F' N' B' X' T'; (try dsimp only); (try k_lift B'); refine wpAny_noRaise ?_; (try k_fold))
  | (refine' code_defC ?k1 ?k2 ?k3 ?k4 ?k5 ?kA ?kF ?kK ?k6 ?k7 ?k8 ?k9 ?kB ?kD ?_ ?c2 ?c3 ?c4; (case kA => exact rfl); (case kF => exact rfl); (case kK => first | assumption | exact rfl); (case k1 => k_asm); (case k2 => k_asm); (case k3 => k_asm); (case k4 => k_asm); (case k5 => k_asm); (case k6 => k_is); (case k7 => k_is); (case k8 => ktr_room); (case k9 => first | exact BindsTo.of_eq rfl | exact binds_K (by k_in) rfl (by k_is) rfl rfl rfl); (case kB => exact rfl); (case kD => decide +kernel); (case c2 => exact rfl); (case c3 => exact rfl); (case c4 => exact rfl); k_whole; intro g' L' h' tk' cells' FG' F' N' Y' B' X' T' l1; (have lAll := l1); (try k_lt l1); k_cells Y'; (try simp only [List.cons_append, List.nil_append] at N'); (try dsimp only); (try k_lift B'); refine wpAny_noRaise ?_; (try k_fold)))
local macro_rules | `(tactic| walk_at "exec For") => `(tactic| (k_here; k_dflt (refine' for_F ?_); k_whole))
local macro_rules | `(tactic| walk_at "exec For Name Call cons nil") => `(tactic| (k_here; k_dflt (refine' for_F ?_); k_whole))
local macro_rules | `(tactic| walk_at "exec While BoolOp cons nil") => `(tactic| (k_here; refine Stopped.out ?_))
local macro_rules | `(tactic| walk_at "br frs") => `(tactic| simp only [List.forall_mem_cons, List.not_mem_nil, false_implies, implies_true, and_true])
local macro_rules | `(tactic| k_all) => `(tactic| (rename (∀ p ∈ (_ : List (Addr × Obj)), p.1 < _) => kAl'; exact fun p hp => br_ne (kAl' p (by first | exact hp | exact .tail _ hp | exact .tail _ (.tail _ hp) | exact .tail _ (.tail _ (.tail _ hp)))) (by omega)))
local macro_rules | `(tactic| walk_at "br enterC") => `(tactic| (refine' code_defC ?k1 ?k2 ?k3 ?k4 ?k5 ?kA ?kF ?kK ?k6 ?k7 ?k8 ?k9 ?kB ?kD ?_ ?c2 ?c3 ?c4; (case kA => exact rfl); (case kF => exact rfl); (case kK => first | assumption | exact rfl); (case k1 => k_asm); (case k2 => k_asm); (case k3 => k_asm); (case k4 => k_asm); (case k5 => k_asm); (case k6 => k_is); (case k7 => k_is); (case k8 => ktr_room); (case k9 => first | exact BindsTo.of_eq rfl | exact binds_K (by k_in) rfl (by k_is) rfl rfl rfl); (case kB => exact rfl); (case kD => decide +kernel); (case c2 => exact rfl); (case c3 => exact rfl); (case c4 => exact rfl); k_whole))
local macro_rules | `(tactic| walk_at "eval ListComp") => `(tactic| (k_here; first
  | ((with_reducible show wpAny _ _ (eval (PySem.Expr.ListComp _ [PySem.Comprehension.mk _ _ [_] _] _ _) _) _ _ _); k_dflt (refine ListComp_TS (F₀ := by k_asm) (by with_unfolding_all rfl) (by decide) (by rfl) (by decide) (by rfl) ?_))
  | ((with_reducible show wpAny _ _ (eval (PySem.Expr.ListComp _ [PySem.Comprehension.mk _ _ [] _] _ _) _) _ _ _); k_dflt (refine ListComp_US (F₀ := by k_asm) (by with_unfolding_all rfl) (by decide) (by rfl) (by decide) (by rfl) ?_))))
local macro_rules | `(tactic| walk_at "br ends") => `(tactic| repeat (first | (dsimp only [StepF, StepW]) | k_unfold))
local macro_rules | `(tactic| walk_at "br enterR") => `(tactic| (refine' kp_rest ?k1 ?k2 ?k3 ?k4 ?k5 ?kA ?kF ?kK ?k6 ?k7 ?k8 ?kV ?kP ?kG ?kB ?_ ?c2 ?c3 ?c4 ?c5; (case kA => exact rfl); (case kF => exact rfl); (case kK => first | assumption | exact rfl); (case k1 => k_asm); (case k2 => k_asm); (case k3 => k_asm); (case k4 => k_asm); (case k5 => k_asm); (case k6 => k_is); (case k7 => k_is); (case k8 => ktr_room); (case kV => first | kl_lit | exact rfl); (case kP => exact rfl); (case kG => exact fun _ => rfl); (case kB => exact fun _ => locs rfl); (case c5 => decide); (case c2 => exact rfl); (case c3 => exact rfl); (case c4 => exact rfl); k_whole))
local macro_rules | `(tactic| walk_at "br enterRC") => `(tactic| (refine' rest_cells ?k1 ?k2 ?k3 ?k4 ?k5 ?kA ?kF ?kK ?k6 ?k7 ?k8 ?kV ?kP ?kG ?kB ?kD ?_ ?c2 ?c3 ?c4; (case kA => exact rfl); (case kF => exact rfl); (case kK => first | assumption | exact rfl); (case k1 => k_asm); (case k2 => k_asm); (case k3 => k_asm); (case k4 => k_asm); (case k5 => k_asm); (case k6 => k_is); (case k7 => k_is); (case k8 => ktr_room); (case kV => kl_lit); (case kP => exact rfl); (case kG => exact fun _ => rfl); (case kB => exact fun _ => rfl); (case kD => decide +kernel); (case c2 => exact rfl); (case c3 => exact rfl); (case c4 => exact rfl); k_whole))
local macro_rules | `(tactic| k_room) => `(tactic| ktr_room)
local macro_rules | `(tactic| k_units) => `(tactic| ktr_units)
local macro_rules | `(tactic| walk_at "callWith ref") => `(tactic| (k_here; (with_reducible show wpAny _ _ (callWith _ (Value.ref _) _ (backTo _ (starEach [Expr.Starred _ _] _)) []) _ _ _); kco_here; k_dflt (refine' inst_S ?k1 ?k2 ?k3 ?k4 ?_; (case k1 => k_asm); (case k2 => k_inst); (case k3 => rfl); (case k4 => k_is); k_whole)))
local macro_rules | `(tactic| walk_at "StarOf ref") => `(tactic| (k_here; k_dflt (refine' star_seq ?k1 ?k2 ?m ?c ?d ?T ?e ?z ?_; (case k1 => k_asm); (case k2 => k_asm); (case m => k_mem); (case c => exact rfl); (case d => exact rfl); (case T => first | exact .inl rfl | exact .inr rfl); (case e => first | exact List.toList_toArray .. | kl_lit); (case z => first | assumption | exact Nat.le_of_ble_eq_true rfl); k_whole); intro h' F' N'; (try k_sweep); try dsimp only [List.nil_append, List.cons_append]))
local macro_rules | `(tactic| walk_at "call builtin:all") => `(tactic| (k_here; (with_reducible show wpAny _ _ (call (Value.builtin "all") [Value.ref _]) _ _ _); k_dflt (refine' all_n ?k1 ?k2 ?k3 ?k4 ?k5 ?k6 ?k7 ?_; (case k1 => k_asm); (case k2 => k_asm); (case k3 => k_mem); (case k4 => exact rfl); (case k5 => assumption); (case k6 => assumption); (case k7 => assumption); k_whole); intro h' tk' F' N'))
local macro_rules | `(tactic| walk_at "call builtin:min") => `(tactic| (k_here; (show wpAny _ _ (call (Value.builtin "min") [Value.ref _] [(PySem.Str.ofString "key", Value.builtin "len")]) _ _ _); k_dflt (refine' min_n ?k1 ?k2 ?k3 ?k4 ?k5 ?k6 ?k7 ?_; (case k1 => k_asm); (case k2 => k_asm); (case k3 => k_mem); (case k4 => exact rfl); (case k5 => assumption); (case k6 => assumption); (case k7 => assumption); k_whole); intro iMin xMin tMin h' tk' hiMin hlMin hMin F' N'))
local macro_rules | `(tactic| walk_at "call type:map") => `(tactic| (k_here; (with_reducible show wpAny _ _ (call (Value.type "map") [Value.builtin "len", Value.ref _]) _ _ _); first
  | (k_dflt (refine' map_tup_n ?k1 ?k2 ?k3 ?_; (case k1 => k_asm); (case k2 => k_asm); (case k3 => k_mem); k_whole); intro it' TI' M' h' hm1 hm2 hm3 hm4 F' N')
  | (k_dflt (refine' map_list_n ?k1 ?k2 ?k3 ?k4 ?k5 ?_; (case k1 => k_asm); (case k2 => k_asm); (case k3 => k_mem); (case k4 => exact rfl); (case k5 => exact rfl); k_whole); intro it' TI' M' h' hm1 hm2 hm3 hm4 F' N')))
local macro_rules | `(tactic| walk_at "call builtin:max") => `(tactic| (k_here; (with_reducible show wpAny _ _ (call (Value.builtin "max") [Value.ref _]) _ _ _); first
  | (k_dflt (refine' max_tup_n ?a1 ?a2 ?a3 ?a4 ?k1 ?k2 ?k3 ?k4 ?k5 ?k6 ?k7 ?_; (case k1 => k_asm); (case k2 => k_asm); (case a1 => assumption); (case a2 => assumption); (case a3 => assumption); (case a4 => assumption); (case k3 => k_mem); (case k4 => exact rfl); (case k5 => assumption); (case k6 => assumption); (case k7 => assumption); k_whole); intro kMax tMax h' tk' hMax hMax0 hMax1 F' N')
  | (k_dflt (refine' max_list_n ?a1 ?a2 ?a3 ?a4 ?k1 ?k2 ?k3 ?k3a ?k3b ?k4 ?k5 ?k6 ?k7 ?_; (case k1 => k_asm); (case k2 => k_asm); (case a1 => assumption); (case a2 => assumption); (case a3 => assumption); (case a4 => assumption); (case k3 => k_mem); (case k3a => exact rfl); (case k3b => exact rfl); (case k4 => exact rfl); (case k5 => assumption); (case k6 => assumption); (case k7 => assumption); k_whole); intro kMax tMax h' tk' hMax hMax0 hMax1 F' N')))
local macro_rules | `(tactic| walk_at "eval Call Attribute") => `(tactic| (k_here; (with_reducible show wpAny _ _ (eval (PySem.Expr.Call (PySem.Expr.Attribute _ _ _) [PySem.Expr.Starred _ _] _ _) _) _ _ _); refine starMeth ?_))
local macro_rules | `(tactic| walk_at "callWith ref") => `(tactic| (k_here; (with_reducible show wpAny _ _ (callWith _ (Value.ref _) _ (backTo _ (starEach [Expr.Starred _ _] _)) []) _ _ _); k_dflt (refine' callWith_SM ?k1 ?k2 ?k3 ?k4 ?_; (case k1 => k_asm); (case k2 => k_asm); (case k3 => k_mem); (case k4 => k_is); k_whole)))
local macro_rules | `(tactic| walk_at "call ref") => `(tactic| (k_here; (with_reducible show wpAny _ _ (call (Value.ref _) _) _ _ _); k_dflt (refine' call_meth (f := .ref 108) ?k1 ?k2 ?_; (case k1 => k_asm); (case k2 => k_mem); k_whole); k_dflt (walk_at "br enterRC"); intro D' g' L' h' tk' cells' lD' FG' F' N' Y' B' X' T' l1; (have lAll := l1); (try k_lt l1); k_cells Y'; (try simp only [List.cons_append, List.nil_append] at N'); (try dsimp only); (try k_lift B'); refine wpAny_noRaise ?_; (try k_fold)))
local macro_rules | `(tactic| walk_at "br mem") => `(tactic| first | assumption | (refine List.Mem.tail _ ?_; walk_at "br mem"))
local macro_rules | `(tactic| k_in) => `(tactic| (refine' Frag.In.keeps ?kinX (Fr.keep ?kinF); (case kinF => k_asm); (case kinX => first | with_reducible assumption | k_asm)))
local macro_rules | `(tactic| k_in) => `(tactic| with_reducible assumption)
-- the walker as at a file's start (open_top turns it to the top's lines)
theorem fresh_lcs1 : True := by
  w_top off
  trivial
set_option maxHeartbeats 8000000 in
theorem lcs1_meet (w : World) (x dx : Addr) (k1 k2 : Tok) (sa : Str) (t : Tok) (ha : sa.length ≤ 40) :
    MeetC w 10 80 211 [.ref x, .str sa t] [(x, instObj 221 dx), (dx, lcsD w k1 k2)] (fun _ => True) (fun v => ∃ t, v = .str sa t) := by
  unfold MeetC
  k_fill
  intro p loose mean mg mb dp un gd cn cs a ccd cl outer A₀ base h₀ L m news s Q E B F X N T hk hpre hneed hd hu hret
  replace N := news_need N hneed
  simp only [List.cons_append, List.nil_append, lcsD] at N
  have hx : StrsAre [Value.str sa t] [sa] := .cons _ _ .nil
  have hl : ∀ x ∈ [sa], x.length ≤ 40 := fun x hx => by rw [List.mem_singleton.mp hx]; exact ha
  cases hne : sa.cps.toList with
  | nil =>
    have hall : ([sa].all fun x => !x.cps.toList.isEmpty) = false := by rw [List.all_cons, hne]; rfl
    have hsa : sa = ⟨#[]⟩ := by
      obtain ⟨c⟩ := sa
      have : c = #[] := by simpa using hne
      rw [this]
    k_dflt (walk_at "br enterR")
    intro D g L' h₁ l1 FG FL N B X T
    dsimp only
    refine wpAny_noRaise ?_
    k_fold
    k_steps
    rename News h₀ L _ _ => KN
    exact hret _ _ _ ⟨_, by rw [hsa, ← empty_is]⟩ (by k_asm) (fun p hp => KN p (by walk_at "br mem"))
  | cons c r =>
    have hall : ([sa].all fun x => !x.cps.toList.isEmpty) = true := by rw [List.all_cons, hne]; rfl
    k_dflt (walk_at "br enterR")
    intro D g L' h₁ l1 FG FL N B X T
    dsimp only
    refine wpAny_noRaise ?_
    k_fold
    k_steps
    rename News h₀ L _ _ => KN
    exact hret _ _ _ ⟨_, rfl⟩ (by k_asm) (fun p hp => KN p (by walk_at "br mem"))
end Mine
end

section
open PySem PySem.W PyProof.Rows
set_option maxRecDepth 100000
namespace Mine
local macro_rules | `(tactic| walk_at "pad") => `(tactic| fail "pad")
local macro_rules | `(tactic| walk_at "br enter") => `(tactic| first
  | (refine' code_def ?k1 ?k2 ?k3 ?k4 ?k5 ?kA ?kF ?kK ?k6 ?k7 ?k8 ?k9 ?kB ?_ ?c2 ?c3 ?c4 ?c5; (case kA => exact rfl); (case kF => exact rfl); (case kK => first | assumption | exact rfl); (case k1 => k_asm); (case k2 => k_asm); (case k3 => k_asm); (case k4 => k_asm); (case k5 => k_asm); (case k6 => k_is); (case k7 => k_is); (case k8 => ktr_room); (case k9 => first | exact BindsTo.of_eq rfl | exact binds_K (by k_in) rfl (by k_is) rfl rfl rfl); (case c5 => decide); (case kB => exact locs rfl); (case c2 => exact rfl); (case c3 => exact rfl); (case c4 => exact rfl); k_whole; intro g' L' h' FG' F' N' B' X' T'; (try dsimp only); (try k_lift B'); refine wpAny_noRaise ?_; (try k_fold))
  | (refine' code_defC ?k1 ?k2 ?k3 ?k4 ?k5 ?kA ?kF ?kK ?k6 ?k7 ?k8 ?k9 ?kB ?kD ?_ ?c2 ?c3 ?c4; (case kA => exact rfl); (case kF => exact rfl); (case kK => first | assumption | exact rfl); (case k1 => k_asm); (case k2 => k_asm); (case k3 => k_asm); (case k4 => k_asm); (case k5 => k_asm); (case k6 => k_is); (case k7 => k_is); (case k8 => ktr_room); (case k9 => first | exact BindsTo.of_eq rfl | exact binds_K (by k_in) rfl (by k_is) rfl rfl rfl); (case kB => exact rfl); (case kD => decide +kernel); (case c2 => exact rfl); (case c3 => exact rfl); (case c4 => exact rfl); k_whole; intro g' L' h' tk' cells' FG' F' N' Y' B' X' T' l1; (have lAll := l1); (try k_lt l1); k_cells Y'; (try simp only [List.cons_append, List.nil_append] at N'); (try dsimp only); (try k_lift B'); refine wpAny_noRaise ?_; (try k_fold)))
local macro_rules | `(tactic| walk_at "exec For") => `(tactic| (k_here; k_dflt (refine' for_F ?_); k_whole))
local macro_rules | `(tactic| walk_at "exec For Name Call cons nil") => `(tactic| (k_here; k_dflt (refine' for_F ?_); k_whole))
local macro_rules | `(tactic| walk_at "exec While BoolOp cons nil") => `(tactic| (k_here; refine Stopped.out ?_))
local macro_rules | `(tactic| walk_at "br frs") => `(tactic| simp only [List.forall_mem_cons, List.not_mem_nil, false_implies, implies_true, and_true])
local macro_rules | `(tactic| k_all) => `(tactic| (rename (∀ p ∈ (_ : List (Addr × Obj)), p.1 < _) => kAl'; exact fun p hp => br_ne (kAl' p (by first | exact hp | exact .tail _ hp | exact .tail _ (.tail _ hp) | exact .tail _ (.tail _ (.tail _ hp)))) (by omega)))
local macro_rules | `(tactic| walk_at "br enterC") => `(tactic| (refine' code_defC ?k1 ?k2 ?k3 ?k4 ?k5 ?kA ?kF ?kK ?k6 ?k7 ?k8 ?k9 ?kB ?kD ?_ ?c2 ?c3 ?c4; (case kA => exact rfl); (case kF => exact rfl); (case kK => first | assumption | exact rfl); (case k1 => k_asm); (case k2 => k_asm); (case k3 => k_asm); (case k4 => k_asm); (case k5 => k_asm); (case k6 => k_is); (case k7 => k_is); (case k8 => ktr_room); (case k9 => first | exact BindsTo.of_eq rfl | exact binds_K (by k_in) rfl (by k_is) rfl rfl rfl); (case kB => exact rfl); (case kD => decide +kernel); (case c2 => exact rfl); (case c3 => exact rfl); (case c4 => exact rfl); k_whole))
local macro_rules | `(tactic| walk_at "eval ListComp") => `(tactic| (k_here; first
  | ((with_reducible show wpAny _ _ (eval (PySem.Expr.ListComp _ [PySem.Comprehension.mk _ _ [_] _] _ _) _) _ _ _); k_dflt (refine ListComp_TS (F₀ := by k_asm) (by with_unfolding_all rfl) (by decide) (by rfl) (by decide) (by rfl) ?_))
  | ((with_reducible show wpAny _ _ (eval (PySem.Expr.ListComp _ [PySem.Comprehension.mk _ _ [] _] _ _) _) _ _ _); k_dflt (refine ListComp_US (F₀ := by k_asm) (by with_unfolding_all rfl) (by decide) (by rfl) (by decide) (by rfl) ?_))))
local macro_rules | `(tactic| walk_at "br ends") => `(tactic| repeat (first | (dsimp only [StepF, StepW]) | k_unfold))
local macro_rules | `(tactic| walk_at "br enterR") => `(tactic| (refine' kp_rest ?k1 ?k2 ?k3 ?k4 ?k5 ?kA ?kF ?kK ?k6 ?k7 ?k8 ?kV ?kP ?kG ?kB ?_ ?c2 ?c3 ?c4 ?c5; (case kA => exact rfl); (case kF => exact rfl); (case kK => first | assumption | exact rfl); (case k1 => k_asm); (case k2 => k_asm); (case k3 => k_asm); (case k4 => k_asm); (case k5 => k_asm); (case k6 => k_is); (case k7 => k_is); (case k8 => ktr_room); (case kV => first | kl_lit | exact rfl); (case kP => exact rfl); (case kG => exact fun _ => rfl); (case kB => exact fun _ => locs rfl); (case c5 => decide); (case c2 => exact rfl); (case c3 => exact rfl); (case c4 => exact rfl); k_whole))
local macro_rules | `(tactic| walk_at "br enterRC") => `(tactic| (refine' rest_cells ?k1 ?k2 ?k3 ?k4 ?k5 ?kA ?kF ?kK ?k6 ?k7 ?k8 ?kV ?kP ?kG ?kB ?kD ?_ ?c2 ?c3 ?c4; (case kA => exact rfl); (case kF => exact rfl); (case kK => first | assumption | exact rfl); (case k1 => k_asm); (case k2 => k_asm); (case k3 => k_asm); (case k4 => k_asm); (case k5 => k_asm); (case k6 => k_is); (case k7 => k_is); (case k8 => ktr_room); (case kV => kl_lit); (case kP => exact rfl); (case kG => exact fun _ => rfl); (case kB => exact fun _ => rfl); (case kD => decide +kernel); (case c2 => exact rfl); (case c3 => exact rfl); (case c4 => exact rfl); k_whole))
local macro_rules | `(tactic| k_room) => `(tactic| ktr_room)
local macro_rules | `(tactic| k_units) => `(tactic| ktr_units)
local macro_rules | `(tactic| walk_at "callWith ref") => `(tactic| (k_here; (with_reducible show wpAny _ _ (callWith _ (Value.ref _) _ (backTo _ (starEach [Expr.Starred _ _] _)) []) _ _ _); kco_here; k_dflt (refine' inst_S ?k1 ?k2 ?k3 ?k4 ?_; (case k1 => k_asm); (case k2 => k_inst); (case k3 => rfl); (case k4 => k_is); k_whole)))
local macro_rules | `(tactic| walk_at "StarOf ref") => `(tactic| (k_here; k_dflt (refine' star_seq ?k1 ?k2 ?m ?c ?d ?T ?e ?z ?_; (case k1 => k_asm); (case k2 => k_asm); (case m => k_mem); (case c => exact rfl); (case d => exact rfl); (case T => first | exact .inl rfl | exact .inr rfl); (case e => first | exact List.toList_toArray .. | kl_lit); (case z => first | assumption | exact Nat.le_of_ble_eq_true rfl); k_whole); intro h' F' N'; (try k_sweep); try dsimp only [List.nil_append, List.cons_append]))
local macro_rules | `(tactic| walk_at "call builtin:all") => `(tactic| (k_here; (with_reducible show wpAny _ _ (call (Value.builtin "all") [Value.ref _]) _ _ _); k_dflt (refine' all_n ?k1 ?k2 ?k3 ?k4 ?k5 ?k6 ?k7 ?_; (case k1 => k_asm); (case k2 => k_asm); (case k3 => k_mem); (case k4 => exact rfl); (case k5 => assumption); (case k6 => assumption); (case k7 => assumption); k_whole); intro h' tk' F' N'))
local macro_rules | `(tactic| walk_at "call builtin:min") => `(tactic| (k_here; (show wpAny _ _ (call (Value.builtin "min") [Value.ref _] [(PySem.Str.ofString "key", Value.builtin "len")]) _ _ _); k_dflt (refine' min_n ?k1 ?k2 ?k3 ?k4 ?k5 ?k6 ?k7 ?_; (case k1 => k_asm); (case k2 => k_asm); (case k3 => k_mem); (case k4 => exact rfl); (case k5 => assumption); (case k6 => assumption); (case k7 => assumption); k_whole); intro iMin xMin tMin h' tk' hiMin hlMin hMin F' N'))
local macro_rules | `(tactic| walk_at "call type:map") => `(tactic| (k_here; (with_reducible show wpAny _ _ (call (Value.type "map") [Value.builtin "len", Value.ref _]) _ _ _); first
  | (k_dflt (refine' map_tup_n ?k1 ?k2 ?k3 ?_; (case k1 => k_asm); (case k2 => k_asm); (case k3 => k_mem); k_whole); intro it' TI' M' h' hm1 hm2 hm3 hm4 F' N')
  | (k_dflt (refine' map_list_n ?k1 ?k2 ?k3 ?k4 ?k5 ?_; (case k1 => k_asm); (case k2 => k_asm); (case k3 => k_mem); (case k4 => exact rfl); (case k5 => exact rfl); k_whole); intro it' TI' M' h' hm1 hm2 hm3 hm4 F' N')))
local macro_rules | `(tactic| walk_at "call builtin:max") => `(tactic| (k_here; (with_reducible show wpAny _ _ (call (Value.builtin "max") [Value.ref _]) _ _ _); first
  | (k_dflt (refine' max_tup_n ?a1 ?a2 ?a3 ?a4 ?k1 ?k2 ?k3 ?k4 ?k5 ?k6 ?k7 ?_; (case k1 => k_asm); (case k2 => k_asm); (case a1 => assumption); (case a2 => assumption); (case a3 => assumption); (case a4 => assumption); (case k3 => k_mem); (case k4 => exact rfl); (case k5 => assumption); (case k6 => assumption); (case k7 => assumption); k_whole); intro kMax tMax h' tk' hMax hMax0 hMax1 F' N')
  | (k_dflt (refine' max_list_n ?a1 ?a2 ?a3 ?a4 ?k1 ?k2 ?k3 ?k3a ?k3b ?k4 ?k5 ?k6 ?k7 ?_; (case k1 => k_asm); (case k2 => k_asm); (case a1 => assumption); (case a2 => assumption); (case a3 => assumption); (case a4 => assumption); (case k3 => k_mem); (case k3a => exact rfl); (case k3b => exact rfl); (case k4 => exact rfl); (case k5 => assumption); (case k6 => assumption); (case k7 => assumption); k_whole); intro kMax tMax h' tk' hMax hMax0 hMax1 F' N')))
local macro_rules | `(tactic| walk_at "eval Call Attribute") => `(tactic| (k_here; (with_reducible show wpAny _ _ (eval (PySem.Expr.Call (PySem.Expr.Attribute _ _ _) [PySem.Expr.Starred _ _] _ _) _) _ _ _); refine starMeth ?_))
local macro_rules | `(tactic| walk_at "callWith ref") => `(tactic| (k_here; (with_reducible show wpAny _ _ (callWith _ (Value.ref _) _ (backTo _ (starEach [Expr.Starred _ _] _)) []) _ _ _); k_dflt (refine' callWith_SM ?k1 ?k2 ?k3 ?k4 ?_; (case k1 => k_asm); (case k2 => k_asm); (case k3 => k_mem); (case k4 => k_is); k_whole)))
local macro_rules | `(tactic| walk_at "call ref") => `(tactic| (k_here; (with_reducible show wpAny _ _ (call (Value.ref _) _) _ _ _); k_dflt (refine' call_meth (f := .ref 108) ?k1 ?k2 ?_; (case k1 => k_asm); (case k2 => k_mem); k_whole); k_dflt (walk_at "br enterRC"); intro D' g' L' h' tk' cells' lD' FG' F' N' Y' B' X' T' l1; (have lAll := l1); (try k_lt l1); k_cells Y'; (try simp only [List.cons_append, List.nil_append] at N'); (try dsimp only); (try k_lift B'); refine wpAny_noRaise ?_; (try k_fold)))
local macro_rules | `(tactic| walk_at "br mem") => `(tactic| first | assumption | (refine List.Mem.tail _ ?_; walk_at "br mem"))
local macro_rules | `(tactic| k_in) => `(tactic| (refine' Frag.In.keeps ?kinX (Fr.keep ?kinF); (case kinF => k_asm); (case kinX => first | with_reducible assumption | k_asm)))
local macro_rules | `(tactic| k_in) => `(tactic| with_reducible assumption)
-- the walker as at a file's start (open_top turns it to the top's lines)
theorem fresh_lcs2 : True := by
  w_top off
  trivial
local macro_rules | `(tactic| walk_at "call ref") => `(tactic| (k_here; (with_reducible show wpAny _ _ (call (Value.ref _) [_, _]) _ _ _); k_dflt (refine' (standart_meet _ _ _ _ _ _ ?h1 ?h2).meth ?hq ?k1 ?k2 ?k3 ?k4 ?k5 ?kK ?hp ?hn ?hd ?hu ?_; (case k1 => k_asm); (case k2 => k_asm); (case k3 => k_asm); (case k4 => k_asm); (case k5 => k_asm); (case hq => k_mem); (case kK => first | assumption | exact rfl); (case hp => exact True.intro); (case hn => exact fun _ h => nomatch h); (case h1 => assumption); (case h2 => assumption); (case hd => ktr_room); (case hu => ktr_units); k_whole; intro v9 h9 tk9 ho9 F9 N9; obtain ⟨t9, hv9⟩ := ho9; subst hv9)))
theorem all2 {sa sb : Str} (h1 : sa.cps.toList ≠ []) (h2 : sb.cps.toList ≠ []) : ([sa, sb].all fun x => !x.cps.toList.isEmpty) = true := by
  rw [List.all_cons, List.all_cons, List.all_nil]
  cases e1 : sa.cps.toList with
  | nil => exact absurd e1 h1
  | cons _ _ => cases e2 : sb.cps.toList with
    | nil => exact absurd e2 h2
    | cons _ _ => rfl
theorem all2n {sa sb : Str} (h : sa.cps.toList = [] ∨ sb.cps.toList = []) : ([sa, sb].all fun x => !x.cps.toList.isEmpty) = false := by
  rw [List.all_cons, List.all_cons, List.all_nil]
  rcases h with h | h <;> rw [h]
  · rfl
  · rw [Bool.and_eq_false_iff]; exact .inr rfl
set_option maxHeartbeats 8000000 in
theorem lcs2_meet (w : World) (x dx : Addr) (k1 k2 : Tok) (sa sb : Str) (t t2 : Tok) (ha : sa.length ≤ 40) (hb : sb.length ≤ 40) :
    MeetC w 10 80 211 [.ref x, .str sa t, .str sb t2] [(x, instObj 221 dx), (dx, lcsD w k1 k2)] (fun _ => True) (fun v => ∃ t, v = .str (piece sa [sa, sb]) t) := by
  rw [← std_piece]
  unfold MeetC
  k_fill
  intro p loose mean mg mb dp un gd cn cs a ccd cl outer A₀ base h₀ L m news s Q E B F X N T hk hpre hneed hd hu hret
  replace N := news_need N hneed
  simp only [List.cons_append, List.nil_append, lcsD] at N
  have hx : StrsAre [Value.str sa t, .str sb t2] [sa, sb] := .cons _ _ (.cons _ _ .nil)
  have hl := br_all2 ha hb
  have hpos : 0 < [sa, sb].length := Nat.zero_lt_succ _
  by_cases hne : sa.cps.toList = [] ∨ sb.cps.toList = []
  · have hall := all2n hne
    rw [std_none sa sb hne] at hret
    k_dflt (walk_at "br enterR")
    intro D g L' h₁ l1 FG FL N B X T
    dsimp only
    refine wpAny_noRaise ?_
    k_fold
    k_steps
    rename News h₀ L _ _ => KN
    exact hret _ _ _ ⟨_, by rw [← empty_is]⟩ (by k_asm) (fun p hp => KN p (by walk_at "br mem"))
  · have hall := all2 (fun h => hne (.inl h)) (fun h => hne (.inr h))
    k_dflt (walk_at "br enterR")
    intro D g L' h₁ l1 FG FL N B X T
    dsimp only
    refine wpAny_noRaise ?_
    k_fold
    k_steps
    rename News h₀ L _ _ => KN
    exact hret _ _ _ ⟨_, rfl⟩ (by k_asm) (fun p hp => KN p (by walk_at "br mem"))
end Mine
end

section
open PySem PySem.W PyProof.Rows
set_option maxRecDepth 100000
namespace Mine
local macro_rules | `(tactic| walk_at "br enter") => `(tactic| first
  | (refine' code_def ?k1 ?k2 ?k3 ?k4 ?k5 ?kA ?kF ?kK ?k6 ?k7 ?k8 ?k9 ?kB ?_ ?c2 ?c3 ?c4 ?c5; (case kA => exact rfl); (case kF => exact rfl); (case kK => first | assumption | exact rfl); (case k1 => k_asm); (case k2 => k_asm); (case k3 => k_asm); (case k4 => k_asm); (case k5 => k_asm); (case k6 => k_is); (case k7 => k_is); (case k8 => ktr_room); (case k9 => first | exact BindsTo.of_eq rfl | exact binds_K (by k_in) rfl (by k_is) rfl rfl rfl); (case c5 => decide); (case kB => exact locs rfl); (case c2 => exact rfl); (case c3 => exact rfl); (case c4 => exact rfl); k_whole; intro g' L' h' FG' F' N' B' X' T'; (try dsimp only); (try k_lift B'); refine wpAny_noRaise ?_; (try k_fold))
  | (refine' code_defC ?k1 ?k2 ?k3 ?k4 ?k5 ?kA ?kF ?kK ?k6 ?k7 ?k8 ?k9 ?kB ?kD ?_ ?c2 ?c3 ?c4; (case kA => exact rfl); (case kF => exact rfl); (case kK => first | assumption | exact rfl); (case k1 => k_asm); (case k2 => k_asm); (case k3 => k_asm); (case k4 => k_asm); (case k5 => k_asm); (case k6 => k_is); (case k7 => k_is); (case k8 => ktr_room); (case k9 => first | exact BindsTo.of_eq rfl | exact binds_K (by k_in) rfl (by k_is) rfl rfl rfl); (case kB => exact rfl); (case kD => decide +kernel); (case c2 => exact rfl); (case c3 => exact rfl); (case c4 => exact rfl); k_whole; intro g' L' h' tk' cells' FG' F' N' Y' B' X' T' l1; (have lAll := l1); (try k_lt l1); k_cells Y'; (try simp only [List.cons_append, List.nil_append] at N'); (try dsimp only); (try k_lift B'); refine wpAny_noRaise ?_; (try k_fold)))
local macro_rules | `(tactic| walk_at "exec For") => `(tactic| (k_here; k_dflt (refine' for_F ?_); k_whole))
local macro_rules | `(tactic| walk_at "exec For Name Call cons nil") => `(tactic| (k_here; k_dflt (refine' for_F ?_); k_whole))
local macro_rules | `(tactic| walk_at "exec While BoolOp cons nil") => `(tactic| (k_here; refine Stopped.out ?_))
local macro_rules | `(tactic| walk_at "br frs") => `(tactic| simp only [List.forall_mem_cons, List.not_mem_nil, false_implies, implies_true, and_true])
local macro_rules | `(tactic| k_all) => `(tactic| (rename (∀ p ∈ (_ : List (Addr × Obj)), p.1 < _) => kAl'; exact fun p hp => br_ne (kAl' p (by first | exact hp | exact .tail _ hp | exact .tail _ (.tail _ hp) | exact .tail _ (.tail _ (.tail _ hp)))) (by omega)))
local macro_rules | `(tactic| walk_at "br enterC") => `(tactic| (refine' code_defC ?k1 ?k2 ?k3 ?k4 ?k5 ?kA ?kF ?kK ?k6 ?k7 ?k8 ?k9 ?kB ?kD ?_ ?c2 ?c3 ?c4; (case kA => exact rfl); (case kF => exact rfl); (case kK => first | assumption | exact rfl); (case k1 => k_asm); (case k2 => k_asm); (case k3 => k_asm); (case k4 => k_asm); (case k5 => k_asm); (case k6 => k_is); (case k7 => k_is); (case k8 => ktr_room); (case k9 => first | exact BindsTo.of_eq rfl | exact binds_K (by k_in) rfl (by k_is) rfl rfl rfl); (case kB => exact rfl); (case kD => decide +kernel); (case c2 => exact rfl); (case c3 => exact rfl); (case c4 => exact rfl); k_whole))
local macro_rules | `(tactic| walk_at "eval ListComp") => `(tactic| (k_here; first
  | ((with_reducible show wpAny _ _ (eval (PySem.Expr.ListComp _ [PySem.Comprehension.mk _ _ [_] _] _ _) _) _ _ _); k_dflt (refine ListComp_TS (F₀ := by k_asm) (by with_unfolding_all rfl) (by decide) (by rfl) (by decide) (by rfl) ?_))
  | ((with_reducible show wpAny _ _ (eval (PySem.Expr.ListComp _ [PySem.Comprehension.mk _ _ [] _] _ _) _) _ _ _); k_dflt (refine ListComp_US (F₀ := by k_asm) (by with_unfolding_all rfl) (by decide) (by rfl) (by decide) (by rfl) ?_))))
local macro_rules | `(tactic| walk_at "br ends") => `(tactic| repeat (first | (dsimp only [StepF, StepW]) | k_unfold))
local macro_rules | `(tactic| walk_at "br enterR") => `(tactic| (refine' kp_rest ?k1 ?k2 ?k3 ?k4 ?k5 ?kA ?kF ?kK ?k6 ?k7 ?k8 ?kV ?kP ?kG ?kB ?_ ?c2 ?c3 ?c4 ?c5; (case kA => exact rfl); (case kF => exact rfl); (case kK => first | assumption | exact rfl); (case k1 => k_asm); (case k2 => k_asm); (case k3 => k_asm); (case k4 => k_asm); (case k5 => k_asm); (case k6 => k_is); (case k7 => k_is); (case k8 => ktr_room); (case kV => first | kl_lit | exact rfl); (case kP => exact rfl); (case kG => exact fun _ => rfl); (case kB => exact fun _ => locs rfl); (case c5 => decide); (case c2 => exact rfl); (case c3 => exact rfl); (case c4 => exact rfl); k_whole))
local macro_rules | `(tactic| walk_at "br enterRC") => `(tactic| (refine' rest_cells ?k1 ?k2 ?k3 ?k4 ?k5 ?kA ?kF ?kK ?k6 ?k7 ?k8 ?kV ?kP ?kG ?kB ?kD ?_ ?c2 ?c3 ?c4; (case kA => exact rfl); (case kF => exact rfl); (case kK => first | assumption | exact rfl); (case k1 => k_asm); (case k2 => k_asm); (case k3 => k_asm); (case k4 => k_asm); (case k5 => k_asm); (case k6 => k_is); (case k7 => k_is); (case k8 => ktr_room); (case kV => kl_lit); (case kP => exact rfl); (case kG => exact fun _ => rfl); (case kB => exact fun _ => rfl); (case kD => decide +kernel); (case c2 => exact rfl); (case c3 => exact rfl); (case c4 => exact rfl); k_whole))
local macro_rules | `(tactic| k_room) => `(tactic| ktr_room)
local macro_rules | `(tactic| k_units) => `(tactic| ktr_units)
local macro_rules | `(tactic| walk_at "callWith ref") => `(tactic| (k_here; (with_reducible show wpAny _ _ (callWith _ (Value.ref _) _ (backTo _ (starEach [Expr.Starred _ _] _)) []) _ _ _); kco_here; k_dflt (refine' inst_S ?k1 ?k2 ?k3 ?k4 ?_; (case k1 => k_asm); (case k2 => k_inst); (case k3 => rfl); (case k4 => k_is); k_whole)))
local macro_rules | `(tactic| walk_at "StarOf ref") => `(tactic| (k_here; k_dflt (refine' star_seq ?k1 ?k2 ?m ?c ?d ?T ?e ?z ?_; (case k1 => k_asm); (case k2 => k_asm); (case m => k_mem); (case c => exact rfl); (case d => exact rfl); (case T => first | exact .inl rfl | exact .inr rfl); (case e => first | exact List.toList_toArray .. | kl_lit); (case z => first | assumption | exact Nat.le_of_ble_eq_true rfl); k_whole); intro h' F' N'; (try k_sweep); try dsimp only [List.nil_append, List.cons_append]))
local macro_rules | `(tactic| walk_at "call builtin:all") => `(tactic| (k_here; (with_reducible show wpAny _ _ (call (Value.builtin "all") [Value.ref _]) _ _ _); k_dflt (refine' all_n ?k1 ?k2 ?k3 ?k4 ?k5 ?k6 ?k7 ?_; (case k1 => k_asm); (case k2 => k_asm); (case k3 => k_mem); (case k4 => exact rfl); (case k5 => assumption); (case k6 => assumption); (case k7 => assumption); k_whole); intro h' tk' F' N'))
local macro_rules | `(tactic| walk_at "call builtin:min") => `(tactic| (k_here; (show wpAny _ _ (call (Value.builtin "min") [Value.ref _] [(PySem.Str.ofString "key", Value.builtin "len")]) _ _ _); k_dflt (refine' min_n ?k1 ?k2 ?k3 ?k4 ?k5 ?k6 ?k7 ?_; (case k1 => k_asm); (case k2 => k_asm); (case k3 => k_mem); (case k4 => exact rfl); (case k5 => assumption); (case k6 => assumption); (case k7 => assumption); k_whole); intro iMin xMin tMin h' tk' hiMin hlMin hMin F' N'))
local macro_rules | `(tactic| walk_at "call type:map") => `(tactic| (k_here; (with_reducible show wpAny _ _ (call (Value.type "map") [Value.builtin "len", Value.ref _]) _ _ _); first
  | (k_dflt (refine' map_tup_n ?k1 ?k2 ?k3 ?_; (case k1 => k_asm); (case k2 => k_asm); (case k3 => k_mem); k_whole); intro it' TI' M' h' hm1 hm2 hm3 hm4 F' N')
  | (k_dflt (refine' map_list_n ?k1 ?k2 ?k3 ?k4 ?k5 ?_; (case k1 => k_asm); (case k2 => k_asm); (case k3 => k_mem); (case k4 => exact rfl); (case k5 => exact rfl); k_whole); intro it' TI' M' h' hm1 hm2 hm3 hm4 F' N')))
local macro_rules | `(tactic| walk_at "call builtin:max") => `(tactic| (k_here; (with_reducible show wpAny _ _ (call (Value.builtin "max") [Value.ref _]) _ _ _); first
  | (k_dflt (refine' max_tup_n ?a1 ?a2 ?a3 ?a4 ?k1 ?k2 ?k3 ?k4 ?k5 ?k6 ?k7 ?_; (case k1 => k_asm); (case k2 => k_asm); (case a1 => assumption); (case a2 => assumption); (case a3 => assumption); (case a4 => assumption); (case k3 => k_mem); (case k4 => exact rfl); (case k5 => assumption); (case k6 => assumption); (case k7 => assumption); k_whole); intro kMax tMax h' tk' hMax hMax0 hMax1 F' N')
  | (k_dflt (refine' max_list_n ?a1 ?a2 ?a3 ?a4 ?k1 ?k2 ?k3 ?k3a ?k3b ?k4 ?k5 ?k6 ?k7 ?_; (case k1 => k_asm); (case k2 => k_asm); (case a1 => assumption); (case a2 => assumption); (case a3 => assumption); (case a4 => assumption); (case k3 => k_mem); (case k3a => exact rfl); (case k3b => exact rfl); (case k4 => exact rfl); (case k5 => assumption); (case k6 => assumption); (case k7 => assumption); k_whole); intro kMax tMax h' tk' hMax hMax0 hMax1 F' N')))
local macro_rules | `(tactic| walk_at "eval Call Attribute") => `(tactic| (k_here; (with_reducible show wpAny _ _ (eval (PySem.Expr.Call (PySem.Expr.Attribute _ _ _) [PySem.Expr.Starred _ _] _ _) _) _ _ _); refine starMeth ?_))
local macro_rules | `(tactic| walk_at "callWith ref") => `(tactic| (k_here; (with_reducible show wpAny _ _ (callWith _ (Value.ref _) _ (backTo _ (starEach [Expr.Starred _ _] _)) []) _ _ _); k_dflt (refine' callWith_SM ?k1 ?k2 ?k3 ?k4 ?_; (case k1 => k_asm); (case k2 => k_asm); (case k3 => k_mem); (case k4 => k_is); k_whole)))
local macro_rules | `(tactic| walk_at "call ref") => `(tactic| (k_here; (with_reducible show wpAny _ _ (call (Value.ref _) _) _ _ _); k_dflt (refine' call_meth (f := .ref 108) ?k1 ?k2 ?_; (case k1 => k_asm); (case k2 => k_mem); k_whole); k_dflt (walk_at "br enterRC"); intro D' g' L' h' tk' cells' lD' FG' F' N' Y' B' X' T' l1; (have lAll := l1); (try k_lt l1); k_cells Y'; (try simp only [List.cons_append, List.nil_append] at N'); (try dsimp only); (try k_lift B'); refine wpAny_noRaise ?_; (try k_fold)))
local macro_rules | `(tactic| walk_at "br mem") => `(tactic| first | assumption | (refine List.Mem.tail _ ?_; walk_at "br mem"))
local macro_rules | `(tactic| k_in) => `(tactic| (refine' Frag.In.keeps ?kinX (Fr.keep ?kinF); (case kinF => k_asm); (case kinX => first | with_reducible assumption | k_asm)))
local macro_rules | `(tactic| k_in) => `(tactic| with_reducible assumption)
-- the walker as at a file's start (open_top turns it to the top's lines)
theorem fresh_sim2 : True := by
  w_top off
  trivial
local macro_rules | `(tactic| walk_at "call ref") => `(tactic| (k_here; (with_reducible show wpAny _ _ (call (Value.ref _) [_, _]) _ _ _); kco_here; k_dflt (refine' (lcs2_meet _ _ _ _ _ _ _ _ _ ?h1 ?h2).inst ?hI ?hdd ?hs ?hf ?hfn ?k1 ?k2 ?k3 ?k4 ?k5 ?kK ?hp ?hn ?hd ?hu ?_; (case k1 => k_asm); (case k2 => k_asm); (case k3 => k_asm); (case k4 => k_asm); (case k5 => k_asm); (case kK => first | assumption | exact rfl); (case hp => exact True.intro); (case hn => exact List.forall_mem_cons.mpr ⟨by k_mem, List.forall_mem_singleton.mpr (by k_mem)⟩); (case hI => k_inst); (case hdd => exact rfl); (case hs => k_is); (case hf => k_is); (case hfn => k_is); (case h1 => assumption); (case h2 => assumption); (case hd => ktr_room); (case hu => ktr_units); k_whole; intro v9 h9 tk9 ho9 F9 N9; obtain ⟨t9, hv9⟩ := ho9; subst hv9)))
set_option maxHeartbeats 8000000 in
theorem sim2_meet (w : World) (x dx : Addr) (k1 k2 : Tok) (sa sb : Str) (t t2 : Tok) (ha : sa.length ≤ 40) (hb : sb.length ≤ 40) :
    MeetC w 12 100 218 [.ref x, .str sa t, .str sb t2] [(x, instObj 221 dx), (dx, lcsD w k1 k2)] (fun _ => True) (fun v => ∃ t, v = .int (piece sa [sa, sb]).length t) := by
  unfold MeetC
  k_fill
  intro p loose mean mg mb dp un gd cn cs a ccd cl outer A₀ base h₀ L m news s Q E B F X N T hk hpre hneed hd hu hret
  replace N := news_need N hneed
  simp only [List.cons_append, List.nil_append, lcsD] at N
  have hpl := piece_len sa [sa, sb]
  k_dflt (walk_at "br enterR")
  intro D g L' h₁ l1 FG FL N B X T
  dsimp only
  refine wpAny_noRaise ?_
  k_fold
  k_steps
  rename News h₀ L _ _ => KN
  exact hret _ _ _ ⟨_, rfl⟩ (by k_asm) (fun p hp => KN p (by walk_at "br mem"))
end Mine
end

section
open PySem PySem.W PyProof.Rows
set_option maxRecDepth 100000
namespace Mine
local macro_rules | `(tactic| walk_at "pad") => `(tactic| fail "pad")
local macro_rules | `(tactic| walk_at "pad") => `(tactic| fail "pad")
local macro_rules | `(tactic| walk_at "br enter") => `(tactic| first
  | (refine' code_def ?k1 ?k2 ?k3 ?k4 ?k5 ?kA ?kF ?kK ?k6 ?k7 ?k8 ?k9 ?kB ?_ ?c2 ?c3 ?c4 ?c5; (case kA => exact rfl); (case kF => exact rfl); (case kK => first | assumption | exact rfl); (case k1 => k_asm); (case k2 => k_asm); (case k3 => k_asm); (case k4 => k_asm); (case k5 => k_asm); (case k6 => k_is); (case k7 => k_is); (case k8 => ktr_room); (case k9 => first | exact BindsTo.of_eq rfl | exact binds_K (by k_in) rfl (by k_is) rfl rfl rfl); (case c5 => decide); (case kB => exact locs rfl); (case c2 => exact rfl); (case c3 => exact rfl); (case c4 => exact rfl); k_whole; intro g' L' h' FG' F' N' B' X' T'; (try dsimp only); (try k_lift B'); refine wpAny_noRaise ?_; (try k_fold))
  | (refine' code_defC ?k1 ?k2 ?k3 ?k4 ?k5 ?kA ?kF ?kK ?k6 ?k7 ?k8 ?k9 ?kB ?kD ?_ ?c2 ?c3 ?c4; (case kA => exact rfl); (case kF => exact rfl); (case kK => first | assumption | exact rfl); (case k1 => k_asm); (case k2 => k_asm); (case k3 => k_asm); (case k4 => k_asm); (case k5 => k_asm); (case k6 => k_is); (case k7 => k_is); (case k8 => ktr_room); (case k9 => first | exact BindsTo.of_eq rfl | exact binds_K (by k_in) rfl (by k_is) rfl rfl rfl); (case kB => exact rfl); (case kD => decide +kernel); (case c2 => exact rfl); (case c3 => exact rfl); (case c4 => exact rfl); k_whole; intro g' L' h' tk' cells' FG' F' N' Y' B' X' T' l1; (have lAll := l1); (try k_lt l1); k_cells Y'; (try simp only [List.cons_append, List.nil_append] at N'); (try dsimp only); (try k_lift B'); refine wpAny_noRaise ?_; (try k_fold)))
local macro_rules | `(tactic| walk_at "exec For") => `(tactic| (k_here; k_dflt (refine' for_F ?_); k_whole))
local macro_rules | `(tactic| walk_at "exec For Name Call cons nil") => `(tactic| (k_here; k_dflt (refine' for_F ?_); k_whole))
local macro_rules | `(tactic| walk_at "exec While BoolOp cons nil") => `(tactic| (k_here; refine Stopped.out ?_))
local macro_rules | `(tactic| walk_at "br frs") => `(tactic| simp only [List.forall_mem_cons, List.not_mem_nil, false_implies, implies_true, and_true])
local macro_rules | `(tactic| k_all) => `(tactic| (rename (∀ p ∈ (_ : List (Addr × Obj)), p.1 < _) => kAl'; exact fun p hp => br_ne (kAl' p (by first | exact hp | exact .tail _ hp | exact .tail _ (.tail _ hp) | exact .tail _ (.tail _ (.tail _ hp)))) (by omega)))
local macro_rules | `(tactic| walk_at "br enterC") => `(tactic| (refine' code_defC ?k1 ?k2 ?k3 ?k4 ?k5 ?kA ?kF ?kK ?k6 ?k7 ?k8 ?k9 ?kB ?kD ?_ ?c2 ?c3 ?c4; (case kA => exact rfl); (case kF => exact rfl); (case kK => first | assumption | exact rfl); (case k1 => k_asm); (case k2 => k_asm); (case k3 => k_asm); (case k4 => k_asm); (case k5 => k_asm); (case k6 => k_is); (case k7 => k_is); (case k8 => ktr_room); (case k9 => first | exact BindsTo.of_eq rfl | exact binds_K (by k_in) rfl (by k_is) rfl rfl rfl); (case kB => exact rfl); (case kD => decide +kernel); (case c2 => exact rfl); (case c3 => exact rfl); (case c4 => exact rfl); k_whole))
local macro_rules | `(tactic| walk_at "eval ListComp") => `(tactic| (k_here; first
  | ((with_reducible show wpAny _ _ (eval (PySem.Expr.ListComp _ [PySem.Comprehension.mk _ _ [_] _] _ _) _) _ _ _); k_dflt (refine ListComp_TS (F₀ := by k_asm) (by with_unfolding_all rfl) (by decide) (by rfl) (by decide) (by rfl) ?_))
  | ((with_reducible show wpAny _ _ (eval (PySem.Expr.ListComp _ [PySem.Comprehension.mk _ _ [] _] _ _) _) _ _ _); k_dflt (refine ListComp_US (F₀ := by k_asm) (by with_unfolding_all rfl) (by decide) (by rfl) (by decide) (by rfl) ?_))))
local macro_rules | `(tactic| walk_at "br ends") => `(tactic| repeat (first | (dsimp only [StepF, StepW]) | k_unfold))
local macro_rules | `(tactic| walk_at "br enterR") => `(tactic| (refine' kp_rest ?k1 ?k2 ?k3 ?k4 ?k5 ?kA ?kF ?kK ?k6 ?k7 ?k8 ?kV ?kP ?kG ?kB ?_ ?c2 ?c3 ?c4 ?c5; (case kA => exact rfl); (case kF => exact rfl); (case kK => first | assumption | exact rfl); (case k1 => k_asm); (case k2 => k_asm); (case k3 => k_asm); (case k4 => k_asm); (case k5 => k_asm); (case k6 => k_is); (case k7 => k_is); (case k8 => ktr_room); (case kV => first | kl_lit | exact rfl); (case kP => exact rfl); (case kG => exact fun _ => rfl); (case kB => exact fun _ => locs rfl); (case c5 => decide); (case c2 => exact rfl); (case c3 => exact rfl); (case c4 => exact rfl); k_whole))
local macro_rules | `(tactic| walk_at "br enterRC") => `(tactic| (refine' rest_cells ?k1 ?k2 ?k3 ?k4 ?k5 ?kA ?kF ?kK ?k6 ?k7 ?k8 ?kV ?kP ?kG ?kB ?kD ?_ ?c2 ?c3 ?c4; (case kA => exact rfl); (case kF => exact rfl); (case kK => first | assumption | exact rfl); (case k1 => k_asm); (case k2 => k_asm); (case k3 => k_asm); (case k4 => k_asm); (case k5 => k_asm); (case k6 => k_is); (case k7 => k_is); (case k8 => ktr_room); (case kV => kl_lit); (case kP => exact rfl); (case kG => exact fun _ => rfl); (case kB => exact fun _ => rfl); (case kD => decide +kernel); (case c2 => exact rfl); (case c3 => exact rfl); (case c4 => exact rfl); k_whole))
local macro_rules | `(tactic| k_room) => `(tactic| ktr_room)
local macro_rules | `(tactic| k_units) => `(tactic| ktr_units)
local macro_rules | `(tactic| walk_at "callWith ref") => `(tactic| (k_here; (with_reducible show wpAny _ _ (callWith _ (Value.ref _) _ (backTo _ (starEach [Expr.Starred _ _] _)) []) _ _ _); kco_here; k_dflt (refine' inst_S ?k1 ?k2 ?k3 ?k4 ?_; (case k1 => k_asm); (case k2 => k_inst); (case k3 => rfl); (case k4 => k_is); k_whole)))
local macro_rules | `(tactic| walk_at "StarOf ref") => `(tactic| (k_here; k_dflt (refine' star_seq ?k1 ?k2 ?m ?c ?d ?T ?e ?z ?_; (case k1 => k_asm); (case k2 => k_asm); (case m => k_mem); (case c => exact rfl); (case d => exact rfl); (case T => first | exact .inl rfl | exact .inr rfl); (case e => first | exact List.toList_toArray .. | kl_lit); (case z => first | assumption | exact Nat.le_of_ble_eq_true rfl); k_whole); intro h' F' N'; (try k_sweep); try dsimp only [List.nil_append, List.cons_append]))
local macro_rules | `(tactic| walk_at "call builtin:all") => `(tactic| (k_here; (with_reducible show wpAny _ _ (call (Value.builtin "all") [Value.ref _]) _ _ _); k_dflt (refine' all_n ?k1 ?k2 ?k3 ?k4 ?k5 ?k6 ?k7 ?_; (case k1 => k_asm); (case k2 => k_asm); (case k3 => k_mem); (case k4 => exact rfl); (case k5 => assumption); (case k6 => assumption); (case k7 => assumption); k_whole); intro h' tk' F' N'))
local macro_rules | `(tactic| walk_at "call builtin:min") => `(tactic| (k_here; (show wpAny _ _ (call (Value.builtin "min") [Value.ref _] [(PySem.Str.ofString "key", Value.builtin "len")]) _ _ _); k_dflt (refine' min_n ?k1 ?k2 ?k3 ?k4 ?k5 ?k6 ?k7 ?_; (case k1 => k_asm); (case k2 => k_asm); (case k3 => k_mem); (case k4 => exact rfl); (case k5 => assumption); (case k6 => assumption); (case k7 => assumption); k_whole); intro iMin xMin tMin h' tk' hiMin hlMin hMin F' N'))
local macro_rules | `(tactic| walk_at "call type:map") => `(tactic| (k_here; (with_reducible show wpAny _ _ (call (Value.type "map") [Value.builtin "len", Value.ref _]) _ _ _); first
  | (k_dflt (refine' map_tup_n ?k1 ?k2 ?k3 ?_; (case k1 => k_asm); (case k2 => k_asm); (case k3 => k_mem); k_whole); intro it' TI' M' h' hm1 hm2 hm3 hm4 F' N')
  | (k_dflt (refine' map_list_n ?k1 ?k2 ?k3 ?k4 ?k5 ?_; (case k1 => k_asm); (case k2 => k_asm); (case k3 => k_mem); (case k4 => exact rfl); (case k5 => exact rfl); k_whole); intro it' TI' M' h' hm1 hm2 hm3 hm4 F' N')))
local macro_rules | `(tactic| walk_at "call builtin:max") => `(tactic| (k_here; (with_reducible show wpAny _ _ (call (Value.builtin "max") [Value.ref _]) _ _ _); first
  | (k_dflt (refine' max_tup_n ?a1 ?a2 ?a3 ?a4 ?k1 ?k2 ?k3 ?k4 ?k5 ?k6 ?k7 ?_; (case k1 => k_asm); (case k2 => k_asm); (case a1 => assumption); (case a2 => assumption); (case a3 => assumption); (case a4 => assumption); (case k3 => k_mem); (case k4 => exact rfl); (case k5 => assumption); (case k6 => assumption); (case k7 => assumption); k_whole); intro kMax tMax h' tk' hMax hMax0 hMax1 F' N')
  | (k_dflt (refine' max_list_n ?a1 ?a2 ?a3 ?a4 ?k1 ?k2 ?k3 ?k3a ?k3b ?k4 ?k5 ?k6 ?k7 ?_; (case k1 => k_asm); (case k2 => k_asm); (case a1 => assumption); (case a2 => assumption); (case a3 => assumption); (case a4 => assumption); (case k3 => k_mem); (case k3a => exact rfl); (case k3b => exact rfl); (case k4 => exact rfl); (case k5 => assumption); (case k6 => assumption); (case k7 => assumption); k_whole); intro kMax tMax h' tk' hMax hMax0 hMax1 F' N')))
local macro_rules | `(tactic| walk_at "eval Call Attribute") => `(tactic| (k_here; (with_reducible show wpAny _ _ (eval (PySem.Expr.Call (PySem.Expr.Attribute _ _ _) [PySem.Expr.Starred _ _] _ _) _) _ _ _); refine starMeth ?_))
local macro_rules | `(tactic| walk_at "callWith ref") => `(tactic| (k_here; (with_reducible show wpAny _ _ (callWith _ (Value.ref _) _ (backTo _ (starEach [Expr.Starred _ _] _)) []) _ _ _); k_dflt (refine' callWith_SM ?k1 ?k2 ?k3 ?k4 ?_; (case k1 => k_asm); (case k2 => k_asm); (case k3 => k_mem); (case k4 => k_is); k_whole)))
local macro_rules | `(tactic| walk_at "call ref") => `(tactic| (k_here; (with_reducible show wpAny _ _ (call (Value.ref _) _) _ _ _); k_dflt (refine' call_meth (f := .ref 108) ?k1 ?k2 ?_; (case k1 => k_asm); (case k2 => k_mem); k_whole); k_dflt (walk_at "br enterRC"); intro D' g' L' h' tk' cells' lD' FG' F' N' Y' B' X' T' l1; (have lAll := l1); (try k_lt l1); k_cells Y'; (try simp only [List.cons_append, List.nil_append] at N'); (try dsimp only); (try k_lift B'); refine wpAny_noRaise ?_; (try k_fold)))
local macro_rules | `(tactic| walk_at "br mem") => `(tactic| first | assumption | (refine List.Mem.tail _ ?_; walk_at "br mem"))
local macro_rules | `(tactic| k_in) => `(tactic| (refine' Frag.In.keeps ?kinX (Fr.keep ?kinF); (case kinF => k_asm); (case kinX => first | with_reducible assumption | k_asm)))
local macro_rules | `(tactic| k_in) => `(tactic| with_reducible assumption)
-- the walker as at a file's start (open_top turns it to the top's lines)
theorem fresh_find : True := by
  w_top off
  trivial
local macro_rules | `(tactic| walk_at "call ref") => `(tactic| (k_here; (with_reducible show wpAny _ _ (call (Value.ref _) [_, _]) _ _ _); kco_here; k_dflt (refine' (lcs2_meet _ _ _ _ _ _ _ _ _ ?h1 ?h2).inst ?hI ?hdd ?hs ?hf ?hfn ?k1 ?k2 ?k3 ?k4 ?k5 ?kK ?hp ?hn ?hd ?hu ?_; (case k1 => k_asm); (case k2 => k_asm); (case k3 => k_asm); (case k4 => k_asm); (case k5 => k_asm); (case kK => first | assumption | exact rfl); (case hp => exact True.intro); (case hn => exact List.forall_mem_cons.mpr ⟨by k_mem, List.forall_mem_singleton.mpr (by k_mem)⟩); (case hI => k_inst); (case hdd => exact rfl); (case hs => k_is); (case hf => k_is); (case hfn => k_is); (case h1 => assumption); (case h2 => assumption); (case hd => ktr_room); (case hu => ktr_units); k_whole; intro v9 h9 tk9 ho9 F9 N9; obtain ⟨t9, hv9⟩ := ho9; subst hv9)))
local macro_rules | `(tactic| walk_at "br rec") => `(tactic| (k_here; (with_reducible show wpAny _ _ (call (Value.ref _) [_, _]) _ _ _); (rename (∀ (a b : Str) (t t2 : Tok), _) => IHr); k_dflt (refine' (IHr _ _ _ _ ?h1 ?h2 ?h3 ?h4).meth ?hq ?k1 ?k2 ?k3 ?k4 ?k5 ?kK ?hp ?hn ?hd ?hu ?_; (case k1 => k_asm); (case k2 => k_asm); (case k3 => k_asm); (case k4 => k_asm); (case k5 => k_asm); (case hq => k_mem); (case kK => first | assumption | exact rfl); (case h1 => omega); (case h2 => omega); (case h3 => omega); (case h4 => omega); (case hp => exact True.intro); (case hn => exact List.forall_mem_cons.mpr ⟨by k_mem, List.forall_mem_singleton.mpr (by k_mem)⟩); (case hd => ktr_room); (case hu => ktr_units); k_whole; intro v9 h9 tk9 ho9 F9 N9; obtain ⟨t9, hv9⟩ := ho9; subst hv9)))
local macro_rules | `(tactic| walk_at "call ref") => `(tactic| walk_at "br rec")
local macro_rules | `(tactic| walk_at "exec Assign cons ListComp") => `(tactic| (k_here; k_dflt (refine Assign_tup (_F₀ := by k_asm) (by rfl) (by with_unfolding_all rfl) (by with_unfolding_all rfl) (by decide) (by rfl) (by decide) (by rfl) (by rfl) (by rfl) ?_)))
theorem snoc_take {α β : Type} (f : α → β) {l : List α} {i : Nat} {y : α} (h : l[i]? = some y) : (l.take (i + 1)).map f = (l.take i).map f ++ [f y] := by
  rw [List.take_add_one, h]; simp
def cutB (p x : Str) : Str := Txt.slice x none (some (Txt.find x p))
def cutA (p x : Str) : Str := Txt.slice x (some (Txt.find x p + (p.length : Int))) none
set_option maxHeartbeats 8000000 in
theorem find_meet (w : World) (x dx : Addr) (k1 k2 : Tok) : ∀ (n : Nat) (a b : Str) (t t2 : Tok), a.length < n → a.length ≤ 40 → b.length ≤ 40 → n ≤ 41 →
    MeetC w (n + 20) (20 * n + 200) 242 [.ref x, .str a t, .str b t2] [(x, instObj 252 dx), (dx, lcsD w k1 k2)] (fun _ => True) (fun v => ∃ t, v = .int (cntF n a b) t) := by
  intro n
  induction n with
  | zero => intro a b t t2 h; omega
  | succ n IH =>
  intro sa sb t t2 han ha hb hn
  unfold MeetC
  k_fill
  intro p loose mean mg mb dp un gd cn cs a ccd cl outer A₀ base h₀ L m news s Q E B F X N T hk hpre hneed hd hu hret
  replace N := news_need N hneed
  simp only [List.cons_append, List.nil_append, lcsD] at N
  by_cases hp : piece sa [sa, sb] = ⟨#[]⟩
  · have hpl := piece_len sa [sa, sb]
    have hp0 : (piece sa [sa, sb]).length = 0 := by rw [hp]; rfl
    k_dflt (walk_at "br enterRC")
    intro D g L₁ h₁ tk₁ cells lD FG FL NL Y BL XL TL lAll
    have l1 := lAll
    (try k_lt l1)
    k_cells Y
    (try simp only [List.cons_append, List.nil_append] at NL)
    dsimp only
    refine wpAny_noRaise ?_
    k_fold
    k_steps
    · rename News h₀ L _ _ => KN
      exact hret _ _ _ ⟨_, by rw [cntF, if_pos hp]⟩ (by k_asm) (fun p hp => KN p (by walk_at "br mem"))
    · exfalso; omega
  · have e := beq_empty hp
    have hpl := piece_len sa [sa, sb]
    have hp1 := len_pos hp
    have ca := piece_in hp sa (.head _)
    have cb := piece_in hp sb (.tail _ (.head _))
    obtain ⟨a1, a2, a3, a4⟩ := cut_facts hp ca
    obtain ⟨b1, b2, b3, b4⟩ := cut_facts hp cb
    k_dflt (walk_at "br enterRC")
    intro D g L₁ h₁ tk₁ cells lD FG FL NL Y BL XL TL lAll
    have l1 := lAll
    (try k_lt l1)
    k_cells Y
    (try simp only [List.cons_append, List.nil_append] at NL)
    dsimp only
    refine wpAny_noRaise ?_
    k_fold
    k_steps
    · exfalso; omega
    refine Stopped.of ?_
    have hxs : StrsAre [Value.str sa t, .str sb t2] [sa, sb] := .cons _ _ (.cons _ _ .nil)
    have hl := br_all2 ha hb
    have hin : ∀ y ∈ [sa, sb], Txt.contains y (piece sa [sa, sb]) = true := piece_in hp
    refine comp_tupA (fun i ys => StrsAre ys (([sa, sb].take i).map (cutB (piece sa [sa, sb])))) rfl (by k_asm) (by k_asm) (by k_mem) (Nat.le_of_ble_eq_true rfl) .nil ?_ ?_
    · intro i v ys Ic oIc C oC D m₂ h tk hv hys hC hx FC NC off ne
      simp only [LCg.Off3] at off
      obtain ⟨y, ty, hy, rfl⟩ := strs_at hxs hv
      have hyl : y.length ≤ 40 := hl _ (List.mem_of_getElem? hy)
      obtain ⟨c1, c2, c3, c4⟩ := cut_facts hp (hin y (List.mem_of_getElem? hy))
      k_steps
      exact ⟨_, _, _, rfl, by k_asm, by k_asm, fun _ hp => hp, by rw [snoc_take _ hy]; exact strs_snoc hys⟩
    · intro ys D h tk hys FD ND off
      simp only [LCg.Off1] at off
      obtain ⟨u1, u2, rfl⟩ : ∃ u1 u2, ys = [Value.str (cutB (piece sa [sa, sb]) sa) u1, .str (cutB (piece sa [sa, sb]) sb) u2] := by
        cases hys with | cons _ a r => cases r with | cons _ b r => cases r with | nil => exact ⟨_, _, rfl⟩
      have F₂ := fr_named [(Str.ofString "self", _), (Str.ofString "sequences", _), (Str.ofString "before", _)] FD (by walk_at "br frs"; exact ⟨rfl, rfl, rfl⟩)
      dsimp only [kstB] at F₂
      clear FD
      (try k_fold)
      k_steps
      refine Stopped.of ?_
      refine comp_tupA (fun i ys => StrsAre ys (([sa, sb].take i).map (cutA (piece sa [sa, sb])))) rfl (by k_asm) (by k_asm) (by k_mem) (Nat.le_of_ble_eq_true rfl) .nil ?_ ?_
      · intro i v ys Ic oIc C oC D' m₂ h tk hv hys hC hx FC NC off ne
        simp only [LCg.Off3] at off
        obtain ⟨y, ty, hy, rfl⟩ := strs_at hxs hv
        have hyl : y.length ≤ 40 := hl _ (List.mem_of_getElem? hy)
        obtain ⟨c1, c2, c3, c4⟩ := cut_facts hp (hin y (List.mem_of_getElem? hy))
        k_steps
        exact ⟨_, _, _, rfl, by k_asm, by k_asm, fun _ hp => hp, by rw [snoc_take _ hy]; exact strs_snoc hys⟩
      · intro ys D' h tk hys FD ND off
        simp only [LCg.Off1] at off
        obtain ⟨u3, u4, rfl⟩ : ∃ u1 u2, ys = [Value.str (cutA (piece sa [sa, sb]) sa) u1, .str (cutA (piece sa [sa, sb]) sb) u2] := by
          cases hys with | cons _ a r => cases r with | cons _ b r => cases r with | nil => exact ⟨_, _, rfl⟩
        have F₂ := fr_named [(Str.ofString "self", _), (Str.ofString "sequences", _), (Str.ofString "before", _), (Str.ofString "after", _)] FD (by walk_at "br frs"; exact ⟨rfl, rfl, rfl, rfl⟩)
        dsimp only [kstB] at F₂
        have g1 : (cutB (piece sa [sa, sb]) sa).length < sa.length := a3
        have g2 : (cutB (piece sa [sa, sb]) sb).length < sb.length := b3
        have g3 : (cutA (piece sa [sa, sb]) sa).length < sa.length := a4
        have g4 : (cutA (piece sa [sa, sb]) sb).length < sb.length := b4
        clear FD
        (try k_fold)
        k_steps
        rename News h₀ L _ _ => KN
        exact hret _ _ _ ⟨_, by rw [cntF, if_neg hp]; rfl⟩ (by k_asm) (fun p hp => KN p (by walk_at "br mem"))
end Mine
end

section
open PySem PySem.W PyProof.Rows
set_option maxRecDepth 100000
namespace Mine
local macro_rules | `(tactic| walk_at "br enter") => `(tactic| first
  | (refine' code_def ?k1 ?k2 ?k3 ?k4 ?k5 ?kA ?kF ?kK ?k6 ?k7 ?k8 ?k9 ?kB ?_ ?c2 ?c3 ?c4 ?c5; (case kA => exact rfl); (case kF => exact rfl); (case kK => first | assumption | exact rfl); (case k1 => k_asm); (case k2 => k_asm); (case k3 => k_asm); (case k4 => k_asm); (case k5 => k_asm); (case k6 => k_is); (case k7 => k_is); (case k8 => ktr_room); (case k9 => first | exact BindsTo.of_eq rfl | exact binds_K (by k_in) rfl (by k_is) rfl rfl rfl); (case c5 => decide); (case kB => exact locs rfl); (case c2 => exact rfl); (case c3 => exact rfl); (case c4 => exact rfl); k_whole; intro g' L' h' FG' F' N' B' X' T'; (try dsimp only); (try k_lift B'); refine wpAny_noRaise ?_; (try k_fold))
  | (refine' code_defC ?k1 ?k2 ?k3 ?k4 ?k5 ?kA ?kF ?kK ?k6 ?k7 ?k8 ?k9 ?kB ?kD ?_ ?c2 ?c3 ?c4; (case kA => exact rfl); (case kF => exact rfl); (case kK => first | assumption | exact rfl); (case k1 => k_asm); (case k2 => k_asm); (case k3 => k_asm); (case k4 => k_asm); (case k5 => k_asm); (case k6 => k_is); (case k7 => k_is); (case k8 => ktr_room); (case k9 => first | exact BindsTo.of_eq rfl | exact binds_K (by k_in) rfl (by k_is) rfl rfl rfl); (case kB => exact rfl); (case kD => decide +kernel); (case c2 => exact rfl); (case c3 => exact rfl); (case c4 => exact rfl); k_whole; intro g' L' h' tk' cells' FG' F' N' Y' B' X' T' l1; (have lAll := l1); (try k_lt l1); k_cells Y'; (try simp only [List.cons_append, List.nil_append] at N'); (try dsimp only); (try k_lift B'); refine wpAny_noRaise ?_; (try k_fold)))
local macro_rules | `(tactic| walk_at "exec For") => `(tactic| (k_here; k_dflt (refine' for_F ?_); k_whole))
local macro_rules | `(tactic| walk_at "exec For Name Call cons nil") => `(tactic| (k_here; k_dflt (refine' for_F ?_); k_whole))
local macro_rules | `(tactic| walk_at "exec While BoolOp cons nil") => `(tactic| (k_here; refine Stopped.out ?_))
local macro_rules | `(tactic| walk_at "br frs") => `(tactic| simp only [List.forall_mem_cons, List.not_mem_nil, false_implies, implies_true, and_true])
local macro_rules | `(tactic| k_all) => `(tactic| (rename (∀ p ∈ (_ : List (Addr × Obj)), p.1 < _) => kAl'; exact fun p hp => br_ne (kAl' p (by first | exact hp | exact .tail _ hp | exact .tail _ (.tail _ hp) | exact .tail _ (.tail _ (.tail _ hp)))) (by omega)))
local macro_rules | `(tactic| walk_at "br enterC") => `(tactic| (refine' code_defC ?k1 ?k2 ?k3 ?k4 ?k5 ?kA ?kF ?kK ?k6 ?k7 ?k8 ?k9 ?kB ?kD ?_ ?c2 ?c3 ?c4; (case kA => exact rfl); (case kF => exact rfl); (case kK => first | assumption | exact rfl); (case k1 => k_asm); (case k2 => k_asm); (case k3 => k_asm); (case k4 => k_asm); (case k5 => k_asm); (case k6 => k_is); (case k7 => k_is); (case k8 => ktr_room); (case k9 => first | exact BindsTo.of_eq rfl | exact binds_K (by k_in) rfl (by k_is) rfl rfl rfl); (case kB => exact rfl); (case kD => decide +kernel); (case c2 => exact rfl); (case c3 => exact rfl); (case c4 => exact rfl); k_whole))
local macro_rules | `(tactic| walk_at "eval ListComp") => `(tactic| (k_here; first
  | ((with_reducible show wpAny _ _ (eval (PySem.Expr.ListComp _ [PySem.Comprehension.mk _ _ [_] _] _ _) _) _ _ _); k_dflt (refine ListComp_TS (F₀ := by k_asm) (by with_unfolding_all rfl) (by decide) (by rfl) (by decide) (by rfl) ?_))
  | ((with_reducible show wpAny _ _ (eval (PySem.Expr.ListComp _ [PySem.Comprehension.mk _ _ [] _] _ _) _) _ _ _); k_dflt (refine ListComp_US (F₀ := by k_asm) (by with_unfolding_all rfl) (by decide) (by rfl) (by decide) (by rfl) ?_))))
local macro_rules | `(tactic| walk_at "br ends") => `(tactic| repeat (first | (dsimp only [StepF, StepW]) | k_unfold))
local macro_rules | `(tactic| walk_at "br enterR") => `(tactic| (refine' kp_rest ?k1 ?k2 ?k3 ?k4 ?k5 ?kA ?kF ?kK ?k6 ?k7 ?k8 ?kV ?kP ?kG ?kB ?_ ?c2 ?c3 ?c4 ?c5; (case kA => exact rfl); (case kF => exact rfl); (case kK => first | assumption | exact rfl); (case k1 => k_asm); (case k2 => k_asm); (case k3 => k_asm); (case k4 => k_asm); (case k5 => k_asm); (case k6 => k_is); (case k7 => k_is); (case k8 => ktr_room); (case kV => first | kl_lit | exact rfl); (case kP => exact rfl); (case kG => exact fun _ => rfl); (case kB => exact fun _ => locs rfl); (case c5 => decide); (case c2 => exact rfl); (case c3 => exact rfl); (case c4 => exact rfl); k_whole))
local macro_rules | `(tactic| walk_at "br enterRC") => `(tactic| (refine' rest_cells ?k1 ?k2 ?k3 ?k4 ?k5 ?kA ?kF ?kK ?k6 ?k7 ?k8 ?kV ?kP ?kG ?kB ?kD ?_ ?c2 ?c3 ?c4; (case kA => exact rfl); (case kF => exact rfl); (case kK => first | assumption | exact rfl); (case k1 => k_asm); (case k2 => k_asm); (case k3 => k_asm); (case k4 => k_asm); (case k5 => k_asm); (case k6 => k_is); (case k7 => k_is); (case k8 => ktr_room); (case kV => kl_lit); (case kP => exact rfl); (case kG => exact fun _ => rfl); (case kB => exact fun _ => rfl); (case kD => decide +kernel); (case c2 => exact rfl); (case c3 => exact rfl); (case c4 => exact rfl); k_whole))
local macro_rules | `(tactic| k_room) => `(tactic| ktr_room)
local macro_rules | `(tactic| k_units) => `(tactic| ktr_units)
local macro_rules | `(tactic| walk_at "callWith ref") => `(tactic| (k_here; (with_reducible show wpAny _ _ (callWith _ (Value.ref _) _ (backTo _ (starEach [Expr.Starred _ _] _)) []) _ _ _); kco_here; k_dflt (refine' inst_S ?k1 ?k2 ?k3 ?k4 ?_; (case k1 => k_asm); (case k2 => k_inst); (case k3 => rfl); (case k4 => k_is); k_whole)))
local macro_rules | `(tactic| walk_at "StarOf ref") => `(tactic| (k_here; k_dflt (refine' star_seq ?k1 ?k2 ?m ?c ?d ?T ?e ?z ?_; (case k1 => k_asm); (case k2 => k_asm); (case m => k_mem); (case c => exact rfl); (case d => exact rfl); (case T => first | exact .inl rfl | exact .inr rfl); (case e => first | exact List.toList_toArray .. | kl_lit); (case z => first | assumption | exact Nat.le_of_ble_eq_true rfl); k_whole); intro h' F' N'; (try k_sweep); try dsimp only [List.nil_append, List.cons_append]))
local macro_rules | `(tactic| walk_at "call builtin:all") => `(tactic| (k_here; (with_reducible show wpAny _ _ (call (Value.builtin "all") [Value.ref _]) _ _ _); k_dflt (refine' all_n ?k1 ?k2 ?k3 ?k4 ?k5 ?k6 ?k7 ?_; (case k1 => k_asm); (case k2 => k_asm); (case k3 => k_mem); (case k4 => exact rfl); (case k5 => assumption); (case k6 => assumption); (case k7 => assumption); k_whole); intro h' tk' F' N'))
local macro_rules | `(tactic| walk_at "call builtin:min") => `(tactic| (k_here; (show wpAny _ _ (call (Value.builtin "min") [Value.ref _] [(PySem.Str.ofString "key", Value.builtin "len")]) _ _ _); k_dflt (refine' min_n ?k1 ?k2 ?k3 ?k4 ?k5 ?k6 ?k7 ?_; (case k1 => k_asm); (case k2 => k_asm); (case k3 => k_mem); (case k4 => exact rfl); (case k5 => assumption); (case k6 => assumption); (case k7 => assumption); k_whole); intro iMin xMin tMin h' tk' hiMin hlMin hMin F' N'))
local macro_rules | `(tactic| walk_at "call type:map") => `(tactic| (k_here; (with_reducible show wpAny _ _ (call (Value.type "map") [Value.builtin "len", Value.ref _]) _ _ _); first
  | (k_dflt (refine' map_tup_n ?k1 ?k2 ?k3 ?_; (case k1 => k_asm); (case k2 => k_asm); (case k3 => k_mem); k_whole); intro it' TI' M' h' hm1 hm2 hm3 hm4 F' N')
  | (k_dflt (refine' map_list_n ?k1 ?k2 ?k3 ?k4 ?k5 ?_; (case k1 => k_asm); (case k2 => k_asm); (case k3 => k_mem); (case k4 => exact rfl); (case k5 => exact rfl); k_whole); intro it' TI' M' h' hm1 hm2 hm3 hm4 F' N')))
local macro_rules | `(tactic| walk_at "call builtin:max") => `(tactic| (k_here; (with_reducible show wpAny _ _ (call (Value.builtin "max") [Value.ref _]) _ _ _); first
  | (k_dflt (refine' max_tup_n ?a1 ?a2 ?a3 ?a4 ?k1 ?k2 ?k3 ?k4 ?k5 ?k6 ?k7 ?_; (case k1 => k_asm); (case k2 => k_asm); (case a1 => assumption); (case a2 => assumption); (case a3 => assumption); (case a4 => assumption); (case k3 => k_mem); (case k4 => exact rfl); (case k5 => assumption); (case k6 => assumption); (case k7 => assumption); k_whole); intro kMax tMax h' tk' hMax hMax0 hMax1 F' N')
  | (k_dflt (refine' max_list_n ?a1 ?a2 ?a3 ?a4 ?k1 ?k2 ?k3 ?k3a ?k3b ?k4 ?k5 ?k6 ?k7 ?_; (case k1 => k_asm); (case k2 => k_asm); (case a1 => assumption); (case a2 => assumption); (case a3 => assumption); (case a4 => assumption); (case k3 => k_mem); (case k3a => exact rfl); (case k3b => exact rfl); (case k4 => exact rfl); (case k5 => assumption); (case k6 => assumption); (case k7 => assumption); k_whole); intro kMax tMax h' tk' hMax hMax0 hMax1 F' N')))
local macro_rules | `(tactic| walk_at "eval Call Attribute") => `(tactic| (k_here; (with_reducible show wpAny _ _ (eval (PySem.Expr.Call (PySem.Expr.Attribute _ _ _) [PySem.Expr.Starred _ _] _ _) _) _ _ _); refine starMeth ?_))
local macro_rules | `(tactic| walk_at "callWith ref") => `(tactic| (k_here; (with_reducible show wpAny _ _ (callWith _ (Value.ref _) _ (backTo _ (starEach [Expr.Starred _ _] _)) []) _ _ _); k_dflt (refine' callWith_SM ?k1 ?k2 ?k3 ?k4 ?_; (case k1 => k_asm); (case k2 => k_asm); (case k3 => k_mem); (case k4 => k_is); k_whole)))
local macro_rules | `(tactic| walk_at "call ref") => `(tactic| (k_here; (with_reducible show wpAny _ _ (call (Value.ref _) _) _ _ _); k_dflt (refine' call_meth (f := .ref 108) ?k1 ?k2 ?_; (case k1 => k_asm); (case k2 => k_mem); k_whole); k_dflt (walk_at "br enterRC"); intro D' g' L' h' tk' cells' lD' FG' F' N' Y' B' X' T' l1; (have lAll := l1); (try k_lt l1); k_cells Y'; (try simp only [List.cons_append, List.nil_append] at N'); (try dsimp only); (try k_lift B'); refine wpAny_noRaise ?_; (try k_fold)))
local macro_rules | `(tactic| walk_at "br mem") => `(tactic| first | assumption | (refine List.Mem.tail _ ?_; walk_at "br mem"))
local macro_rules | `(tactic| k_in) => `(tactic| (refine' Frag.In.keeps ?kinX (Fr.keep ?kinF); (case kinF => k_asm); (case kinX => first | with_reducible assumption | k_asm)))
local macro_rules | `(tactic| k_in) => `(tactic| with_reducible assumption)
-- the walker as at a file's start (open_top turns it to the top's lines)
theorem fresh_grams : True := by
  w_top off
  trivial
local macro_rules | `(tactic| walk_at "callWith type") => `(tactic| (k_here; (with_reducible show wpAny _ _ (callWith _ (Value.type _) _ (backTo _ (starEach [Expr.Starred _ _] _)) []) _ _ _); k_dflt (refine type_S ?_)))
local macro_rules | `(tactic| walk_at "callWith type:zip") => `(tactic| (k_here; (with_reducible show wpAny _ _ (callWith _ (Value.type _) _ (backTo _ (starEach [Expr.Starred _ _] _)) []) _ _ _); k_dflt (refine type_S ?_)))
local macro_rules | `(tactic| walk_at "call type:zip") => `(tactic| (k_here; k_dflt (refine' call_zip ?k1 ?k2 ?k3 ?k4 ?k5 ?_; (case k1 => k_asm); (case k2 => k_asm); (case k3 => assumption); (case k4 => assumption); (case k5 => assumption); k_whole); intro z' h' hZ' F' N'))
local macro_rules | `(tactic| walk_at "call type:list") => `(tactic| (k_here; (with_reducible show wpAny _ _ (call (Value.type "list") [Value.ref _]) _ _ _); k_dflt (refine' list_zip ?k0 ?k1 _ ?k2 ?k3 ?k4 ?k5 ?_; (case k0 => exact rfl); (case k1 => assumption); (case k3 => assumption); (case k4 => assumption); (case k5 => omega); (case k2 => omega); k_whole); intro S' tups' h' tk' c' hlen' htup' hb1' hb2' F' N'))
theorem mem_mid {α : Type} {x p : α} {a b c : List α} (h : p ∈ (x :: a) ++ c) (hb : ∀ q ∈ c, q ∈ b) : p ∈ x :: (a ++ b) := by
  rcases List.mem_cons.mp h with rfl | h
  · exact .head _
  · rcases List.mem_append.mp h with h | h
    · exact .tail _ (List.mem_append_left _ h)
    · exact .tail _ (List.mem_append_right _ (hb _ h))
set_option maxHeartbeats 8000000 in
theorem grams_meet (w : World) (f : Str) (n : Nat) (t t2 : Tok) (hn : 1 ≤ n) (hf : n ≤ f.length) (h6 : f.length ≤ 6) :
    MeetX w 6 60 26 [.str f t, .int n t2] [] (fun _ => True) (Grams f n) := by
  unfold MeetX
  k_fill
  intro p loose mean mg mb dp un gd cn cs a ccd cl outer A₀ base h₀ L m news s Q E B F X N T hk hpre hneed hd hu hret
  obtain ⟨hlo, hhi⟩ := tails_size f n hf hn
  refine wpAny_call ?_
  k_dflt (walk_at "br enterC")
  intro g L₁ h₁ tk₁ cells FG FL NL Y BL XL TL lAll
  have l1 := lAll
  (try k_lt l1)
  k_cells Y
  (try simp only [List.cons_append, List.nil_append] at NL)
  dsimp only
  refine wpAny_noRaise ?_
  k_fold
  k_steps
  rename IsRange _ _ _ _ _ _ _ _ => R1
  refine Stopped.of ?_
  refine comp_R (n := n) (fun i ys => StrsAre ys (tails f i)) rfl (by k_asm) (by k_asm) R1 rfl (by omega) .nil ?_ ?_
  · intro i t ys I oI C oC D m₂ h tk hi hys hC hx FC NC off ne
    simp only [LCg.Off3] at off
    k_steps
    exact ⟨_, _, _, rfl, by k_asm, by k_asm, fun _ hp => hp, by rw [tails_succ]; exact strs_snoc hys⟩
  · intro ys D h tk hys FD ND off
    simp only [LCg.Off1] at off
    have hz : ys.toArray.size ≤ sizeLine := by rw [List.size_toArray, strs_len hys, tails_len, sizeLine_eq]; omega
    have hl6 : (tails f n).length ≤ 6 := by rw [tails_len]; omega
    have hl0 : 0 < (tails f n).length := by rw [tails_len]; omega
    clear R1
    (try k_fold)
    k_steps
    rename News h₀ L _ _ => KN
    rename (∀ (j : Nat) (p : Addr × List Value), _) => htup
    rename List.length _ = _ => hlen
    refine hret _ _ _ _ ⟨_, _, _, rfl, rfl, hlen, fun j p hj => tails_chr f n hf j ▸ htup j p hj⟩ (by k_asm) (fun p hp => KN p (mem_mid hp fun q hq => ?_))
    walk_at "br mem"
end Mine
end

section
open PySem PySem.W PyProof.Rows
set_option maxRecDepth 100000
namespace Mine
local macro_rules | `(tactic| walk_at "br enter") => `(tactic| first
  | (refine' code_def ?k1 ?k2 ?k3 ?k4 ?k5 ?kA ?kF ?kK ?k6 ?k7 ?k8 ?k9 ?kB ?_ ?c2 ?c3 ?c4 ?c5; (case kA => exact rfl); (case kF => exact rfl); (case kK => first | assumption | exact rfl); (case k1 => k_asm); (case k2 => k_asm); (case k3 => k_asm); (case k4 => k_asm); (case k5 => k_asm); (case k6 => k_is); (case k7 => k_is); (case k8 => ktr_room); (case k9 => first | exact BindsTo.of_eq rfl | exact binds_K (by k_in) rfl (by k_is) rfl rfl rfl); (case c5 => decide); (case kB => exact locs rfl); (case c2 => exact rfl); (case c3 => exact rfl); (case c4 => exact rfl); k_whole; intro g' L' h' FG' F' N' B' X' T'; (try dsimp only); (try k_lift B'); refine wpAny_noRaise ?_; (try k_fold))
  | (refine' code_defC ?k1 ?k2 ?k3 ?k4 ?k5 ?kA ?kF ?kK ?k6 ?k7 ?k8 ?k9 ?kB ?kD ?_ ?c2 ?c3 ?c4; (case kA => exact rfl); (case kF => exact rfl); (case kK => first | assumption | exact rfl); (case k1 => k_asm); (case k2 => k_asm); (case k3 => k_asm); (case k4 => k_asm); (case k5 => k_asm); (case k6 => k_is); (case k7 => k_is); (case k8 => ktr_room); (case k9 => first | exact BindsTo.of_eq rfl | exact binds_K (by k_in) rfl (by k_is) rfl rfl rfl); (case kB => exact rfl); (case kD => decide +kernel); (case c2 => exact rfl); (case c3 => exact rfl); (case c4 => exact rfl); k_whole; intro g' L' h' tk' cells' FG' F' N' Y' B' X' T' l1; (have lAll := l1); (try k_lt l1); k_cells Y'; (try simp only [List.cons_append, List.nil_append] at N'); (try dsimp only); (try k_lift B'); refine wpAny_noRaise ?_; (try k_fold)))
local macro_rules | `(tactic| walk_at "exec For") => `(tactic| (k_here; k_dflt (refine' for_F ?_); k_whole))
local macro_rules | `(tactic| walk_at "exec For Name Call cons nil") => `(tactic| (k_here; k_dflt (refine' for_F ?_); k_whole))
local macro_rules | `(tactic| walk_at "exec While BoolOp cons nil") => `(tactic| (k_here; refine Stopped.out ?_))
local macro_rules | `(tactic| walk_at "br frs") => `(tactic| simp only [List.forall_mem_cons, List.not_mem_nil, false_implies, implies_true, and_true])
local macro_rules | `(tactic| k_all) => `(tactic| (rename (∀ p ∈ (_ : List (Addr × Obj)), p.1 < _) => kAl'; exact fun p hp => br_ne (kAl' p (by first | exact hp | exact .tail _ hp | exact .tail _ (.tail _ hp) | exact .tail _ (.tail _ (.tail _ hp)))) (by omega)))
local macro_rules | `(tactic| walk_at "br enterC") => `(tactic| (refine' code_defC ?k1 ?k2 ?k3 ?k4 ?k5 ?kA ?kF ?kK ?k6 ?k7 ?k8 ?k9 ?kB ?kD ?_ ?c2 ?c3 ?c4; (case kA => exact rfl); (case kF => exact rfl); (case kK => first | assumption | exact rfl); (case k1 => k_asm); (case k2 => k_asm); (case k3 => k_asm); (case k4 => k_asm); (case k5 => k_asm); (case k6 => k_is); (case k7 => k_is); (case k8 => ktr_room); (case k9 => first | exact BindsTo.of_eq rfl | exact binds_K (by k_in) rfl (by k_is) rfl rfl rfl); (case kB => exact rfl); (case kD => decide +kernel); (case c2 => exact rfl); (case c3 => exact rfl); (case c4 => exact rfl); k_whole))
local macro_rules | `(tactic| walk_at "eval ListComp") => `(tactic| (k_here; first
  | ((with_reducible show wpAny _ _ (eval (PySem.Expr.ListComp _ [PySem.Comprehension.mk _ _ [_] _] _ _) _) _ _ _); k_dflt (refine ListComp_TS (F₀ := by k_asm) (by with_unfolding_all rfl) (by decide) (by rfl) (by decide) (by rfl) ?_))
  | ((with_reducible show wpAny _ _ (eval (PySem.Expr.ListComp _ [PySem.Comprehension.mk _ _ [] _] _ _) _) _ _ _); k_dflt (refine ListComp_US (F₀ := by k_asm) (by with_unfolding_all rfl) (by decide) (by rfl) (by decide) (by rfl) ?_))))
local macro_rules | `(tactic| walk_at "br ends") => `(tactic| repeat (first | (dsimp only [StepF, StepW]) | k_unfold))
local macro_rules | `(tactic| walk_at "br enterR") => `(tactic| (refine' kp_rest ?k1 ?k2 ?k3 ?k4 ?k5 ?kA ?kF ?kK ?k6 ?k7 ?k8 ?kV ?kP ?kG ?kB ?_ ?c2 ?c3 ?c4 ?c5; (case kA => exact rfl); (case kF => exact rfl); (case kK => first | assumption | exact rfl); (case k1 => k_asm); (case k2 => k_asm); (case k3 => k_asm); (case k4 => k_asm); (case k5 => k_asm); (case k6 => k_is); (case k7 => k_is); (case k8 => ktr_room); (case kV => first | kl_lit | exact rfl); (case kP => exact rfl); (case kG => exact fun _ => rfl); (case kB => exact fun _ => locs rfl); (case c5 => decide); (case c2 => exact rfl); (case c3 => exact rfl); (case c4 => exact rfl); k_whole))
local macro_rules | `(tactic| walk_at "br enterRC") => `(tactic| (refine' rest_cells ?k1 ?k2 ?k3 ?k4 ?k5 ?kA ?kF ?kK ?k6 ?k7 ?k8 ?kV ?kP ?kG ?kB ?kD ?_ ?c2 ?c3 ?c4; (case kA => exact rfl); (case kF => exact rfl); (case kK => first | assumption | exact rfl); (case k1 => k_asm); (case k2 => k_asm); (case k3 => k_asm); (case k4 => k_asm); (case k5 => k_asm); (case k6 => k_is); (case k7 => k_is); (case k8 => ktr_room); (case kV => kl_lit); (case kP => exact rfl); (case kG => exact fun _ => rfl); (case kB => exact fun _ => rfl); (case kD => decide +kernel); (case c2 => exact rfl); (case c3 => exact rfl); (case c4 => exact rfl); k_whole))
local macro_rules | `(tactic| k_room) => `(tactic| ktr_room)
local macro_rules | `(tactic| k_units) => `(tactic| ktr_units)
local macro_rules | `(tactic| walk_at "callWith ref") => `(tactic| (k_here; (with_reducible show wpAny _ _ (callWith _ (Value.ref _) _ (backTo _ (starEach [Expr.Starred _ _] _)) []) _ _ _); kco_here; k_dflt (refine' inst_S ?k1 ?k2 ?k3 ?k4 ?_; (case k1 => k_asm); (case k2 => k_inst); (case k3 => rfl); (case k4 => k_is); k_whole)))
local macro_rules | `(tactic| walk_at "StarOf ref") => `(tactic| (k_here; k_dflt (refine' star_seq ?k1 ?k2 ?m ?c ?d ?T ?e ?z ?_; (case k1 => k_asm); (case k2 => k_asm); (case m => k_mem); (case c => exact rfl); (case d => exact rfl); (case T => first | exact .inl rfl | exact .inr rfl); (case e => first | exact List.toList_toArray .. | kl_lit); (case z => first | assumption | exact Nat.le_of_ble_eq_true rfl); k_whole); intro h' F' N'; (try k_sweep); try dsimp only [List.nil_append, List.cons_append]))
local macro_rules | `(tactic| walk_at "call builtin:all") => `(tactic| (k_here; (with_reducible show wpAny _ _ (call (Value.builtin "all") [Value.ref _]) _ _ _); k_dflt (refine' all_n ?k1 ?k2 ?k3 ?k4 ?k5 ?k6 ?k7 ?_; (case k1 => k_asm); (case k2 => k_asm); (case k3 => k_mem); (case k4 => exact rfl); (case k5 => assumption); (case k6 => assumption); (case k7 => assumption); k_whole); intro h' tk' F' N'))
local macro_rules | `(tactic| walk_at "call builtin:min") => `(tactic| (k_here; (show wpAny _ _ (call (Value.builtin "min") [Value.ref _] [(PySem.Str.ofString "key", Value.builtin "len")]) _ _ _); k_dflt (refine' min_n ?k1 ?k2 ?k3 ?k4 ?k5 ?k6 ?k7 ?_; (case k1 => k_asm); (case k2 => k_asm); (case k3 => k_mem); (case k4 => exact rfl); (case k5 => assumption); (case k6 => assumption); (case k7 => assumption); k_whole); intro iMin xMin tMin h' tk' hiMin hlMin hMin F' N'))
local macro_rules | `(tactic| walk_at "call type:map") => `(tactic| (k_here; (with_reducible show wpAny _ _ (call (Value.type "map") [Value.builtin "len", Value.ref _]) _ _ _); first
  | (k_dflt (refine' map_tup_n ?k1 ?k2 ?k3 ?_; (case k1 => k_asm); (case k2 => k_asm); (case k3 => k_mem); k_whole); intro it' TI' M' h' hm1 hm2 hm3 hm4 F' N')
  | (k_dflt (refine' map_list_n ?k1 ?k2 ?k3 ?k4 ?k5 ?_; (case k1 => k_asm); (case k2 => k_asm); (case k3 => k_mem); (case k4 => exact rfl); (case k5 => exact rfl); k_whole); intro it' TI' M' h' hm1 hm2 hm3 hm4 F' N')))
local macro_rules | `(tactic| walk_at "call builtin:max") => `(tactic| (k_here; (with_reducible show wpAny _ _ (call (Value.builtin "max") [Value.ref _]) _ _ _); first
  | (k_dflt (refine' max_tup_n ?a1 ?a2 ?a3 ?a4 ?k1 ?k2 ?k3 ?k4 ?k5 ?k6 ?k7 ?_; (case k1 => k_asm); (case k2 => k_asm); (case a1 => assumption); (case a2 => assumption); (case a3 => assumption); (case a4 => assumption); (case k3 => k_mem); (case k4 => exact rfl); (case k5 => assumption); (case k6 => assumption); (case k7 => assumption); k_whole); intro kMax tMax h' tk' hMax hMax0 hMax1 F' N')
  | (k_dflt (refine' max_list_n ?a1 ?a2 ?a3 ?a4 ?k1 ?k2 ?k3 ?k3a ?k3b ?k4 ?k5 ?k6 ?k7 ?_; (case k1 => k_asm); (case k2 => k_asm); (case a1 => assumption); (case a2 => assumption); (case a3 => assumption); (case a4 => assumption); (case k3 => k_mem); (case k3a => exact rfl); (case k3b => exact rfl); (case k4 => exact rfl); (case k5 => assumption); (case k6 => assumption); (case k7 => assumption); k_whole); intro kMax tMax h' tk' hMax hMax0 hMax1 F' N')))
local macro_rules | `(tactic| walk_at "eval Call Attribute") => `(tactic| (k_here; (with_reducible show wpAny _ _ (eval (PySem.Expr.Call (PySem.Expr.Attribute _ _ _) [PySem.Expr.Starred _ _] _ _) _) _ _ _); refine starMeth ?_))
local macro_rules | `(tactic| walk_at "callWith ref") => `(tactic| (k_here; (with_reducible show wpAny _ _ (callWith _ (Value.ref _) _ (backTo _ (starEach [Expr.Starred _ _] _)) []) _ _ _); k_dflt (refine' callWith_SM ?k1 ?k2 ?k3 ?k4 ?_; (case k1 => k_asm); (case k2 => k_asm); (case k3 => k_mem); (case k4 => k_is); k_whole)))
local macro_rules | `(tactic| walk_at "call ref") => `(tactic| (k_here; (with_reducible show wpAny _ _ (call (Value.ref _) _) _ _ _); k_dflt (refine' call_meth (f := .ref 108) ?k1 ?k2 ?_; (case k1 => k_asm); (case k2 => k_mem); k_whole); k_dflt (walk_at "br enterRC"); intro D' g' L' h' tk' cells' lD' FG' F' N' Y' B' X' T' l1; (have lAll := l1); (try k_lt l1); k_cells Y'; (try simp only [List.cons_append, List.nil_append] at N'); (try dsimp only); (try k_lift B'); refine wpAny_noRaise ?_; (try k_fold)))
local macro_rules | `(tactic| walk_at "br mem") => `(tactic| first | assumption | (refine List.Mem.tail _ ?_; walk_at "br mem"))
local macro_rules | `(tactic| k_in) => `(tactic| (refine' Frag.In.keeps ?kinX (Fr.keep ?kinF); (case kinF => k_asm); (case kinX => first | with_reducible assumption | k_asm)))
local macro_rules | `(tactic| k_in) => `(tactic| with_reducible assumption)
-- the walker as at a file's start (open_top turns it to the top's lines)
theorem fresh_custom : True := by
  w_top off
  trivial
local macro_rules | `(tactic| walk_at "call ref") => `(tactic| (k_here; (with_reducible show wpAny _ _ (call (Value.ref 26) _) _ _ _); refine Stopped.out ?_))
local macro_rules | `(tactic| walk_at "call builtin:min") => `(tactic| (k_here; (show wpAny _ _ (call (Value.builtin "min") [Value.ref _] [(PySem.Str.ofString "key", Value.builtin "len")]) _ _ _); refine Stopped.out ?_))
local macro_rules | `(tactic| walk_at "call builtin:str.join") => `(tactic| (k_here; refine Stopped.out ?_))
theorem str_ext {a b : Str} (h : a.cps.toList = b.cps.toList) : a = b := by
  obtain ⟨⟨a⟩⟩ := a
  obtain ⟨⟨b⟩⟩ := b
  have : a = b := h
  rw [this]
theorem slice_zero (y : Str) : Txt.slice y none (some 0) = ⟨#[]⟩ := by
  have e := StrLaws.sliceText_to (x := y) (j := (0 : Int)) ⟨by omega, by omega⟩
  have e' : Txt.slice y none (some 0) = _ := e
  rw [e']
  simp
theorem join_chr (f : Str) (n j : Nat) (h : j + n ≤ f.length) : Txt.join (Str.ofString "") ((List.range n).map fun i => chr f (i + j)) = sub f j n := by
  have key : (Txt.join (Str.ofString "") ((List.range n).map fun i => chr f (i + j))).cps.toList = (sub f j n).cps.toList := by
    rw [join_flat, sub_list]
    induction n with
    | zero => simp
    | succ n ih =>
      rw [List.range_succ, List.map_append, List.flatMap_append, ih (by omega), List.take_add_one]
      congr 1
      have hl := len_l f
      have : n + j < f.cps.toList.length := by omega
      have hsz : n + j < f.cps.size := by simpa using this
      simp [chr, List.getElem?_drop, Nat.add_comm j n, Array.getElem?_eq_getElem hsz]
  exact str_ext key
theorem chr_ones (f : Str) (n j : Nat) : (((List.range n).map fun i => chr f (i + j)).map (·.length)).sum = n := by
  induction n with
  | zero => rfl
  | succ n ih =>
    rw [List.range_succ, List.map_append, List.map_append, List.sum_append, ih]; rfl
set_option maxHeartbeats 8000000 in
theorem custom_meet (w : World) (x : Addr) (vs : List Value) (xs : List Str) (hx : StrsAre vs xs) (h6 : ∀ x ∈ xs, x.length ≤ 6) (hpos : 0 < xs.length) (h34 : xs.length = 3 ∨ xs.length = 4) :
    MeetC w 12 140 204 (.ref x :: vs) [] (fun _ => True) (fun v => ∃ i y t, xs[i]? = some y ∧ FirstMin xs i ∧ v = .str (piece y xs) t) := by
  have hl : ∀ x ∈ xs, x.length ≤ 40 := fun x hx => Nat.le_trans (h6 x hx) (by decide)
  have hshape : (∃ a b c, vs = [a, b, c]) ∨ (∃ a b c d, vs = [a, b, c, d]) := by
    have hlen := strs_len hx
    rcases h34 with h | h <;> rw [h] at hlen
    · left
      match vs, hlen with
      | [a, b, c], _ => exact ⟨a, b, c, rfl⟩
    · right
      match vs, hlen with
      | [a, b, c, d], _ => exact ⟨a, b, c, d, rfl⟩
  unfold MeetC
  k_fill
  intro p loose mean mg mb dp un gd cn cs a ccd cl outer A₀ base h₀ L m news s Q E B F X N T hk hpre hneed hd hu hret
  k_dflt (refine' kp_rest (g₁ := fun D => some [(Str.ofString "self", Value.ref x), (Str.ofString "sequences", Value.ref D)]) ?k1 ?k2 ?k3 ?k4 ?k5 ?kA ?kF ?kK ?k6 ?k7 ?k8 ?kV ?kP ?kG ?kB ?_ ?c2 ?c3 ?c4 ?c5; (case kA => exact rfl); (case kF => exact rfl); (case kK => first | assumption | exact rfl); (case k1 => k_asm); (case k2 => k_asm); (case k3 => k_asm); (case k4 => k_asm); (case k5 => k_asm); (case k6 => k_is); (case k7 => k_is); (case k8 => ktr_room); (case kV => first | kl_lit | exact rfl); (case kP => obtain ⟨a, b, c, hs⟩ | ⟨a, b, c, d, hs⟩ := hshape <;> subst hs <;> exact rfl); (case kG => exact fun _ => rfl); (case kB => exact fun _ => locs rfl); (case c5 => decide); (case c2 => exact rfl); (case c3 => exact rfl); (case c4 => exact rfl); k_whole)
  intro D g L' h₁ l1 FG FL N B X T
  replace N : News g L' h₁ ((D, tupO vs.toArray) :: news) := N
  dsimp only
  refine wpAny_noRaise ?_
  k_fold
  k_steps
  refine Stopped.of ?_
  refine min_n (by k_asm) (by k_asm) (by k_mem) rfl hx hl hpos ?_
  intro i0 y ty h' tk' hi0 hly hmin F' N'
  have hy6 := h6 y (List.mem_of_getElem? hi0)
  k_steps
  rename Fr _ _ _ _ => F1
  rename News _ _ _ _ => N1
  rename IsRange _ _ _ _ _ _ _ _ => R1
  refine loop_down (n := y.length) (fun n m led => (D, tupO vs.toArray) :: news = led ∧ m "self" = some (.ref x) ∧ m "sequences" = some (.ref D) ∧ m "short" = some (.str y ty) ∧ n ≤ y.length ∧ piece y xs = pieceGo y xs n) rfl R1 rfl (by omega) F1 N1 ?_ ?_ ?_
  · exact ⟨rfl, rfl, rfl, rfl, Nat.le_refl _, rfl⟩
  · intro n t m₁ led h tk I oI hn ⟨hled, e0, e1, e2, hle, hp⟩ ha hlt F₁ N₁
    subst hled
    have F₂ := fr_named [(Str.ofString "self", _), (Str.ofString "sequences", _), (Str.ofString "short", _)] F₁ (by walk_at "br frs"; exact ⟨e0, e1, e2⟩)
    dsimp only [kstB] at F₂
    clear F₁ F1 N1 R1 hlt
    (try k_fold)
    k_steps
    refine Stopped.of ?_
    refine (grams_meet w y (n + 1) ty _ (by omega) (by omega) hy6).use (by k_asm) (by k_asm) (by k_asm) (by k_asm) (by k_asm) rfl True.intro (fun _ h => nomatch h) (by ktr_room) (by ktr_units) ?_
    rintro v ex h9 tk9 ⟨S, tups, c, rfl, rfl, hlen, htup⟩ F9 N9
    obtain ⟨nw, hnw⟩ : ∃ nw, tups.map (fun p => (p.1, tupO p.2.toArray)) ++ news = nw := ⟨_, rfl⟩
    have hold : ∀ p ∈ news, p ∈ nw := fun p hp => hnw ▸ List.mem_append_right _ hp
    have hnew : ∀ p ∈ tups, (p.1, tupO p.2.toArray) ∈ nw := fun p hp => hnw ▸ List.mem_append_left _ (List.mem_map.mpr ⟨p, hp, rfl⟩)
    have N8 : News g L' h9 ((I, oI) :: (D, tupO vs.toArray) :: (S, listO (refsT tups).toArray c) :: nw) := fun p hp => N9 p (by
      rcases List.mem_cons.mp hp with rfl | hp
      · exact List.mem_append_right _ (.head _)
      rcases List.mem_cons.mp hp with rfl | hp
      · exact List.mem_append_right _ (.tail _ (.head _))
      rcases List.mem_cons.mp hp with rfl | hp
      · exact .head _
      rw [← hnw] at hp
      rcases List.mem_append.mp hp with hp | hp
      · exact List.mem_append_left _ (.tail _ hp)
      · exact List.mem_append_right _ (.tail _ (.tail _ hp)))
    refine loop_seq (l := S) (ol := listO (refsT tups).toArray c) (its := (refsT tups).toArray) (k := c) (T := "list") (fun j m led => (I, oI) :: (D, tupO vs.toArray) :: (S, listO (refsT tups).toArray c) :: nw = led ∧ m "self" = some (.ref x) ∧ m "sequences" = some (.ref D) ∧ m "short" = some (.str y ty) ∧ m "n" = some (.int ((n + 1 : Nat) : Int) t) ∧ pieceRow y xs (n + 1) j = none) rfl rfl rfl (.inl rfl) (fun _ _ _ h => .inl (h.1 ▸ .tail _ (.tail _ (.head _)))) F9 N8 ?_ ?_ ?_
    · exact ⟨rfl, rfl, rfl, rfl, rfl, rfl⟩
    · intro j v m₁ led h tk I' oI' hv ⟨hled, f0, f1, f2, f3, hr⟩ ha hlt F₁ N₁
      subst hled
      obtain ⟨pT, hpT, rfl⟩ : ∃ pT, tups[j]? = some pT ∧ v = .ref pT.1 := by
        have hv' : (refsT tups)[j]? = some v := by simpa using hv
        rw [List.getElem?_map] at hv'
        cases e : tups[j]? with
        | none => rw [e] at hv'; cases hv'
        | some q => rw [e] at hv'; cases hv'; exact ⟨q, rfl, rfl⟩
      obtain ⟨T', tvs⟩ := pT
      have hst := htup j _ hpT
      have hj : j < y.length - n := by
        have := (List.getElem?_eq_some_iff.mp hpT).1
        omega
      have F₂ := fr_named [(Str.ofString "self", _), (Str.ofString "sequences", _), (Str.ofString "short", _), (Str.ofString "n", _)] F₁ (by walk_at "br frs"; exact ⟨f0, f1, f2, f3⟩)
      dsimp only [kstB] at F₂
      have N₂ : News g L' h ((I', oI') :: (T', tupO tvs.toArray) :: (I, oI) :: (D, tupO vs.toArray) :: (S, listO (refsT tups).toArray c) :: nw) := fun p hp => N₁ p (by
        rcases List.mem_cons.mp hp with rfl | hp
        · exact .head _
        rcases List.mem_cons.mp hp with rfl | hp
        · exact .tail _ (.tail _ (.tail _ (.tail _ (hnew _ (List.mem_of_getElem? hpT)))))
        · exact .tail _ hp)
      clear F₁ N₁ F9 N9 N8 hlt hv
      dsimp only
      (try k_fold)
      k_steps
      refine Stopped.of ?_
      refine join_tupleW (News.isTup (by k_asm) (by k_mem)) (by simpa using hst) (by decide) (by rw [chr_ones, List.length_map, List.length_range]; omega) fun t' kk => ?_
      rw [join_chr y (n + 1) j (by omega)]
      k_steps
      rename Fr _ _ _ _ => F3
      rename News _ _ _ _ => N3
      refine loop_seq (l := D) (ol := tupO vs.toArray) (its := vs.toArray) (k := 0) (T := "tuple") (fun i m led => (I', oI') :: (T', tupO tvs.toArray) :: (I, oI) :: (D, tupO vs.toArray) :: (S, listO (refsT tups).toArray c) :: nw = led ∧ m "self" = some (.ref x) ∧ m "sequences" = some (.ref D) ∧ m "short" = some (.str y ty) ∧ m "n" = some (.int ((n + 1 : Nat) : Int) t) ∧ m "joined" = some (.str (sub y j (n + 1)) t') ∧ ∀ z ∈ xs.take i, Txt.contains z (sub y j (n + 1)) = true) rfl rfl rfl (.inr rfl) (fun _ _ _ h => .inl (h.1 ▸ .tail _ (.tail _ (.tail _ (.head _))))) F3 N3 ?_ ?_ ?_
      · exact ⟨rfl, rfl, rfl, rfl, rfl, rfl, fun z hz => by simp at hz⟩
      · intro i v m₁ led h tk I2 oI2 hv ⟨hled, f0, f1, f2, f3, f4, hall⟩ ha hlt F₁ N₁
        subst hled
        obtain ⟨q, tq, hq, rfl⟩ := strs_at hx hv
        have hql : q.length ≤ 40 := hl _ (List.mem_of_getElem? hq)
        have hsl : (sub y j (n + 1)).length ≤ 40 := by rw [sub_len y j (n + 1) (by omega)]; omega
        have F₂ := fr_named [(Str.ofString "self", _), (Str.ofString "sequences", _), (Str.ofString "short", _), (Str.ofString "n", _), (Str.ofString "joined", _)] F₁ (by walk_at "br frs"; exact ⟨f0, f1, f2, f3, f4⟩)
        dsimp only [kstB] at F₂
        clear F₁ F3 N3 hlt
        (try k_fold)
        k_steps
        · rename (List.isEmpty _) = true => he
          have hno : inAll xs (sub y j (n + 1)) = false := by
            rw [Bool.eq_false_iff]
            intro hh
            have := (inAll_iff _ _).mp hh q (List.mem_of_getElem? hq)
            rw [contains_of, he] at this
            cases this
          walk_at "br ends"
          k_steps
          exact ⟨_, _, _, _, _, rfl, by k_asm, by k_asm, by k_memK, by k_sub, by rfl, rfl, rfl, rfl, rfl, rfl, pieceRow_no hr hno⟩
        · rename (List.isEmpty _) = false => he
          exact ⟨_, _, _, _, _, rfl, by k_asm, by k_asm, by k_memK, by k_sub, by rfl, rfl, rfl, rfl, rfl, rfl, rfl, fun z hz => by
            rw [List.take_add_one, hq] at hz
            rcases List.mem_append.mp hz with hz | hz
            · exact hall z hz
            · have : z = q := by simpa using hz
              rw [this, contains_of, he]; rfl⟩
      · intro m₁ led h tk ⟨hled, f0, f1, f2, f3, f4, hall⟩ F₁ N₁
        subst hled
        have F₂ := fr_named [(Str.ofString "self", _), (Str.ofString "sequences", _), (Str.ofString "short", _), (Str.ofString "n", _), (Str.ofString "joined", _)] F₁ (by walk_at "br frs"; exact ⟨f0, f1, f2, f3, f4⟩)
        dsimp only [kstB] at F₂
        clear F₁ F3 N3
        (try k_fold)
        k_steps
        walk_at "br ends"
        k_steps
        have hsz : vs.toArray.size = xs.length := by rw [List.size_toArray, strs_len hx]
        rw [hsz, List.take_length] at hall
        have hin : inAll xs (sub y j (n + 1)) = true := (inAll_iff _ _).mpr hall
        rename News h₀ L _ _ => KN
        exact hret _ _ _ ⟨i0, y, _, hi0, hmin, by rw [hp, pieceGo_yes hr hin (by omega)]⟩ (by k_asm) (fun p hp => KN p (by have := hold p hp; walk_at "br mem"))
    · intro m₁ led h tk ⟨hled, f0, f1, f2, f3, hr⟩ F₁ N₁
      subst hled
      have F₂ := fr_named [(Str.ofString "self", _), (Str.ofString "sequences", _), (Str.ofString "short", _)] F₁ (by walk_at "br frs"; exact ⟨f0, f1, f2⟩)
      dsimp only [kstB] at F₂
      clear F₁ F9 N9 N8
      (try k_fold)
      k_steps
      have hsz : (refsT tups).toArray.size = y.length - n := by rw [List.size_toArray, List.length_map, hlen]; omega
      rw [hsz] at hr
      exact ⟨_, _, _, _, _, rfl, by k_asm, by k_asm, by k_memK, List.forall_mem_cons.mpr ⟨by k_mem, fun p hp => by have := hold p hp; walk_at "br mem"⟩, by rfl, rfl, rfl, rfl, rfl, by omega, hp.trans (pieceGo_no hr)⟩
  · intro m₁ led h tk ⟨hled, e0, e1, e2, hle, hp⟩ F₁ N₁
    subst hled
    have F₂ := fr_named [(Str.ofString "self", _), (Str.ofString "sequences", _), (Str.ofString "short", _)] F₁ (by walk_at "br frs"; exact ⟨e0, e1, e2⟩)
    dsimp only [kstB] at F₂
    clear F₁ F1 N1 R1
    (try k_fold)
    k_steps
    rename News h₀ L _ _ => KN
    exact hret _ _ _ ⟨i0, y, _, hi0, hmin, by rw [hp, slice_zero]; rfl⟩ (by k_asm) (fun p hp => KN p (by walk_at "br mem"))
end Mine
end

section
open PySem PySem.W PyProof.Rows
set_option maxRecDepth 100000
namespace Mine
local macro_rules | `(tactic| walk_at "br enter") => `(tactic| first
  | (refine' code_def ?k1 ?k2 ?k3 ?k4 ?k5 ?kA ?kF ?kK ?k6 ?k7 ?k8 ?k9 ?kB ?_ ?c2 ?c3 ?c4 ?c5; (case kA => exact rfl); (case kF => exact rfl); (case kK => first | assumption | exact rfl); (case k1 => k_asm); (case k2 => k_asm); (case k3 => k_asm); (case k4 => k_asm); (case k5 => k_asm); (case k6 => k_is); (case k7 => k_is); (case k8 => ktr_room); (case k9 => first | exact BindsTo.of_eq rfl | exact binds_K (by k_in) rfl (by k_is) rfl rfl rfl); (case c5 => decide); (case kB => exact locs rfl); (case c2 => exact rfl); (case c3 => exact rfl); (case c4 => exact rfl); k_whole; intro g' L' h' FG' F' N' B' X' T'; (try dsimp only); (try k_lift B'); refine wpAny_noRaise ?_; (try k_fold))
  | (refine' code_defC ?k1 ?k2 ?k3 ?k4 ?k5 ?kA ?kF ?kK ?k6 ?k7 ?k8 ?k9 ?kB ?kD ?_ ?c2 ?c3 ?c4; (case kA => exact rfl); (case kF => exact rfl); (case kK => first | assumption | exact rfl); (case k1 => k_asm); (case k2 => k_asm); (case k3 => k_asm); (case k4 => k_asm); (case k5 => k_asm); (case k6 => k_is); (case k7 => k_is); (case k8 => ktr_room); (case k9 => first | exact BindsTo.of_eq rfl | exact binds_K (by k_in) rfl (by k_is) rfl rfl rfl); (case kB => exact rfl); (case kD => decide +kernel); (case c2 => exact rfl); (case c3 => exact rfl); (case c4 => exact rfl); k_whole; intro g' L' h' tk' cells' FG' F' N' Y' B' X' T' l1; (have lAll := l1); (try k_lt l1); k_cells Y'; (try simp only [List.cons_append, List.nil_append] at N'); (try dsimp only); (try k_lift B'); refine wpAny_noRaise ?_; (try k_fold)))
local macro_rules | `(tactic| walk_at "exec For") => `(tactic| (k_here; k_dflt (refine' for_F ?_); k_whole))
local macro_rules | `(tactic| walk_at "exec For Name Call cons nil") => `(tactic| (k_here; k_dflt (refine' for_F ?_); k_whole))
local macro_rules | `(tactic| walk_at "exec While BoolOp cons nil") => `(tactic| (k_here; refine Stopped.out ?_))
local macro_rules | `(tactic| walk_at "br frs") => `(tactic| simp only [List.forall_mem_cons, List.not_mem_nil, false_implies, implies_true, and_true])
local macro_rules | `(tactic| k_all) => `(tactic| (rename (∀ p ∈ (_ : List (Addr × Obj)), p.1 < _) => kAl'; exact fun p hp => br_ne (kAl' p (by first | exact hp | exact .tail _ hp | exact .tail _ (.tail _ hp) | exact .tail _ (.tail _ (.tail _ hp)))) (by omega)))
local macro_rules | `(tactic| walk_at "br enterC") => `(tactic| (refine' code_defC ?k1 ?k2 ?k3 ?k4 ?k5 ?kA ?kF ?kK ?k6 ?k7 ?k8 ?k9 ?kB ?kD ?_ ?c2 ?c3 ?c4; (case kA => exact rfl); (case kF => exact rfl); (case kK => first | assumption | exact rfl); (case k1 => k_asm); (case k2 => k_asm); (case k3 => k_asm); (case k4 => k_asm); (case k5 => k_asm); (case k6 => k_is); (case k7 => k_is); (case k8 => ktr_room); (case k9 => first | exact BindsTo.of_eq rfl | exact binds_K (by k_in) rfl (by k_is) rfl rfl rfl); (case kB => exact rfl); (case kD => decide +kernel); (case c2 => exact rfl); (case c3 => exact rfl); (case c4 => exact rfl); k_whole))
local macro_rules | `(tactic| walk_at "eval ListComp") => `(tactic| (k_here; first
  | ((with_reducible show wpAny _ _ (eval (PySem.Expr.ListComp _ [PySem.Comprehension.mk _ _ [_] _] _ _) _) _ _ _); k_dflt (refine ListComp_TS (F₀ := by k_asm) (by with_unfolding_all rfl) (by decide) (by rfl) (by decide) (by rfl) ?_))
  | ((with_reducible show wpAny _ _ (eval (PySem.Expr.ListComp _ [PySem.Comprehension.mk _ _ [] _] _ _) _) _ _ _); k_dflt (refine ListComp_US (F₀ := by k_asm) (by with_unfolding_all rfl) (by decide) (by rfl) (by decide) (by rfl) ?_))))
local macro_rules | `(tactic| walk_at "br ends") => `(tactic| repeat (first | (dsimp only [StepF, StepW]) | k_unfold))
local macro_rules | `(tactic| walk_at "br enterR") => `(tactic| (refine' kp_rest ?k1 ?k2 ?k3 ?k4 ?k5 ?kA ?kF ?kK ?k6 ?k7 ?k8 ?kV ?kP ?kG ?kB ?_ ?c2 ?c3 ?c4 ?c5; (case kA => exact rfl); (case kF => exact rfl); (case kK => first | assumption | exact rfl); (case k1 => k_asm); (case k2 => k_asm); (case k3 => k_asm); (case k4 => k_asm); (case k5 => k_asm); (case k6 => k_is); (case k7 => k_is); (case k8 => ktr_room); (case kV => first | kl_lit | exact rfl); (case kP => exact rfl); (case kG => exact fun _ => rfl); (case kB => exact fun _ => locs rfl); (case c5 => decide); (case c2 => exact rfl); (case c3 => exact rfl); (case c4 => exact rfl); k_whole))
local macro_rules | `(tactic| walk_at "br enterRC") => `(tactic| (refine' rest_cells ?k1 ?k2 ?k3 ?k4 ?k5 ?kA ?kF ?kK ?k6 ?k7 ?k8 ?kV ?kP ?kG ?kB ?kD ?_ ?c2 ?c3 ?c4; (case kA => exact rfl); (case kF => exact rfl); (case kK => first | assumption | exact rfl); (case k1 => k_asm); (case k2 => k_asm); (case k3 => k_asm); (case k4 => k_asm); (case k5 => k_asm); (case k6 => k_is); (case k7 => k_is); (case k8 => ktr_room); (case kV => kl_lit); (case kP => exact rfl); (case kG => exact fun _ => rfl); (case kB => exact fun _ => rfl); (case kD => decide +kernel); (case c2 => exact rfl); (case c3 => exact rfl); (case c4 => exact rfl); k_whole))
local macro_rules | `(tactic| k_room) => `(tactic| ktr_room)
local macro_rules | `(tactic| k_units) => `(tactic| ktr_units)
local macro_rules | `(tactic| walk_at "callWith ref") => `(tactic| (k_here; (with_reducible show wpAny _ _ (callWith _ (Value.ref _) _ (backTo _ (starEach [Expr.Starred _ _] _)) []) _ _ _); kco_here; k_dflt (refine' inst_S ?k1 ?k2 ?k3 ?k4 ?_; (case k1 => k_asm); (case k2 => k_inst); (case k3 => rfl); (case k4 => k_is); k_whole)))
local macro_rules | `(tactic| walk_at "StarOf ref") => `(tactic| (k_here; k_dflt (refine' star_seq ?k1 ?k2 ?m ?c ?d ?T ?e ?z ?_; (case k1 => k_asm); (case k2 => k_asm); (case m => k_mem); (case c => exact rfl); (case d => exact rfl); (case T => first | exact .inl rfl | exact .inr rfl); (case e => first | exact List.toList_toArray .. | kl_lit); (case z => first | assumption | exact Nat.le_of_ble_eq_true rfl); k_whole); intro h' F' N'; (try k_sweep); try dsimp only [List.nil_append, List.cons_append]))
local macro_rules | `(tactic| walk_at "call builtin:all") => `(tactic| (k_here; (with_reducible show wpAny _ _ (call (Value.builtin "all") [Value.ref _]) _ _ _); k_dflt (refine' all_n ?k1 ?k2 ?k3 ?k4 ?k5 ?k6 ?k7 ?_; (case k1 => k_asm); (case k2 => k_asm); (case k3 => k_mem); (case k4 => exact rfl); (case k5 => assumption); (case k6 => assumption); (case k7 => assumption); k_whole); intro h' tk' F' N'))
local macro_rules | `(tactic| walk_at "call builtin:min") => `(tactic| (k_here; (show wpAny _ _ (call (Value.builtin "min") [Value.ref _] [(PySem.Str.ofString "key", Value.builtin "len")]) _ _ _); k_dflt (refine' min_n ?k1 ?k2 ?k3 ?k4 ?k5 ?k6 ?k7 ?_; (case k1 => k_asm); (case k2 => k_asm); (case k3 => k_mem); (case k4 => exact rfl); (case k5 => assumption); (case k6 => assumption); (case k7 => assumption); k_whole); intro iMin xMin tMin h' tk' hiMin hlMin hMin F' N'))
local macro_rules | `(tactic| walk_at "call type:map") => `(tactic| (k_here; (with_reducible show wpAny _ _ (call (Value.type "map") [Value.builtin "len", Value.ref _]) _ _ _); first
  | (k_dflt (refine' map_tup_n ?k1 ?k2 ?k3 ?_; (case k1 => k_asm); (case k2 => k_asm); (case k3 => k_mem); k_whole); intro it' TI' M' h' hm1 hm2 hm3 hm4 F' N')
  | (k_dflt (refine' map_list_n ?k1 ?k2 ?k3 ?k4 ?k5 ?_; (case k1 => k_asm); (case k2 => k_asm); (case k3 => k_mem); (case k4 => exact rfl); (case k5 => exact rfl); k_whole); intro it' TI' M' h' hm1 hm2 hm3 hm4 F' N')))
local macro_rules | `(tactic| walk_at "call builtin:max") => `(tactic| (k_here; (with_reducible show wpAny _ _ (call (Value.builtin "max") [Value.ref _]) _ _ _); first
  | (k_dflt (refine' max_tup_n ?a1 ?a2 ?a3 ?a4 ?k1 ?k2 ?k3 ?k4 ?k5 ?k6 ?k7 ?_; (case k1 => k_asm); (case k2 => k_asm); (case a1 => assumption); (case a2 => assumption); (case a3 => assumption); (case a4 => assumption); (case k3 => k_mem); (case k4 => exact rfl); (case k5 => assumption); (case k6 => assumption); (case k7 => assumption); k_whole); intro kMax tMax h' tk' hMax hMax0 hMax1 F' N')
  | (k_dflt (refine' max_list_n ?a1 ?a2 ?a3 ?a4 ?k1 ?k2 ?k3 ?k3a ?k3b ?k4 ?k5 ?k6 ?k7 ?_; (case k1 => k_asm); (case k2 => k_asm); (case a1 => assumption); (case a2 => assumption); (case a3 => assumption); (case a4 => assumption); (case k3 => k_mem); (case k3a => exact rfl); (case k3b => exact rfl); (case k4 => exact rfl); (case k5 => assumption); (case k6 => assumption); (case k7 => assumption); k_whole); intro kMax tMax h' tk' hMax hMax0 hMax1 F' N')))
local macro_rules | `(tactic| walk_at "eval Call Attribute") => `(tactic| (k_here; (with_reducible show wpAny _ _ (eval (PySem.Expr.Call (PySem.Expr.Attribute _ _ _) [PySem.Expr.Starred _ _] _ _) _) _ _ _); refine starMeth ?_))
local macro_rules | `(tactic| walk_at "callWith ref") => `(tactic| (k_here; (with_reducible show wpAny _ _ (callWith _ (Value.ref _) _ (backTo _ (starEach [Expr.Starred _ _] _)) []) _ _ _); k_dflt (refine' callWith_SM ?k1 ?k2 ?k3 ?k4 ?_; (case k1 => k_asm); (case k2 => k_asm); (case k3 => k_mem); (case k4 => k_is); k_whole)))
local macro_rules | `(tactic| walk_at "call ref") => `(tactic| (k_here; (with_reducible show wpAny _ _ (call (Value.ref _) _) _ _ _); k_dflt (refine' call_meth (f := .ref 108) ?k1 ?k2 ?_; (case k1 => k_asm); (case k2 => k_mem); k_whole); k_dflt (walk_at "br enterRC"); intro D' g' L' h' tk' cells' lD' FG' F' N' Y' B' X' T' l1; (have lAll := l1); (try k_lt l1); k_cells Y'; (try simp only [List.cons_append, List.nil_append] at N'); (try dsimp only); (try k_lift B'); refine wpAny_noRaise ?_; (try k_fold)))
local macro_rules | `(tactic| walk_at "br mem") => `(tactic| first | assumption | (refine List.Mem.tail _ ?_; walk_at "br mem"))
local macro_rules | `(tactic| k_in) => `(tactic| (refine' Frag.In.keeps ?kinX (Fr.keep ?kinF); (case kinF => k_asm); (case kinX => first | with_reducible assumption | k_asm)))
local macro_rules | `(tactic| k_in) => `(tactic| with_reducible assumption)
-- the walker as at a file's start (open_top turns it to the top's lines)
theorem fresh_lcs3 : True := by
  w_top off
  trivial
local macro_rules | `(tactic| walk_at "call ref") => `(tactic| (k_here; (with_reducible show wpAny _ _ (call (Value.ref _) [_, _, _]) _ _ _); k_dflt (refine' (custom_meet _ _ _ _ ?hx ?h6 ?h7 ?h8).meth ?hq ?k1 ?k2 ?k3 ?k4 ?k5 ?kK ?hp ?hn ?hd ?hu ?_; (case k1 => k_asm); (case k2 => k_asm); (case k3 => k_asm); (case k4 => k_asm); (case k5 => k_asm); (case hq => k_mem); (case kK => first | assumption | exact rfl); (case hp => exact True.intro); (case hn => exact fun _ h => nomatch h); (case hx => assumption); (case h6 => assumption); (case h7 => assumption); (case h8 => assumption); (case hd => ktr_room); (case hu => ktr_units); k_whole; intro v9 h9 tk9 ho9 F9 N9; obtain ⟨i9, y9, t9, hi9, hm9, hv9⟩ := ho9; subst hv9)))
set_option maxHeartbeats 8000000 in
theorem lcs3_meet (w : World) (x dx : Addr) (k1 k2 : Tok) (s1 s2 s3 : Str) (t1 t2 t3 : Tok) (h6 : ∀ x ∈ [s1, s2, s3], x.length ≤ 6) :
    MeetC w 24 240 211 [.ref x, Value.str s1 t1, .str s2 t2, .str s3 t3] [(x, instObj 221 dx), (dx, lcsD w k1 k2)] (fun _ => True) (fun v => ∃ i y t, ([s1, s2, s3] : List Str)[i]? = some y ∧ FirstMin [s1, s2, s3] i ∧ v = .str (piece y [s1, s2, s3]) t) := by
  unfold MeetC
  k_fill
  intro p loose mean mg mb dp un gd cn cs a ccd cl outer A₀ base h₀ L m news s Q E B F X N T hk hpre hneed hd hu hret
  replace N := news_need N hneed
  simp only [List.cons_append, List.nil_append, lcsD] at N
  have hx : StrsAre [Value.str s1 t1, .str s2 t2, .str s3 t3] [s1, s2, s3] := (.cons _ _ (.cons _ _ (.cons _ _ .nil)))
  have hl : ∀ x ∈ [s1, s2, s3], x.length ≤ 40 := fun x hx => Nat.le_trans (h6 x hx) (by decide)
  have hpos : 0 < ([s1, s2, s3] : List Str).length := Nat.zero_lt_succ _
  have h34 : ([s1, s2, s3] : List Str).length = 3 ∨ ([s1, s2, s3] : List Str).length = 4 := .inl rfl
  cases hall : ([s1, s2, s3] : List Str).all fun x => !x.cps.toList.isEmpty with
  | false =>
    obtain ⟨i9, y9, hi9, hm9, hp9⟩ := all_no hall
    k_dflt (walk_at "br enterR")
    intro D g L' h₁ l1 FG FL N B X T
    dsimp only
    refine wpAny_noRaise ?_
    k_fold
    k_steps
    rename News h₀ L _ _ => KN
    exact hret _ _ _ ⟨i9, y9, _, hi9, hm9, by rw [hp9, ← empty_is]⟩ (by k_asm) (fun p hp => KN p (by walk_at "br mem"))
  | true =>
    k_dflt (walk_at "br enterR")
    intro D g L' h₁ l1 FG FL N B X T
    dsimp only
    refine wpAny_noRaise ?_
    k_fold
    k_steps
    rename News h₀ L _ _ => KN
    exact hret _ _ _ ⟨_, _, _, by assumption, by assumption, rfl⟩ (by k_asm) (fun p hp => KN p (by walk_at "br mem"))
end Mine
end

section
open PySem PySem.W PyProof.Rows
set_option maxRecDepth 100000
namespace Mine
local macro_rules | `(tactic| walk_at "pad") => `(tactic| fail "pad")
local macro_rules | `(tactic| walk_at "pad") => `(tactic| fail "pad")
local macro_rules | `(tactic| walk_at "br enter") => `(tactic| first
  | (refine' code_def ?k1 ?k2 ?k3 ?k4 ?k5 ?kA ?kF ?kK ?k6 ?k7 ?k8 ?k9 ?kB ?_ ?c2 ?c3 ?c4 ?c5; (case kA => exact rfl); (case kF => exact rfl); (case kK => first | assumption | exact rfl); (case k1 => k_asm); (case k2 => k_asm); (case k3 => k_asm); (case k4 => k_asm); (case k5 => k_asm); (case k6 => k_is); (case k7 => k_is); (case k8 => ktr_room); (case k9 => first | exact BindsTo.of_eq rfl | exact binds_K (by k_in) rfl (by k_is) rfl rfl rfl); (case c5 => decide); (case kB => exact locs rfl); (case c2 => exact rfl); (case c3 => exact rfl); (case c4 => exact rfl); k_whole; intro g' L' h' FG' F' N' B' X' T'; (try dsimp only); (try k_lift B'); refine wpAny_noRaise ?_; (try k_fold))
  | (refine' code_defC ?k1 ?k2 ?k3 ?k4 ?k5 ?kA ?kF ?kK ?k6 ?k7 ?k8 ?k9 ?kB ?kD ?_ ?c2 ?c3 ?c4; (case kA => exact rfl); (case kF => exact rfl); (case kK => first | assumption | exact rfl); (case k1 => k_asm); (case k2 => k_asm); (case k3 => k_asm); (case k4 => k_asm); (case k5 => k_asm); (case k6 => k_is); (case k7 => k_is); (case k8 => ktr_room); (case k9 => first | exact BindsTo.of_eq rfl | exact binds_K (by k_in) rfl (by k_is) rfl rfl rfl); (case kB => exact rfl); (case kD => decide +kernel); (case c2 => exact rfl); (case c3 => exact rfl); (case c4 => exact rfl); k_whole; intro g' L' h' tk' cells' FG' F' N' Y' B' X' T' l1; (have lAll := l1); (try k_lt l1); k_cells Y'; (try simp only [List.cons_append, List.nil_append] at N'); (try dsimp only); (try k_lift B'); refine wpAny_noRaise ?_; (try k_fold)))
local macro_rules | `(tactic| walk_at "exec For") => `(tactic| (k_here; k_dflt (refine' for_F ?_); k_whole))
local macro_rules | `(tactic| walk_at "exec For Name Call cons nil") => `(tactic| (k_here; k_dflt (refine' for_F ?_); k_whole))
local macro_rules | `(tactic| walk_at "exec While BoolOp cons nil") => `(tactic| (k_here; refine Stopped.out ?_))
local macro_rules | `(tactic| walk_at "br frs") => `(tactic| simp only [List.forall_mem_cons, List.not_mem_nil, false_implies, implies_true, and_true])
local macro_rules | `(tactic| k_all) => `(tactic| (rename (∀ p ∈ (_ : List (Addr × Obj)), p.1 < _) => kAl'; exact fun p hp => br_ne (kAl' p (by first | exact hp | exact .tail _ hp | exact .tail _ (.tail _ hp) | exact .tail _ (.tail _ (.tail _ hp)))) (by omega)))
local macro_rules | `(tactic| walk_at "br enterC") => `(tactic| (refine' code_defC ?k1 ?k2 ?k3 ?k4 ?k5 ?kA ?kF ?kK ?k6 ?k7 ?k8 ?k9 ?kB ?kD ?_ ?c2 ?c3 ?c4; (case kA => exact rfl); (case kF => exact rfl); (case kK => first | assumption | exact rfl); (case k1 => k_asm); (case k2 => k_asm); (case k3 => k_asm); (case k4 => k_asm); (case k5 => k_asm); (case k6 => k_is); (case k7 => k_is); (case k8 => ktr_room); (case k9 => first | exact BindsTo.of_eq rfl | exact binds_K (by k_in) rfl (by k_is) rfl rfl rfl); (case kB => exact rfl); (case kD => decide +kernel); (case c2 => exact rfl); (case c3 => exact rfl); (case c4 => exact rfl); k_whole))
local macro_rules | `(tactic| walk_at "eval ListComp") => `(tactic| (k_here; first
  | ((with_reducible show wpAny _ _ (eval (PySem.Expr.ListComp _ [PySem.Comprehension.mk _ _ [_] _] _ _) _) _ _ _); k_dflt (refine ListComp_TS (F₀ := by k_asm) (by with_unfolding_all rfl) (by decide) (by rfl) (by decide) (by rfl) ?_))
  | ((with_reducible show wpAny _ _ (eval (PySem.Expr.ListComp _ [PySem.Comprehension.mk _ _ [] _] _ _) _) _ _ _); k_dflt (refine ListComp_US (F₀ := by k_asm) (by with_unfolding_all rfl) (by decide) (by rfl) (by decide) (by rfl) ?_))))
local macro_rules | `(tactic| walk_at "br ends") => `(tactic| repeat (first | (dsimp only [StepF, StepW]) | k_unfold))
local macro_rules | `(tactic| walk_at "br enterR") => `(tactic| (refine' kp_rest ?k1 ?k2 ?k3 ?k4 ?k5 ?kA ?kF ?kK ?k6 ?k7 ?k8 ?kV ?kP ?kG ?kB ?_ ?c2 ?c3 ?c4 ?c5; (case kA => exact rfl); (case kF => exact rfl); (case kK => first | assumption | exact rfl); (case k1 => k_asm); (case k2 => k_asm); (case k3 => k_asm); (case k4 => k_asm); (case k5 => k_asm); (case k6 => k_is); (case k7 => k_is); (case k8 => ktr_room); (case kV => first | kl_lit | exact rfl); (case kP => exact rfl); (case kG => exact fun _ => rfl); (case kB => exact fun _ => locs rfl); (case c5 => decide); (case c2 => exact rfl); (case c3 => exact rfl); (case c4 => exact rfl); k_whole))
local macro_rules | `(tactic| walk_at "br enterRC") => `(tactic| (refine' rest_cells ?k1 ?k2 ?k3 ?k4 ?k5 ?kA ?kF ?kK ?k6 ?k7 ?k8 ?kV ?kP ?kG ?kB ?kD ?_ ?c2 ?c3 ?c4; (case kA => exact rfl); (case kF => exact rfl); (case kK => first | assumption | exact rfl); (case k1 => k_asm); (case k2 => k_asm); (case k3 => k_asm); (case k4 => k_asm); (case k5 => k_asm); (case k6 => k_is); (case k7 => k_is); (case k8 => ktr_room); (case kV => kl_lit); (case kP => exact rfl); (case kG => exact fun _ => rfl); (case kB => exact fun _ => rfl); (case kD => decide +kernel); (case c2 => exact rfl); (case c3 => exact rfl); (case c4 => exact rfl); k_whole))
local macro_rules | `(tactic| k_room) => `(tactic| ktr_room)
local macro_rules | `(tactic| k_units) => `(tactic| ktr_units)
local macro_rules | `(tactic| walk_at "callWith ref") => `(tactic| (k_here; (with_reducible show wpAny _ _ (callWith _ (Value.ref _) _ (backTo _ (starEach [Expr.Starred _ _] _)) []) _ _ _); kco_here; k_dflt (refine' inst_S ?k1 ?k2 ?k3 ?k4 ?_; (case k1 => k_asm); (case k2 => k_inst); (case k3 => rfl); (case k4 => k_is); k_whole)))
local macro_rules | `(tactic| walk_at "StarOf ref") => `(tactic| (k_here; k_dflt (refine' star_seq ?k1 ?k2 ?m ?c ?d ?T ?e ?z ?_; (case k1 => k_asm); (case k2 => k_asm); (case m => k_mem); (case c => exact rfl); (case d => exact rfl); (case T => first | exact .inl rfl | exact .inr rfl); (case e => first | exact List.toList_toArray .. | kl_lit); (case z => first | assumption | exact Nat.le_of_ble_eq_true rfl); k_whole); intro h' F' N'; (try k_sweep); try dsimp only [List.nil_append, List.cons_append]))
local macro_rules | `(tactic| walk_at "call builtin:all") => `(tactic| (k_here; (with_reducible show wpAny _ _ (call (Value.builtin "all") [Value.ref _]) _ _ _); k_dflt (refine' all_n ?k1 ?k2 ?k3 ?k4 ?k5 ?k6 ?k7 ?_; (case k1 => k_asm); (case k2 => k_asm); (case k3 => k_mem); (case k4 => exact rfl); (case k5 => assumption); (case k6 => assumption); (case k7 => assumption); k_whole); intro h' tk' F' N'))
local macro_rules | `(tactic| walk_at "call builtin:min") => `(tactic| (k_here; (show wpAny _ _ (call (Value.builtin "min") [Value.ref _] [(PySem.Str.ofString "key", Value.builtin "len")]) _ _ _); k_dflt (refine' min_n ?k1 ?k2 ?k3 ?k4 ?k5 ?k6 ?k7 ?_; (case k1 => k_asm); (case k2 => k_asm); (case k3 => k_mem); (case k4 => exact rfl); (case k5 => assumption); (case k6 => assumption); (case k7 => assumption); k_whole); intro iMin xMin tMin h' tk' hiMin hlMin hMin F' N'))
local macro_rules | `(tactic| walk_at "call type:map") => `(tactic| (k_here; (with_reducible show wpAny _ _ (call (Value.type "map") [Value.builtin "len", Value.ref _]) _ _ _); first
  | (k_dflt (refine' map_tup_n ?k1 ?k2 ?k3 ?_; (case k1 => k_asm); (case k2 => k_asm); (case k3 => k_mem); k_whole); intro it' TI' M' h' hm1 hm2 hm3 hm4 F' N')
  | (k_dflt (refine' map_list_n ?k1 ?k2 ?k3 ?k4 ?k5 ?_; (case k1 => k_asm); (case k2 => k_asm); (case k3 => k_mem); (case k4 => exact rfl); (case k5 => exact rfl); k_whole); intro it' TI' M' h' hm1 hm2 hm3 hm4 F' N')))
local macro_rules | `(tactic| walk_at "call builtin:max") => `(tactic| (k_here; (with_reducible show wpAny _ _ (call (Value.builtin "max") [Value.ref _]) _ _ _); first
  | (k_dflt (refine' max_tup_n ?a1 ?a2 ?a3 ?a4 ?k1 ?k2 ?k3 ?k4 ?k5 ?k6 ?k7 ?_; (case k1 => k_asm); (case k2 => k_asm); (case a1 => assumption); (case a2 => assumption); (case a3 => assumption); (case a4 => assumption); (case k3 => k_mem); (case k4 => exact rfl); (case k5 => assumption); (case k6 => assumption); (case k7 => assumption); k_whole); intro kMax tMax h' tk' hMax hMax0 hMax1 F' N')
  | (k_dflt (refine' max_list_n ?a1 ?a2 ?a3 ?a4 ?k1 ?k2 ?k3 ?k3a ?k3b ?k4 ?k5 ?k6 ?k7 ?_; (case k1 => k_asm); (case k2 => k_asm); (case a1 => assumption); (case a2 => assumption); (case a3 => assumption); (case a4 => assumption); (case k3 => k_mem); (case k3a => exact rfl); (case k3b => exact rfl); (case k4 => exact rfl); (case k5 => assumption); (case k6 => assumption); (case k7 => assumption); k_whole); intro kMax tMax h' tk' hMax hMax0 hMax1 F' N')))
local macro_rules | `(tactic| walk_at "eval Call Attribute") => `(tactic| (k_here; (with_reducible show wpAny _ _ (eval (PySem.Expr.Call (PySem.Expr.Attribute _ _ _) [PySem.Expr.Starred _ _] _ _) _) _ _ _); refine starMeth ?_))
local macro_rules | `(tactic| walk_at "callWith ref") => `(tactic| (k_here; (with_reducible show wpAny _ _ (callWith _ (Value.ref _) _ (backTo _ (starEach [Expr.Starred _ _] _)) []) _ _ _); k_dflt (refine' callWith_SM ?k1 ?k2 ?k3 ?k4 ?_; (case k1 => k_asm); (case k2 => k_asm); (case k3 => k_mem); (case k4 => k_is); k_whole)))
local macro_rules | `(tactic| walk_at "call ref") => `(tactic| (k_here; (with_reducible show wpAny _ _ (call (Value.ref _) _) _ _ _); k_dflt (refine' call_meth (f := .ref 108) ?k1 ?k2 ?_; (case k1 => k_asm); (case k2 => k_mem); k_whole); k_dflt (walk_at "br enterRC"); intro D' g' L' h' tk' cells' lD' FG' F' N' Y' B' X' T' l1; (have lAll := l1); (try k_lt l1); k_cells Y'; (try simp only [List.cons_append, List.nil_append] at N'); (try dsimp only); (try k_lift B'); refine wpAny_noRaise ?_; (try k_fold)))
local macro_rules | `(tactic| walk_at "br mem") => `(tactic| first | assumption | (refine List.Mem.tail _ ?_; walk_at "br mem"))
local macro_rules | `(tactic| k_in) => `(tactic| (refine' Frag.In.keeps ?kinX (Fr.keep ?kinF); (case kinF => k_asm); (case kinX => first | with_reducible assumption | k_asm)))
local macro_rules | `(tactic| k_in) => `(tactic| with_reducible assumption)
-- the walker as at a file's start (open_top turns it to the top's lines)
theorem fresh_lcs4 : True := by
  w_top off
  trivial
local macro_rules | `(tactic| walk_at "call ref") => `(tactic| (k_here; (with_reducible show wpAny _ _ (call (Value.ref _) [_, _, _, _]) _ _ _); k_dflt (refine' (custom_meet _ _ _ _ ?hx ?h6 ?h7 ?h8).meth ?hq ?k1 ?k2 ?k3 ?k4 ?k5 ?kK ?hp ?hn ?hd ?hu ?_; (case k1 => k_asm); (case k2 => k_asm); (case k3 => k_asm); (case k4 => k_asm); (case k5 => k_asm); (case hq => k_mem); (case kK => first | assumption | exact rfl); (case hp => exact True.intro); (case hn => exact fun _ h => nomatch h); (case hx => assumption); (case h6 => assumption); (case h7 => assumption); (case h8 => assumption); (case hd => ktr_room); (case hu => ktr_units); k_whole; intro v9 h9 tk9 ho9 F9 N9; obtain ⟨i9, y9, t9, hi9, hm9, hv9⟩ := ho9; subst hv9)))
set_option maxHeartbeats 8000000 in
theorem lcs4_meet (w : World) (x dx : Addr) (k1 k2 : Tok) (s1 s2 s3 s4 : Str) (t1 t2 t3 t4 : Tok) (h6 : ∀ x ∈ [s1, s2, s3, s4], x.length ≤ 6) :
    MeetC w 24 240 211 [.ref x, Value.str s1 t1, .str s2 t2, .str s3 t3, .str s4 t4] [(x, instObj 221 dx), (dx, lcsD w k1 k2)] (fun _ => True) (fun v => ∃ i y t, ([s1, s2, s3, s4] : List Str)[i]? = some y ∧ FirstMin [s1, s2, s3, s4] i ∧ v = .str (piece y [s1, s2, s3, s4]) t) := by
  unfold MeetC
  k_fill
  intro p loose mean mg mb dp un gd cn cs a ccd cl outer A₀ base h₀ L m news s Q E B F X N T hk hpre hneed hd hu hret
  replace N := news_need N hneed
  simp only [List.cons_append, List.nil_append, lcsD] at N
  have hx : StrsAre [Value.str s1 t1, .str s2 t2, .str s3 t3, .str s4 t4] [s1, s2, s3, s4] := (.cons _ _ (.cons _ _ (.cons _ _ (.cons _ _ .nil))))
  have hl : ∀ x ∈ [s1, s2, s3, s4], x.length ≤ 40 := fun x hx => Nat.le_trans (h6 x hx) (by decide)
  have hpos : 0 < ([s1, s2, s3, s4] : List Str).length := Nat.zero_lt_succ _
  have h34 : ([s1, s2, s3, s4] : List Str).length = 3 ∨ ([s1, s2, s3, s4] : List Str).length = 4 := .inr rfl
  cases hall : ([s1, s2, s3, s4] : List Str).all fun x => !x.cps.toList.isEmpty with
  | false =>
    obtain ⟨i9, y9, hi9, hm9, hp9⟩ := all_no hall
    k_dflt (walk_at "br enterR")
    intro D g L' h₁ l1 FG FL N B X T
    dsimp only
    refine wpAny_noRaise ?_
    k_fold
    k_steps
    rename News h₀ L _ _ => KN
    exact hret _ _ _ ⟨i9, y9, _, hi9, hm9, by rw [hp9, ← empty_is]⟩ (by k_asm) (fun p hp => KN p (by walk_at "br mem"))
  | true =>
    k_dflt (walk_at "br enterR")
    intro D g L' h₁ l1 FG FL N B X T
    dsimp only
    refine wpAny_noRaise ?_
    k_fold
    k_steps
    rename News h₀ L _ _ => KN
    exact hret _ _ _ ⟨_, _, _, by assumption, by assumption, rfl⟩ (by k_asm) (fun p hp => KN p (by walk_at "br mem"))
end Mine
end

section
open PySem PySem.W PyProof.Rows
set_option maxRecDepth 100000
namespace Mine
local macro_rules | `(tactic| walk_at "br enter") => `(tactic| first
  | (refine' code_def ?k1 ?k2 ?k3 ?k4 ?k5 ?kA ?kF ?kK ?k6 ?k7 ?k8 ?k9 ?kB ?_ ?c2 ?c3 ?c4 ?c5; (case kA => exact rfl); (case kF => exact rfl); (case kK => first | assumption | exact rfl); (case k1 => k_asm); (case k2 => k_asm); (case k3 => k_asm); (case k4 => k_asm); (case k5 => k_asm); (case k6 => k_is); (case k7 => k_is); (case k8 => ktr_room); (case k9 => first | exact BindsTo.of_eq rfl | exact binds_K (by k_in) rfl (by k_is) rfl rfl rfl); (case c5 => decide); (case kB => exact locs rfl); (case c2 => exact rfl); (case c3 => exact rfl); (case c4 => exact rfl); k_whole; intro g' L' h' FG' F' N' B' X' T'; (try dsimp only); (try k_lift B'); refine wpAny_noRaise ?_; (try k_fold))
  | (refine' code_defC ?k1 ?k2 ?k3 ?k4 ?k5 ?kA ?kF ?kK ?k6 ?k7 ?k8 ?k9 ?kB ?kD ?_ ?c2 ?c3 ?c4; (case kA => exact rfl); (case kF => exact rfl); (case kK => first | assumption | exact rfl); (case k1 => k_asm); (case k2 => k_asm); (case k3 => k_asm); (case k4 => k_asm); (case k5 => k_asm); (case k6 => k_is); (case k7 => k_is); (case k8 => ktr_room); (case k9 => first | exact BindsTo.of_eq rfl | exact binds_K (by k_in) rfl (by k_is) rfl rfl rfl); (case kB => exact rfl); (case kD => decide +kernel); (case c2 => exact rfl); (case c3 => exact rfl); (case c4 => exact rfl); k_whole; intro g' L' h' tk' cells' FG' F' N' Y' B' X' T' l1; (have lAll := l1); (try k_lt l1); k_cells Y'; (try simp only [List.cons_append, List.nil_append] at N'); (try dsimp only); (try k_lift B'); refine wpAny_noRaise ?_; (try k_fold)))
local macro_rules | `(tactic| walk_at "exec For") => `(tactic| (k_here; k_dflt (refine' for_F ?_); k_whole))
local macro_rules | `(tactic| walk_at "exec For Name Call cons nil") => `(tactic| (k_here; k_dflt (refine' for_F ?_); k_whole))
local macro_rules | `(tactic| walk_at "exec While BoolOp cons nil") => `(tactic| (k_here; refine Stopped.out ?_))
local macro_rules | `(tactic| walk_at "br frs") => `(tactic| simp only [List.forall_mem_cons, List.not_mem_nil, false_implies, implies_true, and_true])
local macro_rules | `(tactic| k_all) => `(tactic| (rename (∀ p ∈ (_ : List (Addr × Obj)), p.1 < _) => kAl'; exact fun p hp => br_ne (kAl' p (by first | exact hp | exact .tail _ hp | exact .tail _ (.tail _ hp) | exact .tail _ (.tail _ (.tail _ hp)))) (by omega)))
local macro_rules | `(tactic| walk_at "br enterC") => `(tactic| (refine' code_defC ?k1 ?k2 ?k3 ?k4 ?k5 ?kA ?kF ?kK ?k6 ?k7 ?k8 ?k9 ?kB ?kD ?_ ?c2 ?c3 ?c4; (case kA => exact rfl); (case kF => exact rfl); (case kK => first | assumption | exact rfl); (case k1 => k_asm); (case k2 => k_asm); (case k3 => k_asm); (case k4 => k_asm); (case k5 => k_asm); (case k6 => k_is); (case k7 => k_is); (case k8 => ktr_room); (case k9 => first | exact BindsTo.of_eq rfl | exact binds_K (by k_in) rfl (by k_is) rfl rfl rfl); (case kB => exact rfl); (case kD => decide +kernel); (case c2 => exact rfl); (case c3 => exact rfl); (case c4 => exact rfl); k_whole))
local macro_rules | `(tactic| walk_at "eval ListComp") => `(tactic| (k_here; first
  | ((with_reducible show wpAny _ _ (eval (PySem.Expr.ListComp _ [PySem.Comprehension.mk _ _ [_] _] _ _) _) _ _ _); k_dflt (refine ListComp_TS (F₀ := by k_asm) (by with_unfolding_all rfl) (by decide) (by rfl) (by decide) (by rfl) ?_))
  | ((with_reducible show wpAny _ _ (eval (PySem.Expr.ListComp _ [PySem.Comprehension.mk _ _ [] _] _ _) _) _ _ _); k_dflt (refine ListComp_US (F₀ := by k_asm) (by with_unfolding_all rfl) (by decide) (by rfl) (by decide) (by rfl) ?_))))
local macro_rules | `(tactic| walk_at "br ends") => `(tactic| repeat (first | (dsimp only [StepF, StepW]) | k_unfold))
local macro_rules | `(tactic| walk_at "br enterR") => `(tactic| (refine' kp_rest ?k1 ?k2 ?k3 ?k4 ?k5 ?kA ?kF ?kK ?k6 ?k7 ?k8 ?kV ?kP ?kG ?kB ?_ ?c2 ?c3 ?c4 ?c5; (case kA => exact rfl); (case kF => exact rfl); (case kK => first | assumption | exact rfl); (case k1 => k_asm); (case k2 => k_asm); (case k3 => k_asm); (case k4 => k_asm); (case k5 => k_asm); (case k6 => k_is); (case k7 => k_is); (case k8 => ktr_room); (case kV => first | kl_lit | exact rfl); (case kP => exact rfl); (case kG => exact fun _ => rfl); (case kB => exact fun _ => locs rfl); (case c5 => decide); (case c2 => exact rfl); (case c3 => exact rfl); (case c4 => exact rfl); k_whole))
local macro_rules | `(tactic| walk_at "br enterRC") => `(tactic| (refine' rest_cells ?k1 ?k2 ?k3 ?k4 ?k5 ?kA ?kF ?kK ?k6 ?k7 ?k8 ?kV ?kP ?kG ?kB ?kD ?_ ?c2 ?c3 ?c4; (case kA => exact rfl); (case kF => exact rfl); (case kK => first | assumption | exact rfl); (case k1 => k_asm); (case k2 => k_asm); (case k3 => k_asm); (case k4 => k_asm); (case k5 => k_asm); (case k6 => k_is); (case k7 => k_is); (case k8 => ktr_room); (case kV => kl_lit); (case kP => exact rfl); (case kG => exact fun _ => rfl); (case kB => exact fun _ => rfl); (case kD => decide +kernel); (case c2 => exact rfl); (case c3 => exact rfl); (case c4 => exact rfl); k_whole))
local macro_rules | `(tactic| k_room) => `(tactic| ktr_room)
local macro_rules | `(tactic| k_units) => `(tactic| ktr_units)
local macro_rules | `(tactic| walk_at "callWith ref") => `(tactic| (k_here; (with_reducible show wpAny _ _ (callWith _ (Value.ref _) _ (backTo _ (starEach [Expr.Starred _ _] _)) []) _ _ _); kco_here; k_dflt (refine' inst_S ?k1 ?k2 ?k3 ?k4 ?_; (case k1 => k_asm); (case k2 => k_inst); (case k3 => rfl); (case k4 => k_is); k_whole)))
local macro_rules | `(tactic| walk_at "StarOf ref") => `(tactic| (k_here; k_dflt (refine' star_seq ?k1 ?k2 ?m ?c ?d ?T ?e ?z ?_; (case k1 => k_asm); (case k2 => k_asm); (case m => k_mem); (case c => exact rfl); (case d => exact rfl); (case T => first | exact .inl rfl | exact .inr rfl); (case e => first | exact List.toList_toArray .. | kl_lit); (case z => first | assumption | exact Nat.le_of_ble_eq_true rfl); k_whole); intro h' F' N'; (try k_sweep); try dsimp only [List.nil_append, List.cons_append]))
local macro_rules | `(tactic| walk_at "call builtin:all") => `(tactic| (k_here; (with_reducible show wpAny _ _ (call (Value.builtin "all") [Value.ref _]) _ _ _); k_dflt (refine' all_n ?k1 ?k2 ?k3 ?k4 ?k5 ?k6 ?k7 ?_; (case k1 => k_asm); (case k2 => k_asm); (case k3 => k_mem); (case k4 => exact rfl); (case k5 => assumption); (case k6 => assumption); (case k7 => assumption); k_whole); intro h' tk' F' N'))
local macro_rules | `(tactic| walk_at "call builtin:min") => `(tactic| (k_here; (show wpAny _ _ (call (Value.builtin "min") [Value.ref _] [(PySem.Str.ofString "key", Value.builtin "len")]) _ _ _); k_dflt (refine' min_n ?k1 ?k2 ?k3 ?k4 ?k5 ?k6 ?k7 ?_; (case k1 => k_asm); (case k2 => k_asm); (case k3 => k_mem); (case k4 => exact rfl); (case k5 => assumption); (case k6 => assumption); (case k7 => assumption); k_whole); intro iMin xMin tMin h' tk' hiMin hlMin hMin F' N'))
local macro_rules | `(tactic| walk_at "call type:map") => `(tactic| (k_here; (with_reducible show wpAny _ _ (call (Value.type "map") [Value.builtin "len", Value.ref _]) _ _ _); first
  | (k_dflt (refine' map_tup_n ?k1 ?k2 ?k3 ?_; (case k1 => k_asm); (case k2 => k_asm); (case k3 => k_mem); k_whole); intro it' TI' M' h' hm1 hm2 hm3 hm4 F' N')
  | (k_dflt (refine' map_list_n ?k1 ?k2 ?k3 ?k4 ?k5 ?_; (case k1 => k_asm); (case k2 => k_asm); (case k3 => k_mem); (case k4 => exact rfl); (case k5 => exact rfl); k_whole); intro it' TI' M' h' hm1 hm2 hm3 hm4 F' N')))
local macro_rules | `(tactic| walk_at "call builtin:max") => `(tactic| (k_here; (with_reducible show wpAny _ _ (call (Value.builtin "max") [Value.ref _]) _ _ _); first
  | (k_dflt (refine' max_tup_n ?a1 ?a2 ?a3 ?a4 ?k1 ?k2 ?k3 ?k4 ?k5 ?k6 ?k7 ?_; (case k1 => k_asm); (case k2 => k_asm); (case a1 => assumption); (case a2 => assumption); (case a3 => assumption); (case a4 => assumption); (case k3 => k_mem); (case k4 => exact rfl); (case k5 => assumption); (case k6 => assumption); (case k7 => assumption); k_whole); intro kMax tMax h' tk' hMax hMax0 hMax1 F' N')
  | (k_dflt (refine' max_list_n ?a1 ?a2 ?a3 ?a4 ?k1 ?k2 ?k3 ?k3a ?k3b ?k4 ?k5 ?k6 ?k7 ?_; (case k1 => k_asm); (case k2 => k_asm); (case a1 => assumption); (case a2 => assumption); (case a3 => assumption); (case a4 => assumption); (case k3 => k_mem); (case k3a => exact rfl); (case k3b => exact rfl); (case k4 => exact rfl); (case k5 => assumption); (case k6 => assumption); (case k7 => assumption); k_whole); intro kMax tMax h' tk' hMax hMax0 hMax1 F' N')))
local macro_rules | `(tactic| walk_at "eval Call Attribute") => `(tactic| (k_here; (with_reducible show wpAny _ _ (eval (PySem.Expr.Call (PySem.Expr.Attribute _ _ _) [PySem.Expr.Starred _ _] _ _) _) _ _ _); refine starMeth ?_))
local macro_rules | `(tactic| walk_at "callWith ref") => `(tactic| (k_here; (with_reducible show wpAny _ _ (callWith _ (Value.ref _) _ (backTo _ (starEach [Expr.Starred _ _] _)) []) _ _ _); k_dflt (refine' callWith_SM ?k1 ?k2 ?k3 ?k4 ?_; (case k1 => k_asm); (case k2 => k_asm); (case k3 => k_mem); (case k4 => k_is); k_whole)))
local macro_rules | `(tactic| walk_at "call ref") => `(tactic| (k_here; (with_reducible show wpAny _ _ (call (Value.ref _) _) _ _ _); k_dflt (refine' call_meth (f := .ref 108) ?k1 ?k2 ?_; (case k1 => k_asm); (case k2 => k_mem); k_whole); k_dflt (walk_at "br enterRC"); intro D' g' L' h' tk' cells' lD' FG' F' N' Y' B' X' T' l1; (have lAll := l1); (try k_lt l1); k_cells Y'; (try simp only [List.cons_append, List.nil_append] at N'); (try dsimp only); (try k_lift B'); refine wpAny_noRaise ?_; (try k_fold)))
local macro_rules | `(tactic| walk_at "br mem") => `(tactic| first | assumption | (refine List.Mem.tail _ ?_; walk_at "br mem"))
local macro_rules | `(tactic| k_in) => `(tactic| (refine' Frag.In.keeps ?kinX (Fr.keep ?kinF); (case kinF => k_asm); (case kinX => first | with_reducible assumption | k_asm)))
local macro_rules | `(tactic| k_in) => `(tactic| with_reducible assumption)
-- the walker as at a file's start (open_top turns it to the top's lines)
theorem fresh_maxi2 : True := by
  w_top off
  trivial
set_option maxHeartbeats 8000000 in
theorem maxi2_meet (w : World) (s1 s2 : Str) (t1 t2 : Tok) (hl : ∀ x ∈ [s1, s2], x.length ≤ 40) :
    Meet w 4 40 55 [Value.str s1 t1, .str s2 t2] [] (fun _ => True) (fun v => ∃ k t, MaxLen [s1, s2] k ∧ 0 ≤ k ∧ k ≤ 40 ∧ v = .int k t) := by
  unfold Meet
  k_fill
  intro p loose mean mg mb dp un gd cn cs a ccd cl outer A₀ base h₀ L m news s Q E B F X N T hk hpre hneed hd hu hret
  have hx : StrsAre [Value.str s1 t1, .str s2 t2] [s1, s2] := (.cons _ _ (.cons _ _ .nil))
  have hpos : 0 < ([s1, s2] : List Str).length := Nat.zero_lt_succ _
  refine wpAny_call ?_
  k_dflt (walk_at "br enterR")
  intro D g L' h₁ l1 FG FL N B X T
  dsimp only
  refine wpAny_noRaise ?_
  k_fold
  k_steps
  rename News h₀ L _ _ => KN
  exact hret _ _ _ ⟨_, _, by assumption, by assumption, by assumption, rfl⟩ (by k_asm) (fun p hp => KN p (by walk_at "br mem"))
end Mine
end

section
open PySem PySem.W PyProof.Rows
set_option maxRecDepth 100000
namespace Mine
local macro_rules | `(tactic| walk_at "pad") => `(tactic| fail "pad")
local macro_rules | `(tactic| walk_at "br enter") => `(tactic| first
  | (refine' code_def ?k1 ?k2 ?k3 ?k4 ?k5 ?kA ?kF ?kK ?k6 ?k7 ?k8 ?k9 ?kB ?_ ?c2 ?c3 ?c4 ?c5; (case kA => exact rfl); (case kF => exact rfl); (case kK => first | assumption | exact rfl); (case k1 => k_asm); (case k2 => k_asm); (case k3 => k_asm); (case k4 => k_asm); (case k5 => k_asm); (case k6 => k_is); (case k7 => k_is); (case k8 => ktr_room); (case k9 => first | exact BindsTo.of_eq rfl | exact binds_K (by k_in) rfl (by k_is) rfl rfl rfl); (case c5 => decide); (case kB => exact locs rfl); (case c2 => exact rfl); (case c3 => exact rfl); (case c4 => exact rfl); k_whole; intro g' L' h' FG' F' N' B' X' T'; (try dsimp only); (try k_lift B'); refine wpAny_noRaise ?_; (try k_fold))
  | (refine' code_defC ?k1 ?k2 ?k3 ?k4 ?k5 ?kA ?kF ?kK ?k6 ?k7 ?k8 ?k9 ?kB ?kD ?_ ?c2 ?c3 ?c4; (case kA => exact rfl); (case kF => exact rfl); (case kK => first | assumption | exact rfl); (case k1 => k_asm); (case k2 => k_asm); (case k3 => k_asm); (case k4 => k_asm); (case k5 => k_asm); (case k6 => k_is); (case k7 => k_is); (case k8 => ktr_room); (case k9 => first | exact BindsTo.of_eq rfl | exact binds_K (by k_in) rfl (by k_is) rfl rfl rfl); (case kB => exact rfl); (case kD => decide +kernel); (case c2 => exact rfl); (case c3 => exact rfl); (case c4 => exact rfl); k_whole; intro g' L' h' tk' cells' FG' F' N' Y' B' X' T' l1; (have lAll := l1); (try k_lt l1); k_cells Y'; (try simp only [List.cons_append, List.nil_append] at N'); (try dsimp only); (try k_lift B'); refine wpAny_noRaise ?_; (try k_fold)))
local macro_rules | `(tactic| walk_at "exec For") => `(tactic| (k_here; k_dflt (refine' for_F ?_); k_whole))
local macro_rules | `(tactic| walk_at "exec For Name Call cons nil") => `(tactic| (k_here; k_dflt (refine' for_F ?_); k_whole))
local macro_rules | `(tactic| walk_at "exec While BoolOp cons nil") => `(tactic| (k_here; refine Stopped.out ?_))
local macro_rules | `(tactic| walk_at "br frs") => `(tactic| simp only [List.forall_mem_cons, List.not_mem_nil, false_implies, implies_true, and_true])
local macro_rules | `(tactic| k_all) => `(tactic| (rename (∀ p ∈ (_ : List (Addr × Obj)), p.1 < _) => kAl'; exact fun p hp => br_ne (kAl' p (by first | exact hp | exact .tail _ hp | exact .tail _ (.tail _ hp) | exact .tail _ (.tail _ (.tail _ hp)))) (by omega)))
local macro_rules | `(tactic| walk_at "br enterC") => `(tactic| (refine' code_defC ?k1 ?k2 ?k3 ?k4 ?k5 ?kA ?kF ?kK ?k6 ?k7 ?k8 ?k9 ?kB ?kD ?_ ?c2 ?c3 ?c4; (case kA => exact rfl); (case kF => exact rfl); (case kK => first | assumption | exact rfl); (case k1 => k_asm); (case k2 => k_asm); (case k3 => k_asm); (case k4 => k_asm); (case k5 => k_asm); (case k6 => k_is); (case k7 => k_is); (case k8 => ktr_room); (case k9 => first | exact BindsTo.of_eq rfl | exact binds_K (by k_in) rfl (by k_is) rfl rfl rfl); (case kB => exact rfl); (case kD => decide +kernel); (case c2 => exact rfl); (case c3 => exact rfl); (case c4 => exact rfl); k_whole))
local macro_rules | `(tactic| walk_at "eval ListComp") => `(tactic| (k_here; first
  | ((with_reducible show wpAny _ _ (eval (PySem.Expr.ListComp _ [PySem.Comprehension.mk _ _ [_] _] _ _) _) _ _ _); k_dflt (refine ListComp_TS (F₀ := by k_asm) (by with_unfolding_all rfl) (by decide) (by rfl) (by decide) (by rfl) ?_))
  | ((with_reducible show wpAny _ _ (eval (PySem.Expr.ListComp _ [PySem.Comprehension.mk _ _ [] _] _ _) _) _ _ _); k_dflt (refine ListComp_US (F₀ := by k_asm) (by with_unfolding_all rfl) (by decide) (by rfl) (by decide) (by rfl) ?_))))
local macro_rules | `(tactic| walk_at "br ends") => `(tactic| repeat (first | (dsimp only [StepF, StepW]) | k_unfold))
local macro_rules | `(tactic| walk_at "br enterR") => `(tactic| (refine' kp_rest ?k1 ?k2 ?k3 ?k4 ?k5 ?kA ?kF ?kK ?k6 ?k7 ?k8 ?kV ?kP ?kG ?kB ?_ ?c2 ?c3 ?c4 ?c5; (case kA => exact rfl); (case kF => exact rfl); (case kK => first | assumption | exact rfl); (case k1 => k_asm); (case k2 => k_asm); (case k3 => k_asm); (case k4 => k_asm); (case k5 => k_asm); (case k6 => k_is); (case k7 => k_is); (case k8 => ktr_room); (case kV => first | kl_lit | exact rfl); (case kP => exact rfl); (case kG => exact fun _ => rfl); (case kB => exact fun _ => locs rfl); (case c5 => decide); (case c2 => exact rfl); (case c3 => exact rfl); (case c4 => exact rfl); k_whole))
local macro_rules | `(tactic| walk_at "br enterRC") => `(tactic| (refine' rest_cells ?k1 ?k2 ?k3 ?k4 ?k5 ?kA ?kF ?kK ?k6 ?k7 ?k8 ?kV ?kP ?kG ?kB ?kD ?_ ?c2 ?c3 ?c4; (case kA => exact rfl); (case kF => exact rfl); (case kK => first | assumption | exact rfl); (case k1 => k_asm); (case k2 => k_asm); (case k3 => k_asm); (case k4 => k_asm); (case k5 => k_asm); (case k6 => k_is); (case k7 => k_is); (case k8 => ktr_room); (case kV => kl_lit); (case kP => exact rfl); (case kG => exact fun _ => rfl); (case kB => exact fun _ => rfl); (case kD => decide +kernel); (case c2 => exact rfl); (case c3 => exact rfl); (case c4 => exact rfl); k_whole))
local macro_rules | `(tactic| k_room) => `(tactic| ktr_room)
local macro_rules | `(tactic| k_units) => `(tactic| ktr_units)
local macro_rules | `(tactic| walk_at "callWith ref") => `(tactic| (k_here; (with_reducible show wpAny _ _ (callWith _ (Value.ref _) _ (backTo _ (starEach [Expr.Starred _ _] _)) []) _ _ _); kco_here; k_dflt (refine' inst_S ?k1 ?k2 ?k3 ?k4 ?_; (case k1 => k_asm); (case k2 => k_inst); (case k3 => rfl); (case k4 => k_is); k_whole)))
local macro_rules | `(tactic| walk_at "StarOf ref") => `(tactic| (k_here; k_dflt (refine' star_seq ?k1 ?k2 ?m ?c ?d ?T ?e ?z ?_; (case k1 => k_asm); (case k2 => k_asm); (case m => k_mem); (case c => exact rfl); (case d => exact rfl); (case T => first | exact .inl rfl | exact .inr rfl); (case e => first | exact List.toList_toArray .. | kl_lit); (case z => first | assumption | exact Nat.le_of_ble_eq_true rfl); k_whole); intro h' F' N'; (try k_sweep); try dsimp only [List.nil_append, List.cons_append]))
local macro_rules | `(tactic| walk_at "call builtin:all") => `(tactic| (k_here; (with_reducible show wpAny _ _ (call (Value.builtin "all") [Value.ref _]) _ _ _); k_dflt (refine' all_n ?k1 ?k2 ?k3 ?k4 ?k5 ?k6 ?k7 ?_; (case k1 => k_asm); (case k2 => k_asm); (case k3 => k_mem); (case k4 => exact rfl); (case k5 => assumption); (case k6 => assumption); (case k7 => assumption); k_whole); intro h' tk' F' N'))
local macro_rules | `(tactic| walk_at "call builtin:min") => `(tactic| (k_here; (show wpAny _ _ (call (Value.builtin "min") [Value.ref _] [(PySem.Str.ofString "key", Value.builtin "len")]) _ _ _); k_dflt (refine' min_n ?k1 ?k2 ?k3 ?k4 ?k5 ?k6 ?k7 ?_; (case k1 => k_asm); (case k2 => k_asm); (case k3 => k_mem); (case k4 => exact rfl); (case k5 => assumption); (case k6 => assumption); (case k7 => assumption); k_whole); intro iMin xMin tMin h' tk' hiMin hlMin hMin F' N'))
local macro_rules | `(tactic| walk_at "call type:map") => `(tactic| (k_here; (with_reducible show wpAny _ _ (call (Value.type "map") [Value.builtin "len", Value.ref _]) _ _ _); first
  | (k_dflt (refine' map_tup_n ?k1 ?k2 ?k3 ?_; (case k1 => k_asm); (case k2 => k_asm); (case k3 => k_mem); k_whole); intro it' TI' M' h' hm1 hm2 hm3 hm4 F' N')
  | (k_dflt (refine' map_list_n ?k1 ?k2 ?k3 ?k4 ?k5 ?_; (case k1 => k_asm); (case k2 => k_asm); (case k3 => k_mem); (case k4 => exact rfl); (case k5 => exact rfl); k_whole); intro it' TI' M' h' hm1 hm2 hm3 hm4 F' N')))
local macro_rules | `(tactic| walk_at "call builtin:max") => `(tactic| (k_here; (with_reducible show wpAny _ _ (call (Value.builtin "max") [Value.ref _]) _ _ _); first
  | (k_dflt (refine' max_tup_n ?a1 ?a2 ?a3 ?a4 ?k1 ?k2 ?k3 ?k4 ?k5 ?k6 ?k7 ?_; (case k1 => k_asm); (case k2 => k_asm); (case a1 => assumption); (case a2 => assumption); (case a3 => assumption); (case a4 => assumption); (case k3 => k_mem); (case k4 => exact rfl); (case k5 => assumption); (case k6 => assumption); (case k7 => assumption); k_whole); intro kMax tMax h' tk' hMax hMax0 hMax1 F' N')
  | (k_dflt (refine' max_list_n ?a1 ?a2 ?a3 ?a4 ?k1 ?k2 ?k3 ?k3a ?k3b ?k4 ?k5 ?k6 ?k7 ?_; (case k1 => k_asm); (case k2 => k_asm); (case a1 => assumption); (case a2 => assumption); (case a3 => assumption); (case a4 => assumption); (case k3 => k_mem); (case k3a => exact rfl); (case k3b => exact rfl); (case k4 => exact rfl); (case k5 => assumption); (case k6 => assumption); (case k7 => assumption); k_whole); intro kMax tMax h' tk' hMax hMax0 hMax1 F' N')))
local macro_rules | `(tactic| walk_at "eval Call Attribute") => `(tactic| (k_here; (with_reducible show wpAny _ _ (eval (PySem.Expr.Call (PySem.Expr.Attribute _ _ _) [PySem.Expr.Starred _ _] _ _) _) _ _ _); refine starMeth ?_))
local macro_rules | `(tactic| walk_at "callWith ref") => `(tactic| (k_here; (with_reducible show wpAny _ _ (callWith _ (Value.ref _) _ (backTo _ (starEach [Expr.Starred _ _] _)) []) _ _ _); k_dflt (refine' callWith_SM ?k1 ?k2 ?k3 ?k4 ?_; (case k1 => k_asm); (case k2 => k_asm); (case k3 => k_mem); (case k4 => k_is); k_whole)))
local macro_rules | `(tactic| walk_at "call ref") => `(tactic| (k_here; (with_reducible show wpAny _ _ (call (Value.ref _) _) _ _ _); k_dflt (refine' call_meth (f := .ref 108) ?k1 ?k2 ?_; (case k1 => k_asm); (case k2 => k_mem); k_whole); k_dflt (walk_at "br enterRC"); intro D' g' L' h' tk' cells' lD' FG' F' N' Y' B' X' T' l1; (have lAll := l1); (try k_lt l1); k_cells Y'; (try simp only [List.cons_append, List.nil_append] at N'); (try dsimp only); (try k_lift B'); refine wpAny_noRaise ?_; (try k_fold)))
local macro_rules | `(tactic| walk_at "br mem") => `(tactic| first | assumption | (refine List.Mem.tail _ ?_; walk_at "br mem"))
local macro_rules | `(tactic| k_in) => `(tactic| (refine' Frag.In.keeps ?kinX (Fr.keep ?kinF); (case kinF => k_asm); (case kinX => first | with_reducible assumption | k_asm)))
local macro_rules | `(tactic| k_in) => `(tactic| with_reducible assumption)
-- the walker as at a file's start (open_top turns it to the top's lines)
theorem fresh_maxi3 : True := by
  w_top off
  trivial
set_option maxHeartbeats 8000000 in
theorem maxi3_meet (w : World) (s1 s2 s3 : Str) (t1 t2 t3 : Tok) (hl : ∀ x ∈ [s1, s2, s3], x.length ≤ 40) :
    Meet w 4 40 55 [Value.str s1 t1, .str s2 t2, .str s3 t3] [] (fun _ => True) (fun v => ∃ k t, MaxLen [s1, s2, s3] k ∧ 0 ≤ k ∧ k ≤ 40 ∧ v = .int k t) := by
  unfold Meet
  k_fill
  intro p loose mean mg mb dp un gd cn cs a ccd cl outer A₀ base h₀ L m news s Q E B F X N T hk hpre hneed hd hu hret
  have hx : StrsAre [Value.str s1 t1, .str s2 t2, .str s3 t3] [s1, s2, s3] := (.cons _ _ (.cons _ _ (.cons _ _ .nil)))
  have hpos : 0 < ([s1, s2, s3] : List Str).length := Nat.zero_lt_succ _
  refine wpAny_call ?_
  k_dflt (walk_at "br enterR")
  intro D g L' h₁ l1 FG FL N B X T
  dsimp only
  refine wpAny_noRaise ?_
  k_fold
  k_steps
  rename News h₀ L _ _ => KN
  exact hret _ _ _ ⟨_, _, by assumption, by assumption, by assumption, rfl⟩ (by k_asm) (fun p hp => KN p (by walk_at "br mem"))
end Mine
end

section
open PySem PySem.W PyProof.Rows
set_option maxRecDepth 100000
namespace Mine
local macro_rules | `(tactic| walk_at "br enter") => `(tactic| first
  | (refine' code_def ?k1 ?k2 ?k3 ?k4 ?k5 ?kA ?kF ?kK ?k6 ?k7 ?k8 ?k9 ?kB ?_ ?c2 ?c3 ?c4 ?c5; (case kA => exact rfl); (case kF => exact rfl); (case kK => first | assumption | exact rfl); (case k1 => k_asm); (case k2 => k_asm); (case k3 => k_asm); (case k4 => k_asm); (case k5 => k_asm); (case k6 => k_is); (case k7 => k_is); (case k8 => ktr_room); (case k9 => first | exact BindsTo.of_eq rfl | exact binds_K (by k_in) rfl (by k_is) rfl rfl rfl); (case c5 => decide); (case kB => exact locs rfl); (case c2 => exact rfl); (case c3 => exact rfl); (case c4 => exact rfl); k_whole; intro g' L' h' FG' F' N' B' X' T'; (try dsimp only); (try k_lift B'); refine wpAny_noRaise ?_; (try k_fold))
  | (refine' code_defC ?k1 ?k2 ?k3 ?k4 ?k5 ?kA ?kF ?kK ?k6 ?k7 ?k8 ?k9 ?kB ?kD ?_ ?c2 ?c3 ?c4; (case kA => exact rfl); (case kF => exact rfl); (case kK => first | assumption | exact rfl); (case k1 => k_asm); (case k2 => k_asm); (case k3 => k_asm); (case k4 => k_asm); (case k5 => k_asm); (case k6 => k_is); (case k7 => k_is); (case k8 => ktr_room); (case k9 => first | exact BindsTo.of_eq rfl | exact binds_K (by k_in) rfl (by k_is) rfl rfl rfl); (case kB => exact rfl); (case kD => decide +kernel); (case c2 => exact rfl); (case c3 => exact rfl); (case c4 => exact rfl); k_whole; intro g' L' h' tk' cells' FG' F' N' Y' B' X' T' l1; (have lAll := l1); (try k_lt l1); k_cells Y'; (try simp only [List.cons_append, List.nil_append] at N'); (try dsimp only); (try k_lift B'); refine wpAny_noRaise ?_; (try k_fold)))
local macro_rules | `(tactic| walk_at "exec For") => `(tactic| (k_here; k_dflt (refine' for_F ?_); k_whole))
local macro_rules | `(tactic| walk_at "exec For Name Call cons nil") => `(tactic| (k_here; k_dflt (refine' for_F ?_); k_whole))
local macro_rules | `(tactic| walk_at "exec While BoolOp cons nil") => `(tactic| (k_here; refine Stopped.out ?_))
local macro_rules | `(tactic| walk_at "br frs") => `(tactic| simp only [List.forall_mem_cons, List.not_mem_nil, false_implies, implies_true, and_true])
local macro_rules | `(tactic| k_all) => `(tactic| (rename (∀ p ∈ (_ : List (Addr × Obj)), p.1 < _) => kAl'; exact fun p hp => br_ne (kAl' p (by first | exact hp | exact .tail _ hp | exact .tail _ (.tail _ hp) | exact .tail _ (.tail _ (.tail _ hp)))) (by omega)))
local macro_rules | `(tactic| walk_at "br enterC") => `(tactic| (refine' code_defC ?k1 ?k2 ?k3 ?k4 ?k5 ?kA ?kF ?kK ?k6 ?k7 ?k8 ?k9 ?kB ?kD ?_ ?c2 ?c3 ?c4; (case kA => exact rfl); (case kF => exact rfl); (case kK => first | assumption | exact rfl); (case k1 => k_asm); (case k2 => k_asm); (case k3 => k_asm); (case k4 => k_asm); (case k5 => k_asm); (case k6 => k_is); (case k7 => k_is); (case k8 => ktr_room); (case k9 => first | exact BindsTo.of_eq rfl | exact binds_K (by k_in) rfl (by k_is) rfl rfl rfl); (case kB => exact rfl); (case kD => decide +kernel); (case c2 => exact rfl); (case c3 => exact rfl); (case c4 => exact rfl); k_whole))
local macro_rules | `(tactic| walk_at "eval ListComp") => `(tactic| (k_here; first
  | ((with_reducible show wpAny _ _ (eval (PySem.Expr.ListComp _ [PySem.Comprehension.mk _ _ [_] _] _ _) _) _ _ _); k_dflt (refine ListComp_TS (F₀ := by k_asm) (by with_unfolding_all rfl) (by decide) (by rfl) (by decide) (by rfl) ?_))
  | ((with_reducible show wpAny _ _ (eval (PySem.Expr.ListComp _ [PySem.Comprehension.mk _ _ [] _] _ _) _) _ _ _); k_dflt (refine ListComp_US (F₀ := by k_asm) (by with_unfolding_all rfl) (by decide) (by rfl) (by decide) (by rfl) ?_))))
local macro_rules | `(tactic| walk_at "br ends") => `(tactic| repeat (first | (dsimp only [StepF, StepW]) | k_unfold))
local macro_rules | `(tactic| walk_at "br enterR") => `(tactic| (refine' kp_rest ?k1 ?k2 ?k3 ?k4 ?k5 ?kA ?kF ?kK ?k6 ?k7 ?k8 ?kV ?kP ?kG ?kB ?_ ?c2 ?c3 ?c4 ?c5; (case kA => exact rfl); (case kF => exact rfl); (case kK => first | assumption | exact rfl); (case k1 => k_asm); (case k2 => k_asm); (case k3 => k_asm); (case k4 => k_asm); (case k5 => k_asm); (case k6 => k_is); (case k7 => k_is); (case k8 => ktr_room); (case kV => first | kl_lit | exact rfl); (case kP => exact rfl); (case kG => exact fun _ => rfl); (case kB => exact fun _ => locs rfl); (case c5 => decide); (case c2 => exact rfl); (case c3 => exact rfl); (case c4 => exact rfl); k_whole))
local macro_rules | `(tactic| walk_at "br enterRC") => `(tactic| (refine' rest_cells ?k1 ?k2 ?k3 ?k4 ?k5 ?kA ?kF ?kK ?k6 ?k7 ?k8 ?kV ?kP ?kG ?kB ?kD ?_ ?c2 ?c3 ?c4; (case kA => exact rfl); (case kF => exact rfl); (case kK => first | assumption | exact rfl); (case k1 => k_asm); (case k2 => k_asm); (case k3 => k_asm); (case k4 => k_asm); (case k5 => k_asm); (case k6 => k_is); (case k7 => k_is); (case k8 => ktr_room); (case kV => kl_lit); (case kP => exact rfl); (case kG => exact fun _ => rfl); (case kB => exact fun _ => rfl); (case kD => decide +kernel); (case c2 => exact rfl); (case c3 => exact rfl); (case c4 => exact rfl); k_whole))
local macro_rules | `(tactic| k_room) => `(tactic| ktr_room)
local macro_rules | `(tactic| k_units) => `(tactic| ktr_units)
local macro_rules | `(tactic| walk_at "callWith ref") => `(tactic| (k_here; (with_reducible show wpAny _ _ (callWith _ (Value.ref _) _ (backTo _ (starEach [Expr.Starred _ _] _)) []) _ _ _); kco_here; k_dflt (refine' inst_S ?k1 ?k2 ?k3 ?k4 ?_; (case k1 => k_asm); (case k2 => k_inst); (case k3 => rfl); (case k4 => k_is); k_whole)))
local macro_rules | `(tactic| walk_at "StarOf ref") => `(tactic| (k_here; k_dflt (refine' star_seq ?k1 ?k2 ?m ?c ?d ?T ?e ?z ?_; (case k1 => k_asm); (case k2 => k_asm); (case m => k_mem); (case c => exact rfl); (case d => exact rfl); (case T => first | exact .inl rfl | exact .inr rfl); (case e => first | exact List.toList_toArray .. | kl_lit); (case z => first | assumption | exact Nat.le_of_ble_eq_true rfl); k_whole); intro h' F' N'; (try k_sweep); try dsimp only [List.nil_append, List.cons_append]))
local macro_rules | `(tactic| walk_at "call builtin:all") => `(tactic| (k_here; (with_reducible show wpAny _ _ (call (Value.builtin "all") [Value.ref _]) _ _ _); k_dflt (refine' all_n ?k1 ?k2 ?k3 ?k4 ?k5 ?k6 ?k7 ?_; (case k1 => k_asm); (case k2 => k_asm); (case k3 => k_mem); (case k4 => exact rfl); (case k5 => assumption); (case k6 => assumption); (case k7 => assumption); k_whole); intro h' tk' F' N'))
local macro_rules | `(tactic| walk_at "call builtin:min") => `(tactic| (k_here; (show wpAny _ _ (call (Value.builtin "min") [Value.ref _] [(PySem.Str.ofString "key", Value.builtin "len")]) _ _ _); k_dflt (refine' min_n ?k1 ?k2 ?k3 ?k4 ?k5 ?k6 ?k7 ?_; (case k1 => k_asm); (case k2 => k_asm); (case k3 => k_mem); (case k4 => exact rfl); (case k5 => assumption); (case k6 => assumption); (case k7 => assumption); k_whole); intro iMin xMin tMin h' tk' hiMin hlMin hMin F' N'))
local macro_rules | `(tactic| walk_at "call type:map") => `(tactic| (k_here; (with_reducible show wpAny _ _ (call (Value.type "map") [Value.builtin "len", Value.ref _]) _ _ _); first
  | (k_dflt (refine' map_tup_n ?k1 ?k2 ?k3 ?_; (case k1 => k_asm); (case k2 => k_asm); (case k3 => k_mem); k_whole); intro it' TI' M' h' hm1 hm2 hm3 hm4 F' N')
  | (k_dflt (refine' map_list_n ?k1 ?k2 ?k3 ?k4 ?k5 ?_; (case k1 => k_asm); (case k2 => k_asm); (case k3 => k_mem); (case k4 => exact rfl); (case k5 => exact rfl); k_whole); intro it' TI' M' h' hm1 hm2 hm3 hm4 F' N')))
local macro_rules | `(tactic| walk_at "call builtin:max") => `(tactic| (k_here; (with_reducible show wpAny _ _ (call (Value.builtin "max") [Value.ref _]) _ _ _); first
  | (k_dflt (refine' max_tup_n ?a1 ?a2 ?a3 ?a4 ?k1 ?k2 ?k3 ?k4 ?k5 ?k6 ?k7 ?_; (case k1 => k_asm); (case k2 => k_asm); (case a1 => assumption); (case a2 => assumption); (case a3 => assumption); (case a4 => assumption); (case k3 => k_mem); (case k4 => exact rfl); (case k5 => assumption); (case k6 => assumption); (case k7 => assumption); k_whole); intro kMax tMax h' tk' hMax hMax0 hMax1 F' N')
  | (k_dflt (refine' max_list_n ?a1 ?a2 ?a3 ?a4 ?k1 ?k2 ?k3 ?k3a ?k3b ?k4 ?k5 ?k6 ?k7 ?_; (case k1 => k_asm); (case k2 => k_asm); (case a1 => assumption); (case a2 => assumption); (case a3 => assumption); (case a4 => assumption); (case k3 => k_mem); (case k3a => exact rfl); (case k3b => exact rfl); (case k4 => exact rfl); (case k5 => assumption); (case k6 => assumption); (case k7 => assumption); k_whole); intro kMax tMax h' tk' hMax hMax0 hMax1 F' N')))
local macro_rules | `(tactic| walk_at "eval Call Attribute") => `(tactic| (k_here; (with_reducible show wpAny _ _ (eval (PySem.Expr.Call (PySem.Expr.Attribute _ _ _) [PySem.Expr.Starred _ _] _ _) _) _ _ _); refine starMeth ?_))
local macro_rules | `(tactic| walk_at "callWith ref") => `(tactic| (k_here; (with_reducible show wpAny _ _ (callWith _ (Value.ref _) _ (backTo _ (starEach [Expr.Starred _ _] _)) []) _ _ _); k_dflt (refine' callWith_SM ?k1 ?k2 ?k3 ?k4 ?_; (case k1 => k_asm); (case k2 => k_asm); (case k3 => k_mem); (case k4 => k_is); k_whole)))
local macro_rules | `(tactic| walk_at "call ref") => `(tactic| (k_here; (with_reducible show wpAny _ _ (call (Value.ref _) _) _ _ _); k_dflt (refine' call_meth (f := .ref 108) ?k1 ?k2 ?_; (case k1 => k_asm); (case k2 => k_mem); k_whole); k_dflt (walk_at "br enterRC"); intro D' g' L' h' tk' cells' lD' FG' F' N' Y' B' X' T' l1; (have lAll := l1); (try k_lt l1); k_cells Y'; (try simp only [List.cons_append, List.nil_append] at N'); (try dsimp only); (try k_lift B'); refine wpAny_noRaise ?_; (try k_fold)))
local macro_rules | `(tactic| walk_at "br mem") => `(tactic| first | assumption | (refine List.Mem.tail _ ?_; walk_at "br mem"))
local macro_rules | `(tactic| k_in) => `(tactic| (refine' Frag.In.keeps ?kinX (Fr.keep ?kinF); (case kinF => k_asm); (case kinX => first | with_reducible assumption | k_asm)))
local macro_rules | `(tactic| k_in) => `(tactic| with_reducible assumption)
-- the walker as at a file's start (open_top turns it to the top's lines)
theorem fresh_maxi4 : True := by
  w_top off
  trivial
set_option maxHeartbeats 8000000 in
theorem maxi4_meet (w : World) (s1 s2 s3 s4 : Str) (t1 t2 t3 t4 : Tok) (hl : ∀ x ∈ [s1, s2, s3, s4], x.length ≤ 40) :
    Meet w 4 40 55 [Value.str s1 t1, .str s2 t2, .str s3 t3, .str s4 t4] [] (fun _ => True) (fun v => ∃ k t, MaxLen [s1, s2, s3, s4] k ∧ 0 ≤ k ∧ k ≤ 40 ∧ v = .int k t) := by
  unfold Meet
  k_fill
  intro p loose mean mg mb dp un gd cn cs a ccd cl outer A₀ base h₀ L m news s Q E B F X N T hk hpre hneed hd hu hret
  have hx : StrsAre [Value.str s1 t1, .str s2 t2, .str s3 t3, .str s4 t4] [s1, s2, s3, s4] := (.cons _ _ (.cons _ _ (.cons _ _ (.cons _ _ .nil))))
  have hpos : 0 < ([s1, s2, s3, s4] : List Str).length := Nat.zero_lt_succ _
  refine wpAny_call ?_
  k_dflt (walk_at "br enterR")
  intro D g L' h₁ l1 FG FL N B X T
  dsimp only
  refine wpAny_noRaise ?_
  k_fold
  k_steps
  rename News h₀ L _ _ => KN
  exact hret _ _ _ ⟨_, _, by assumption, by assumption, by assumption, rfl⟩ (by k_asm) (fun p hp => KN p (by walk_at "br mem"))
end Mine
end

section
open PySem PySem.W PyProof.Rows
set_option maxRecDepth 100000
namespace Mine
local macro_rules | `(tactic| walk_at "pad") => `(tactic| fail "pad")
local macro_rules | `(tactic| walk_at "br enter") => `(tactic| first
  | (refine' code_def ?k1 ?k2 ?k3 ?k4 ?k5 ?kA ?kF ?kK ?k6 ?k7 ?k8 ?k9 ?kB ?_ ?c2 ?c3 ?c4 ?c5; (case kA => exact rfl); (case kF => exact rfl); (case kK => first | assumption | exact rfl); (case k1 => k_asm); (case k2 => k_asm); (case k3 => k_asm); (case k4 => k_asm); (case k5 => k_asm); (case k6 => k_is); (case k7 => k_is); (case k8 => ktr_room); (case k9 => first | exact BindsTo.of_eq rfl | exact binds_K (by k_in) rfl (by k_is) rfl rfl rfl); (case c5 => decide); (case kB => exact locs rfl); (case c2 => exact rfl); (case c3 => exact rfl); (case c4 => exact rfl); k_whole; intro g' L' h' FG' F' N' B' X' T'; (try dsimp only); (try k_lift B'); refine wpAny_noRaise ?_; (try k_fold))
  | (refine' code_defC ?k1 ?k2 ?k3 ?k4 ?k5 ?kA ?kF ?kK ?k6 ?k7 ?k8 ?k9 ?kB ?kD ?_ ?c2 ?c3 ?c4; (case kA => exact rfl); (case kF => exact rfl); (case kK => first | assumption | exact rfl); (case k1 => k_asm); (case k2 => k_asm); (case k3 => k_asm); (case k4 => k_asm); (case k5 => k_asm); (case k6 => k_is); (case k7 => k_is); (case k8 => ktr_room); (case k9 => first | exact BindsTo.of_eq rfl | exact binds_K (by k_in) rfl (by k_is) rfl rfl rfl); (case kB => exact rfl); (case kD => decide +kernel); (case c2 => exact rfl); (case c3 => exact rfl); (case c4 => exact rfl); k_whole; intro g' L' h' tk' cells' FG' F' N' Y' B' X' T' l1; (have lAll := l1); (try k_lt l1); k_cells Y'; (try simp only [List.cons_append, List.nil_append] at N'); (try dsimp only); (try k_lift B'); refine wpAny_noRaise ?_; (try k_fold)))
local macro_rules | `(tactic| walk_at "exec For") => `(tactic| (k_here; k_dflt (refine' for_F ?_); k_whole))
local macro_rules | `(tactic| walk_at "exec For Name Call cons nil") => `(tactic| (k_here; k_dflt (refine' for_F ?_); k_whole))
local macro_rules | `(tactic| walk_at "exec While BoolOp cons nil") => `(tactic| (k_here; refine Stopped.out ?_))
local macro_rules | `(tactic| walk_at "br frs") => `(tactic| simp only [List.forall_mem_cons, List.not_mem_nil, false_implies, implies_true, and_true])
local macro_rules | `(tactic| k_all) => `(tactic| (rename (∀ p ∈ (_ : List (Addr × Obj)), p.1 < _) => kAl'; exact fun p hp => br_ne (kAl' p (by first | exact hp | exact .tail _ hp | exact .tail _ (.tail _ hp) | exact .tail _ (.tail _ (.tail _ hp)))) (by omega)))
local macro_rules | `(tactic| walk_at "br enterC") => `(tactic| (refine' code_defC ?k1 ?k2 ?k3 ?k4 ?k5 ?kA ?kF ?kK ?k6 ?k7 ?k8 ?k9 ?kB ?kD ?_ ?c2 ?c3 ?c4; (case kA => exact rfl); (case kF => exact rfl); (case kK => first | assumption | exact rfl); (case k1 => k_asm); (case k2 => k_asm); (case k3 => k_asm); (case k4 => k_asm); (case k5 => k_asm); (case k6 => k_is); (case k7 => k_is); (case k8 => ktr_room); (case k9 => first | exact BindsTo.of_eq rfl | exact binds_K (by k_in) rfl (by k_is) rfl rfl rfl); (case kB => exact rfl); (case kD => decide +kernel); (case c2 => exact rfl); (case c3 => exact rfl); (case c4 => exact rfl); k_whole))
local macro_rules | `(tactic| walk_at "eval ListComp") => `(tactic| (k_here; first
  | ((with_reducible show wpAny _ _ (eval (PySem.Expr.ListComp _ [PySem.Comprehension.mk _ _ [_] _] _ _) _) _ _ _); k_dflt (refine ListComp_TS (F₀ := by k_asm) (by with_unfolding_all rfl) (by decide) (by rfl) (by decide) (by rfl) ?_))
  | ((with_reducible show wpAny _ _ (eval (PySem.Expr.ListComp _ [PySem.Comprehension.mk _ _ [] _] _ _) _) _ _ _); k_dflt (refine ListComp_US (F₀ := by k_asm) (by with_unfolding_all rfl) (by decide) (by rfl) (by decide) (by rfl) ?_))))
local macro_rules | `(tactic| walk_at "br ends") => `(tactic| repeat (first | (dsimp only [StepF, StepW]) | k_unfold))
local macro_rules | `(tactic| walk_at "br enterR") => `(tactic| (refine' kp_rest ?k1 ?k2 ?k3 ?k4 ?k5 ?kA ?kF ?kK ?k6 ?k7 ?k8 ?kV ?kP ?kG ?kB ?_ ?c2 ?c3 ?c4 ?c5; (case kA => exact rfl); (case kF => exact rfl); (case kK => first | assumption | exact rfl); (case k1 => k_asm); (case k2 => k_asm); (case k3 => k_asm); (case k4 => k_asm); (case k5 => k_asm); (case k6 => k_is); (case k7 => k_is); (case k8 => ktr_room); (case kV => first | kl_lit | exact rfl); (case kP => exact rfl); (case kG => exact fun _ => rfl); (case kB => exact fun _ => locs rfl); (case c5 => decide); (case c2 => exact rfl); (case c3 => exact rfl); (case c4 => exact rfl); k_whole))
local macro_rules | `(tactic| walk_at "br enterRC") => `(tactic| (refine' rest_cells ?k1 ?k2 ?k3 ?k4 ?k5 ?kA ?kF ?kK ?k6 ?k7 ?k8 ?kV ?kP ?kG ?kB ?kD ?_ ?c2 ?c3 ?c4; (case kA => exact rfl); (case kF => exact rfl); (case kK => first | assumption | exact rfl); (case k1 => k_asm); (case k2 => k_asm); (case k3 => k_asm); (case k4 => k_asm); (case k5 => k_asm); (case k6 => k_is); (case k7 => k_is); (case k8 => ktr_room); (case kV => kl_lit); (case kP => exact rfl); (case kG => exact fun _ => rfl); (case kB => exact fun _ => rfl); (case kD => decide +kernel); (case c2 => exact rfl); (case c3 => exact rfl); (case c4 => exact rfl); k_whole))
local macro_rules | `(tactic| k_room) => `(tactic| ktr_room)
local macro_rules | `(tactic| k_units) => `(tactic| ktr_units)
local macro_rules | `(tactic| walk_at "callWith ref") => `(tactic| (k_here; (with_reducible show wpAny _ _ (callWith _ (Value.ref _) _ (backTo _ (starEach [Expr.Starred _ _] _)) []) _ _ _); kco_here; k_dflt (refine' inst_S ?k1 ?k2 ?k3 ?k4 ?_; (case k1 => k_asm); (case k2 => k_inst); (case k3 => rfl); (case k4 => k_is); k_whole)))
local macro_rules | `(tactic| walk_at "StarOf ref") => `(tactic| (k_here; k_dflt (refine' star_seq ?k1 ?k2 ?m ?c ?d ?T ?e ?z ?_; (case k1 => k_asm); (case k2 => k_asm); (case m => k_mem); (case c => exact rfl); (case d => exact rfl); (case T => first | exact .inl rfl | exact .inr rfl); (case e => first | exact List.toList_toArray .. | kl_lit); (case z => first | assumption | exact Nat.le_of_ble_eq_true rfl); k_whole); intro h' F' N'; (try k_sweep); try dsimp only [List.nil_append, List.cons_append]))
local macro_rules | `(tactic| walk_at "call builtin:all") => `(tactic| (k_here; (with_reducible show wpAny _ _ (call (Value.builtin "all") [Value.ref _]) _ _ _); k_dflt (refine' all_n ?k1 ?k2 ?k3 ?k4 ?k5 ?k6 ?k7 ?_; (case k1 => k_asm); (case k2 => k_asm); (case k3 => k_mem); (case k4 => exact rfl); (case k5 => assumption); (case k6 => assumption); (case k7 => assumption); k_whole); intro h' tk' F' N'))
local macro_rules | `(tactic| walk_at "call builtin:min") => `(tactic| (k_here; (show wpAny _ _ (call (Value.builtin "min") [Value.ref _] [(PySem.Str.ofString "key", Value.builtin "len")]) _ _ _); k_dflt (refine' min_n ?k1 ?k2 ?k3 ?k4 ?k5 ?k6 ?k7 ?_; (case k1 => k_asm); (case k2 => k_asm); (case k3 => k_mem); (case k4 => exact rfl); (case k5 => assumption); (case k6 => assumption); (case k7 => assumption); k_whole); intro iMin xMin tMin h' tk' hiMin hlMin hMin F' N'))
local macro_rules | `(tactic| walk_at "call type:map") => `(tactic| (k_here; (with_reducible show wpAny _ _ (call (Value.type "map") [Value.builtin "len", Value.ref _]) _ _ _); first
  | (k_dflt (refine' map_tup_n ?k1 ?k2 ?k3 ?_; (case k1 => k_asm); (case k2 => k_asm); (case k3 => k_mem); k_whole); intro it' TI' M' h' hm1 hm2 hm3 hm4 F' N')
  | (k_dflt (refine' map_list_n ?k1 ?k2 ?k3 ?k4 ?k5 ?_; (case k1 => k_asm); (case k2 => k_asm); (case k3 => k_mem); (case k4 => exact rfl); (case k5 => exact rfl); k_whole); intro it' TI' M' h' hm1 hm2 hm3 hm4 F' N')))
local macro_rules | `(tactic| walk_at "call builtin:max") => `(tactic| (k_here; (with_reducible show wpAny _ _ (call (Value.builtin "max") [Value.ref _]) _ _ _); first
  | (k_dflt (refine' max_tup_n ?a1 ?a2 ?a3 ?a4 ?k1 ?k2 ?k3 ?k4 ?k5 ?k6 ?k7 ?_; (case k1 => k_asm); (case k2 => k_asm); (case a1 => assumption); (case a2 => assumption); (case a3 => assumption); (case a4 => assumption); (case k3 => k_mem); (case k4 => exact rfl); (case k5 => assumption); (case k6 => assumption); (case k7 => assumption); k_whole); intro kMax tMax h' tk' hMax hMax0 hMax1 F' N')
  | (k_dflt (refine' max_list_n ?a1 ?a2 ?a3 ?a4 ?k1 ?k2 ?k3 ?k3a ?k3b ?k4 ?k5 ?k6 ?k7 ?_; (case k1 => k_asm); (case k2 => k_asm); (case a1 => assumption); (case a2 => assumption); (case a3 => assumption); (case a4 => assumption); (case k3 => k_mem); (case k3a => exact rfl); (case k3b => exact rfl); (case k4 => exact rfl); (case k5 => assumption); (case k6 => assumption); (case k7 => assumption); k_whole); intro kMax tMax h' tk' hMax hMax0 hMax1 F' N')))
local macro_rules | `(tactic| walk_at "eval Call Attribute") => `(tactic| (k_here; (with_reducible show wpAny _ _ (eval (PySem.Expr.Call (PySem.Expr.Attribute _ _ _) [PySem.Expr.Starred _ _] _ _) _) _ _ _); refine starMeth ?_))
local macro_rules | `(tactic| walk_at "callWith ref") => `(tactic| (k_here; (with_reducible show wpAny _ _ (callWith _ (Value.ref _) _ (backTo _ (starEach [Expr.Starred _ _] _)) []) _ _ _); k_dflt (refine' callWith_SM ?k1 ?k2 ?k3 ?k4 ?_; (case k1 => k_asm); (case k2 => k_asm); (case k3 => k_mem); (case k4 => k_is); k_whole)))
local macro_rules | `(tactic| walk_at "call ref") => `(tactic| (k_here; (with_reducible show wpAny _ _ (call (Value.ref _) _) _ _ _); k_dflt (refine' call_meth (f := .ref 108) ?k1 ?k2 ?_; (case k1 => k_asm); (case k2 => k_mem); k_whole); k_dflt (walk_at "br enterRC"); intro D' g' L' h' tk' cells' lD' FG' F' N' Y' B' X' T' l1; (have lAll := l1); (try k_lt l1); k_cells Y'; (try simp only [List.cons_append, List.nil_append] at N'); (try dsimp only); (try k_lift B'); refine wpAny_noRaise ?_; (try k_fold)))
local macro_rules | `(tactic| walk_at "br mem") => `(tactic| first | assumption | (refine List.Mem.tail _ ?_; walk_at "br mem"))
local macro_rules | `(tactic| k_in) => `(tactic| (refine' Frag.In.keeps ?kinX (Fr.keep ?kinF); (case kinF => k_asm); (case kinX => first | with_reducible assumption | k_asm)))
local macro_rules | `(tactic| k_in) => `(tactic| with_reducible assumption)
-- the walker as at a file's start (open_top turns it to the top's lines)
theorem fresh_sim3 : True := by
  w_top off
  trivial
local macro_rules | `(tactic| walk_at "call ref") => `(tactic| (k_here; (with_reducible show wpAny _ _ (call (Value.ref _) [_, _, _]) _ _ _); kco_here; k_dflt (refine' (lcs3_meet _ _ _ _ _ _ _ _ _ _ _ ?h1).inst ?hI ?hdd ?hs ?hf ?hfn ?k1 ?k2 ?k3 ?k4 ?k5 ?kK ?hp ?hn ?hd ?hu ?_; (case k1 => k_asm); (case k2 => k_asm); (case k3 => k_asm); (case k4 => k_asm); (case k5 => k_asm); (case kK => first | assumption | exact rfl); (case hp => exact True.intro); (case hn => exact List.forall_mem_cons.mpr ⟨by k_mem, List.forall_mem_singleton.mpr (by k_mem)⟩); (case hI => k_inst); (case hdd => exact rfl); (case hs => k_is); (case hf => k_is); (case hfn => k_is); (case h1 => assumption); (case hd => ktr_room); (case hu => ktr_units); k_whole; intro v9 h9 tk9 ho9 F9 N9; obtain ⟨i9, y9, t9, hi9, hm9, hv9⟩ := ho9; subst hv9; (rename (∀ x ∈ (_ : List Str), x.length ≤ 6) => hl0); (have hpl9 := lcs_len hl0 hi9))))
set_option maxHeartbeats 8000000 in
theorem sim3_meet (w : World) (x dx : Addr) (k1 k2 : Tok) (s1 s2 s3 : Str) (t1 t2 t3 : Tok) (h6 : ∀ x ∈ [s1, s2, s3], x.length ≤ 6) :
    MeetC w 28 280 218 [.ref x, Value.str s1 t1, .str s2 t2, .str s3 t3] [(x, instObj 221 dx), (dx, lcsD w k1 k2)] (fun _ => True) (fun v => ∃ i y t, ([s1, s2, s3] : List Str)[i]? = some y ∧ FirstMin [s1, s2, s3] i ∧ v = .int (piece y [s1, s2, s3]).length t) := by
  unfold MeetC
  k_fill
  intro p loose mean mg mb dp un gd cn cs a ccd cl outer A₀ base h₀ L m news s Q E B F X N T hk hpre hneed hd hu hret
  replace N := news_need N hneed
  simp only [List.cons_append, List.nil_append, lcsD] at N
  k_dflt (walk_at "br enterR")
  intro D g L' h₁ l1 FG FL N B X T
  dsimp only
  refine wpAny_noRaise ?_
  k_fold
  k_steps
  rename News h₀ L _ _ => KN
  exact hret _ _ _ ⟨_, _, _, by assumption, by assumption, rfl⟩ (by k_asm) (fun p hp => KN p (by walk_at "br mem"))
end Mine
end

section
open PySem PySem.W PyProof.Rows
set_option maxRecDepth 100000
namespace Mine
local macro_rules | `(tactic| walk_at "br enter") => `(tactic| first
  | (refine' code_def ?k1 ?k2 ?k3 ?k4 ?k5 ?kA ?kF ?kK ?k6 ?k7 ?k8 ?k9 ?kB ?_ ?c2 ?c3 ?c4 ?c5; (case kA => exact rfl); (case kF => exact rfl); (case kK => first | assumption | exact rfl); (case k1 => k_asm); (case k2 => k_asm); (case k3 => k_asm); (case k4 => k_asm); (case k5 => k_asm); (case k6 => k_is); (case k7 => k_is); (case k8 => ktr_room); (case k9 => first | exact BindsTo.of_eq rfl | exact binds_K (by k_in) rfl (by k_is) rfl rfl rfl); (case c5 => decide); (case kB => exact locs rfl); (case c2 => exact rfl); (case c3 => exact rfl); (case c4 => exact rfl); k_whole; intro g' L' h' FG' F' N' B' X' T'; (try dsimp only); (try k_lift B'); refine wpAny_noRaise ?_; (try k_fold))
  | (refine' code_defC ?k1 ?k2 ?k3 ?k4 ?k5 ?kA ?kF ?kK ?k6 ?k7 ?k8 ?k9 ?kB ?kD ?_ ?c2 ?c3 ?c4; (case kA => exact rfl); (case kF => exact rfl); (case kK => first | assumption | exact rfl); (case k1 => k_asm); (case k2 => k_asm); (case k3 => k_asm); (case k4 => k_asm); (case k5 => k_asm); (case k6 => k_is); (case k7 => k_is); (case k8 => ktr_room); (case k9 => first | exact BindsTo.of_eq rfl | exact binds_K (by k_in) rfl (by k_is) rfl rfl rfl); (case kB => exact rfl); (case kD => decide +kernel); (case c2 => exact rfl); (case c3 => exact rfl); (case c4 => exact rfl); k_whole; intro g' L' h' tk' cells' FG' F' N' Y' B' X' T' l1; (have lAll := l1); (try k_lt l1); k_cells Y'; (try simp only [List.cons_append, List.nil_append] at N'); (try dsimp only); (try k_lift B'); refine wpAny_noRaise ?_; (try k_fold)))
local macro_rules | `(tactic| walk_at "exec For") => `(tactic| (k_here; k_dflt (refine' for_F ?_); k_whole))
local macro_rules | `(tactic| walk_at "exec For Name Call cons nil") => `(tactic| (k_here; k_dflt (refine' for_F ?_); k_whole))
local macro_rules | `(tactic| walk_at "exec While BoolOp cons nil") => `(tactic| (k_here; refine Stopped.out ?_))
local macro_rules | `(tactic| walk_at "br frs") => `(tactic| simp only [List.forall_mem_cons, List.not_mem_nil, false_implies, implies_true, and_true])
local macro_rules | `(tactic| k_all) => `(tactic| (rename (∀ p ∈ (_ : List (Addr × Obj)), p.1 < _) => kAl'; exact fun p hp => br_ne (kAl' p (by first | exact hp | exact .tail _ hp | exact .tail _ (.tail _ hp) | exact .tail _ (.tail _ (.tail _ hp)))) (by omega)))
local macro_rules | `(tactic| walk_at "br enterC") => `(tactic| (refine' code_defC ?k1 ?k2 ?k3 ?k4 ?k5 ?kA ?kF ?kK ?k6 ?k7 ?k8 ?k9 ?kB ?kD ?_ ?c2 ?c3 ?c4; (case kA => exact rfl); (case kF => exact rfl); (case kK => first | assumption | exact rfl); (case k1 => k_asm); (case k2 => k_asm); (case k3 => k_asm); (case k4 => k_asm); (case k5 => k_asm); (case k6 => k_is); (case k7 => k_is); (case k8 => ktr_room); (case k9 => first | exact BindsTo.of_eq rfl | exact binds_K (by k_in) rfl (by k_is) rfl rfl rfl); (case kB => exact rfl); (case kD => decide +kernel); (case c2 => exact rfl); (case c3 => exact rfl); (case c4 => exact rfl); k_whole))
local macro_rules | `(tactic| walk_at "eval ListComp") => `(tactic| (k_here; first
  | ((with_reducible show wpAny _ _ (eval (PySem.Expr.ListComp _ [PySem.Comprehension.mk _ _ [_] _] _ _) _) _ _ _); k_dflt (refine ListComp_TS (F₀ := by k_asm) (by with_unfolding_all rfl) (by decide) (by rfl) (by decide) (by rfl) ?_))
  | ((with_reducible show wpAny _ _ (eval (PySem.Expr.ListComp _ [PySem.Comprehension.mk _ _ [] _] _ _) _) _ _ _); k_dflt (refine ListComp_US (F₀ := by k_asm) (by with_unfolding_all rfl) (by decide) (by rfl) (by decide) (by rfl) ?_))))
local macro_rules | `(tactic| walk_at "br ends") => `(tactic| repeat (first | (dsimp only [StepF, StepW]) | k_unfold))
local macro_rules | `(tactic| walk_at "br enterR") => `(tactic| (refine' kp_rest ?k1 ?k2 ?k3 ?k4 ?k5 ?kA ?kF ?kK ?k6 ?k7 ?k8 ?kV ?kP ?kG ?kB ?_ ?c2 ?c3 ?c4 ?c5; (case kA => exact rfl); (case kF => exact rfl); (case kK => first | assumption | exact rfl); (case k1 => k_asm); (case k2 => k_asm); (case k3 => k_asm); (case k4 => k_asm); (case k5 => k_asm); (case k6 => k_is); (case k7 => k_is); (case k8 => ktr_room); (case kV => first | kl_lit | exact rfl); (case kP => exact rfl); (case kG => exact fun _ => rfl); (case kB => exact fun _ => locs rfl); (case c5 => decide); (case c2 => exact rfl); (case c3 => exact rfl); (case c4 => exact rfl); k_whole))
local macro_rules | `(tactic| walk_at "br enterRC") => `(tactic| (refine' rest_cells ?k1 ?k2 ?k3 ?k4 ?k5 ?kA ?kF ?kK ?k6 ?k7 ?k8 ?kV ?kP ?kG ?kB ?kD ?_ ?c2 ?c3 ?c4; (case kA => exact rfl); (case kF => exact rfl); (case kK => first | assumption | exact rfl); (case k1 => k_asm); (case k2 => k_asm); (case k3 => k_asm); (case k4 => k_asm); (case k5 => k_asm); (case k6 => k_is); (case k7 => k_is); (case k8 => ktr_room); (case kV => kl_lit); (case kP => exact rfl); (case kG => exact fun _ => rfl); (case kB => exact fun _ => rfl); (case kD => decide +kernel); (case c2 => exact rfl); (case c3 => exact rfl); (case c4 => exact rfl); k_whole))
local macro_rules | `(tactic| k_room) => `(tactic| ktr_room)
local macro_rules | `(tactic| k_units) => `(tactic| ktr_units)
local macro_rules | `(tactic| walk_at "callWith ref") => `(tactic| (k_here; (with_reducible show wpAny _ _ (callWith _ (Value.ref _) _ (backTo _ (starEach [Expr.Starred _ _] _)) []) _ _ _); kco_here; k_dflt (refine' inst_S ?k1 ?k2 ?k3 ?k4 ?_; (case k1 => k_asm); (case k2 => k_inst); (case k3 => rfl); (case k4 => k_is); k_whole)))
local macro_rules | `(tactic| walk_at "StarOf ref") => `(tactic| (k_here; k_dflt (refine' star_seq ?k1 ?k2 ?m ?c ?d ?T ?e ?z ?_; (case k1 => k_asm); (case k2 => k_asm); (case m => k_mem); (case c => exact rfl); (case d => exact rfl); (case T => first | exact .inl rfl | exact .inr rfl); (case e => first | exact List.toList_toArray .. | kl_lit); (case z => first | assumption | exact Nat.le_of_ble_eq_true rfl); k_whole); intro h' F' N'; (try k_sweep); try dsimp only [List.nil_append, List.cons_append]))
local macro_rules | `(tactic| walk_at "call builtin:all") => `(tactic| (k_here; (with_reducible show wpAny _ _ (call (Value.builtin "all") [Value.ref _]) _ _ _); k_dflt (refine' all_n ?k1 ?k2 ?k3 ?k4 ?k5 ?k6 ?k7 ?_; (case k1 => k_asm); (case k2 => k_asm); (case k3 => k_mem); (case k4 => exact rfl); (case k5 => assumption); (case k6 => assumption); (case k7 => assumption); k_whole); intro h' tk' F' N'))
local macro_rules | `(tactic| walk_at "call builtin:min") => `(tactic| (k_here; (show wpAny _ _ (call (Value.builtin "min") [Value.ref _] [(PySem.Str.ofString "key", Value.builtin "len")]) _ _ _); k_dflt (refine' min_n ?k1 ?k2 ?k3 ?k4 ?k5 ?k6 ?k7 ?_; (case k1 => k_asm); (case k2 => k_asm); (case k3 => k_mem); (case k4 => exact rfl); (case k5 => assumption); (case k6 => assumption); (case k7 => assumption); k_whole); intro iMin xMin tMin h' tk' hiMin hlMin hMin F' N'))
local macro_rules | `(tactic| walk_at "call type:map") => `(tactic| (k_here; (with_reducible show wpAny _ _ (call (Value.type "map") [Value.builtin "len", Value.ref _]) _ _ _); first
  | (k_dflt (refine' map_tup_n ?k1 ?k2 ?k3 ?_; (case k1 => k_asm); (case k2 => k_asm); (case k3 => k_mem); k_whole); intro it' TI' M' h' hm1 hm2 hm3 hm4 F' N')
  | (k_dflt (refine' map_list_n ?k1 ?k2 ?k3 ?k4 ?k5 ?_; (case k1 => k_asm); (case k2 => k_asm); (case k3 => k_mem); (case k4 => exact rfl); (case k5 => exact rfl); k_whole); intro it' TI' M' h' hm1 hm2 hm3 hm4 F' N')))
local macro_rules | `(tactic| walk_at "call builtin:max") => `(tactic| (k_here; (with_reducible show wpAny _ _ (call (Value.builtin "max") [Value.ref _]) _ _ _); first
  | (k_dflt (refine' max_tup_n ?a1 ?a2 ?a3 ?a4 ?k1 ?k2 ?k3 ?k4 ?k5 ?k6 ?k7 ?_; (case k1 => k_asm); (case k2 => k_asm); (case a1 => assumption); (case a2 => assumption); (case a3 => assumption); (case a4 => assumption); (case k3 => k_mem); (case k4 => exact rfl); (case k5 => assumption); (case k6 => assumption); (case k7 => assumption); k_whole); intro kMax tMax h' tk' hMax hMax0 hMax1 F' N')
  | (k_dflt (refine' max_list_n ?a1 ?a2 ?a3 ?a4 ?k1 ?k2 ?k3 ?k3a ?k3b ?k4 ?k5 ?k6 ?k7 ?_; (case k1 => k_asm); (case k2 => k_asm); (case a1 => assumption); (case a2 => assumption); (case a3 => assumption); (case a4 => assumption); (case k3 => k_mem); (case k3a => exact rfl); (case k3b => exact rfl); (case k4 => exact rfl); (case k5 => assumption); (case k6 => assumption); (case k7 => assumption); k_whole); intro kMax tMax h' tk' hMax hMax0 hMax1 F' N')))
local macro_rules | `(tactic| walk_at "eval Call Attribute") => `(tactic| (k_here; (with_reducible show wpAny _ _ (eval (PySem.Expr.Call (PySem.Expr.Attribute _ _ _) [PySem.Expr.Starred _ _] _ _) _) _ _ _); refine starMeth ?_))
local macro_rules | `(tactic| walk_at "callWith ref") => `(tactic| (k_here; (with_reducible show wpAny _ _ (callWith _ (Value.ref _) _ (backTo _ (starEach [Expr.Starred _ _] _)) []) _ _ _); k_dflt (refine' callWith_SM ?k1 ?k2 ?k3 ?k4 ?_; (case k1 => k_asm); (case k2 => k_asm); (case k3 => k_mem); (case k4 => k_is); k_whole)))
local macro_rules | `(tactic| walk_at "call ref") => `(tactic| (k_here; (with_reducible show wpAny _ _ (call (Value.ref _) _) _ _ _); k_dflt (refine' call_meth (f := .ref 108) ?k1 ?k2 ?_; (case k1 => k_asm); (case k2 => k_mem); k_whole); k_dflt (walk_at "br enterRC"); intro D' g' L' h' tk' cells' lD' FG' F' N' Y' B' X' T' l1; (have lAll := l1); (try k_lt l1); k_cells Y'; (try simp only [List.cons_append, List.nil_append] at N'); (try dsimp only); (try k_lift B'); refine wpAny_noRaise ?_; (try k_fold)))
local macro_rules | `(tactic| walk_at "br mem") => `(tactic| first | assumption | (refine List.Mem.tail _ ?_; walk_at "br mem"))
local macro_rules | `(tactic| k_in) => `(tactic| (refine' Frag.In.keeps ?kinX (Fr.keep ?kinF); (case kinF => k_asm); (case kinX => first | with_reducible assumption | k_asm)))
local macro_rules | `(tactic| k_in) => `(tactic| with_reducible assumption)
-- the walker as at a file's start (open_top turns it to the top's lines)
theorem fresh_sim4 : True := by
  w_top off
  trivial
local macro_rules | `(tactic| walk_at "call ref") => `(tactic| (k_here; (with_reducible show wpAny _ _ (call (Value.ref _) [_, _, _, _]) _ _ _); kco_here; k_dflt (refine' (lcs4_meet _ _ _ _ _ _ _ _ _ _ _ _ _ ?h1).inst ?hI ?hdd ?hs ?hf ?hfn ?k1 ?k2 ?k3 ?k4 ?k5 ?kK ?hp ?hn ?hd ?hu ?_; (case k1 => k_asm); (case k2 => k_asm); (case k3 => k_asm); (case k4 => k_asm); (case k5 => k_asm); (case kK => first | assumption | exact rfl); (case hp => exact True.intro); (case hn => exact List.forall_mem_cons.mpr ⟨by k_mem, List.forall_mem_singleton.mpr (by k_mem)⟩); (case hI => k_inst); (case hdd => exact rfl); (case hs => k_is); (case hf => k_is); (case hfn => k_is); (case h1 => assumption); (case hd => ktr_room); (case hu => ktr_units); k_whole; intro v9 h9 tk9 ho9 F9 N9; obtain ⟨i9, y9, t9, hi9, hm9, hv9⟩ := ho9; subst hv9; (rename (∀ x ∈ (_ : List Str), x.length ≤ 6) => hl0); (have hpl9 := lcs_len hl0 hi9))))
set_option maxHeartbeats 8000000 in
theorem sim4_meet (w : World) (x dx : Addr) (k1 k2 : Tok) (s1 s2 s3 s4 : Str) (t1 t2 t3 t4 : Tok) (h6 : ∀ x ∈ [s1, s2, s3, s4], x.length ≤ 6) :
    MeetC w 28 280 218 [.ref x, Value.str s1 t1, .str s2 t2, .str s3 t3, .str s4 t4] [(x, instObj 221 dx), (dx, lcsD w k1 k2)] (fun _ => True) (fun v => ∃ i y t, ([s1, s2, s3, s4] : List Str)[i]? = some y ∧ FirstMin [s1, s2, s3, s4] i ∧ v = .int (piece y [s1, s2, s3, s4]).length t) := by
  unfold MeetC
  k_fill
  intro p loose mean mg mb dp un gd cn cs a ccd cl outer A₀ base h₀ L m news s Q E B F X N T hk hpre hneed hd hu hret
  replace N := news_need N hneed
  simp only [List.cons_append, List.nil_append, lcsD] at N
  k_dflt (walk_at "br enterR")
  intro D g L' h₁ l1 FG FL N B X T
  dsimp only
  refine wpAny_noRaise ?_
  k_fold
  k_steps
  rename News h₀ L _ _ => KN
  exact hret _ _ _ ⟨_, _, _, by assumption, by assumption, rfl⟩ (by k_asm) (fun p hp => KN p (by walk_at "br mem"))
end Mine
end

section
open PySem PySem.W PyProof.Rows
set_option maxRecDepth 100000
namespace Mine
local macro_rules | `(tactic| walk_at "pad") => `(tactic| fail "pad")
local macro_rules | `(tactic| walk_at "pad") => `(tactic| fail "pad")
local macro_rules | `(tactic| walk_at "br enter") => `(tactic| first
  | (refine' code_def ?k1 ?k2 ?k3 ?k4 ?k5 ?kA ?kF ?kK ?k6 ?k7 ?k8 ?k9 ?kB ?_ ?c2 ?c3 ?c4 ?c5; (case kA => exact rfl); (case kF => exact rfl); (case kK => first | assumption | exact rfl); (case k1 => k_asm); (case k2 => k_asm); (case k3 => k_asm); (case k4 => k_asm); (case k5 => k_asm); (case k6 => k_is); (case k7 => k_is); (case k8 => ktr_room); (case k9 => first | exact BindsTo.of_eq rfl | exact binds_K (by k_in) rfl (by k_is) rfl rfl rfl); (case c5 => decide); (case kB => exact locs rfl); (case c2 => exact rfl); (case c3 => exact rfl); (case c4 => exact rfl); k_whole; intro g' L' h' FG' F' N' B' X' T'; (try dsimp only); (try k_lift B'); refine wpAny_noRaise ?_; (try k_fold))
  | (refine' code_defC ?k1 ?k2 ?k3 ?k4 ?k5 ?kA ?kF ?kK ?k6 ?k7 ?k8 ?k9 ?kB ?kD ?_ ?c2 ?c3 ?c4; (case kA => exact rfl); (case kF => exact rfl); (case kK => first | assumption | exact rfl); (case k1 => k_asm); (case k2 => k_asm); (case k3 => k_asm); (case k4 => k_asm); (case k5 => k_asm); (case k6 => k_is); (case k7 => k_is); (case k8 => ktr_room); (case k9 => first | exact BindsTo.of_eq rfl | exact binds_K (by k_in) rfl (by k_is) rfl rfl rfl); (case kB => exact rfl); (case kD => decide +kernel); (case c2 => exact rfl); (case c3 => exact rfl); (case c4 => exact rfl); k_whole; intro g' L' h' tk' cells' FG' F' N' Y' B' X' T' l1; (have lAll := l1); (try k_lt l1); k_cells Y'; (try simp only [List.cons_append, List.nil_append] at N'); (try dsimp only); (try k_lift B'); refine wpAny_noRaise ?_; (try k_fold)))
local macro_rules | `(tactic| walk_at "exec For") => `(tactic| (k_here; k_dflt (refine' for_F ?_); k_whole))
local macro_rules | `(tactic| walk_at "exec For Name Call cons nil") => `(tactic| (k_here; k_dflt (refine' for_F ?_); k_whole))
local macro_rules | `(tactic| walk_at "exec While BoolOp cons nil") => `(tactic| (k_here; refine Stopped.out ?_))
local macro_rules | `(tactic| walk_at "br frs") => `(tactic| simp only [List.forall_mem_cons, List.not_mem_nil, false_implies, implies_true, and_true])
local macro_rules | `(tactic| k_all) => `(tactic| (rename (∀ p ∈ (_ : List (Addr × Obj)), p.1 < _) => kAl'; exact fun p hp => br_ne (kAl' p (by first | exact hp | exact .tail _ hp | exact .tail _ (.tail _ hp) | exact .tail _ (.tail _ (.tail _ hp)))) (by omega)))
local macro_rules | `(tactic| walk_at "br enterC") => `(tactic| (refine' code_defC ?k1 ?k2 ?k3 ?k4 ?k5 ?kA ?kF ?kK ?k6 ?k7 ?k8 ?k9 ?kB ?kD ?_ ?c2 ?c3 ?c4; (case kA => exact rfl); (case kF => exact rfl); (case kK => first | assumption | exact rfl); (case k1 => k_asm); (case k2 => k_asm); (case k3 => k_asm); (case k4 => k_asm); (case k5 => k_asm); (case k6 => k_is); (case k7 => k_is); (case k8 => ktr_room); (case k9 => first | exact BindsTo.of_eq rfl | exact binds_K (by k_in) rfl (by k_is) rfl rfl rfl); (case kB => exact rfl); (case kD => decide +kernel); (case c2 => exact rfl); (case c3 => exact rfl); (case c4 => exact rfl); k_whole))
local macro_rules | `(tactic| walk_at "eval ListComp") => `(tactic| (k_here; first
  | ((with_reducible show wpAny _ _ (eval (PySem.Expr.ListComp _ [PySem.Comprehension.mk _ _ [_] _] _ _) _) _ _ _); k_dflt (refine ListComp_TS (F₀ := by k_asm) (by with_unfolding_all rfl) (by decide) (by rfl) (by decide) (by rfl) ?_))
  | ((with_reducible show wpAny _ _ (eval (PySem.Expr.ListComp _ [PySem.Comprehension.mk _ _ [] _] _ _) _) _ _ _); k_dflt (refine ListComp_US (F₀ := by k_asm) (by with_unfolding_all rfl) (by decide) (by rfl) (by decide) (by rfl) ?_))))
local macro_rules | `(tactic| walk_at "br ends") => `(tactic| repeat (first | (dsimp only [StepF, StepW]) | k_unfold))
local macro_rules | `(tactic| walk_at "br enterR") => `(tactic| (refine' kp_rest ?k1 ?k2 ?k3 ?k4 ?k5 ?kA ?kF ?kK ?k6 ?k7 ?k8 ?kV ?kP ?kG ?kB ?_ ?c2 ?c3 ?c4 ?c5; (case kA => exact rfl); (case kF => exact rfl); (case kK => first | assumption | exact rfl); (case k1 => k_asm); (case k2 => k_asm); (case k3 => k_asm); (case k4 => k_asm); (case k5 => k_asm); (case k6 => k_is); (case k7 => k_is); (case k8 => ktr_room); (case kV => first | kl_lit | exact rfl); (case kP => exact rfl); (case kG => exact fun _ => rfl); (case kB => exact fun _ => locs rfl); (case c5 => decide); (case c2 => exact rfl); (case c3 => exact rfl); (case c4 => exact rfl); k_whole))
local macro_rules | `(tactic| walk_at "br enterRC") => `(tactic| (refine' rest_cells ?k1 ?k2 ?k3 ?k4 ?k5 ?kA ?kF ?kK ?k6 ?k7 ?k8 ?kV ?kP ?kG ?kB ?kD ?_ ?c2 ?c3 ?c4; (case kA => exact rfl); (case kF => exact rfl); (case kK => first | assumption | exact rfl); (case k1 => k_asm); (case k2 => k_asm); (case k3 => k_asm); (case k4 => k_asm); (case k5 => k_asm); (case k6 => k_is); (case k7 => k_is); (case k8 => ktr_room); (case kV => kl_lit); (case kP => exact rfl); (case kG => exact fun _ => rfl); (case kB => exact fun _ => rfl); (case kD => decide +kernel); (case c2 => exact rfl); (case c3 => exact rfl); (case c4 => exact rfl); k_whole))
local macro_rules | `(tactic| k_room) => `(tactic| ktr_room)
local macro_rules | `(tactic| k_units) => `(tactic| ktr_units)
local macro_rules | `(tactic| walk_at "callWith ref") => `(tactic| (k_here; (with_reducible show wpAny _ _ (callWith _ (Value.ref _) _ (backTo _ (starEach [Expr.Starred _ _] _)) []) _ _ _); kco_here; k_dflt (refine' inst_S ?k1 ?k2 ?k3 ?k4 ?_; (case k1 => k_asm); (case k2 => k_inst); (case k3 => rfl); (case k4 => k_is); k_whole)))
local macro_rules | `(tactic| walk_at "StarOf ref") => `(tactic| (k_here; k_dflt (refine' star_seq ?k1 ?k2 ?m ?c ?d ?T ?e ?z ?_; (case k1 => k_asm); (case k2 => k_asm); (case m => k_mem); (case c => exact rfl); (case d => exact rfl); (case T => first | exact .inl rfl | exact .inr rfl); (case e => first | exact List.toList_toArray .. | kl_lit); (case z => first | assumption | exact Nat.le_of_ble_eq_true rfl); k_whole); intro h' F' N'; (try k_sweep); try dsimp only [List.nil_append, List.cons_append]))
local macro_rules | `(tactic| walk_at "call builtin:all") => `(tactic| (k_here; (with_reducible show wpAny _ _ (call (Value.builtin "all") [Value.ref _]) _ _ _); k_dflt (refine' all_n ?k1 ?k2 ?k3 ?k4 ?k5 ?k6 ?k7 ?_; (case k1 => k_asm); (case k2 => k_asm); (case k3 => k_mem); (case k4 => exact rfl); (case k5 => assumption); (case k6 => assumption); (case k7 => assumption); k_whole); intro h' tk' F' N'))
local macro_rules | `(tactic| walk_at "call builtin:min") => `(tactic| (k_here; (show wpAny _ _ (call (Value.builtin "min") [Value.ref _] [(PySem.Str.ofString "key", Value.builtin "len")]) _ _ _); k_dflt (refine' min_n ?k1 ?k2 ?k3 ?k4 ?k5 ?k6 ?k7 ?_; (case k1 => k_asm); (case k2 => k_asm); (case k3 => k_mem); (case k4 => exact rfl); (case k5 => assumption); (case k6 => assumption); (case k7 => assumption); k_whole); intro iMin xMin tMin h' tk' hiMin hlMin hMin F' N'))
local macro_rules | `(tactic| walk_at "call type:map") => `(tactic| (k_here; (with_reducible show wpAny _ _ (call (Value.type "map") [Value.builtin "len", Value.ref _]) _ _ _); first
  | (k_dflt (refine' map_tup_n ?k1 ?k2 ?k3 ?_; (case k1 => k_asm); (case k2 => k_asm); (case k3 => k_mem); k_whole); intro it' TI' M' h' hm1 hm2 hm3 hm4 F' N')
  | (k_dflt (refine' map_list_n ?k1 ?k2 ?k3 ?k4 ?k5 ?_; (case k1 => k_asm); (case k2 => k_asm); (case k3 => k_mem); (case k4 => exact rfl); (case k5 => exact rfl); k_whole); intro it' TI' M' h' hm1 hm2 hm3 hm4 F' N')))
local macro_rules | `(tactic| walk_at "call builtin:max") => `(tactic| (k_here; (with_reducible show wpAny _ _ (call (Value.builtin "max") [Value.ref _]) _ _ _); first
  | (k_dflt (refine' max_tup_n ?a1 ?a2 ?a3 ?a4 ?k1 ?k2 ?k3 ?k4 ?k5 ?k6 ?k7 ?_; (case k1 => k_asm); (case k2 => k_asm); (case a1 => assumption); (case a2 => assumption); (case a3 => assumption); (case a4 => assumption); (case k3 => k_mem); (case k4 => exact rfl); (case k5 => assumption); (case k6 => assumption); (case k7 => assumption); k_whole); intro kMax tMax h' tk' hMax hMax0 hMax1 F' N')
  | (k_dflt (refine' max_list_n ?a1 ?a2 ?a3 ?a4 ?k1 ?k2 ?k3 ?k3a ?k3b ?k4 ?k5 ?k6 ?k7 ?_; (case k1 => k_asm); (case k2 => k_asm); (case a1 => assumption); (case a2 => assumption); (case a3 => assumption); (case a4 => assumption); (case k3 => k_mem); (case k3a => exact rfl); (case k3b => exact rfl); (case k4 => exact rfl); (case k5 => assumption); (case k6 => assumption); (case k7 => assumption); k_whole); intro kMax tMax h' tk' hMax hMax0 hMax1 F' N')))
local macro_rules | `(tactic| walk_at "eval Call Attribute") => `(tactic| (k_here; (with_reducible show wpAny _ _ (eval (PySem.Expr.Call (PySem.Expr.Attribute _ _ _) [PySem.Expr.Starred _ _] _ _) _) _ _ _); refine starMeth ?_))
local macro_rules | `(tactic| walk_at "callWith ref") => `(tactic| (k_here; (with_reducible show wpAny _ _ (callWith _ (Value.ref _) _ (backTo _ (starEach [Expr.Starred _ _] _)) []) _ _ _); k_dflt (refine' callWith_SM ?k1 ?k2 ?k3 ?k4 ?_; (case k1 => k_asm); (case k2 => k_asm); (case k3 => k_mem); (case k4 => k_is); k_whole)))
local macro_rules | `(tactic| walk_at "call ref") => `(tactic| (k_here; (with_reducible show wpAny _ _ (call (Value.ref _) _) _ _ _); k_dflt (refine' call_meth (f := .ref 108) ?k1 ?k2 ?_; (case k1 => k_asm); (case k2 => k_mem); k_whole); k_dflt (walk_at "br enterRC"); intro D' g' L' h' tk' cells' lD' FG' F' N' Y' B' X' T' l1; (have lAll := l1); (try k_lt l1); k_cells Y'; (try simp only [List.cons_append, List.nil_append] at N'); (try dsimp only); (try k_lift B'); refine wpAny_noRaise ?_; (try k_fold)))
local macro_rules | `(tactic| walk_at "br mem") => `(tactic| first | assumption | (refine List.Mem.tail _ ?_; walk_at "br mem"))
local macro_rules | `(tactic| k_in) => `(tactic| (refine' Frag.In.keeps ?kinX (Fr.keep ?kinF); (case kinF => k_asm); (case kinX => first | with_reducible assumption | k_asm)))
local macro_rules | `(tactic| k_in) => `(tactic| with_reducible assumption)
-- the walker as at a file's start (open_top turns it to the top's lines)
theorem fresh_dist2 : True := by
  w_top off
  trivial
local macro_rules | `(tactic| walk_at "getAttr ref") => `(tactic| (k_here; k_dflt (refine' sm_attr ?k1 ?k2 ?k4 ?k5 ?k6 ?k7 ?k9 ?k10 ?k11 ?k12 ?k13 ?k14 ?_; (case k1 => k_asm); (case k2 => k_asm); (case k4 => k_inst); (case k5 => k_is); (case k6 => k_is); (case k7 => k_is); (case k9 => k_is); (case k10 => k_is); (case k11 => decide +kernel); (case k12 => k_get); (case k13 => k_is); (case k14 => k_handed); k_whole)))
local macro_rules | `(tactic| walk_at "call ref") => `(tactic| (k_here; (with_reducible show wpAny _ _ (call (Value.ref _) [_, _]) _ _ _); k_dflt (refine' (sim2_meet _ _ _ _ _ _ _ _ _ ?h1 ?h2).meth ?hq ?k1 ?k2 ?k3 ?k4 ?k5 ?kK ?hp ?hn ?hd ?hu ?_; (case k1 => k_asm); (case k2 => k_asm); (case k3 => k_asm); (case k4 => k_asm); (case k5 => k_asm); (case kK => first | assumption | exact rfl); (case hp => exact True.intro); (case hq => k_mem); (case hn => exact List.forall_mem_cons.mpr ⟨by k_mem, List.forall_mem_singleton.mpr (by k_mem)⟩); (case h1 => assumption); (case h2 => assumption); (case hd => ktr_room); (case hu => ktr_units); k_whole; intro v9 h9 tk9 ho9 F9 N9; obtain ⟨t9, hv9⟩ := ho9; subst hv9)))
local macro_rules | `(tactic| walk_at "call ref") => `(tactic| (k_here; (with_reducible show wpAny _ _ (call (Value.ref 55) _) _ _ _); k_dflt (refine' (maxi2_meet _ _ _ _ _ ?h1).use ?k1 ?k2 ?k3 ?k4 ?k5 ?kK ?hp ?hn ?hd ?hu ?_; (case k1 => k_asm); (case k2 => k_asm); (case k3 => k_asm); (case k4 => k_asm); (case k5 => k_asm); (case kK => first | assumption | exact rfl); (case hp => exact True.intro); (case hn => exact fun _ h => nomatch h); (case h1 => assumption); (case hd => ktr_room); (case hu => ktr_units); k_whole; intro v9 h9 tk9 ho9 F9 N9; obtain ⟨k9, t9, hk9, hk90, hk91, hv9⟩ := ho9; subst hv9)))
set_option maxHeartbeats 8000000 in
theorem dist2_meet (w : World) (x dx : Addr) (k1 k2 : Tok) (s1 s2 : Str) (t1 t2 : Tok) (ha : s1.length ≤ 40) (hb : s2.length ≤ 40) :
    MeetC w 32 320 164 [.ref x, Value.str s1 t1, .str s2 t2] [(x, instObj 221 dx), (dx, lcsD w k1 k2)] (fun _ => True) (fun v => ∃ k t, MaxLen [s1, s2] k ∧ v = .int (k - ((piece s1 [s1, s2]).length : Int)) t) := by
  have hl := br_all2 ha hb
  have hpl := piece_len s1 [s1, s2]
  unfold MeetC
  k_fill
  intro p loose mean mg mb dp un gd cn cs a ccd cl outer A₀ base h₀ L m news s Q E B F X N T hk hpre hneed hd hu hret
  replace N := news_need N hneed
  simp only [List.cons_append, List.nil_append, lcsD] at N
  k_dflt (walk_at "br enterR")
  intro D g L' h₁ l1 FG FL N B X T
  dsimp only
  refine wpAny_noRaise ?_
  k_fold
  k_steps
  rename News h₀ L _ _ => KN
  exact hret _ _ _ ⟨_, _, by assumption, rfl⟩ (by k_asm) (fun p hp => KN p (by walk_at "br mem"))
end Mine
end

section
open PySem PySem.W PyProof.Rows
set_option maxRecDepth 100000
namespace Mine
local macro_rules | `(tactic| walk_at "br enter") => `(tactic| first
  | (refine' code_def ?k1 ?k2 ?k3 ?k4 ?k5 ?kA ?kF ?kK ?k6 ?k7 ?k8 ?k9 ?kB ?_ ?c2 ?c3 ?c4 ?c5; (case kA => exact rfl); (case kF => exact rfl); (case kK => first | assumption | exact rfl); (case k1 => k_asm); (case k2 => k_asm); (case k3 => k_asm); (case k4 => k_asm); (case k5 => k_asm); (case k6 => k_is); (case k7 => k_is); (case k8 => ktr_room); (case k9 => first | exact BindsTo.of_eq rfl | exact binds_K (by k_in) rfl (by k_is) rfl rfl rfl); (case c5 => decide); (case kB => exact locs rfl); (case c2 => exact rfl); (case c3 => exact rfl); (case c4 => exact rfl); k_whole; intro g' L' h' FG' F' N' B' X' T'; (try dsimp only); (try k_lift B'); refine wpAny_noRaise ?_; (try k_fold))
  | (refine' code_defC ?k1 ?k2 ?k3 ?k4 ?k5 ?kA ?kF ?kK ?k6 ?k7 ?k8 ?k9 ?kB ?kD ?_ ?c2 ?c3 ?c4; (case kA => exact rfl); (case kF => exact rfl); (case kK => first | assumption | exact rfl); (case k1 => k_asm); (case k2 => k_asm); (case k3 => k_asm); (case k4 => k_asm); (case k5 => k_asm); (case k6 => k_is); (case k7 => k_is); (case k8 => ktr_room); (case k9 => first | exact BindsTo.of_eq rfl | exact binds_K (by k_in) rfl (by k_is) rfl rfl rfl); (case kB => exact rfl); (case kD => decide +kernel); (case c2 => exact rfl); (case c3 => exact rfl); (case c4 => exact rfl); k_whole; intro g' L' h' tk' cells' FG' F' N' Y' B' X' T' l1; (have lAll := l1); (try k_lt l1); k_cells Y'; (try simp only [List.cons_append, List.nil_append] at N'); (try dsimp only); (try k_lift B'); refine wpAny_noRaise ?_; (try k_fold)))
local macro_rules | `(tactic| walk_at "exec For") => `(tactic| (k_here; k_dflt (refine' for_F ?_); k_whole))
local macro_rules | `(tactic| walk_at "exec For Name Call cons nil") => `(tactic| (k_here; k_dflt (refine' for_F ?_); k_whole))
local macro_rules | `(tactic| walk_at "exec While BoolOp cons nil") => `(tactic| (k_here; refine Stopped.out ?_))
local macro_rules | `(tactic| walk_at "br frs") => `(tactic| simp only [List.forall_mem_cons, List.not_mem_nil, false_implies, implies_true, and_true])
local macro_rules | `(tactic| k_all) => `(tactic| (rename (∀ p ∈ (_ : List (Addr × Obj)), p.1 < _) => kAl'; exact fun p hp => br_ne (kAl' p (by first | exact hp | exact .tail _ hp | exact .tail _ (.tail _ hp) | exact .tail _ (.tail _ (.tail _ hp)))) (by omega)))
local macro_rules | `(tactic| walk_at "br enterC") => `(tactic| (refine' code_defC ?k1 ?k2 ?k3 ?k4 ?k5 ?kA ?kF ?kK ?k6 ?k7 ?k8 ?k9 ?kB ?kD ?_ ?c2 ?c3 ?c4; (case kA => exact rfl); (case kF => exact rfl); (case kK => first | assumption | exact rfl); (case k1 => k_asm); (case k2 => k_asm); (case k3 => k_asm); (case k4 => k_asm); (case k5 => k_asm); (case k6 => k_is); (case k7 => k_is); (case k8 => ktr_room); (case k9 => first | exact BindsTo.of_eq rfl | exact binds_K (by k_in) rfl (by k_is) rfl rfl rfl); (case kB => exact rfl); (case kD => decide +kernel); (case c2 => exact rfl); (case c3 => exact rfl); (case c4 => exact rfl); k_whole))
local macro_rules | `(tactic| walk_at "eval ListComp") => `(tactic| (k_here; first
  | ((with_reducible show wpAny _ _ (eval (PySem.Expr.ListComp _ [PySem.Comprehension.mk _ _ [_] _] _ _) _) _ _ _); k_dflt (refine ListComp_TS (F₀ := by k_asm) (by with_unfolding_all rfl) (by decide) (by rfl) (by decide) (by rfl) ?_))
  | ((with_reducible show wpAny _ _ (eval (PySem.Expr.ListComp _ [PySem.Comprehension.mk _ _ [] _] _ _) _) _ _ _); k_dflt (refine ListComp_US (F₀ := by k_asm) (by with_unfolding_all rfl) (by decide) (by rfl) (by decide) (by rfl) ?_))))
local macro_rules | `(tactic| walk_at "br ends") => `(tactic| repeat (first | (dsimp only [StepF, StepW]) | k_unfold))
local macro_rules | `(tactic| walk_at "br enterR") => `(tactic| (refine' kp_rest ?k1 ?k2 ?k3 ?k4 ?k5 ?kA ?kF ?kK ?k6 ?k7 ?k8 ?kV ?kP ?kG ?kB ?_ ?c2 ?c3 ?c4 ?c5; (case kA => exact rfl); (case kF => exact rfl); (case kK => first | assumption | exact rfl); (case k1 => k_asm); (case k2 => k_asm); (case k3 => k_asm); (case k4 => k_asm); (case k5 => k_asm); (case k6 => k_is); (case k7 => k_is); (case k8 => ktr_room); (case kV => first | kl_lit | exact rfl); (case kP => exact rfl); (case kG => exact fun _ => rfl); (case kB => exact fun _ => locs rfl); (case c5 => decide); (case c2 => exact rfl); (case c3 => exact rfl); (case c4 => exact rfl); k_whole))
local macro_rules | `(tactic| walk_at "br enterRC") => `(tactic| (refine' rest_cells ?k1 ?k2 ?k3 ?k4 ?k5 ?kA ?kF ?kK ?k6 ?k7 ?k8 ?kV ?kP ?kG ?kB ?kD ?_ ?c2 ?c3 ?c4; (case kA => exact rfl); (case kF => exact rfl); (case kK => first | assumption | exact rfl); (case k1 => k_asm); (case k2 => k_asm); (case k3 => k_asm); (case k4 => k_asm); (case k5 => k_asm); (case k6 => k_is); (case k7 => k_is); (case k8 => ktr_room); (case kV => kl_lit); (case kP => exact rfl); (case kG => exact fun _ => rfl); (case kB => exact fun _ => rfl); (case kD => decide +kernel); (case c2 => exact rfl); (case c3 => exact rfl); (case c4 => exact rfl); k_whole))
local macro_rules | `(tactic| k_room) => `(tactic| ktr_room)
local macro_rules | `(tactic| k_units) => `(tactic| ktr_units)
local macro_rules | `(tactic| walk_at "callWith ref") => `(tactic| (k_here; (with_reducible show wpAny _ _ (callWith _ (Value.ref _) _ (backTo _ (starEach [Expr.Starred _ _] _)) []) _ _ _); kco_here; k_dflt (refine' inst_S ?k1 ?k2 ?k3 ?k4 ?_; (case k1 => k_asm); (case k2 => k_inst); (case k3 => rfl); (case k4 => k_is); k_whole)))
local macro_rules | `(tactic| walk_at "StarOf ref") => `(tactic| (k_here; k_dflt (refine' star_seq ?k1 ?k2 ?m ?c ?d ?T ?e ?z ?_; (case k1 => k_asm); (case k2 => k_asm); (case m => k_mem); (case c => exact rfl); (case d => exact rfl); (case T => first | exact .inl rfl | exact .inr rfl); (case e => first | exact List.toList_toArray .. | kl_lit); (case z => first | assumption | exact Nat.le_of_ble_eq_true rfl); k_whole); intro h' F' N'; (try k_sweep); try dsimp only [List.nil_append, List.cons_append]))
local macro_rules | `(tactic| walk_at "call builtin:all") => `(tactic| (k_here; (with_reducible show wpAny _ _ (call (Value.builtin "all") [Value.ref _]) _ _ _); k_dflt (refine' all_n ?k1 ?k2 ?k3 ?k4 ?k5 ?k6 ?k7 ?_; (case k1 => k_asm); (case k2 => k_asm); (case k3 => k_mem); (case k4 => exact rfl); (case k5 => assumption); (case k6 => assumption); (case k7 => assumption); k_whole); intro h' tk' F' N'))
local macro_rules | `(tactic| walk_at "call builtin:min") => `(tactic| (k_here; (show wpAny _ _ (call (Value.builtin "min") [Value.ref _] [(PySem.Str.ofString "key", Value.builtin "len")]) _ _ _); k_dflt (refine' min_n ?k1 ?k2 ?k3 ?k4 ?k5 ?k6 ?k7 ?_; (case k1 => k_asm); (case k2 => k_asm); (case k3 => k_mem); (case k4 => exact rfl); (case k5 => assumption); (case k6 => assumption); (case k7 => assumption); k_whole); intro iMin xMin tMin h' tk' hiMin hlMin hMin F' N'))
local macro_rules | `(tactic| walk_at "call type:map") => `(tactic| (k_here; (with_reducible show wpAny _ _ (call (Value.type "map") [Value.builtin "len", Value.ref _]) _ _ _); first
  | (k_dflt (refine' map_tup_n ?k1 ?k2 ?k3 ?_; (case k1 => k_asm); (case k2 => k_asm); (case k3 => k_mem); k_whole); intro it' TI' M' h' hm1 hm2 hm3 hm4 F' N')
  | (k_dflt (refine' map_list_n ?k1 ?k2 ?k3 ?k4 ?k5 ?_; (case k1 => k_asm); (case k2 => k_asm); (case k3 => k_mem); (case k4 => exact rfl); (case k5 => exact rfl); k_whole); intro it' TI' M' h' hm1 hm2 hm3 hm4 F' N')))
local macro_rules | `(tactic| walk_at "call builtin:max") => `(tactic| (k_here; (with_reducible show wpAny _ _ (call (Value.builtin "max") [Value.ref _]) _ _ _); first
  | (k_dflt (refine' max_tup_n ?a1 ?a2 ?a3 ?a4 ?k1 ?k2 ?k3 ?k4 ?k5 ?k6 ?k7 ?_; (case k1 => k_asm); (case k2 => k_asm); (case a1 => assumption); (case a2 => assumption); (case a3 => assumption); (case a4 => assumption); (case k3 => k_mem); (case k4 => exact rfl); (case k5 => assumption); (case k6 => assumption); (case k7 => assumption); k_whole); intro kMax tMax h' tk' hMax hMax0 hMax1 F' N')
  | (k_dflt (refine' max_list_n ?a1 ?a2 ?a3 ?a4 ?k1 ?k2 ?k3 ?k3a ?k3b ?k4 ?k5 ?k6 ?k7 ?_; (case k1 => k_asm); (case k2 => k_asm); (case a1 => assumption); (case a2 => assumption); (case a3 => assumption); (case a4 => assumption); (case k3 => k_mem); (case k3a => exact rfl); (case k3b => exact rfl); (case k4 => exact rfl); (case k5 => assumption); (case k6 => assumption); (case k7 => assumption); k_whole); intro kMax tMax h' tk' hMax hMax0 hMax1 F' N')))
local macro_rules | `(tactic| walk_at "eval Call Attribute") => `(tactic| (k_here; (with_reducible show wpAny _ _ (eval (PySem.Expr.Call (PySem.Expr.Attribute _ _ _) [PySem.Expr.Starred _ _] _ _) _) _ _ _); refine starMeth ?_))
local macro_rules | `(tactic| walk_at "callWith ref") => `(tactic| (k_here; (with_reducible show wpAny _ _ (callWith _ (Value.ref _) _ (backTo _ (starEach [Expr.Starred _ _] _)) []) _ _ _); k_dflt (refine' callWith_SM ?k1 ?k2 ?k3 ?k4 ?_; (case k1 => k_asm); (case k2 => k_asm); (case k3 => k_mem); (case k4 => k_is); k_whole)))
local macro_rules | `(tactic| walk_at "call ref") => `(tactic| (k_here; (with_reducible show wpAny _ _ (call (Value.ref _) _) _ _ _); k_dflt (refine' call_meth (f := .ref 108) ?k1 ?k2 ?_; (case k1 => k_asm); (case k2 => k_mem); k_whole); k_dflt (walk_at "br enterRC"); intro D' g' L' h' tk' cells' lD' FG' F' N' Y' B' X' T' l1; (have lAll := l1); (try k_lt l1); k_cells Y'; (try simp only [List.cons_append, List.nil_append] at N'); (try dsimp only); (try k_lift B'); refine wpAny_noRaise ?_; (try k_fold)))
local macro_rules | `(tactic| walk_at "br mem") => `(tactic| first | assumption | (refine List.Mem.tail _ ?_; walk_at "br mem"))
local macro_rules | `(tactic| k_in) => `(tactic| (refine' Frag.In.keeps ?kinX (Fr.keep ?kinF); (case kinF => k_asm); (case kinX => first | with_reducible assumption | k_asm)))
local macro_rules | `(tactic| k_in) => `(tactic| with_reducible assumption)
-- the walker as at a file's start (open_top turns it to the top's lines)
theorem fresh_dist3 : True := by
  w_top off
  trivial
local macro_rules | `(tactic| walk_at "getAttr ref") => `(tactic| (k_here; k_dflt (refine' sm_attr ?k1 ?k2 ?k4 ?k5 ?k6 ?k7 ?k9 ?k10 ?k11 ?k12 ?k13 ?k14 ?_; (case k1 => k_asm); (case k2 => k_asm); (case k4 => k_inst); (case k5 => k_is); (case k6 => k_is); (case k7 => k_is); (case k9 => k_is); (case k10 => k_is); (case k11 => decide +kernel); (case k12 => k_get); (case k13 => k_is); (case k14 => k_handed); k_whole)))
local macro_rules | `(tactic| walk_at "call ref") => `(tactic| (k_here; (with_reducible show wpAny _ _ (call (Value.ref _) [_, _, _]) _ _ _); k_dflt (refine' (sim3_meet _ _ _ _ _ _ _ _ _ _ _ ?h1).meth ?hq ?k1 ?k2 ?k3 ?k4 ?k5 ?kK ?hp ?hn ?hd ?hu ?_; (case k1 => k_asm); (case k2 => k_asm); (case k3 => k_asm); (case k4 => k_asm); (case k5 => k_asm); (case kK => first | assumption | exact rfl); (case hp => exact True.intro); (case hq => k_mem); (case hn => exact List.forall_mem_cons.mpr ⟨by k_mem, List.forall_mem_singleton.mpr (by k_mem)⟩); (case h1 => assumption); (case hd => ktr_room); (case hu => ktr_units); k_whole; intro v9 h9 tk9 ho9 F9 N9; obtain ⟨i9, y9, t9, hi9, hm9, hv9⟩ := ho9; subst hv9; (rename (∀ x ∈ (_ : List Str), x.length ≤ 6) => hl0); (have hpl9 := lcs_len hl0 hi9))))
local macro_rules | `(tactic| walk_at "call ref") => `(tactic| (k_here; (with_reducible show wpAny _ _ (call (Value.ref 55) _) _ _ _); k_dflt (refine' (maxi3_meet _ _ _ _ _ _ _ ?h1).use ?k1 ?k2 ?k3 ?k4 ?k5 ?kK ?hp ?hn ?hd ?hu ?_; (case k1 => k_asm); (case k2 => k_asm); (case k3 => k_asm); (case k4 => k_asm); (case k5 => k_asm); (case kK => first | assumption | exact rfl); (case hp => exact True.intro); (case hn => exact fun _ h => nomatch h); (case h1 => assumption); (case hd => ktr_room); (case hu => ktr_units); k_whole; intro v9 h9 tk9 ho9 F9 N9; obtain ⟨k9, t9, hk9, hk90, hk91, hv9⟩ := ho9; subst hv9)))
set_option maxHeartbeats 8000000 in
theorem dist3_meet (w : World) (x dx : Addr) (k1 k2 : Tok) (s1 s2 s3 : Str) (t1 t2 t3 : Tok) (h6 : ∀ x ∈ [s1, s2, s3], x.length ≤ 6) :
    MeetC w 32 320 164 [.ref x, Value.str s1 t1, .str s2 t2, .str s3 t3] [(x, instObj 221 dx), (dx, lcsD w k1 k2)] (fun _ => True) (fun v => ∃ k i y t, MaxLen [s1, s2, s3] k ∧ ([s1, s2, s3] : List Str)[i]? = some y ∧ FirstMin [s1, s2, s3] i ∧ v = .int (k - ((piece y [s1, s2, s3]).length : Int)) t) := by
  have hl : ∀ x ∈ [s1, s2, s3], x.length ≤ 40 := fun x hx => Nat.le_trans (h6 x hx) (by decide)
  unfold MeetC
  k_fill
  intro p loose mean mg mb dp un gd cn cs a ccd cl outer A₀ base h₀ L m news s Q E B F X N T hk hpre hneed hd hu hret
  replace N := news_need N hneed
  simp only [List.cons_append, List.nil_append, lcsD] at N
  k_dflt (walk_at "br enterR")
  intro D g L' h₁ l1 FG FL N B X T
  dsimp only
  refine wpAny_noRaise ?_
  k_fold
  k_steps
  rename News h₀ L _ _ => KN
  exact hret _ _ _ ⟨_, _, _, _, by assumption, by assumption, by assumption, rfl⟩ (by k_asm) (fun p hp => KN p (by walk_at "br mem"))
end Mine
end

section
open PySem PySem.W PyProof.Rows
set_option maxRecDepth 100000
namespace Mine
local macro_rules | `(tactic| walk_at "pad") => `(tactic| fail "pad")
local macro_rules | `(tactic| walk_at "pad") => `(tactic| fail "pad")
local macro_rules | `(tactic| walk_at "pad") => `(tactic| fail "pad")
local macro_rules | `(tactic| walk_at "pad") => `(tactic| fail "pad")
local macro_rules | `(tactic| walk_at "br enter") => `(tactic| first
  | (refine' code_def ?k1 ?k2 ?k3 ?k4 ?k5 ?kA ?kF ?kK ?k6 ?k7 ?k8 ?k9 ?kB ?_ ?c2 ?c3 ?c4 ?c5; (case kA => exact rfl); (case kF => exact rfl); (case kK => first | assumption | exact rfl); (case k1 => k_asm); (case k2 => k_asm); (case k3 => k_asm); (case k4 => k_asm); (case k5 => k_asm); (case k6 => k_is); (case k7 => k_is); (case k8 => ktr_room); (case k9 => first | exact BindsTo.of_eq rfl | exact binds_K (by k_in) rfl (by k_is) rfl rfl rfl); (case c5 => decide); (case kB => exact locs rfl); (case c2 => exact rfl); (case c3 => exact rfl); (case c4 => exact rfl); k_whole; intro g' L' h' FG' F' N' B' X' T'; (try dsimp only); (try k_lift B'); refine wpAny_noRaise ?_; (try k_fold))
  | (refine' code_defC ?k1 ?k2 ?k3 ?k4 ?k5 ?kA ?kF ?kK ?k6 ?k7 ?k8 ?k9 ?kB ?kD ?_ ?c2 ?c3 ?c4; (case kA => exact rfl); (case kF => exact rfl); (case kK => first | assumption | exact rfl); (case k1 => k_asm); (case k2 => k_asm); (case k3 => k_asm); (case k4 => k_asm); (case k5 => k_asm); (case k6 => k_is); (case k7 => k_is); (case k8 => ktr_room); (case k9 => first | exact BindsTo.of_eq rfl | exact binds_K (by k_in) rfl (by k_is) rfl rfl rfl); (case kB => exact rfl); (case kD => decide +kernel); (case c2 => exact rfl); (case c3 => exact rfl); (case c4 => exact rfl); k_whole; intro g' L' h' tk' cells' FG' F' N' Y' B' X' T' l1; (have lAll := l1); (try k_lt l1); k_cells Y'; (try simp only [List.cons_append, List.nil_append] at N'); (try dsimp only); (try k_lift B'); refine wpAny_noRaise ?_; (try k_fold)))
local macro_rules | `(tactic| walk_at "exec For") => `(tactic| (k_here; k_dflt (refine' for_F ?_); k_whole))
local macro_rules | `(tactic| walk_at "exec For Name Call cons nil") => `(tactic| (k_here; k_dflt (refine' for_F ?_); k_whole))
local macro_rules | `(tactic| walk_at "exec While BoolOp cons nil") => `(tactic| (k_here; refine Stopped.out ?_))
local macro_rules | `(tactic| walk_at "br frs") => `(tactic| simp only [List.forall_mem_cons, List.not_mem_nil, false_implies, implies_true, and_true])
local macro_rules | `(tactic| k_all) => `(tactic| (rename (∀ p ∈ (_ : List (Addr × Obj)), p.1 < _) => kAl'; exact fun p hp => br_ne (kAl' p (by first | exact hp | exact .tail _ hp | exact .tail _ (.tail _ hp) | exact .tail _ (.tail _ (.tail _ hp)))) (by omega)))
local macro_rules | `(tactic| walk_at "br enterC") => `(tactic| (refine' code_defC ?k1 ?k2 ?k3 ?k4 ?k5 ?kA ?kF ?kK ?k6 ?k7 ?k8 ?k9 ?kB ?kD ?_ ?c2 ?c3 ?c4; (case kA => exact rfl); (case kF => exact rfl); (case kK => first | assumption | exact rfl); (case k1 => k_asm); (case k2 => k_asm); (case k3 => k_asm); (case k4 => k_asm); (case k5 => k_asm); (case k6 => k_is); (case k7 => k_is); (case k8 => ktr_room); (case k9 => first | exact BindsTo.of_eq rfl | exact binds_K (by k_in) rfl (by k_is) rfl rfl rfl); (case kB => exact rfl); (case kD => decide +kernel); (case c2 => exact rfl); (case c3 => exact rfl); (case c4 => exact rfl); k_whole))
local macro_rules | `(tactic| walk_at "eval ListComp") => `(tactic| (k_here; first
  | ((with_reducible show wpAny _ _ (eval (PySem.Expr.ListComp _ [PySem.Comprehension.mk _ _ [_] _] _ _) _) _ _ _); k_dflt (refine ListComp_TS (F₀ := by k_asm) (by with_unfolding_all rfl) (by decide) (by rfl) (by decide) (by rfl) ?_))
  | ((with_reducible show wpAny _ _ (eval (PySem.Expr.ListComp _ [PySem.Comprehension.mk _ _ [] _] _ _) _) _ _ _); k_dflt (refine ListComp_US (F₀ := by k_asm) (by with_unfolding_all rfl) (by decide) (by rfl) (by decide) (by rfl) ?_))))
local macro_rules | `(tactic| walk_at "br ends") => `(tactic| repeat (first | (dsimp only [StepF, StepW]) | k_unfold))
local macro_rules | `(tactic| walk_at "br enterR") => `(tactic| (refine' kp_rest ?k1 ?k2 ?k3 ?k4 ?k5 ?kA ?kF ?kK ?k6 ?k7 ?k8 ?kV ?kP ?kG ?kB ?_ ?c2 ?c3 ?c4 ?c5; (case kA => exact rfl); (case kF => exact rfl); (case kK => first | assumption | exact rfl); (case k1 => k_asm); (case k2 => k_asm); (case k3 => k_asm); (case k4 => k_asm); (case k5 => k_asm); (case k6 => k_is); (case k7 => k_is); (case k8 => ktr_room); (case kV => first | kl_lit | exact rfl); (case kP => exact rfl); (case kG => exact fun _ => rfl); (case kB => exact fun _ => locs rfl); (case c5 => decide); (case c2 => exact rfl); (case c3 => exact rfl); (case c4 => exact rfl); k_whole))
local macro_rules | `(tactic| walk_at "br enterRC") => `(tactic| (refine' rest_cells ?k1 ?k2 ?k3 ?k4 ?k5 ?kA ?kF ?kK ?k6 ?k7 ?k8 ?kV ?kP ?kG ?kB ?kD ?_ ?c2 ?c3 ?c4; (case kA => exact rfl); (case kF => exact rfl); (case kK => first | assumption | exact rfl); (case k1 => k_asm); (case k2 => k_asm); (case k3 => k_asm); (case k4 => k_asm); (case k5 => k_asm); (case k6 => k_is); (case k7 => k_is); (case k8 => ktr_room); (case kV => kl_lit); (case kP => exact rfl); (case kG => exact fun _ => rfl); (case kB => exact fun _ => rfl); (case kD => decide +kernel); (case c2 => exact rfl); (case c3 => exact rfl); (case c4 => exact rfl); k_whole))
local macro_rules | `(tactic| k_room) => `(tactic| ktr_room)
local macro_rules | `(tactic| k_units) => `(tactic| ktr_units)
local macro_rules | `(tactic| walk_at "callWith ref") => `(tactic| (k_here; (with_reducible show wpAny _ _ (callWith _ (Value.ref _) _ (backTo _ (starEach [Expr.Starred _ _] _)) []) _ _ _); kco_here; k_dflt (refine' inst_S ?k1 ?k2 ?k3 ?k4 ?_; (case k1 => k_asm); (case k2 => k_inst); (case k3 => rfl); (case k4 => k_is); k_whole)))
local macro_rules | `(tactic| walk_at "StarOf ref") => `(tactic| (k_here; k_dflt (refine' star_seq ?k1 ?k2 ?m ?c ?d ?T ?e ?z ?_; (case k1 => k_asm); (case k2 => k_asm); (case m => k_mem); (case c => exact rfl); (case d => exact rfl); (case T => first | exact .inl rfl | exact .inr rfl); (case e => first | exact List.toList_toArray .. | kl_lit); (case z => first | assumption | exact Nat.le_of_ble_eq_true rfl); k_whole); intro h' F' N'; (try k_sweep); try dsimp only [List.nil_append, List.cons_append]))
local macro_rules | `(tactic| walk_at "call builtin:all") => `(tactic| (k_here; (with_reducible show wpAny _ _ (call (Value.builtin "all") [Value.ref _]) _ _ _); k_dflt (refine' all_n ?k1 ?k2 ?k3 ?k4 ?k5 ?k6 ?k7 ?_; (case k1 => k_asm); (case k2 => k_asm); (case k3 => k_mem); (case k4 => exact rfl); (case k5 => assumption); (case k6 => assumption); (case k7 => assumption); k_whole); intro h' tk' F' N'))
local macro_rules | `(tactic| walk_at "call builtin:min") => `(tactic| (k_here; (show wpAny _ _ (call (Value.builtin "min") [Value.ref _] [(PySem.Str.ofString "key", Value.builtin "len")]) _ _ _); k_dflt (refine' min_n ?k1 ?k2 ?k3 ?k4 ?k5 ?k6 ?k7 ?_; (case k1 => k_asm); (case k2 => k_asm); (case k3 => k_mem); (case k4 => exact rfl); (case k5 => assumption); (case k6 => assumption); (case k7 => assumption); k_whole); intro iMin xMin tMin h' tk' hiMin hlMin hMin F' N'))
local macro_rules | `(tactic| walk_at "call type:map") => `(tactic| (k_here; (with_reducible show wpAny _ _ (call (Value.type "map") [Value.builtin "len", Value.ref _]) _ _ _); first
  | (k_dflt (refine' map_tup_n ?k1 ?k2 ?k3 ?_; (case k1 => k_asm); (case k2 => k_asm); (case k3 => k_mem); k_whole); intro it' TI' M' h' hm1 hm2 hm3 hm4 F' N')
  | (k_dflt (refine' map_list_n ?k1 ?k2 ?k3 ?k4 ?k5 ?_; (case k1 => k_asm); (case k2 => k_asm); (case k3 => k_mem); (case k4 => exact rfl); (case k5 => exact rfl); k_whole); intro it' TI' M' h' hm1 hm2 hm3 hm4 F' N')))
local macro_rules | `(tactic| walk_at "call builtin:max") => `(tactic| (k_here; (with_reducible show wpAny _ _ (call (Value.builtin "max") [Value.ref _]) _ _ _); first
  | (k_dflt (refine' max_tup_n ?a1 ?a2 ?a3 ?a4 ?k1 ?k2 ?k3 ?k4 ?k5 ?k6 ?k7 ?_; (case k1 => k_asm); (case k2 => k_asm); (case a1 => assumption); (case a2 => assumption); (case a3 => assumption); (case a4 => assumption); (case k3 => k_mem); (case k4 => exact rfl); (case k5 => assumption); (case k6 => assumption); (case k7 => assumption); k_whole); intro kMax tMax h' tk' hMax hMax0 hMax1 F' N')
  | (k_dflt (refine' max_list_n ?a1 ?a2 ?a3 ?a4 ?k1 ?k2 ?k3 ?k3a ?k3b ?k4 ?k5 ?k6 ?k7 ?_; (case k1 => k_asm); (case k2 => k_asm); (case a1 => assumption); (case a2 => assumption); (case a3 => assumption); (case a4 => assumption); (case k3 => k_mem); (case k3a => exact rfl); (case k3b => exact rfl); (case k4 => exact rfl); (case k5 => assumption); (case k6 => assumption); (case k7 => assumption); k_whole); intro kMax tMax h' tk' hMax hMax0 hMax1 F' N')))
local macro_rules | `(tactic| walk_at "eval Call Attribute") => `(tactic| (k_here; (with_reducible show wpAny _ _ (eval (PySem.Expr.Call (PySem.Expr.Attribute _ _ _) [PySem.Expr.Starred _ _] _ _) _) _ _ _); refine starMeth ?_))
local macro_rules | `(tactic| walk_at "callWith ref") => `(tactic| (k_here; (with_reducible show wpAny _ _ (callWith _ (Value.ref _) _ (backTo _ (starEach [Expr.Starred _ _] _)) []) _ _ _); k_dflt (refine' callWith_SM ?k1 ?k2 ?k3 ?k4 ?_; (case k1 => k_asm); (case k2 => k_asm); (case k3 => k_mem); (case k4 => k_is); k_whole)))
local macro_rules | `(tactic| walk_at "call ref") => `(tactic| (k_here; (with_reducible show wpAny _ _ (call (Value.ref _) _) _ _ _); k_dflt (refine' call_meth (f := .ref 108) ?k1 ?k2 ?_; (case k1 => k_asm); (case k2 => k_mem); k_whole); k_dflt (walk_at "br enterRC"); intro D' g' L' h' tk' cells' lD' FG' F' N' Y' B' X' T' l1; (have lAll := l1); (try k_lt l1); k_cells Y'; (try simp only [List.cons_append, List.nil_append] at N'); (try dsimp only); (try k_lift B'); refine wpAny_noRaise ?_; (try k_fold)))
local macro_rules | `(tactic| walk_at "br mem") => `(tactic| first | assumption | (refine List.Mem.tail _ ?_; walk_at "br mem"))
local macro_rules | `(tactic| k_in) => `(tactic| (refine' Frag.In.keeps ?kinX (Fr.keep ?kinF); (case kinF => k_asm); (case kinX => first | with_reducible assumption | k_asm)))
local macro_rules | `(tactic| k_in) => `(tactic| with_reducible assumption)
-- the walker as at a file's start (open_top turns it to the top's lines)
theorem fresh_dist4 : True := by
  w_top off
  trivial
local macro_rules | `(tactic| walk_at "getAttr ref") => `(tactic| (k_here; k_dflt (refine' sm_attr ?k1 ?k2 ?k4 ?k5 ?k6 ?k7 ?k9 ?k10 ?k11 ?k12 ?k13 ?k14 ?_; (case k1 => k_asm); (case k2 => k_asm); (case k4 => k_inst); (case k5 => k_is); (case k6 => k_is); (case k7 => k_is); (case k9 => k_is); (case k10 => k_is); (case k11 => decide +kernel); (case k12 => k_get); (case k13 => k_is); (case k14 => k_handed); k_whole)))
local macro_rules | `(tactic| walk_at "call ref") => `(tactic| (k_here; (with_reducible show wpAny _ _ (call (Value.ref _) [_, _, _, _]) _ _ _); k_dflt (refine' (sim4_meet _ _ _ _ _ _ _ _ _ _ _ _ _ ?h1).meth ?hq ?k1 ?k2 ?k3 ?k4 ?k5 ?kK ?hp ?hn ?hd ?hu ?_; (case k1 => k_asm); (case k2 => k_asm); (case k3 => k_asm); (case k4 => k_asm); (case k5 => k_asm); (case kK => first | assumption | exact rfl); (case hp => exact True.intro); (case hq => k_mem); (case hn => exact List.forall_mem_cons.mpr ⟨by k_mem, List.forall_mem_singleton.mpr (by k_mem)⟩); (case h1 => assumption); (case hd => ktr_room); (case hu => ktr_units); k_whole; intro v9 h9 tk9 ho9 F9 N9; obtain ⟨i9, y9, t9, hi9, hm9, hv9⟩ := ho9; subst hv9; (rename (∀ x ∈ (_ : List Str), x.length ≤ 6) => hl0); (have hpl9 := lcs_len hl0 hi9))))
local macro_rules | `(tactic| walk_at "call ref") => `(tactic| (k_here; (with_reducible show wpAny _ _ (call (Value.ref 55) _) _ _ _); k_dflt (refine' (maxi4_meet _ _ _ _ _ _ _ _ _ ?h1).use ?k1 ?k2 ?k3 ?k4 ?k5 ?kK ?hp ?hn ?hd ?hu ?_; (case k1 => k_asm); (case k2 => k_asm); (case k3 => k_asm); (case k4 => k_asm); (case k5 => k_asm); (case kK => first | assumption | exact rfl); (case hp => exact True.intro); (case hn => exact fun _ h => nomatch h); (case h1 => assumption); (case hd => ktr_room); (case hu => ktr_units); k_whole; intro v9 h9 tk9 ho9 F9 N9; obtain ⟨k9, t9, hk9, hk90, hk91, hv9⟩ := ho9; subst hv9)))
set_option maxHeartbeats 8000000 in
theorem dist4_meet (w : World) (x dx : Addr) (k1 k2 : Tok) (s1 s2 s3 s4 : Str) (t1 t2 t3 t4 : Tok) (h6 : ∀ x ∈ [s1, s2, s3, s4], x.length ≤ 6) :
    MeetC w 32 320 164 [.ref x, Value.str s1 t1, .str s2 t2, .str s3 t3, .str s4 t4] [(x, instObj 221 dx), (dx, lcsD w k1 k2)] (fun _ => True) (fun v => ∃ k i y t, MaxLen [s1, s2, s3, s4] k ∧ ([s1, s2, s3, s4] : List Str)[i]? = some y ∧ FirstMin [s1, s2, s3, s4] i ∧ v = .int (k - ((piece y [s1, s2, s3, s4]).length : Int)) t) := by
  have hl : ∀ x ∈ [s1, s2, s3, s4], x.length ≤ 40 := fun x hx => Nat.le_trans (h6 x hx) (by decide)
  unfold MeetC
  k_fill
  intro p loose mean mg mb dp un gd cn cs a ccd cl outer A₀ base h₀ L m news s Q E B F X N T hk hpre hneed hd hu hret
  replace N := news_need N hneed
  simp only [List.cons_append, List.nil_append, lcsD] at N
  k_dflt (walk_at "br enterR")
  intro D g L' h₁ l1 FG FL N B X T
  dsimp only
  refine wpAny_noRaise ?_
  k_fold
  k_steps
  rename News h₀ L _ _ => KN
  exact hret _ _ _ ⟨_, _, _, _, by assumption, by assumption, by assumption, rfl⟩ (by k_asm) (fun p hp => KN p (by walk_at "br mem"))
end Mine
end

section
open PySem PySem.W PyProof.Rows
set_option maxRecDepth 100000
namespace Mine
local macro_rules | `(tactic| walk_at "pad") => `(tactic| fail "pad")
local macro_rules | `(tactic| walk_at "pad") => `(tactic| fail "pad")
local macro_rules | `(tactic| walk_at "pad") => `(tactic| fail "pad")
local macro_rules | `(tactic| walk_at "pad") => `(tactic| fail "pad")
local macro_rules | `(tactic| walk_at "pad") => `(tactic| fail "pad")
local macro_rules | `(tactic| walk_at "pad") => `(tactic| fail "pad")
local macro_rules | `(tactic| walk_at "pad") => `(tactic| fail "pad")
local macro_rules | `(tactic| walk_at "pad") => `(tactic| fail "pad")
local macro_rules | `(tactic| walk_at "br enter") => `(tactic| first
  | (refine' code_def ?k1 ?k2 ?k3 ?k4 ?k5 ?kA ?kF ?kK ?k6 ?k7 ?k8 ?k9 ?kB ?_ ?c2 ?c3 ?c4 ?c5; (case kA => exact rfl); (case kF => exact rfl); (case kK => first | assumption | exact rfl); (case k1 => k_asm); (case k2 => k_asm); (case k3 => k_asm); (case k4 => k_asm); (case k5 => k_asm); (case k6 => k_is); (case k7 => k_is); (case k8 => ktr_room); (case k9 => first | exact BindsTo.of_eq rfl | exact binds_K (by k_in) rfl (by k_is) rfl rfl rfl); (case c5 => decide); (case kB => exact locs rfl); (case c2 => exact rfl); (case c3 => exact rfl); (case c4 => exact rfl); k_whole; intro g' L' h' FG' F' N' B' X' T'; (try dsimp only); (try k_lift B'); refine wpAny_noRaise ?_; (try k_fold))
  | (refine' code_defC ?k1 ?k2 ?k3 ?k4 ?k5 ?kA ?kF ?kK ?k6 ?k7 ?k8 ?k9 ?kB ?kD ?_ ?c2 ?c3 ?c4; (case kA => exact rfl); (case kF => exact rfl); (case kK => first | assumption | exact rfl); (case k1 => k_asm); (case k2 => k_asm); (case k3 => k_asm); (case k4 => k_asm); (case k5 => k_asm); (case k6 => k_is); (case k7 => k_is); (case k8 => ktr_room); (case k9 => first | exact BindsTo.of_eq rfl | exact binds_K (by k_in) rfl (by k_is) rfl rfl rfl); (case kB => exact rfl); (case kD => decide +kernel); (case c2 => exact rfl); (case c3 => exact rfl); (case c4 => exact rfl); k_whole; intro g' L' h' tk' cells' FG' F' N' Y' B' X' T' l1; (have lAll := l1); (try k_lt l1); k_cells Y'; (try simp only [List.cons_append, List.nil_append] at N'); (try dsimp only); (try k_lift B'); refine wpAny_noRaise ?_; (try k_fold)))
local macro_rules | `(tactic| walk_at "exec For") => `(tactic| (k_here; k_dflt (refine' for_F ?_); k_whole))
local macro_rules | `(tactic| walk_at "exec For Name Call cons nil") => `(tactic| (k_here; k_dflt (refine' for_F ?_); k_whole))
local macro_rules | `(tactic| walk_at "exec While BoolOp cons nil") => `(tactic| (k_here; refine Stopped.out ?_))
local macro_rules | `(tactic| walk_at "br frs") => `(tactic| simp only [List.forall_mem_cons, List.not_mem_nil, false_implies, implies_true, and_true])
local macro_rules | `(tactic| k_all) => `(tactic| (rename (∀ p ∈ (_ : List (Addr × Obj)), p.1 < _) => kAl'; exact fun p hp => br_ne (kAl' p (by first | exact hp | exact .tail _ hp | exact .tail _ (.tail _ hp) | exact .tail _ (.tail _ (.tail _ hp)))) (by omega)))
local macro_rules | `(tactic| walk_at "br enterC") => `(tactic| (refine' code_defC ?k1 ?k2 ?k3 ?k4 ?k5 ?kA ?kF ?kK ?k6 ?k7 ?k8 ?k9 ?kB ?kD ?_ ?c2 ?c3 ?c4; (case kA => exact rfl); (case kF => exact rfl); (case kK => first | assumption | exact rfl); (case k1 => k_asm); (case k2 => k_asm); (case k3 => k_asm); (case k4 => k_asm); (case k5 => k_asm); (case k6 => k_is); (case k7 => k_is); (case k8 => ktr_room); (case k9 => first | exact BindsTo.of_eq rfl | exact binds_K (by k_in) rfl (by k_is) rfl rfl rfl); (case kB => exact rfl); (case kD => decide +kernel); (case c2 => exact rfl); (case c3 => exact rfl); (case c4 => exact rfl); k_whole))
local macro_rules | `(tactic| walk_at "eval ListComp") => `(tactic| (k_here; first
  | ((with_reducible show wpAny _ _ (eval (PySem.Expr.ListComp _ [PySem.Comprehension.mk _ _ [_] _] _ _) _) _ _ _); k_dflt (refine ListComp_TS (F₀ := by k_asm) (by with_unfolding_all rfl) (by decide) (by rfl) (by decide) (by rfl) ?_))
  | ((with_reducible show wpAny _ _ (eval (PySem.Expr.ListComp _ [PySem.Comprehension.mk _ _ [] _] _ _) _) _ _ _); k_dflt (refine ListComp_US (F₀ := by k_asm) (by with_unfolding_all rfl) (by decide) (by rfl) (by decide) (by rfl) ?_))))
local macro_rules | `(tactic| walk_at "br ends") => `(tactic| repeat (first | (dsimp only [StepF, StepW]) | k_unfold))
local macro_rules | `(tactic| walk_at "br enterR") => `(tactic| (refine' kp_rest ?k1 ?k2 ?k3 ?k4 ?k5 ?kA ?kF ?kK ?k6 ?k7 ?k8 ?kV ?kP ?kG ?kB ?_ ?c2 ?c3 ?c4 ?c5; (case kA => exact rfl); (case kF => exact rfl); (case kK => first | assumption | exact rfl); (case k1 => k_asm); (case k2 => k_asm); (case k3 => k_asm); (case k4 => k_asm); (case k5 => k_asm); (case k6 => k_is); (case k7 => k_is); (case k8 => ktr_room); (case kV => first | kl_lit | exact rfl); (case kP => exact rfl); (case kG => exact fun _ => rfl); (case kB => exact fun _ => locs rfl); (case c5 => decide); (case c2 => exact rfl); (case c3 => exact rfl); (case c4 => exact rfl); k_whole))
local macro_rules | `(tactic| walk_at "br enterRC") => `(tactic| (refine' rest_cells ?k1 ?k2 ?k3 ?k4 ?k5 ?kA ?kF ?kK ?k6 ?k7 ?k8 ?kV ?kP ?kG ?kB ?kD ?_ ?c2 ?c3 ?c4; (case kA => exact rfl); (case kF => exact rfl); (case kK => first | assumption | exact rfl); (case k1 => k_asm); (case k2 => k_asm); (case k3 => k_asm); (case k4 => k_asm); (case k5 => k_asm); (case k6 => k_is); (case k7 => k_is); (case k8 => ktr_room); (case kV => kl_lit); (case kP => exact rfl); (case kG => exact fun _ => rfl); (case kB => exact fun _ => rfl); (case kD => decide +kernel); (case c2 => exact rfl); (case c3 => exact rfl); (case c4 => exact rfl); k_whole))
local macro_rules | `(tactic| k_room) => `(tactic| ktr_room)
local macro_rules | `(tactic| k_units) => `(tactic| ktr_units)
local macro_rules | `(tactic| walk_at "callWith ref") => `(tactic| (k_here; (with_reducible show wpAny _ _ (callWith _ (Value.ref _) _ (backTo _ (starEach [Expr.Starred _ _] _)) []) _ _ _); kco_here; k_dflt (refine' inst_S ?k1 ?k2 ?k3 ?k4 ?_; (case k1 => k_asm); (case k2 => k_inst); (case k3 => rfl); (case k4 => k_is); k_whole)))
local macro_rules | `(tactic| walk_at "StarOf ref") => `(tactic| (k_here; k_dflt (refine' star_seq ?k1 ?k2 ?m ?c ?d ?T ?e ?z ?_; (case k1 => k_asm); (case k2 => k_asm); (case m => k_mem); (case c => exact rfl); (case d => exact rfl); (case T => first | exact .inl rfl | exact .inr rfl); (case e => first | exact List.toList_toArray .. | kl_lit); (case z => first | assumption | exact Nat.le_of_ble_eq_true rfl); k_whole); intro h' F' N'; (try k_sweep); try dsimp only [List.nil_append, List.cons_append]))
local macro_rules | `(tactic| walk_at "call builtin:all") => `(tactic| (k_here; (with_reducible show wpAny _ _ (call (Value.builtin "all") [Value.ref _]) _ _ _); k_dflt (refine' all_n ?k1 ?k2 ?k3 ?k4 ?k5 ?k6 ?k7 ?_; (case k1 => k_asm); (case k2 => k_asm); (case k3 => k_mem); (case k4 => exact rfl); (case k5 => assumption); (case k6 => assumption); (case k7 => assumption); k_whole); intro h' tk' F' N'))
local macro_rules | `(tactic| walk_at "call builtin:min") => `(tactic| (k_here; (show wpAny _ _ (call (Value.builtin "min") [Value.ref _] [(PySem.Str.ofString "key", Value.builtin "len")]) _ _ _); k_dflt (refine' min_n ?k1 ?k2 ?k3 ?k4 ?k5 ?k6 ?k7 ?_; (case k1 => k_asm); (case k2 => k_asm); (case k3 => k_mem); (case k4 => exact rfl); (case k5 => assumption); (case k6 => assumption); (case k7 => assumption); k_whole); intro iMin xMin tMin h' tk' hiMin hlMin hMin F' N'))
local macro_rules | `(tactic| walk_at "call type:map") => `(tactic| (k_here; (with_reducible show wpAny _ _ (call (Value.type "map") [Value.builtin "len", Value.ref _]) _ _ _); first
  | (k_dflt (refine' map_tup_n ?k1 ?k2 ?k3 ?_; (case k1 => k_asm); (case k2 => k_asm); (case k3 => k_mem); k_whole); intro it' TI' M' h' hm1 hm2 hm3 hm4 F' N')
  | (k_dflt (refine' map_list_n ?k1 ?k2 ?k3 ?k4 ?k5 ?_; (case k1 => k_asm); (case k2 => k_asm); (case k3 => k_mem); (case k4 => exact rfl); (case k5 => exact rfl); k_whole); intro it' TI' M' h' hm1 hm2 hm3 hm4 F' N')))
local macro_rules | `(tactic| walk_at "call builtin:max") => `(tactic| (k_here; (with_reducible show wpAny _ _ (call (Value.builtin "max") [Value.ref _]) _ _ _); first
  | (k_dflt (refine' max_tup_n ?a1 ?a2 ?a3 ?a4 ?k1 ?k2 ?k3 ?k4 ?k5 ?k6 ?k7 ?_; (case k1 => k_asm); (case k2 => k_asm); (case a1 => assumption); (case a2 => assumption); (case a3 => assumption); (case a4 => assumption); (case k3 => k_mem); (case k4 => exact rfl); (case k5 => assumption); (case k6 => assumption); (case k7 => assumption); k_whole); intro kMax tMax h' tk' hMax hMax0 hMax1 F' N')
  | (k_dflt (refine' max_list_n ?a1 ?a2 ?a3 ?a4 ?k1 ?k2 ?k3 ?k3a ?k3b ?k4 ?k5 ?k6 ?k7 ?_; (case k1 => k_asm); (case k2 => k_asm); (case a1 => assumption); (case a2 => assumption); (case a3 => assumption); (case a4 => assumption); (case k3 => k_mem); (case k3a => exact rfl); (case k3b => exact rfl); (case k4 => exact rfl); (case k5 => assumption); (case k6 => assumption); (case k7 => assumption); k_whole); intro kMax tMax h' tk' hMax hMax0 hMax1 F' N')))
local macro_rules | `(tactic| walk_at "eval Call Attribute") => `(tactic| (k_here; (with_reducible show wpAny _ _ (eval (PySem.Expr.Call (PySem.Expr.Attribute _ _ _) [PySem.Expr.Starred _ _] _ _) _) _ _ _); refine starMeth ?_))
local macro_rules | `(tactic| walk_at "callWith ref") => `(tactic| (k_here; (with_reducible show wpAny _ _ (callWith _ (Value.ref _) _ (backTo _ (starEach [Expr.Starred _ _] _)) []) _ _ _); k_dflt (refine' callWith_SM ?k1 ?k2 ?k3 ?k4 ?_; (case k1 => k_asm); (case k2 => k_asm); (case k3 => k_mem); (case k4 => k_is); k_whole)))
local macro_rules | `(tactic| walk_at "call ref") => `(tactic| (k_here; (with_reducible show wpAny _ _ (call (Value.ref _) _) _ _ _); k_dflt (refine' call_meth (f := .ref 108) ?k1 ?k2 ?_; (case k1 => k_asm); (case k2 => k_mem); k_whole); k_dflt (walk_at "br enterRC"); intro D' g' L' h' tk' cells' lD' FG' F' N' Y' B' X' T' l1; (have lAll := l1); (try k_lt l1); k_cells Y'; (try simp only [List.cons_append, List.nil_append] at N'); (try dsimp only); (try k_lift B'); refine wpAny_noRaise ?_; (try k_fold)))
local macro_rules | `(tactic| walk_at "br mem") => `(tactic| first | assumption | (refine List.Mem.tail _ ?_; walk_at "br mem"))
local macro_rules | `(tactic| k_in) => `(tactic| (refine' Frag.In.keeps ?kinX (Fr.keep ?kinF); (case kinF => k_asm); (case kinX => first | with_reducible assumption | k_asm)))
local macro_rules | `(tactic| k_in) => `(tactic| with_reducible assumption)
-- the walker as at a file's start (open_top turns it to the top's lines)
theorem fresh_law2 : True := by
  w_top off
  trivial
local macro_rules | `(tactic| walk_at "exec Assign cons ListComp") => `(tactic| (k_here; k_dflt (refine wpAny_Assign_Name ?_)))
local macro_rules | `(tactic| walk_at "call ref") => `(tactic| (k_here; (with_reducible show wpAny _ _ (call (Value.ref 261) _) _ _ _); k_dflt (refine' (at_meet _ _ _ _ _ _ _ _ ?h0 ?h1 ?h2).use ?k1 ?k2 ?k3 ?k4 ?k5 ?kK ?hp ?hn ?hd ?hu ?_; (case k1 => k_asm); (case k2 => k_asm); (case k3 => k_asm); (case k4 => k_asm); (case k5 => k_asm); (case kK => first | with_reducible assumption | exact rfl); (case h2 => with_reducible assumption); (case h1 => omega); (case hp => with_reducible assumption); (case h0 => omega); (case hn => exact fun _ h => nomatch h); (case hd => ktr_room); (case hu => ktr_units); k_whole; intro v9 h9 tk9 ho9 F9 N9; obtain ⟨i9, t9, hv9⟩ := ho9; subst hv9)))
local macro_rules | `(tactic| walk_at "call ref") => `(tactic| (k_here; (with_reducible show wpAny _ _ (call (Value.ref 266) _) _ _ _); k_dflt (refine' (word_meet _ _ _ _ _ _ _ _ _ _ ?h1 ?h2 ?h3 ?h4 ?h5 ?h6).use ?k1 ?k2 ?k3 ?k4 ?k5 ?kK ?hp ?hn ?hd ?hu ?_; (case k1 => k_asm); (case k2 => k_asm); (case k3 => k_asm); (case k4 => k_asm); (case k5 => k_asm); (case kK => first | with_reducible assumption | exact rfl); (case h6 => with_reducible assumption); (case h5 => omega); (case hp => with_reducible assumption); (case h1 => omega); (case h2 => omega); (case h3 => omega); (case h4 => omega); (case hn => exact fun _ h => nomatch h); (case hd => ktr_room); (case hu => ktr_units); k_whole; intro v9 h9 tk9 ho9 F9 N9; obtain ⟨x9, t9, hv9, hx6, hx120⟩ := ho9; subst hv9)))
structure Hid (P : Prop) : Prop where
  out : P
theorem lcs2_len {v : Value} {a : Str} {ws : List Str} (_h : (fun v => ∃ t, v = Value.str (piece a ws) t) v) : (piece a ws).length ≤ a.length := piece_len a ws
theorem lawp_len {v : Value} {a : Str} {ws : List Str} (_h : (fun v => ∃ t, v = Value.str (piece a ws) t) v) : (piece a ws).length ≤ a.length := piece_len a ws
theorem lcs2E_meet (w : World) (x dx : Addr) (k1 k2 : Tok) (sa : Str) (t t2 : Tok) (ha : sa.length ≤ 40) :
    MeetC w 10 80 211 [.ref x, .str sa t, .str (Str.ofString "") t2] [(x, instObj 221 dx), (dx, lcsD w k1 k2)] (fun _ => True) (fun v => ∃ t, v = .str (Str.ofString "") t) := by
  have H := lcs2_meet w x dx k1 k2 sa (Str.ofString "") t t2 ha (by decide +kernel)
  rw [piece_none] at H
  exact H
theorem slice2_le (x : Str) : (Txt.slice x none (some 2)).length ≤ x.length := PyProof.Txt.length_slice_le x _ _
theorem lawpieceD_meet (w : World) (lw : Addr) (k : Nat) (vs : List Value) (f : Str) (ws : List Str) (hvs : StrsAre vs (f :: ws)) (hl : ∀ x ∈ f :: ws, x.length ≤ 40) (hn : ws.length ≤ 10) {i : Nat} (hi : ws[i]? = some f) :
    Meet w 1 8 271 [.ref lw] [(lw, listOf vs.toArray k)] (fun _ => True) (fun v => ∃ t, v = .str (piece f ws) t) := by
  have H := lawpiece_meet w lw k vs f ws hvs hl hn
  rw [piece_dup hi] at H
  exact H
theorem lcs2S_meet (w : World) (x dx : Addr) (k1 k2 : Tok) (sa sb : Str) (t t2 : Tok) (ha : sa.length ≤ 6) (hb : sb.length ≤ 6) :
    MeetC w 10 80 211 [.ref x, .str sa t, .str (Txt.slice sb none (some 2) ++ sa ++ sb) t2] [(x, instObj 221 dx), (dx, lcsD w k1 k2)] (fun _ => True) (fun v => ∃ t, v = .str sa t) := by
  have := slice2_le sb
  have H := lcs2_meet w x dx k1 k2 sa (Txt.slice sb none (some 2) ++ sa ++ sb) t t2 (by omega) (by rw [Str.length_append, Str.length_append]; omega)
  rw [piece_mid] at H
  exact H
theorem lcs2X_meet (w : World) (x dx : Addr) (k1 k2 : Tok) (sa : Str) (t t2 : Tok) (ha : sa.length ≤ 6) (hx : 120 ∉ sa.cps.toList) :
    MeetC w 10 80 211 [.ref x, .str (Str.ofString "x" ++ sa) t, .str (sa ++ Str.ofString "y") t2] [(x, instObj 221 dx), (dx, lcsD w k1 k2)] (fun _ => True) (fun v => ∃ t, v = .str sa t) := by
  have lx : (Str.ofString "x").length = 1 := by decide +kernel
  have ly : (Str.ofString "y").length = 1 := by decide +kernel
  have H := lcs2_meet w x dx k1 k2 (Str.ofString "x" ++ sa) (sa ++ Str.ofString "y") t t2 (by rw [Str.length_append]; omega) (by rw [Str.length_append]; omega)
  rw [piece_xy sa hx] at H
  exact H
theorem fmod3 (i : Int) : ∃ n : Nat, 2 + i.fmod 3 = (n : Int) ∧ 2 ≤ n ∧ n ≤ 4 := by
  have a := fmod_lo i (n := 3) (by decide)
  have b := fmod_hi i (n := 3) (by decide)
  exact ⟨(2 + i.fmod 3).toNat, by omega, by omega, by omega⟩
local macro_rules | `(tactic| walk_at "br len") => `(tactic| first | with_reducible assumption | omega | decide +kernel | (simp only [Str.length_append]; omega) | (simp only [Str.length_append, Nat.reduceLeDiff]; omega))
local macro_rules | `(tactic| walk_at "br strs") => `(tactic| repeat (first | exact StrsAre.nil | refine StrsAre.cons _ _ ?_))
local macro_rules | `(tactic| walk_at "call ref") => `(tactic| (k_here; (with_reducible show wpAny _ _ (call (Value.ref _) [_]) _ _ _); kco_here; k_dflt (refine' (lcs1_meet _ _ _ _ _ _ _ ?h1).inst ?hI ?hdd ?hs ?hf ?hfn ?k1 ?k2 ?k3 ?k4 ?k5 ?kK ?hp ?hn ?hd ?hu ?_; (case k1 => k_asm); (case k2 => k_asm); (case k3 => k_asm); (case k4 => k_asm); (case k5 => k_asm); (case kK => first | with_reducible assumption | exact rfl); (case hp => exact True.intro); (case hn => exact List.forall_mem_cons.mpr ⟨by k_mem, List.forall_mem_singleton.mpr (by k_mem)⟩); (case hI => k_inst); (case hdd => exact rfl); (case hs => k_is); (case hf => k_is); (case hfn => k_is); (case h1 => walk_at "br len"); (case hd => ktr_room); (case hu => ktr_units); k_whole; intro v9 h9 tk9 ho9 F9 N9; obtain ⟨t9, hv9⟩ := ho9; subst hv9)))
local macro_rules | `(tactic| walk_at "call ref") => `(tactic| (k_here; (with_reducible show wpAny _ _ (call (Value.ref _) [_, _]) _ _ _); kco_here; k_dflt (refine' (lcs2_meet _ _ _ _ _ _ _ _ _ ?h1 ?h2).inst ?hI ?hdd ?hs ?hf ?hfn ?k1 ?k2 ?k3 ?k4 ?k5 ?kK ?hp ?hn ?hd ?hu ?_; (case k1 => k_asm); (case k2 => k_asm); (case k3 => k_asm); (case k4 => k_asm); (case k5 => k_asm); (case kK => first | with_reducible assumption | exact rfl); (case hp => exact True.intro); (case hn => exact List.forall_mem_cons.mpr ⟨by k_mem, List.forall_mem_singleton.mpr (by k_mem)⟩); (case hI => k_inst); (case hdd => exact rfl); (case hs => k_is); (case hf => k_is); (case hfn => k_is); (case h1 => walk_at "br len"); (case h2 => walk_at "br len"); (case hd => ktr_room); (case hu => ktr_units); k_whole; intro v9 h9 tk9 ho9 F9 N9; (have hpl9 := lcs2_len ho9); obtain ⟨t9, hv9⟩ := ho9; subst hv9)))
local macro_rules | `(tactic| walk_at "call ref") => `(tactic| (k_here; (with_reducible show wpAny _ _ (call (Value.ref _) [_, _, _]) _ _ _); kco_here; k_dflt (refine' (lcs3_meet _ _ _ _ _ _ _ _ _ _ _ ?h1).inst ?hI ?hdd ?hs ?hf ?hfn ?k1 ?k2 ?k3 ?k4 ?k5 ?kK ?hp ?hn ?hd ?hu ?_; (case k1 => k_asm); (case k2 => k_asm); (case k3 => k_asm); (case k4 => k_asm); (case k5 => k_asm); (case kK => first | with_reducible assumption | exact rfl); (case hp => exact True.intro); (case hn => exact List.forall_mem_cons.mpr ⟨by k_mem, List.forall_mem_singleton.mpr (by k_mem)⟩); (case hI => k_inst); (case hdd => exact rfl); (case hs => k_is); (case hf => k_is); (case hfn => k_is); (case h1 => with_reducible assumption); (case hd => ktr_room); (case hu => ktr_units); k_whole; intro v9 h9 tk9 ho9 F9 N9; (rename FirstMin _ _ => hmO); (rename ((_ : List Str)[(_ : Nat)]? = some (_ : Str)) => hiO); obtain ⟨i9, y9, t9, hi9, hm9, hv9⟩ := ho9; (have e9 := first_uniq hiO hmO hi9 hm9); subst e9; subst hv9; (rename (∀ x ∈ (_ : List Str), x.length ≤ 6) => hl0); (have hpl9 := lcs_len hl0 hi9); clear hi9 hm9)))
local macro_rules | `(tactic| walk_at "call ref") => `(tactic| (k_here; (with_reducible show wpAny _ _ (call (Value.ref _) [_, _, _, _]) _ _ _); kco_here; k_dflt (refine' (lcs4_meet _ _ _ _ _ _ _ _ _ _ _ _ _ ?h1).inst ?hI ?hdd ?hs ?hf ?hfn ?k1 ?k2 ?k3 ?k4 ?k5 ?kK ?hp ?hn ?hd ?hu ?_; (case k1 => k_asm); (case k2 => k_asm); (case k3 => k_asm); (case k4 => k_asm); (case k5 => k_asm); (case kK => first | with_reducible assumption | exact rfl); (case hp => exact True.intro); (case hn => exact List.forall_mem_cons.mpr ⟨by k_mem, List.forall_mem_singleton.mpr (by k_mem)⟩); (case hI => k_inst); (case hdd => exact rfl); (case hs => k_is); (case hf => k_is); (case hfn => k_is); (case h1 => with_reducible assumption); (case hd => ktr_room); (case hu => ktr_units); k_whole; intro v9 h9 tk9 ho9 F9 N9; (rename FirstMin _ _ => hmO); (rename ((_ : List Str)[(_ : Nat)]? = some (_ : Str)) => hiO); obtain ⟨i9, y9, t9, hi9, hm9, hv9⟩ := ho9; (have e9 := first_uniq hiO hmO hi9 hm9); subst e9; subst hv9; (rename (∀ x ∈ (_ : List Str), x.length ≤ 6) => hl0); (have hpl9 := lcs_len hl0 hi9); clear hi9 hm9)))
local macro_rules | `(tactic| walk_at "call ref") => `(tactic| (k_here; (with_reducible show wpAny _ _ (call (Value.ref _) [_, _]) _ _ _); k_dflt (refine' (sim2_meet _ _ _ _ _ _ _ _ _ ?h1 ?h2).meth ?hq ?k1 ?k2 ?k3 ?k4 ?k5 ?kK ?hp ?hn ?hd ?hu ?_; (case k1 => k_asm); (case k2 => k_asm); (case k3 => k_asm); (case k4 => k_asm); (case k5 => k_asm); (case kK => first | with_reducible assumption | exact rfl); (case hp => exact True.intro); (case hq => k_mem); (case hn => exact List.forall_mem_cons.mpr ⟨by k_mem, List.forall_mem_singleton.mpr (by k_mem)⟩); (case h1 => walk_at "br len"); (case h2 => walk_at "br len"); (case hd => ktr_room); (case hu => ktr_units); k_whole; intro v9 h9 tk9 ho9 F9 N9; obtain ⟨t9, hv9⟩ := ho9; subst hv9)))
local macro_rules | `(tactic| walk_at "call ref") => `(tactic| (k_here; (with_reducible show wpAny _ _ (call (Value.ref _) [_, _]) _ _ _); k_dflt (refine' (dist2_meet _ _ _ _ _ _ _ _ _ ?h1 ?h2).meth ?hq ?k1 ?k2 ?k3 ?k4 ?k5 ?kK ?hp ?hn ?hd ?hu ?_; (case k1 => k_asm); (case k2 => k_asm); (case k3 => k_asm); (case k4 => k_asm); (case k5 => k_asm); (case kK => first | with_reducible assumption | exact rfl); (case hp => exact True.intro); (case hq => k_mem); (case hn => exact List.forall_mem_cons.mpr ⟨by k_mem, List.forall_mem_singleton.mpr (by k_mem)⟩); (case h1 => walk_at "br len"); (case h2 => walk_at "br len"); (case hd => ktr_room); (case hu => ktr_units); k_whole; intro v9 h9 tk9 ho9 F9 N9; obtain ⟨k9, t9, hk9, hv9⟩ := ho9; subst hv9)))
local macro_rules | `(tactic| walk_at "call ref") => `(tactic| (k_here; (with_reducible show wpAny _ _ (call (Value.ref _) [_, _, _]) _ _ _); k_dflt (refine' (sim3_meet _ _ _ _ _ _ _ _ _ _ _ ?h1).meth ?hq ?k1 ?k2 ?k3 ?k4 ?k5 ?kK ?hp ?hn ?hd ?hu ?_; (case k1 => k_asm); (case k2 => k_asm); (case k3 => k_asm); (case k4 => k_asm); (case k5 => k_asm); (case kK => first | with_reducible assumption | exact rfl); (case hp => exact True.intro); (case hq => k_mem); (case hn => exact List.forall_mem_cons.mpr ⟨by k_mem, List.forall_mem_singleton.mpr (by k_mem)⟩); (case h1 => with_reducible assumption); (case hd => ktr_room); (case hu => ktr_units); k_whole; intro v9 h9 tk9 ho9 F9 N9; (rename FirstMin _ _ => hmO); (rename ((_ : List Str)[(_ : Nat)]? = some (_ : Str)) => hiO); obtain ⟨i9, y9, t9, hi9, hm9, hv9⟩ := ho9; (have e9 := first_uniq hiO hmO hi9 hm9); subst e9; subst hv9; (rename (∀ x ∈ (_ : List Str), x.length ≤ 6) => hl0); (have hpl9 := lcs_len hl0 hi9); clear hi9 hm9)))
local macro_rules | `(tactic| walk_at "call ref") => `(tactic| (k_here; (with_reducible show wpAny _ _ (call (Value.ref _) [_, _, _]) _ _ _); k_dflt (refine' (dist3_meet _ _ _ _ _ _ _ _ _ _ _ ?h1).meth ?hq ?k1 ?k2 ?k3 ?k4 ?k5 ?kK ?hp ?hn ?hd ?hu ?_; (case k1 => k_asm); (case k2 => k_asm); (case k3 => k_asm); (case k4 => k_asm); (case k5 => k_asm); (case kK => first | with_reducible assumption | exact rfl); (case hp => exact True.intro); (case hq => k_mem); (case hn => exact List.forall_mem_cons.mpr ⟨by k_mem, List.forall_mem_singleton.mpr (by k_mem)⟩); (case h1 => with_reducible assumption); (case hd => ktr_room); (case hu => ktr_units); k_whole; intro v9 h9 tk9 ho9 F9 N9; (rename FirstMin _ _ => hmO); (rename ((_ : List Str)[(_ : Nat)]? = some (_ : Str)) => hiO); obtain ⟨k9, i9, y9, t9, hk9, hi9, hm9, hv9⟩ := ho9; (have e9 := first_uniq hiO hmO hi9 hm9); subst e9; subst hv9; (rename (∀ x ∈ (_ : List Str), x.length ≤ 6) => hl0); (have hpl9 := lcs_len hl0 hi9); clear hi9 hm9)))
local macro_rules | `(tactic| walk_at "call ref") => `(tactic| (k_here; (with_reducible show wpAny _ _ (call (Value.ref _) [_, _, _, _]) _ _ _); k_dflt (refine' (sim4_meet _ _ _ _ _ _ _ _ _ _ _ _ _ ?h1).meth ?hq ?k1 ?k2 ?k3 ?k4 ?k5 ?kK ?hp ?hn ?hd ?hu ?_; (case k1 => k_asm); (case k2 => k_asm); (case k3 => k_asm); (case k4 => k_asm); (case k5 => k_asm); (case kK => first | with_reducible assumption | exact rfl); (case hp => exact True.intro); (case hq => k_mem); (case hn => exact List.forall_mem_cons.mpr ⟨by k_mem, List.forall_mem_singleton.mpr (by k_mem)⟩); (case h1 => with_reducible assumption); (case hd => ktr_room); (case hu => ktr_units); k_whole; intro v9 h9 tk9 ho9 F9 N9; (rename FirstMin _ _ => hmO); (rename ((_ : List Str)[(_ : Nat)]? = some (_ : Str)) => hiO); obtain ⟨i9, y9, t9, hi9, hm9, hv9⟩ := ho9; (have e9 := first_uniq hiO hmO hi9 hm9); subst e9; subst hv9; (rename (∀ x ∈ (_ : List Str), x.length ≤ 6) => hl0); (have hpl9 := lcs_len hl0 hi9); clear hi9 hm9)))
local macro_rules | `(tactic| walk_at "call ref") => `(tactic| (k_here; (with_reducible show wpAny _ _ (call (Value.ref _) [_, _, _, _]) _ _ _); k_dflt (refine' (dist4_meet _ _ _ _ _ _ _ _ _ _ _ _ _ ?h1).meth ?hq ?k1 ?k2 ?k3 ?k4 ?k5 ?kK ?hp ?hn ?hd ?hu ?_; (case k1 => k_asm); (case k2 => k_asm); (case k3 => k_asm); (case k4 => k_asm); (case k5 => k_asm); (case kK => first | with_reducible assumption | exact rfl); (case hp => exact True.intro); (case hq => k_mem); (case hn => exact List.forall_mem_cons.mpr ⟨by k_mem, List.forall_mem_singleton.mpr (by k_mem)⟩); (case h1 => with_reducible assumption); (case hd => ktr_room); (case hu => ktr_units); k_whole; intro v9 h9 tk9 ho9 F9 N9; (rename FirstMin _ _ => hmO); (rename ((_ : List Str)[(_ : Nat)]? = some (_ : Str)) => hiO); obtain ⟨k9, i9, y9, t9, hk9, hi9, hm9, hv9⟩ := ho9; (have e9 := first_uniq hiO hmO hi9 hm9); subst e9; subst hv9; (rename (∀ x ∈ (_ : List Str), x.length ≤ 6) => hl0); (have hpl9 := lcs_len hl0 hi9); clear hi9 hm9)))
local macro_rules | `(tactic| walk_at "call ref") => `(tactic| (k_here; (with_reducible show wpAny _ _ (call (Value.ref 218) _) _ _ _); k_dflt (refine' (sim2_meet _ _ _ _ _ _ _ _ _ ?h1 ?h2).meet.use ?k1 ?k2 ?k3 ?k4 ?k5 ?kK ?hp ?hn ?hd ?hu ?_; (case k1 => k_asm); (case k2 => k_asm); (case k3 => k_asm); (case k4 => k_asm); (case k5 => k_asm); (case kK => first | with_reducible assumption | exact rfl); (case hp => exact True.intro); (case hn => exact List.forall_mem_cons.mpr ⟨by k_mem, List.forall_mem_singleton.mpr (by k_mem)⟩); (case h1 => walk_at "br len"); (case h2 => walk_at "br len"); (case hd => ktr_room); (case hu => ktr_units); k_whole; intro v9 h9 tk9 ho9 F9 N9; obtain ⟨t9, hv9⟩ := ho9; subst hv9)))
local macro_rules | `(tactic| walk_at "call ref") => `(tactic| (k_here; (with_reducible show wpAny _ _ (call (Value.ref 271) _) _ _ _); k_dflt (refine' (lawpiece_meet _ _ _ _ _ _ (.cons _ _ (.cons _ _ .nil)) ?h1 ?h2).use ?k1 ?k2 ?k3 ?k4 ?k5 ?kK ?hp ?hn ?hd ?hu ?_; (case k1 => k_asm); (case k2 => k_asm); (case k3 => k_asm); (case k4 => k_asm); (case k5 => k_asm); (case kK => first | with_reducible assumption | exact rfl); (case hp => exact True.intro); (case hn => exact List.forall_mem_singleton.mpr (by k_mem)); (case h1 => exact br_all2 (by omega) (by omega)); (case h2 => exact Nat.le_of_ble_eq_true rfl); (case hd => ktr_room); (case hu => ktr_units); k_whole; intro v9 h9 tk9 ho9 F9 N9; (have hpl9 := lawp_len ho9); obtain ⟨t9, hv9⟩ := ho9; subst hv9)))
local macro_rules | `(tactic| walk_at "call ref") => `(tactic| (k_here; (with_reducible show wpAny _ _ (call (Value.ref 271) _) _ _ _); k_dflt (refine' (lawpiece_meet _ _ _ _ _ _ (.cons _ _ (.cons _ _ (.cons _ _ .nil))) ?h1 ?h2).use ?k1 ?k2 ?k3 ?k4 ?k5 ?kK ?hp ?hn ?hd ?hu ?_; (case k1 => k_asm); (case k2 => k_asm); (case k3 => k_asm); (case k4 => k_asm); (case k5 => k_asm); (case kK => first | with_reducible assumption | exact rfl); (case hp => exact True.intro); (case hn => exact List.forall_mem_singleton.mpr (by k_mem)); (case h1 => exact List.forall_mem_cons.mpr ⟨by omega, List.forall_mem_cons.mpr ⟨by omega, List.forall_mem_cons.mpr ⟨by omega, fun _ h => nomatch h⟩⟩⟩); (case h2 => exact Nat.le_of_ble_eq_true rfl); (case hd => ktr_room); (case hu => ktr_units); k_whole; intro v9 h9 tk9 ho9 F9 N9; (have hpl9 := lawp_len ho9); obtain ⟨t9, hv9⟩ := ho9; subst hv9)))
local macro_rules | `(tactic| walk_at "call ref") => `(tactic| (k_here; (with_reducible show wpAny _ _ (call (Value.ref 271) _) _ _ _); k_dflt (refine' (lawpieceD_meet _ _ _ _ _ _ (.cons _ _ (.cons _ _ (.cons _ _ .nil))) ?h1 ?h2 ?h3).use ?k1 ?k2 ?k3 ?k4 ?k5 ?kK ?hp ?hn ?hd ?hu ?_; (case k1 => k_asm); (case k2 => k_asm); (case k3 => k_asm); (case k4 => k_asm); (case k5 => k_asm); (case kK => first | with_reducible assumption | exact rfl); (case hp => exact True.intro); (case hn => exact List.forall_mem_singleton.mpr (by k_mem)); (case h1 => exact List.forall_mem_cons.mpr ⟨by omega, List.forall_mem_cons.mpr ⟨by omega, List.forall_mem_cons.mpr ⟨by omega, fun _ h => nomatch h⟩⟩⟩); (case h2 => exact Nat.le_of_ble_eq_true rfl); (case h3 => with_reducible assumption); (case hd => ktr_room); (case hu => ktr_units); k_whole; intro v9 h9 tk9 ho9 F9 N9; (have hpl9 := lawp_len ho9); obtain ⟨t9, hv9⟩ := ho9; subst hv9)))
local macro_rules | `(tactic| walk_at "call ref") => `(tactic| (k_here; (with_reducible show wpAny _ _ (call (Value.ref 271) _) _ _ _); k_dflt (refine' (lawpiece_meet _ _ _ _ _ _ (.cons _ _ (.cons _ _ (.cons _ _ (.cons _ _ .nil)))) ?h1 ?h2).use ?k1 ?k2 ?k3 ?k4 ?k5 ?kK ?hp ?hn ?hd ?hu ?_; (case k1 => k_asm); (case k2 => k_asm); (case k3 => k_asm); (case k4 => k_asm); (case k5 => k_asm); (case kK => first | with_reducible assumption | exact rfl); (case hp => exact True.intro); (case hn => exact List.forall_mem_singleton.mpr (by k_mem)); (case h1 => exact List.forall_mem_cons.mpr ⟨by omega, List.forall_mem_cons.mpr ⟨by omega, List.forall_mem_cons.mpr ⟨by omega, List.forall_mem_cons.mpr ⟨by omega, fun _ h => nomatch h⟩⟩⟩⟩); (case h2 => exact Nat.le_of_ble_eq_true rfl); (case hd => ktr_room); (case hu => ktr_units); k_whole; intro v9 h9 tk9 ho9 F9 N9; (have hpl9 := lawp_len ho9); obtain ⟨t9, hv9⟩ := ho9; subst hv9)))
local macro_rules | `(tactic| walk_at "call ref") => `(tactic| (k_here; (with_reducible show wpAny _ _ (call (Value.ref 271) _) _ _ _); k_dflt (refine' (lawpieceD_meet _ _ _ _ _ _ (.cons _ _ (.cons _ _ (.cons _ _ (.cons _ _ .nil)))) ?h1 ?h2 ?h3).use ?k1 ?k2 ?k3 ?k4 ?k5 ?kK ?hp ?hn ?hd ?hu ?_; (case k1 => k_asm); (case k2 => k_asm); (case k3 => k_asm); (case k4 => k_asm); (case k5 => k_asm); (case kK => first | with_reducible assumption | exact rfl); (case hp => exact True.intro); (case hn => exact List.forall_mem_singleton.mpr (by k_mem)); (case h1 => exact List.forall_mem_cons.mpr ⟨by omega, List.forall_mem_cons.mpr ⟨by omega, List.forall_mem_cons.mpr ⟨by omega, List.forall_mem_cons.mpr ⟨by omega, fun _ h => nomatch h⟩⟩⟩⟩); (case h2 => exact Nat.le_of_ble_eq_true rfl); (case h3 => with_reducible assumption); (case hd => ktr_room); (case hu => ktr_units); k_whole; intro v9 h9 tk9 ho9 F9 N9; (have hpl9 := lawp_len ho9); obtain ⟨t9, hv9⟩ := ho9; subst hv9)))
local macro_rules | `(tactic| walk_at "call ref") => `(tactic| (k_here; (with_reducible show wpAny _ _ (call (Value.ref 271) _) _ _ _); k_dflt (refine' (lawpiece_meet _ _ _ _ _ _ (.cons _ _ (.cons _ _ (.cons _ _ (.cons _ _ (.cons _ _ .nil))))) ?h1 ?h2).use ?k1 ?k2 ?k3 ?k4 ?k5 ?kK ?hp ?hn ?hd ?hu ?_; (case k1 => k_asm); (case k2 => k_asm); (case k3 => k_asm); (case k4 => k_asm); (case k5 => k_asm); (case kK => first | with_reducible assumption | exact rfl); (case hp => exact True.intro); (case hn => exact List.forall_mem_singleton.mpr (by k_mem)); (case h1 => exact List.forall_mem_cons.mpr ⟨by omega, List.forall_mem_cons.mpr ⟨by omega, List.forall_mem_cons.mpr ⟨by omega, List.forall_mem_cons.mpr ⟨by omega, List.forall_mem_cons.mpr ⟨by omega, fun _ h => nomatch h⟩⟩⟩⟩⟩); (case h2 => exact Nat.le_of_ble_eq_true rfl); (case hd => ktr_room); (case hu => ktr_units); k_whole; intro v9 h9 tk9 ho9 F9 N9; (have hpl9 := lawp_len ho9); obtain ⟨t9, hv9⟩ := ho9; subst hv9)))
local macro_rules | `(tactic| walk_at "call ref") => `(tactic| (k_here; (with_reducible show wpAny _ _ (call (Value.ref 271) _) _ _ _); k_dflt (refine' (lawpieceD_meet _ _ _ _ _ _ (.cons _ _ (.cons _ _ (.cons _ _ (.cons _ _ (.cons _ _ .nil))))) ?h1 ?h2 ?h3).use ?k1 ?k2 ?k3 ?k4 ?k5 ?kK ?hp ?hn ?hd ?hu ?_; (case k1 => k_asm); (case k2 => k_asm); (case k3 => k_asm); (case k4 => k_asm); (case k5 => k_asm); (case kK => first | with_reducible assumption | exact rfl); (case hp => exact True.intro); (case hn => exact List.forall_mem_singleton.mpr (by k_mem)); (case h1 => exact List.forall_mem_cons.mpr ⟨by omega, List.forall_mem_cons.mpr ⟨by omega, List.forall_mem_cons.mpr ⟨by omega, List.forall_mem_cons.mpr ⟨by omega, List.forall_mem_cons.mpr ⟨by omega, fun _ h => nomatch h⟩⟩⟩⟩⟩); (case h2 => exact Nat.le_of_ble_eq_true rfl); (case h3 => with_reducible assumption); (case hd => ktr_room); (case hu => ktr_units); k_whole; intro v9 h9 tk9 ho9 F9 N9; (have hpl9 := lawp_len ho9); obtain ⟨t9, hv9⟩ := ho9; subst hv9)))
local macro_rules | `(tactic| walk_at "call ref") => `(tactic| (k_here; (with_reducible show wpAny _ _ (call (Value.ref 278) _) _ _ _); k_dflt (refine' (count_meet _ 7 _ _ _ _ ?h1 ?h2 ?h3 ?h4).use ?k1 ?k2 ?k3 ?k4 ?k5 ?kK ?hp ?hn ?hd ?hu ?_; (case k1 => k_asm); (case k2 => k_asm); (case k3 => k_asm); (case k4 => k_asm); (case k5 => k_asm); (case kK => first | with_reducible assumption | exact rfl); (case hp => exact True.intro); (case hn => exact fun _ h => nomatch h); (case h1 => omega); (case h2 => omega); (case h3 => omega); (case h4 => omega); (case hd => ktr_room); (case hu => ktr_units); k_whole; intro v9 h9 tk9 ho9 F9 N9; obtain ⟨t9, hv9⟩ := ho9; subst hv9)))
local macro_rules | `(tactic| walk_at "call ref") => `(tactic| (k_here; (with_reducible show wpAny _ _ (call (Value.ref 242) _) _ _ _); k_dflt (refine' (find_meet _ _ _ _ _ 7 _ _ _ _ ?h1 ?h2 ?h3 ?h4).meet.use ?k1 ?k2 ?k3 ?k4 ?k5 ?kK ?hp ?hn ?hd ?hu ?_; (case k1 => k_asm); (case k2 => k_asm); (case k3 => k_asm); (case k4 => k_asm); (case k5 => k_asm); (case kK => first | with_reducible assumption | exact rfl); (case hp => exact True.intro); (case hn => exact List.forall_mem_cons.mpr ⟨by k_mem, List.forall_mem_singleton.mpr (by k_mem)⟩); (case h1 => omega); (case h2 => omega); (case h3 => omega); (case h4 => omega); (case hd => ktr_room); (case hu => ktr_units); k_whole; intro v9 h9 tk9 ho9 F9 N9; obtain ⟨t9, hv9⟩ := ho9; subst hv9)))
local macro_rules | `(tactic| walk_at "call ref") => `(tactic| (k_here; (with_reducible show wpAny _ _ (call (Value.ref _) [_, Value.str (PySem.Str.ofString "") _]) _ _ _); kco_here; k_dflt (refine' (lcs2E_meet _ _ _ _ _ _ _ _ ?h1).inst ?hI ?hdd ?hs ?hf ?hfn ?k1 ?k2 ?k3 ?k4 ?k5 ?kK ?hp ?hn ?hd ?hu ?_; (case k1 => k_asm); (case k2 => k_asm); (case k3 => k_asm); (case k4 => k_asm); (case k5 => k_asm); (case kK => first | with_reducible assumption | exact rfl); (case hp => exact True.intro); (case hn => exact List.forall_mem_cons.mpr ⟨by k_mem, List.forall_mem_singleton.mpr (by k_mem)⟩); (case hI => k_inst); (case hdd => exact rfl); (case hs => k_is); (case hf => k_is); (case hfn => k_is); (case h1 => walk_at "br len"); (case hd => ktr_room); (case hu => ktr_units); k_whole; intro v9 h9 tk9 ho9 F9 N9; obtain ⟨t9, hv9⟩ := ho9; subst hv9)))
local macro_rules | `(tactic| walk_at "call ref") => `(tactic| (k_here; (with_reducible show wpAny _ _ (call (Value.ref _) [Value.str _ _, Value.str (Txt.slice _ _ _ ++ _ ++ _) _]) _ _ _); kco_here; k_dflt (refine' (lcs2S_meet _ _ _ _ _ _ _ _ _ ?h1 ?h2).inst ?hI ?hdd ?hs ?hf ?hfn ?k1 ?k2 ?k3 ?k4 ?k5 ?kK ?hp ?hn ?hd ?hu ?_; (case k1 => k_asm); (case k2 => k_asm); (case k3 => k_asm); (case k4 => k_asm); (case k5 => k_asm); (case kK => first | with_reducible assumption | exact rfl); (case hp => exact True.intro); (case hn => exact List.forall_mem_cons.mpr ⟨by k_mem, List.forall_mem_singleton.mpr (by k_mem)⟩); (case hI => k_inst); (case hdd => exact rfl); (case hs => k_is); (case hf => k_is); (case hfn => k_is); (case h1 => walk_at "br len"); (case h2 => walk_at "br len"); (case hd => ktr_room); (case hu => ktr_units); k_whole; intro v9 h9 tk9 ho9 F9 N9; obtain ⟨t9, hv9⟩ := ho9; subst hv9)))
local macro_rules | `(tactic| walk_at "call ref") => `(tactic| (k_here; (with_reducible show wpAny _ _ (call (Value.ref _) [Value.str (PySem.Str.ofString "x" ++ _) _, Value.str (_ ++ _) _]) _ _ _); kco_here; k_dflt (refine' (lcs2X_meet _ _ _ _ _ _ _ _ ?h1 ?h2).inst ?hI ?hdd ?hs ?hf ?hfn ?k1 ?k2 ?k3 ?k4 ?k5 ?kK ?hp ?hn ?hd ?hu ?_; (case k1 => k_asm); (case k2 => k_asm); (case k3 => k_asm); (case k4 => k_asm); (case k5 => k_asm); (case kK => first | with_reducible assumption | exact rfl); (case hp => exact True.intro); (case hn => exact List.forall_mem_cons.mpr ⟨by k_mem, List.forall_mem_singleton.mpr (by k_mem)⟩); (case hI => k_inst); (case hdd => exact rfl); (case hs => k_is); (case hf => k_is); (case hfn => k_is); (case h1 => walk_at "br len"); (case h2 => with_reducible assumption); (case hd => ktr_room); (case hu => ktr_units); k_whole; intro v9 h9 tk9 ho9 F9 N9; obtain ⟨t9, hv9⟩ := ho9; subst hv9)))
local macro_rules | `(tactic| walk_at "call builtin:min") => `(tactic| (k_here; (with_reducible show wpAny _ _ (call (Value.builtin "min") [Value.ref _]) _ _ _); refine Stopped.out ?_))
local macro_rules | `(tactic| walk_at "call builtin:max") => `(tactic| (k_here; (with_reducible show wpAny _ _ (call (Value.builtin "max") [Value.ref _]) _ _ _); refine Stopped.out ?_))
set_option maxHeartbeats 16000000 in
theorem law_holds : PySem.Challenge.rw_br0032_01.Holds := Mine.hd (by
  k_go0
  all_goals (try k_fold)
  k_steps
  refine Stopped.of ?_
  rename Fr _ _ _ _ => F1
  rename News _ _ _ _ => N1
  rename IsRange _ _ _ _ _ _ _ _ => R1
  rename Int => i9
  obtain ⟨n, hn, hn2, hn4⟩ := fmod3 i9
  refine comp_R (n := n) (fun i ys => ∃ zs : List Str, StrsAre ys zs ∧ zs.length = i ∧ ∀ z ∈ zs, z.length ≤ 6 ∧ 120 ∉ z.cps.toList) rfl F1 N1 R1 hn (by omega) ⟨[], .nil, rfl, fun _ h => nomatch h⟩ ?_ ?_
  · intro i ti ys Ic oIc C oC D m₂ h tk hi ⟨zs, hz1, hz2, hz3⟩ hC hx FC NC off ne
    simp only [LCg.Off3] at off
    clear F1 N1 R1
    k_steps
    rename Str.length _ ≤ 6 => hx6
    rename ¬ (120 ∈ _) => hx120
    refine ⟨_, _, _, rfl, by k_asm, by k_asm, fun _ hp => hp, zs ++ [_], strs_snoc hz1, by simp; omega, fun z hz => ?_⟩
    rcases List.mem_append.mp hz with hz | hz
    · exact hz3 z hz
    · rw [List.mem_singleton.mp hz]; exact ⟨hx6, hx120⟩
  · intro ys D h tk ⟨zs, hz1, hz2, hz3⟩ FD ND off
    simp only [LCg.Off1] at off
    clear F1 N1 R1
    obtain ⟨s1, s2, zs', rfl⟩ : ∃ a b r, zs = a :: b :: r := by
      match zs, hz2 with
      | [], h => simp at h; omega
      | [a], h => simp at h; omega
      | a :: b :: r, _ => exact ⟨a, b, r, rfl⟩
    obtain ⟨t1, t2, ys', rfl, hz1'⟩ : ∃ u1 u2 ys', ys = Value.str s1 u1 :: .str s2 u2 :: ys' ∧ StrsAre ys' zs' := by
      cases hz1 with | cons _ a r => cases r with | cons _ b r => exact ⟨_, _, _, rfl, r⟩
    have h6 : ∀ x ∈ s1 :: s2 :: zs', x.length ≤ 6 := fun x hx => (hz3 x hx).1
    have ha6 := h6 s1 (.head _)
    have hb6 := h6 s2 (.tail _ (.head _))
    have hn120 := (hz3 s1 (.head _)).2
    have hzl : zs'.length ≤ 2 := by simp at hz2; omega
    have hsz : (Value.str s1 t1 :: .str s2 t2 :: ys').toArray.size ≤ sizeLine := by rw [List.size_toArray, strs_len hz1, sizeLine_eq]; simp; omega
    have hz9 : Hid (StrsAre ys' zs') := ⟨hz1'⟩
    clear hz3 hn hn2 hn4 hz2 hz1 hz1'
    (try k_fold)
    k_steps
    obtain ⟨i0, y0, hi0, hmin⟩ := firstMin_ex (xs := s1 :: s2 :: zs') (List.cons_ne_nil _ _)
    have hy6 := h6 y0 (List.mem_of_getElem? hi0)
    refine Stopped.of ?_
    refine comp_T (fun i ys => ∃ os, StrsAre ys os ∧ os = shorts ((s1 :: s2 :: zs').take i) y0) rfl (by k_asm) (by k_asm) (by k_mem) hsz ⟨[], .nil, rfl⟩ ?_ ?_
    · intro i v ys Ic oIc C oC D' m₂ h tk hv ⟨os, ho1, ho2⟩ hC hx FC NC off ne
      simp only [LCg.Off3] at off
      obtain ⟨q, tq, hq, rfl⟩ := strs_at (.cons _ _ (.cons _ _ hz9.out) : StrsAre (Value.str s1 t1 :: .str s2 t2 :: ys') (s1 :: s2 :: zs')) hv
      have hq6 := h6 q (List.mem_of_getElem? hq)
      k_steps
      refine Stopped.of ?_
      refine comp_U (fun i ys => IntsAre ys (lens ((s1 :: s2 :: zs').take i))) rfl (by k_asm) (by k_asm) (by k_mem) hsz .nil ?_ ?_
      · intro i v ys Ic oIc C2 oC2 D2 m₃ h tk hv hys hC2 hx2 FC NC off2 ne2
        simp only [LCg.Off3] at off2
        obtain ⟨q2, tq2, hq2, rfl⟩ := strs_at (.cons _ _ (.cons _ _ hz9.out) : StrsAre (Value.str s1 t1 :: .str s2 t2 :: ys') (s1 :: s2 :: zs')) hv
        have hq26 := h6 q2 (List.mem_of_getElem? hq2)
        k_steps
        exact ⟨_, _, _, rfl, by k_asm, by k_asm, fun _ hp => hp, by rw [lens_snoc hq2]; exact ints_snoc hys⟩
      · intro ys2 D2 h tk hys FD2 ND2 off2
        simp only [LCg.Off1] at off2
        have hsz2 : (Value.str s1 t1 :: .str s2 t2 :: ys').toArray.size = (s1 :: s2 :: zs').length := by rw [List.size_toArray]; exact strs_len (.cons _ _ (.cons _ _ hz9.out))
        rw [hsz2, List.take_length] at hys
        k_steps
        refine Stopped.of ?_
        refine min_ints (by k_asm) (by k_asm) rfl (br_list (by k_asm) (.head _) rfl rfl) hys (Nat.zero_lt_succ _) ?_
        intro kk tt h' tk' hk1 hk2 F' N'
        obtain rfl := min_lens hi0 hmin hk1 hk2
        k_steps
        · rename (_ : Int) = _ => he
          exact ⟨_, _, _, rfl, by k_asm, by k_asm, fun _ hp => .tail _ hp, os ++ [q], strs_snoc ho1, by rw [shorts_snoc hq, if_pos he, ho2]⟩
        · rename ¬ ((_ : Int) = _) => he
          exact ⟨_, _, _, rfl, by k_asm, by k_asm, fun _ hp => .tail _ hp, os, ho1, by rw [shorts_snoc hq, if_neg he, ho2]⟩
    · intro ys D' h tk ⟨os, ho1, ho2⟩ FD ND off
      simp only [LCg.Off1] at off
      have hsz2 : (Value.str s1 t1 :: .str s2 t2 :: ys').toArray.size = (s1 :: s2 :: zs').length := by rw [List.size_toArray]; exact strs_len (.cons _ _ (.cons _ _ hz9.out))
      rw [hsz2, List.take_length] at ho2
      have hh := shorts_head hi0 hmin
      obtain ⟨ty, ys9, rfl⟩ : ∃ ty ys', ys = Value.str y0 ty :: ys' := by
        have e : os[0]? = some y0 := by rw [ho2]; exact hh
        cases ho1 with
        | nil => cases e
        | cons a t r => cases e; exact ⟨_, _, rfl⟩
      clear hh ho2 ho1 hsz2 hsz
      have hz8 := hz9.out
      clear hz9
      rcases zs' with _ | ⟨s3, _ | ⟨s4, _ | ⟨s5, zs5⟩⟩⟩
      · obtain rfl : ys' = [] := by cases hz8; rfl
        clear hz8 hzl
        (try k_fold)
        k_steps
        refine Stopped.of ?_
        refine comp_U (fun i ys => IntsAre ys (lens ([s1, s2].take i))) rfl (by k_asm) (by k_asm) (by k_mem) (Nat.le_of_ble_eq_true rfl) .nil ?_ ?_
        · intro i v ys Ic oIc C2 oC2 D2 m₃ h tk hv hys hC2 hx2 FC NC off2 ne2
          simp only [LCg.Off3] at off2
          obtain ⟨q2, tq2, hq2, rfl⟩ := strs_at ((.cons _ _ (.cons _ _ .nil)) : StrsAre [Value.str s1 t1, .str s2 t2] [s1, s2]) hv
          have hq26 := h6 q2 (List.mem_of_getElem? hq2)
          k_steps
          exact ⟨_, _, _, rfl, by k_asm, by k_asm, fun _ hp => hp, by rw [lens_snoc hq2]; exact ints_snoc hys⟩
        · intro ys2 D2 h tk hys FD2 ND2 off2
          simp only [LCg.Off1] at off2
          k_steps
          refine Stopped.of ?_
          refine max_ints (by k_asm) (by k_asm) rfl (br_list (by k_asm) (.head _) rfl rfl) hys (Nat.zero_lt_succ _) ?_
          intro kk tt h' tk' hk1 hk2 F' N'
          rename MaxLen _ _ => hMx
          obtain rfl := max_lens hk1 hk2 hMx
          clear hk1 hk2
          k_steps
      · obtain ⟨t3, rfl⟩ : ∃ t3, ys' = [Value.str s3 t3] := by
          cases hz8 with | cons _ a r => cases r with | nil => exact ⟨_, rfl⟩
        have h63 := h6 s3 (.tail _ (.tail _ (.head _)))
        clear hz8 hzl
        (try k_fold)
        k_steps
        rename (∀ x ∈ (_ : List Str), x.length ≤ 6) => h6
        refine Stopped.of ?_
        refine comp_U (fun i ys => IntsAre ys (lens ([s1, s2, s3].take i))) rfl (by k_asm) (by k_asm) (by k_mem) (Nat.le_of_ble_eq_true rfl) .nil ?_ ?_
        · intro i v ys Ic oIc C2 oC2 D2 m₃ h tk hv hys hC2 hx2 FC NC off2 ne2
          simp only [LCg.Off3] at off2
          obtain ⟨q2, tq2, hq2, rfl⟩ := strs_at ((.cons _ _ (.cons _ _ (.cons _ _ .nil))) : StrsAre [Value.str s1 t1, .str s2 t2, .str s3 t3] [s1, s2, s3]) hv
          have hq26 := h6 q2 (List.mem_of_getElem? hq2)
          k_steps
          exact ⟨_, _, _, rfl, by k_asm, by k_asm, fun _ hp => hp, by rw [lens_snoc hq2]; exact ints_snoc hys⟩
        · intro ys2 D2 h tk hys FD2 ND2 off2
          simp only [LCg.Off1] at off2
          k_steps
          refine Stopped.of ?_
          refine max_ints (by k_asm) (by k_asm) rfl (br_list (by k_asm) (.head _) rfl rfl) hys (Nat.zero_lt_succ _) ?_
          intro kk tt h' tk' hk1 hk2 F' N'
          rename MaxLen _ _ => hMx
          obtain rfl := max_lens hk1 hk2 hMx
          clear hk1 hk2
          k_steps
      · obtain ⟨t3, t4, rfl⟩ : ∃ t3 t4, ys' = [Value.str s3 t3, .str s4 t4] := by
          cases hz8 with | cons _ a r => cases r with | cons _ b r => cases r with | nil => exact ⟨_, _, rfl⟩
        have h63 := h6 s3 (.tail _ (.tail _ (.head _)))
        have h64 := h6 s4 (.tail _ (.tail _ (.tail _ (.head _))))
        clear hz8 hzl
        (try k_fold)
        k_steps
        rename (∀ x ∈ (_ : List Str), x.length ≤ 6) => h6
        refine Stopped.of ?_
        refine comp_U (fun i ys => IntsAre ys (lens ([s1, s2, s3, s4].take i))) rfl (by k_asm) (by k_asm) (by k_mem) (Nat.le_of_ble_eq_true rfl) .nil ?_ ?_
        · intro i v ys Ic oIc C2 oC2 D2 m₃ h tk hv hys hC2 hx2 FC NC off2 ne2
          simp only [LCg.Off3] at off2
          obtain ⟨q2, tq2, hq2, rfl⟩ := strs_at ((.cons _ _ (.cons _ _ (.cons _ _ (.cons _ _ .nil)))) : StrsAre [Value.str s1 t1, .str s2 t2, .str s3 t3, .str s4 t4] [s1, s2, s3, s4]) hv
          have hq26 := h6 q2 (List.mem_of_getElem? hq2)
          k_steps
          exact ⟨_, _, _, rfl, by k_asm, by k_asm, fun _ hp => hp, by rw [lens_snoc hq2]; exact ints_snoc hys⟩
        · intro ys2 D2 h tk hys FD2 ND2 off2
          simp only [LCg.Off1] at off2
          k_steps
          refine Stopped.of ?_
          refine max_ints (by k_asm) (by k_asm) rfl (br_list (by k_asm) (.head _) rfl rfl) hys (Nat.zero_lt_succ _) ?_
          intro kk tt h' tk' hk1 hk2 F' N'
          rename MaxLen _ _ => hMx
          obtain rfl := max_lens hk1 hk2 hMx
          clear hk1 hk2
          k_steps
      · simp at hzl)
end Mine
end
theorem PySem.Challenge.cw_br0032_01_holds : PySem.Challenge.rw_br0032_01.Holds := by
  exact Mine.law_holds
